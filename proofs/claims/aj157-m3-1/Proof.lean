import JvmDerived
import JvmDerived.Pilot.@@N@@Statement
import JvmDerived.Pilot.@@N@@Code
set_option linter.unusedVariables false
set_option linter.unusedSimpArgs false
namespace Jvm.RoadKit
open Sem ClassFile Op Lib Jvm.Stand Jvm.Free Jvm.LawKit
section New
variable {p : Program} {l : Launch} {e : Env} {R : Room} {s : State} {m : MethodId} {args : Array Value} {below : List Frame} {meth : Method} {c : Code} {T : State} {locs : List Loc} {cells slots : Nat}
theorem retI (X : Stand p l e R s m args below meth c T locs cells slots) (hx : p.tables.exec = Jvm.exec) {pc : Nat} {Ls : Array Slot} {z : Int32} {rest : List Value} (hret : meth.sig.returnType = some .int) (hd : decode c.code pc = .ok (.ireturn, 1)) {fs : List Frame}
    (hl : ∀ (f : JFrame) (acts : List Action), f.method = m → f.locked = none → f.entered = [] → (doReturn e (T.setTop f) acts (some (.int z))).1 = T.setFrames fs) : Steps p.tables e below (T.setTop (mkF m pc Ls (.int z :: rest))) (T.setFrames fs) := by
  have hm' : T.vm.method? m = some meth := X.method'
  have hn : narrow .int (.int z) = .int z := rfl
  show Steps p.tables e below (T.setTop { method := m, pc := pc, locals := Ls, stack := _ :: rest, locked := none }) _
  jvm_step X.here [X.here.top, hx, hd, hm', hret, hn]
  first | (intro acts; rw [hl _ acts rfl rfl rfl]) | rw [hl _ _ rfl rfl rfl]
  exact Steps.refl _
end New
end Jvm.RoadKit
namespace Jvm.Pilot.@@N@@
open Jvm Jvm.ClassFile Sem Op Lib Jvm.Free Jvm.Stand Jvm.LawKit Jvm.RoadKit Bundle Jvm.Pilot.@@N@@.Jvm.D
/-- from A the invocation comes to its end: it returns some v, P holds of v, of the heap and of the places written, and the frame is kept -/
def Rt (p : Program) (e : Env) (below : List Frame) (s : State) (k n : Nat) (P : Option Value → Heap → List Loc → Prop) (A : State) : Prop :=
  ∃ s₂ o, Steps p.tables e below A s₂ ∧ s₂.status = .running ∧ Ended s₂ below o ∧ ∃ v L, o = .returned v ∧ P v s₂.heap L ∧ FrameEnd s o s₂ L k n
/-- where the walk stands: its heap, and that all it wrote lies at n0 or above -/
def Sd (p : Program) (l : Launch) (e : Env) (R : Room) (s : State) (m : MethodId) (args : Array Value) (below : List Frame) (meth : Method) (c : Code) (T : State) (n0 cells slots : Nat) (h : Heap) : Prop :=
  ∃ locs, Stand p l e R s m args below meth c T locs cells slots ∧ Fr n0 locs ∧ T.heap = h
def lcv (j : Fin 2) : Int64 := Int64.ofNat j.val
section Own
variable {p : Program} {l : Launch} {e : Env} {R : Room} {s : State} {m : MethodId} {args : Array Value} {below : List Frame} {meth : Method} {c : Code} {T : State} {n0 cells slots : Nat} {h0 : Heap} {k n : Nat} {P : Option Value → Heap → List Loc → Prop}
theorem Rt.go {A B : State} (f : ∀ t, Steps p.tables e below B t → Steps p.tables e below A t) (h : Rt p e below s k n P B) : Rt p e below s k n P A := by
  obtain ⟨s₂, o, h1, h2⟩ := h
  exact ⟨s₂, o, f _ h1, h2⟩
theorem Rt.iloadN (X : Sd p l e R s m args below meth c T n0 cells slots h0) (hx : p.tables.exec = Jvm.exec) {pc pc' : Nat} {Ls : Array Slot} {S : List Value} {j : Fin 4} {v : Int32} (hd : decode c.code pc = .ok (.iload_n j, 1)) (hl : Ls[j.val]? = some (.val (.int v))) (hp : pc + 1 = pc')
    (h : Rt p e below s k n P (T.setTop (mkF m pc' Ls (.int v :: S)))) : Rt p e below s k n P (T.setTop (mkF m pc Ls (S))) := by
  subst hp; obtain ⟨_, X, _, _⟩ := X; exact Rt.go (fun _ => XS.iloadN X.here hx rfl hd hl) h
theorem Rt.iload (X : Sd p l e R s m args below meth c T n0 cells slots h0) (hx : p.tables.exec = Jvm.exec) {pc pc' : Nat} {Ls : Array Slot} {S : List Value} {j : Nat} {v : Int32} (hd : decode c.code pc = .ok (.iload j, 2)) (hl : Ls[j]? = some (.val (.int v))) (hp : pc + 2 = pc')
    (h : Rt p e below s k n P (T.setTop (mkF m pc' Ls (.int v :: S)))) : Rt p e below s k n P (T.setTop (mkF m pc Ls (S))) := by
  subst hp; obtain ⟨_, X, _, _⟩ := X; exact Rt.go (fun _ => XS.iload X.here hx rfl hd hl) h
theorem Rt.istore (X : Sd p l e R s m args below meth c T n0 cells slots h0) (hx : p.tables.exec = Jvm.exec) {pc pc' : Nat} {Ls : Array Slot} {S : List Value} {j : Nat} {v : Int32} {l' : Array Slot} (hd : decode c.code pc = .ok (.istore j, 2)) (hl : storeLocals Ls j (.int v) = some l') (hp : pc + 2 = pc')
    (h : Rt p e below s k n P (T.setTop (mkF m pc' l' (S)))) : Rt p e below s k n P (T.setTop (mkF m pc Ls (.int v :: S))) := by
  subst hp; obtain ⟨_, X, _, _⟩ := X; exact Rt.go (fun _ => XS.istore X.here hx rfl hd rfl hl) h
theorem Rt.aloadN (X : Sd p l e R s m args below meth c T n0 cells slots h0) (hx : p.tables.exec = Jvm.exec) {pc pc' : Nat} {Ls : Array Slot} {S : List Value} {j : Fin 4} {v : Value} (hd : decode c.code pc = .ok (.aload_n j, 1)) (hl : Ls[j.val]? = some (.val v)) (hv : v.isRef = true) (hp : pc + 1 = pc')
    (h : Rt p e below s k n P (T.setTop (mkF m pc' Ls (v :: S)))) : Rt p e below s k n P (T.setTop (mkF m pc Ls (S))) := by
  subst hp; obtain ⟨_, X, _, _⟩ := X; exact Rt.go (fun _ => XS.aloadN X.here hx rfl hd hl hv) h
theorem Rt.aload (X : Sd p l e R s m args below meth c T n0 cells slots h0) (hx : p.tables.exec = Jvm.exec) {pc pc' : Nat} {Ls : Array Slot} {S : List Value} {j : Nat} {v : Value} (hd : decode c.code pc = .ok (.aload j, 2)) (hl : Ls[j]? = some (.val v)) (hv : v.isRef = true) (hp : pc + 2 = pc')
    (h : Rt p e below s k n P (T.setTop (mkF m pc' Ls (v :: S)))) : Rt p e below s k n P (T.setTop (mkF m pc Ls (S))) := by
  subst hp; obtain ⟨_, X, _, _⟩ := X; exact Rt.go (fun _ => XS.aload X.here hx rfl hd hl hv) h
theorem Rt.astoreN (X : Sd p l e R s m args below meth c T n0 cells slots h0) (hx : p.tables.exec = Jvm.exec) {pc pc' : Nat} {Ls : Array Slot} {S : List Value} {j : Fin 4} {v : Value} {l' : Array Slot} (hd : decode c.code pc = .ok (.astore_n j, 1)) (hv : v.isRef = true) (hl : storeLocals Ls j.val v = some l') (hp : pc + 1 = pc')
    (h : Rt p e below s k n P (T.setTop (mkF m pc' l' (S)))) : Rt p e below s k n P (T.setTop (mkF m pc Ls (v :: S))) := by
  subst hp; obtain ⟨_, X, _, _⟩ := X; exact Rt.go (fun _ => XS.astoreN X.here hx rfl hd rfl hv hl) h
theorem Rt.astore (X : Sd p l e R s m args below meth c T n0 cells slots h0) (hx : p.tables.exec = Jvm.exec) {pc pc' : Nat} {Ls : Array Slot} {S : List Value} {j : Nat} {v : Value} {l' : Array Slot} (hd : decode c.code pc = .ok (.astore j, 2)) (hv : v.isRef = true) (hl : storeLocals Ls j v = some l') (hp : pc + 2 = pc')
    (h : Rt p e below s k n P (T.setTop (mkF m pc' l' (S)))) : Rt p e below s k n P (T.setTop (mkF m pc Ls (v :: S))) := by
  subst hp; obtain ⟨_, X, _, _⟩ := X; exact Rt.go (fun _ => XS.astore X.here hx rfl hd rfl hv hl) h
theorem Rt.iconst (X : Sd p l e R s m args below meth c T n0 cells slots h0) (hx : p.tables.exec = Jvm.exec) {pc pc' : Nat} {Ls : Array Slot} {S : List Value} {i : Int} {v : Int32} (hd : decode c.code pc = .ok (.iconst i, 1)) (hv : Int32.ofInt i = v) (hp : pc + 1 = pc')
    (h : Rt p e below s k n P (T.setTop (mkF m pc' Ls (.int v :: S)))) : Rt p e below s k n P (T.setTop (mkF m pc Ls S)) := by
  subst hp hv; obtain ⟨_, X, _, _⟩ := X; exact Rt.go (fun _ => XS.iconst X.here hx rfl hd) h
theorem Rt.bipush (X : Sd p l e R s m args below meth c T n0 cells slots h0) (hx : p.tables.exec = Jvm.exec) {pc pc' : Nat} {Ls : Array Slot} {S : List Value} {i : Int} {v : Int32} (hd : decode c.code pc = .ok (.bipush i, 2)) (hv : (Int8.ofInt i).toInt32 = v) (hp : pc + 2 = pc')
    (h : Rt p e below s k n P (T.setTop (mkF m pc' Ls (.int v :: S)))) : Rt p e below s k n P (T.setTop (mkF m pc Ls S)) := by
  subst hp hv; obtain ⟨_, X, _, _⟩ := X; exact Rt.go (fun _ => XS.bipush X.here hx rfl hd) h
theorem Rt.iadd (X : Sd p l e R s m args below meth c T n0 cells slots h0) (hx : p.tables.exec = Jvm.exec) {pc pc' : Nat} {Ls : Array Slot} {S : List Value} {x y r : Int32} (hd : decode c.code pc = .ok (.iadd, 1)) (hr : x + y = r) (hp : pc + 1 = pc')
    (h : Rt p e below s k n P (T.setTop (mkF m pc' Ls (.int r :: S)))) : Rt p e below s k n P (T.setTop (mkF m pc Ls (.int y :: .int x :: S))) := by
  subst hp hr; obtain ⟨_, X, _, _⟩ := X; exact Rt.go (fun _ => XS.iadd X.here hx rfl hd rfl) h
theorem Rt.isub (X : Sd p l e R s m args below meth c T n0 cells slots h0) (hx : p.tables.exec = Jvm.exec) {pc pc' : Nat} {Ls : Array Slot} {S : List Value} {x y r : Int32} (hd : decode c.code pc = .ok (.isub, 1)) (hr : x - y = r) (hp : pc + 1 = pc')
    (h : Rt p e below s k n P (T.setTop (mkF m pc' Ls (.int r :: S)))) : Rt p e below s k n P (T.setTop (mkF m pc Ls (.int y :: .int x :: S))) := by
  subst hp hr; obtain ⟨_, X, _, _⟩ := X; exact Rt.go (fun _ => XS.isub X.here hx rfl hd rfl) h
theorem Rt.iand (X : Sd p l e R s m args below meth c T n0 cells slots h0) (hx : p.tables.exec = Jvm.exec) {pc pc' : Nat} {Ls : Array Slot} {S : List Value} {x y r : Int32} (hd : decode c.code pc = .ok (.iand, 1)) (hr : x &&& y = r) (hp : pc + 1 = pc')
    (h : Rt p e below s k n P (T.setTop (mkF m pc' Ls (.int r :: S)))) : Rt p e below s k n P (T.setTop (mkF m pc Ls (.int y :: .int x :: S))) := by
  subst hp hr; obtain ⟨_, X, _, _⟩ := X; exact Rt.go (fun _ => XS.iand X.here hx rfl hd rfl) h
theorem Rt.ior (X : Sd p l e R s m args below meth c T n0 cells slots h0) (hx : p.tables.exec = Jvm.exec) {pc pc' : Nat} {Ls : Array Slot} {S : List Value} {x y r : Int32} (hd : decode c.code pc = .ok (.ior, 1)) (hr : x ||| y = r) (hp : pc + 1 = pc')
    (h : Rt p e below s k n P (T.setTop (mkF m pc' Ls (.int r :: S)))) : Rt p e below s k n P (T.setTop (mkF m pc Ls (.int y :: .int x :: S))) := by
  subst hp hr; obtain ⟨_, X, _, _⟩ := X; exact Rt.go (fun _ => XS.ior X.here hx rfl hd rfl) h
theorem Rt.ixor (X : Sd p l e R s m args below meth c T n0 cells slots h0) (hx : p.tables.exec = Jvm.exec) {pc pc' : Nat} {Ls : Array Slot} {S : List Value} {x y r : Int32} (hd : decode c.code pc = .ok (.ixor, 1)) (hr : x ^^^ y = r) (hp : pc + 1 = pc')
    (h : Rt p e below s k n P (T.setTop (mkF m pc' Ls (.int r :: S)))) : Rt p e below s k n P (T.setTop (mkF m pc Ls (.int y :: .int x :: S))) := by
  subst hp hr; obtain ⟨_, X, _, _⟩ := X; exact Rt.go (fun _ => XS.ixor X.here hx rfl hd rfl) h
theorem Rt.ishr (X : Sd p l e R s m args below meth c T n0 cells slots h0) (hx : p.tables.exec = Jvm.exec) {pc pc' : Nat} {Ls : Array Slot} {S : List Value} {x y r : Int32} (hd : decode c.code pc = .ok (.ishr, 1)) (hr : x >>> (y &&& 31) = r) (hp : pc + 1 = pc')
    (h : Rt p e below s k n P (T.setTop (mkF m pc' Ls (.int r :: S)))) : Rt p e below s k n P (T.setTop (mkF m pc Ls (.int y :: .int x :: S))) := by
  subst hp hr; obtain ⟨_, X, _, _⟩ := X; exact Rt.go (fun _ => XS.ishr X.here hx rfl hd rfl) h
theorem Rt.idiv (X : Sd p l e R s m args below meth c T n0 cells slots h0) (hx : p.tables.exec = Jvm.exec) {pc pc' : Nat} {Ls : Array Slot} {S : List Value} {x y r : Int32} (hd : decode c.code pc = .ok (.idiv, 1)) (hy : y ≠ 0) (hr : x / y = r) (hp : pc + 1 = pc')
    (h : Rt p e below s k n P (T.setTop (mkF m pc' Ls (.int r :: S)))) : Rt p e below s k n P (T.setTop (mkF m pc Ls (.int y :: .int x :: S))) := by
  subst hp hr; obtain ⟨_, X, _, _⟩ := X; exact Rt.go (fun _ => XS.idiv X.here hx rfl hd rfl hy) h
theorem Rt.irem (X : Sd p l e R s m args below meth c T n0 cells slots h0) (hx : p.tables.exec = Jvm.exec) {pc pc' : Nat} {Ls : Array Slot} {S : List Value} {x y r : Int32} (hd : decode c.code pc = .ok (.irem, 1)) (hy : y ≠ 0) (hr : x % y = r) (hp : pc + 1 = pc')
    (h : Rt p e below s k n P (T.setTop (mkF m pc' Ls (.int r :: S)))) : Rt p e below s k n P (T.setTop (mkF m pc Ls (.int y :: .int x :: S))) := by
  subst hp hr; obtain ⟨_, X, _, _⟩ := X; exact Rt.go (fun _ => iremM X hx rfl hd rfl hy) h
theorem Rt.iinc (X : Sd p l e R s m args below meth c T n0 cells slots h0) (hx : p.tables.exec = Jvm.exec) {pc pc' : Nat} {Ls : Array Slot} {S : List Value} {j : Nat} {cst : Int} {x r : Int32} {l' : Array Slot} (hd : decode c.code pc = .ok (.iinc j cst, 3)) (hl : Ls[j]? = some (.val (.int x))) (hr : x + Int32.ofInt cst = r) (hl' : storeLocals Ls j (.int r) = some l') (hp : pc + 3 = pc')
    (h : Rt p e below s k n P (T.setTop (mkF m pc' l' S))) : Rt p e below s k n P (T.setTop (mkF m pc Ls S)) := by
  subst hp hr; obtain ⟨_, X, _, _⟩ := X; exact Rt.go (fun _ => XS.iinc X.here hx rfl hd hl hl') h
theorem Rt.dup (X : Sd p l e R s m args below meth c T n0 cells slots h0) (hx : p.tables.exec = Jvm.exec) {pc pc' : Nat} {Ls : Array Slot} {S : List Value} {x : Value} (hd : decode c.code pc = .ok (.dup, 1)) (hc : x.category = 1) (hp : pc + 1 = pc')
    (h : Rt p e below s k n P (T.setTop (mkF m pc' Ls (x :: x :: S)))) : Rt p e below s k n P (T.setTop (mkF m pc Ls (x :: S))) := by
  subst hp; obtain ⟨_, X, _, _⟩ := X; exact Rt.go (fun _ => XS.dup X.here hx rfl hd rfl hc) h
theorem Rt.goto (X : Sd p l e R s m args below meth c T n0 cells slots h0) (hx : p.tables.exec = Jvm.exec) {pc pc' : Nat} {Ls : Array Slot} {S : List Value} {o : Int} (hd : decode c.code pc = .ok (.goto o, 3)) (ho : 0 ≤ (pc : Int) + o) (hp : ((pc : Int) + o).toNat = pc')
    (h : Rt p e below s k n P (T.setTop (mkF m pc' Ls S))) : Rt p e below s k n P (T.setTop (mkF m pc Ls S)) := by
  obtain ⟨_, X, _, _⟩ := X; exact Rt.go (fun _ => XS.goto X.here hx rfl (pc0 := pc) rfl hd ho hp) h
theorem Rt.ifY (X : Sd p l e R s m args below meth c T n0 cells slots h0) (hx : p.tables.exec = Jvm.exec) {pc pc' : Nat} {Ls : Array Slot} {S : List Value} {o : Int} {cd : ClassFile.Cond} {x : Int32} (hd : decode c.code pc = .ok (.ifCond cd o, 3)) (hc : ifCond.holds cd x = true) (ho : 0 ≤ (pc : Int) + o) (hp : ((pc : Int) + o).toNat = pc')
    (h : Rt p e below s k n P (T.setTop (mkF m pc' Ls S))) : Rt p e below s k n P (T.setTop (mkF m pc Ls (.int x :: S))) := by
  obtain ⟨_, X, _, _⟩ := X; exact Rt.go (fun _ => XS.ifYes X.here hx rfl (pc0 := pc) rfl hd rfl hc ho hp) h
theorem Rt.ifN (X : Sd p l e R s m args below meth c T n0 cells slots h0) (hx : p.tables.exec = Jvm.exec) {pc pc' : Nat} {Ls : Array Slot} {S : List Value} {o : Int} {cd : ClassFile.Cond} {x : Int32} (hd : decode c.code pc = .ok (.ifCond cd o, 3)) (hc : ifCond.holds cd x = false) (hp : pc + 3 = pc')
    (h : Rt p e below s k n P (T.setTop (mkF m pc' Ls S))) : Rt p e below s k n P (T.setTop (mkF m pc Ls (.int x :: S))) := by
  subst hp; obtain ⟨_, X, _, _⟩ := X; exact Rt.go (fun _ => XS.ifNo X.here hx rfl hd rfl hc) h
theorem Rt.icmpY (X : Sd p l e R s m args below meth c T n0 cells slots h0) (hx : p.tables.exec = Jvm.exec) {pc pc' : Nat} {Ls : Array Slot} {S : List Value} {o : Int} {cd : ClassFile.Cond} {x y : Int32} (hd : decode c.code pc = .ok (.if_icmp cd o, 3)) (hc : if_icmp.holds cd x y = true) (ho : 0 ≤ (pc : Int) + o) (hp : ((pc : Int) + o).toNat = pc')
    (h : Rt p e below s k n P (T.setTop (mkF m pc' Ls S))) : Rt p e below s k n P (T.setTop (mkF m pc Ls (.int y :: .int x :: S))) := by
  obtain ⟨_, X, _, _⟩ := X; exact Rt.go (fun _ => XS.icmpYes X.here hx rfl (pc0 := pc) rfl hd rfl hc ho hp) h
theorem Rt.icmpN (X : Sd p l e R s m args below meth c T n0 cells slots h0) (hx : p.tables.exec = Jvm.exec) {pc pc' : Nat} {Ls : Array Slot} {S : List Value} {o : Int} {cd : ClassFile.Cond} {x y : Int32} (hd : decode c.code pc = .ok (.if_icmp cd o, 3)) (hc : if_icmp.holds cd x y = false) (hp : pc + 3 = pc')
    (h : Rt p e below s k n P (T.setTop (mkF m pc' Ls S))) : Rt p e below s k n P (T.setTop (mkF m pc Ls (.int y :: .int x :: S))) := by
  subst hp; obtain ⟨_, X, _, _⟩ := X; exact Rt.go (fun _ => XS.icmpNo X.here hx rfl hd rfl hc) h
theorem Rt.retZ (X : Sd p l e R s m args below meth c T n0 cells slots h0) (hx : p.tables.exec = Jvm.exec) (hlk : meth.locks = false) {t : FieldType} (hret : meth.sig.returnType = some t) (ht : t = .boolean ∨ t = .byte ∨ t = .char ∨ t = .short) {pc : Nat} {Ls : Array Slot} {S : List Value} {z w : Int32} (hd : decode c.code pc = .ok (.ireturn, 1)) (hw : nar t z = w) (hk : cells ≤ k) (hn : slots ≤ n)
    (hP : ∀ L, Fr n0 L → P (some (.int w)) h0 L) : Rt p e below s k n P (T.setTop (mkF m pc Ls (.int z :: S))) := by
  subst hw; obtain ⟨locs, X, N, eh⟩ := X
  obtain ⟨fs, hr, hrun, hended, hW, hsame⟩ := X.leave (v := some (.int (nar t z))) (fun h => by rw [hret] at h; cases h) hlk
  exact ⟨_, _, retN X hx hret ht hd hr, hrun, hended, _, _, rfl, by show P _ T.heap _; rw [eh]; exact hP _ N, ⟨_, rfl⟩, hW, hsame.mono hk hn⟩
theorem Rt.retI (X : Sd p l e R s m args below meth c T n0 cells slots h0) (hx : p.tables.exec = Jvm.exec) (hlk : meth.locks = false) (hret : meth.sig.returnType = some .int) {pc : Nat} {Ls : Array Slot} {S : List Value} {z : Int32} (hd : decode c.code pc = .ok (.ireturn, 1)) (hk : cells ≤ k) (hn : slots ≤ n)
    (hP : ∀ L, Fr n0 L → P (some (.int z)) h0 L) : Rt p e below s k n P (T.setTop (mkF m pc Ls (.int z :: S))) := by
  obtain ⟨locs, X, N, eh⟩ := X
  obtain ⟨fs, hr, hrun, hended, hW, hsame⟩ := X.leave (v := some (.int z)) (fun h => by rw [hret] at h; cases h) hlk
  exact ⟨_, _, Jvm.RoadKit.retI X hx hret hd hr, hrun, hended, _, _, rfl, by show P _ T.heap _; rw [eh]; exact hP _ N, ⟨_, rfl⟩, hW, hsame.mono hk hn⟩
theorem Rt.retV (X : Sd p l e R s m args below meth c T n0 cells slots h0) (hx : p.tables.exec = Jvm.exec) (hlk : meth.locks = false) (hret : meth.sig.returnType = none) {pc : Nat} {Ls : Array Slot}  (hd : decode c.code pc = .ok (.return_, 1)) (hk : cells ≤ k) (hn : slots ≤ n)
    (hP : ∀ L, Fr n0 L → P none h0 L) : Rt p e below s k n P (T.setTop (mkF m pc Ls [])) := by
  obtain ⟨locs, X, N, eh⟩ := X
  obtain ⟨fs, hr, hrun, hended, hW, hsame⟩ := X.leave (v := none) (fun _ => rfl) hlk
  exact ⟨_, _, X.returnOut hx hret hd hr, hrun, hended, _, _, rfl, by show P _ T.heap _; rw [eh]; exact hP _ N, ⟨_, rfl⟩, hW, hsame.mono hk hn⟩
theorem Rt.ldcInt (X : Sd p l e R s m args below meth c T n0 cells slots h0) (hx : p.tables.exec = Jvm.exec) {Z : State} {a0 : Array Value} (hZ : Z.Warmed39 s.vm) {own : String} {index : Nat} {v : Int32} (hown : s.vm.findClass own = some m.cls) (w : (Cond.constant own index v).before a0 Z = true) {pc pc' : Nat} {Ls : Array Slot} {S : List Value} (hd : decode c.code pc = .ok (.ldc index, 2)) (hp : pc + 2 = pc')
    (h : Rt p e below s k n P (T.setTop (mkF m pc' Ls (.int v :: S)))) : Rt p e below s k n P (T.setTop (mkF m pc Ls S)) := by
  subst hp; obtain ⟨_, X, _, _⟩ := X; exact Rt.go (X.ldcInt hx hown (mvT hZ w) (g := mkF m pc Ls S) rfl hd) h
abbrev Mt (l : Launch) (Z : State) (y : MethodName) (ws : List Jvm.Cond) (rm : Room) (as' : Array Value) (h : Heap) (Q : Option Value → Heap → List Loc → Prop) : Prop :=
  MetFree l y (head1 ws rm) (fun a U => a = as' ∧ Z.Warmed39 U.vm ∧ U.heap = h) (fun _ _ _ _ _ => True) (fun _ U o U' => ∃ v L, o = .returned v ∧ Q v U'.heap L ∧ FrameEnd U o U' L rm.cells rm.slots)
/-- from a body's walk to its contract -/
theorem Mt.of {Z : State} {y : MethodName} {bytes : ByteArray} {maxL : Nat} {ret : Option FieldType} {ws : List Jvm.Cond} {rm : Room} {as' : Array Value} {h : Heap} {Q : Option Value → Heap → List Loc → Prop} (n0 : Nat) (hpl : plainFor y = true)
    (body : ∀ (p : Program) (e : Env) (s : State) (m : MethodId) (below : List Frame) (meth : Method) (c : Code) (T : State), Sd p l e rm s m as' below meth c T n0 0 0 h → p.tables.exec = Jvm.exec → Z.Warmed39 s.vm → c.code = bytes → c.maxLocals = maxL → s.vm.findClass y.cls = some m.cls → meth.sig.returnType = ret → meth.locks = false → meth.name = y.name → s.heap = h →
      Rt p e below s rm.cells rm.slots Q (T.setTop (entryFrame m as' maxL))) : Mt l Z y (Jvm.Cond.code y bytes maxL ret :: ws) rm as' h Q := by
  refine MetFree.of_bodySF hpl hisR ?_
  intro p e s m args below meth c s₁ Bd hml0 hP hK
  obtain ⟨rfl, hZ, hh⟩ := hP
  have e0 : s₁.heap = h := by rw [← hh, Bd.state]; rfl
  obtain ⟨s₂, o, h1, h2, h3, v, L, h4, h5, h6⟩ := body p e s m below meth c s₁ ⟨[], Stand.of_body Bd, Fr.nil n0, e0⟩ Bd.exec hZ Bd.bytes hml0 (findClass_of_methodNamed Bd.named) Bd.returns (BodyLoose.notSynchronized Bd) (name_of_methodNamed Bd.named Bd.method).1 hh
  exact ⟨s₂, o, h1, h2, h3, v, L, h4, h5, h6⟩
theorem Rt.callS (X : Sd p l e R s m args below meth c T n0 cells slots h0) (hx : p.tables.exec = Jvm.exec) {Z : State} {a0 : Array Value} (hZ : Z.Warmed39 s.vm) {own : String} {index : Nat} {y : MethodName} {bytes : ByteArray} {maxL W : Nat} {ret : Option FieldType} {rm : Room} {as' : Array Value} {Q : Option Value → Heap → List Loc → Prop}
    (hown : s.vm.findClass own = some m.cls) (w1 : (Cond.methodLink own index y).before a0 Z = true) (w2 : (Cond.static y).before a0 Z = true) (w3 : (Cond.initialized y.cls).before a0 Z = true) (w4 : (Cond.code y bytes maxL ret).before a0 Z = true) (hy : y.cls ≠ "java/lang/invoke/MethodHandle" ∧ y.cls ≠ "java/lang/invoke/VarHandle")
    (hM : Mt l Z y [Cond.code y bytes maxL ret] rm as' h0 Q) (hF : ∀ v h L, Q v h L → Fr n0 L) (hf : rm.frames + 1 ≤ R.frames) (hl : W + (maxL + 11) + rm.locals ≤ R.locals) (hc : cells + rm.cells ≤ R.cells) (hs : slots + rm.slots ≤ R.slots)
    {pc pc' : Nat} {Ls : Array Slot} {S argsL rest : List Value} (hsize : Ls.size = c.maxLocals) (hlen : ∀ sig, parseMethodDescriptor y.desc = some sig → argsL.length = sig.parameters.length) (hst : S = argsL.reverse ++ rest) (has : argsL.toArray = as') (hW : (rest.map fun v => v.category).sum ≤ W) (hd : decode c.code pc = .ok (.invokestatic index, 3)) (hp : pc + 3 = pc')
    (hh : ∀ v T' h' L, Sd p l e R s m args below meth c T' n0 (cells + rm.cells) (slots + rm.slots) h' → Q v h' L → Rt p e below s k n P (T'.setTop (mkF m pc' Ls (v.toList ++ rest)))) : Rt p e below s k n P (T.setTop (mkF m pc Ls S)) := by
  subst hp has
  obtain ⟨locs, X, N, eT⟩ := X
  obtain ⟨v, _, ⟨T', L', k', n'⟩, -, X', ⟨Lc, hQ, l', y', z'⟩, st⟩ := Jvm.LawKit.callS X hx (y := y) hown (mvT hZ w1) (mvT hZ w2) (mvT hZ w3) (mvT hZ w4) hy (backOf (W := W) hM hZ w4 w3 hf hl) (g := mkF m pc Ls S) rfl hsize (argsL := argsL) (rest := rest) hlen hst (by show 2 * 0 + _ ≤ _; omega) hd (fun _ _ => ⟨rfl, eT, hc, hs⟩)
  dsimp only [Pt.U, Pt.locs, Pt.cells, Pt.slots] at X' l' y' z' st hQ
  subst l' y' z'
  exact Rt.go st (hh v T' _ Lc ⟨_, X', Fr.app N (hF _ _ _ hQ), rfl⟩ hQ)
/-- a static method that writes nothing -/
theorem Rt.callP (X : Sd p l e R s m args below meth c T n0 cells slots h0) (hx : p.tables.exec = Jvm.exec) {Z : State} {a0 : Array Value} (hZ : Z.Warmed39 s.vm) {own : String} {index : Nat} {y : MethodName} {bytes : ByteArray} {maxL W : Nat} {ret : Option FieldType} {rm : Room} {as' : Array Value} {r : Value}
    (hown : s.vm.findClass own = some m.cls) (w1 : (Cond.methodLink own index y).before a0 Z = true) (w2 : (Cond.static y).before a0 Z = true) (w3 : (Cond.initialized y.cls).before a0 Z = true) (w4 : (Cond.code y bytes maxL ret).before a0 Z = true) (hy : y.cls ≠ "java/lang/invoke/MethodHandle" ∧ y.cls ≠ "java/lang/invoke/VarHandle")
    (hM : Mt l Z y [Cond.code y bytes maxL ret] rm as' h0 (fun v h L => v = some r ∧ Fr n0 L ∧ h = h0)) (hf : rm.frames + 1 ≤ R.frames) (hl : W + (maxL + 11) + rm.locals ≤ R.locals) (hc : cells + rm.cells ≤ R.cells) (hs : slots + rm.slots ≤ R.slots) (hc0 : rm.cells = 0) (hs0 : rm.slots = 0)
    {pc pc' : Nat} {Ls : Array Slot} {S argsL rest : List Value} (hsize : Ls.size = c.maxLocals) (hlen : ∀ sig, parseMethodDescriptor y.desc = some sig → argsL.length = sig.parameters.length) (hst : S = argsL.reverse ++ rest) (has : argsL.toArray = as') (hW : (rest.map fun v => v.category).sum ≤ W) (hd : decode c.code pc = .ok (.invokestatic index, 3)) (hp : pc + 3 = pc')
    (hh : ∀ T', Sd p l e R s m args below meth c T' n0 cells slots h0 → Rt p e below s k n P (T'.setTop (mkF m pc' Ls (r :: rest)))) : Rt p e below s k n P (T.setTop (mkF m pc Ls S)) := by
  refine Rt.callS X hx hZ hown w1 w2 w3 w4 hy hM (fun _ _ _ q => q.2.1) hf hl hc hs hsize hlen hst has hW hd hp ?_
  rintro v T' h' L X' ⟨rfl, _, rfl⟩
  rw [hc0, hs0, Nat.add_zero, Nat.add_zero] at X'
  exact hh T' X'
/-- an instance method, by the contract of the body that the receiver's class selects -/
theorem Rt.callV (X : Sd p l e R s m args below meth c T n0 cells slots h0) (hx : p.tables.exec = Jvm.exec) {Z : State} {a0 : Array Value} (hZ : Z.Warmed39 s.vm) {own : String} {index : Nat} {y : MethodName} {bytes : ByteArray} {maxL W : Nat} {ret : Option FieldType} {rm : Room} {as' : Array Value} {Q : Option Value → Heap → List Loc → Prop} {K : String} {yz : MethodName}
    (hown : s.vm.findClass own = some m.cls) (w1 : (Cond.methodLink own index y).before a0 Z = true) (w2 : (Cond.declares y).before a0 Z = true) (hnf : NotFace s y) (w5 : (Cond.selects K y yz).before a0 Z = true) (w6 : (Cond.instanceMethod yz).before a0 Z = true) (w3 : (Cond.initialized yz.cls).before a0 Z = true) (w4 : (Cond.code yz bytes maxL ret).before a0 Z = true) (hy : y.cls ≠ "java/lang/invoke/MethodHandle" ∧ y.cls ≠ "java/lang/invoke/VarHandle")
    {a : Addr} (E : Exa Z h0 a K) (hM : Mt l Z yz [Cond.code yz bytes maxL ret] rm as' h0 Q) (hF : ∀ v h L, Q v h L → Fr n0 L) (hf : rm.frames + 1 ≤ R.frames) (hl : W + (maxL + 11) + rm.locals ≤ R.locals) (hc : cells + rm.cells ≤ R.cells) (hs : slots + rm.slots ≤ R.slots)
    {pc pc' : Nat} {Ls : Array Slot} {S argsL rest : List Value} (hsize : Ls.size = c.maxLocals) (hlen : ∀ sig, parseMethodDescriptor y.desc = some sig → argsL.length = sig.parameters.length) (hst : S = argsL.reverse ++ .ref a :: rest) (has : (.ref a :: argsL).toArray = as') (hW : (rest.map fun v => v.category).sum ≤ W) (hd : decode c.code pc = .ok (.invokevirtual index, 3)) (hp : pc + 3 = pc')
    (hh : ∀ v T' h' L, Sd p l e R s m args below meth c T' n0 (cells + rm.cells) (slots + rm.slots) h' → Q v h' L → Rt p e below s k n P (T'.setTop (mkF m pc' Ls (v.toList ++ rest)))) : Rt p e below s k n P (T.setTop (mkF m pc Ls S)) := by
  subst hp has
  obtain ⟨locs, X, N, eT⟩ := X
  obtain ⟨cq, kq, qa, qb, qc⟩ := isOf hZ eT E
  obtain ⟨v, _, ⟨T', L', k', n'⟩, -, X', ⟨Lc, hQ, l', y', z'⟩, st⟩ := X.virtualBack hx (y := y) (z := yz) hown (mvT hZ w1) (mvT hZ w2) hnf (mvT hZ w5) (mvT hZ w6) hy (backOf (W := W) hM hZ w4 w3 hf hl) qa qc (g := mkF m pc Ls S) rfl hsize (Steps.refl _) (argsL := argsL) (rest := rest) hlen hst (by show 2 * 0 + _ ≤ _; omega) hd (fun _ _ => ⟨rfl, eT, hc, hs⟩)
  dsimp only [Pt.U, Pt.locs, Pt.cells, Pt.slots] at X' l' y' z' st hQ
  subst l' y' z'
  exact Rt.go (fun _ q => st.trans q) (hh v T' _ Lc ⟨_, X', Fr.app N (hF _ _ _ hQ), rfl⟩ hQ)
/-- a constructor by its contract -/
theorem Rt.callI (X : Sd p l e R s m args below meth c T n0 cells slots h0) (hx : p.tables.exec = Jvm.exec) {Z : State} {a0 : Array Value} (hZ : Z.Warmed39 s.vm) {own : String} {index : Nat} {y : MethodName} {bytes : ByteArray} {maxL W : Nat} {rm : Room} {as' : Array Value} {Q : Option Value → Heap → List Loc → Prop} (hy1 : y.name = "<init>")
    (hown : s.vm.findClass own = some m.cls) (w1 : (Cond.methodLink own index y).before a0 Z = true) (w2 : (Cond.instanceMethod y).before a0 Z = true) (w3 : (Cond.initialized y.cls).before a0 Z = true) (w4 : (Cond.code y bytes maxL none).before a0 Z = true) (hy : y.cls ≠ "java/lang/invoke/MethodHandle" ∧ y.cls ≠ "java/lang/invoke/VarHandle")
    {a : Addr} (hM : Mt l Z y [Cond.code y bytes maxL none] rm as' h0 Q) (hF : ∀ v h L, Q v h L → Fr n0 L) (hf : rm.frames + 1 ≤ R.frames) (hl : W + (maxL + 11) + rm.locals ≤ R.locals) (hc : cells + rm.cells ≤ R.cells) (hs : slots + rm.slots ≤ R.slots)
    {pc pc' : Nat} {Ls : Array Slot} {S argsL rest : List Value} (hsize : Ls.size = c.maxLocals) (hlen : ∀ sig, parseMethodDescriptor y.desc = some sig → argsL.length = sig.parameters.length) (hst : S = argsL.reverse ++ .ref a :: rest) (has : (.ref a :: argsL).toArray = as') (hW : (rest.map fun v => v.category).sum ≤ W) (hd : decode c.code pc = .ok (.invokespecial index, 3)) (hp : pc + 3 = pc')
    (hh : ∀ v T' h' L, Sd p l e R s m args below meth c T' n0 (cells + rm.cells) (slots + rm.slots) h' → Q v h' L → Rt p e below s k n P (T'.setTop (mkF m pc' Ls (v.toList ++ rest)))) : Rt p e below s k n P (T.setTop (mkF m pc Ls S)) := by
  subst hp has
  obtain ⟨locs, X, N, eT⟩ := X
  obtain ⟨v, _, ⟨T', L', k', n'⟩, -, X', ⟨Lc, hQ, l', y', z'⟩, st⟩ := X.specialBack hx (y := y) hy1 hown (mvT hZ w1) (mvT hZ w2) (mvT hZ w4) hy (backOf (W := W) hM hZ w4 w3 hf hl) (g := mkF m pc Ls S) rfl hsize (Steps.refl _) (a := a) (argsL := argsL) (rest := rest) hlen hst (by show 2 * 0 + _ ≤ _; omega) hd (fun _ _ => ⟨rfl, eT, hc, hs⟩)
  dsimp only [Pt.U, Pt.locs, Pt.cells, Pt.slots] at X' l' y' z' st hQ
  subst l' y' z'
  exact Rt.go (fun _ q => st.trans q) (hh v T' _ Lc ⟨_, X', Fr.app N (hF _ _ _ hQ), rfl⟩ hQ)
/-- a private instance method by its contract -/
theorem Rt.callPr (X : Sd p l e R s m args below meth c T n0 cells slots h0) (hx : p.tables.exec = Jvm.exec) {Z : State} {a0 : Array Value} (hZ : Z.Warmed39 s.vm) {own : String} {index : Nat} {y : MethodName} {bytes : ByteArray} {maxL W : Nat} {ret : Option FieldType} {rm : Room} {as' : Array Value} {Q : Option Value → Heap → List Loc → Prop} {K : String} {nf : Nat}
    (hown : s.vm.findClass own = some m.cls) (w1 : (Cond.methodLink own index y).before a0 Z = true) (w2 : (Cond.instanceMethod y).before a0 Z = true) (w5 : (Cond.privateMethod y).before a0 Z = true) (wi : (Cond.instantiable y.cls nf).before a0 Z = true) (w3 : (Cond.initialized y.cls).before a0 Z = true) (w4 : (Cond.code y bytes maxL ret).before a0 Z = true) (hy : y.cls ≠ "java/lang/invoke/MethodHandle" ∧ y.cls ≠ "java/lang/invoke/VarHandle")
    {a : Addr} (E : Exa Z h0 a K) (hM : Mt l Z y [Cond.code y bytes maxL ret] rm as' h0 Q) (hF : ∀ v h L, Q v h L → Fr n0 L) (hf : rm.frames + 1 ≤ R.frames) (hl : W + (maxL + 11) + rm.locals ≤ R.locals) (hc : cells + rm.cells ≤ R.cells) (hs : slots + rm.slots ≤ R.slots)
    {pc pc' : Nat} {Ls : Array Slot} {S argsL rest : List Value} (hsize : Ls.size = c.maxLocals) (hlen : ∀ sig, parseMethodDescriptor y.desc = some sig → argsL.length = sig.parameters.length) (hst : S = argsL.reverse ++ .ref a :: rest) (has : (.ref a :: argsL).toArray = as') (hW : (rest.map fun v => v.category).sum ≤ W) (hd : decode c.code pc = .ok (.invokevirtual index, 3)) (hp : pc + 3 = pc')
    (hh : ∀ v T' h' L, Sd p l e R s m args below meth c T' n0 (cells + rm.cells) (slots + rm.slots) h' → Q v h' L → Rt p e below s k n P (T'.setTop (mkF m pc' Ls (v.toList ++ rest)))) : Rt p e below s k n P (T.setTop (mkF m pc Ls S)) := by
  subst hp has
  obtain ⟨locs, X, N, eT⟩ := X
  obtain ⟨ce, q1, q2⟩ := E.cell
  obtain ⟨cc, kc, i1, i2, -, i4, -⟩ := Cond.instantiable_spec (mvT hZ wi (args := args))
  have hpv := Cond.privateMethod_at (mvP hZ w5 (args := #[]))
  have hni : kc.isInterface = false := by simp only [Bool.or_eq_false_iff] at i4; exact i4.1
  obtain ⟨v, _, ⟨T', L', k', n'⟩, -, X', ⟨Lc, hQ, l', y', z'⟩, st⟩ := X.privateBack hx (y := y) hown (mvT hZ w1) (mvT hZ w2) (selects_self_of_private i1 i2 hni hpv (mvT hZ w2) hy) hpv (mvT hZ w4) hy (backOf (W := W) hM hZ w4 w3 hf hl) (g := mkF m pc Ls S) rfl hsize (Steps.refl _) (a := a) (by rw [eT]; exact q1) q2 (argsL := argsL) (rest := rest) hlen hst (by show 2 * 0 + _ ≤ _; omega) hd (fun _ _ => ⟨rfl, eT, hc, hs⟩)
  dsimp only [Pt.U, Pt.locs, Pt.cells, Pt.slots] at X' l' y' z' st hQ
  subst l' y' z'
  exact Rt.go (fun _ q => st.trans q) (hh v T' _ Lc ⟨_, X', Fr.app N (hF _ _ _ hQ), rfl⟩ hQ)
theorem Rt.initO (X : Sd p l e R s m args below meth c T n0 cells slots h0) (hx : p.tables.exec = Jvm.exec) {Z : State} {a0 : Array Value} (hZ : Z.Warmed39 s.vm) {own : String} {index : Nat} (hown : s.vm.findClass own = some m.cls) (w1 : (Cond.methodLink own index Lib.objectInit).before a0 Z = true) (w2 : (Cond.instanceMethod Lib.objectInit).before a0 Z = true) (w3 : (Cond.code Lib.objectInit ⟨#[0xb1]⟩ 1 none).before a0 Z = true)
    {pc pc' W : Nat} {Ls : Array Slot} {rest : List Value} {a : Addr} (hsize : Ls.size = c.maxLocals) (hd : decode c.code pc = .ok (.invokespecial index, 3)) (hf : 1 ≤ R.frames) (hW : (rest.map fun v => v.category).sum ≤ W) (hl : W + 12 ≤ R.locals) (hp : pc + 3 = pc')
    (hh : ∀ T', Sd p l e R s m args below meth c T' n0 cells slots h0 → Rt p e below s k n P (T'.setTop (mkF m pc' Ls rest))) : Rt p e below s k n P (T.setTop (mkF m pc Ls (.ref a :: rest))) := by
  subst hp
  obtain ⟨locs, X, N, eT⟩ := X
  obtain ⟨T', X', e', st⟩ := Jvm.RoadKit.initO X hx hZ hown w1 w2 w3 eT (g := mkF m pc Ls (.ref a :: rest)) rfl hsize rfl hd hf (W := W) (by show 2 * 0 + _ ≤ _; omega) hl
  exact Rt.go st (hh T' ⟨_, X', N, e'⟩)
theorem Rt.getF (X : Sd p l e R s m args below meth c T n0 cells slots h0) (hx : p.tables.exec = Jvm.exec) {Z : State} {a0 : Array Value} (hZ : Z.Warmed39 s.vm) {own K f d host : String} {index : Nat} (hown : s.vm.findClass own = some m.cls) (w : (Cond.fieldLink own index K f d).before a0 Z = true ∨ (Cond.fieldLinkNest own index K f d host).before a0 Z = true) {v : Value} {a : Addr} (F : Fld Z h0 a K f d v) {pc pc' : Nat} {Ls : Array Slot} {S : List Value} (hd : decode c.code pc = .ok (.getfield index, 3)) (hp : pc + 3 = pc')
    (hh : ∀ T', Sd p l e R s m args below meth c T' n0 cells slots h0 → Rt p e below s k n P (T'.setTop (mkF m pc' Ls (v :: S)))) : Rt p e below s k n P (T.setTop (mkF m pc Ls (.ref a :: S))) := by
  subst hp
  obtain ⟨locs, X, N, eT⟩ := X
  obtain ⟨T', X', e', st⟩ := Jvm.RoadKit.getF X hx hZ hown (host := host) w Via.refl eT F (g := mkF m pc Ls (.ref a :: S)) rfl rfl hd
  exact Rt.go st (hh T' ⟨_, X', N, e'⟩)
theorem Rt.putF (X : Sd p l e R s m args below meth c T n0 cells slots h0) (hx : p.tables.exec = Jvm.exec) {Z : State} {a0 : Array Value} (hZ : Z.Warmed39 s.vm) {own K f d C' host : String} {index kk : Nat} {ty : FieldType} (hown : s.vm.findClass own = some m.cls) (w : (Cond.fieldLink own index K f d).before a0 Z = true ∨ (Cond.fieldLinkNest own index K f d host).before a0 Z = true) {v old : Value} {a : Addr} (F : Fld Z h0 a K f d old) (E : Exa Z h0 a C') (L : (Cond.lays C' K f d).before a0 Z = true ∨ ((Cond.laysFinal C' K f d).before a0 Z = true ∧ own = K ∧ meth.name = "<init>")) (wi : (Cond.instantiable C' kk).before a0 Z = true) (hty : parseFieldDescriptor d = some ty) (hn : narrow ty v = v) (hf : fits ty v = true) (ga : n0 ≤ a) {pc pc' : Nat} {Ls : Array Slot} {S : List Value} (hd : decode c.code pc = .ok (.putfield index, 3)) (hp : pc + 3 = pc')
    (hh : ∀ T' h', Sd p l e R s m args below meth c T' n0 cells slots h' → Wr h0 h' a (Jvm.RoadKit.slotOf Z K f d) v → Fld Z h' a K f d v → Rt p e below s k n P (T'.setTop (mkF m pc' Ls S))) : Rt p e below s k n P (T.setTop (mkF m pc Ls (v :: .ref a :: S))) := by
  subst hp
  obtain ⟨locs, X, N, eT⟩ := X
  obtain ⟨T', h', X', e', W', st⟩ := Jvm.RoadKit.putF X hx hZ hown (host := host) w Via.refl eT F E L wi hty hn hf (g := mkF m pc Ls (v :: .ref a :: S)) rfl rfl hd
  exact Rt.go st (hh T' h' ⟨_, X', Fr.snoc X' N ga, e'⟩ W' (F.same W'))
theorem Rt.newO (X : Sd p l e R s m args below meth c T n0 cells slots h0) (hx : p.tables.exec = Jvm.exec) {Z : State} {a0 : Array Value} (hZ : Z.Warmed39 s.vm) {own K : String} {index nf : Nat} (hown : s.vm.findClass own = some m.cls) (w : (Cond.classLink own index K).before a0 Z = true) (wi : (Cond.instantiable K nf).before a0 Z = true) (wz : (Cond.initialized K).before a0 Z = true) {pc pc' : Nat} {Ls : Array Slot} {S : List Value} (hd : decode c.code pc = .ok (.new index, 3)) (hc : cells + 1 ≤ R.cells) (hl : slots + nf ≤ R.slots) (hp : pc + 3 = pc')
    (hh : ∀ T' h' a, a = h0.size → Sd p l e R s m args below meth c T' n0 (cells + 1) (slots + nf) h' → Ext h0 h' → Exa Z h' a K → (∀ {O nm d : String} {ty : FieldType}, Laid Z a0 K O nm d → parseFieldDescriptor d = some ty → Fld Z h' a O nm d (defaultValue ty)) → Rt p e below s k n P (T'.setTop (mkF m pc' Ls (.ref a :: S)))) : Rt p e below s k n P (T.setTop (mkF m pc Ls S)) := by
  subst hp
  obtain ⟨locs, X, N, eT⟩ := X
  obtain ⟨T', h', X', e', E', A', D', -, st⟩ := Jvm.RoadKit.newO X hx hZ hown w wi wz eT (g := mkF m pc Ls S) rfl hd hc hl
  exact Rt.go st (hh T' h' _ rfl ⟨_, X', N, e'⟩ E' A' D')
def IA (Z : State) (h : Heap) (a : Addr) (ty : FieldType) (vs : List Value) : Prop := ∃ cl : Cell, Arr Z h a cl ty ∧ cl.slots = vs.toArray ∧ vs.length < 2 ^ 31
section Arrays
variable {Z : State} {h h' : Heap} {a b : Addr} {ty : FieldType} {vs : List Value}
theorem IA.lt (F : IA Z h a ty vs) : a < h.size := by obtain ⟨_, A, -⟩ := F; exact A.lt
theorem IA.ext (F : IA Z h a ty vs) (E : Ext h h') : IA Z h' a ty vs := by obtain ⟨c, A, r⟩ := F; exact ⟨c, A.ext E, r⟩
theorem IA.other {sl : Nat} {v : Value} (F : IA Z h a ty vs) (W : Wr h h' b sl v) (q : a ≠ b) : IA Z h' a ty vs := by obtain ⟨c, A, r⟩ := F; exact ⟨c, A.other W q, r⟩
theorem IA.keep {ws : List Addr} (F : IA Z h a ty vs) (K : Keep h h' ws) (q : a ∉ ws) : IA Z h' a ty vs := by obtain ⟨c, A, r⟩ := F; exact ⟨c, ⟨K.2.1 a c A.1 q, A.2⟩, r⟩
theorem IA.set {i : Nat} {v : Value} (F : IA Z h a ty vs) (W : Wr h h' a i v) : IA Z h' a ty (vs.set i v) := by
  obtain ⟨c, A, r, q⟩ := F
  refine ⟨_, A.same W, ?_, by rw [List.length_set]; exact q⟩
  show (c.slots.setIfInBounds i v) = _
  rw [r]; simp
theorem IA.new {k : ClassId} {z : Int32} {i : Nat} (A : Arr Z h a (newA k ty z) ty) (hz : z.toNatClampNeg = i) : IA Z h a ty (List.replicate i (defaultValue ty)) := by
  refine ⟨_, A, ?_, ?_⟩
  · show Array.replicate _ _ = _
    rw [hz]; simp
  · rw [List.length_replicate, ← hz]
    have := z.toInt_lt
    simp only [Int32.toNatClampNeg]; omega
theorem inA {cl : Cell} {j : Int32} {i : Nat} (r : cl.slots = vs.toArray) (hj : ¬ j < 0) (hi : j.toNatClampNeg = i) (hv : i < vs.length) : ¬ (j < 0 ∨ cl.slots.size ≤ j.toNatClampNeg) := by
  rintro (q | q)
  · exact hj q
  · rw [r, hi] at q; simp at q; omega
end Arrays
theorem Rt.newP (X : Sd p l e R s m args below meth c T n0 cells slots h0) (hx : p.tables.exec = Jvm.exec) {Z : State} {a0 : Array Value} (hZ : Z.Warmed39 s.vm) {aty : ArrayType} {ty : FieldType} (hty : newarray.typeOf aty = ty) (w : (Cond.arrayClass ty).before a0 Z = true) {z : Int32} {i : Nat} (hz : z.toNatClampNeg = i) (hn : ¬ z < 0) {cap : Nat} (hcap : i ≤ cap) (hb : cap * 8 ≤ 536870912) {pc pc' : Nat} {Ls : Array Slot} {S : List Value} (hd : decode c.code pc = .ok (.newarray aty, 2)) (hc : cells + 1 ≤ R.cells) (hl : slots + cap ≤ R.slots) (hp : pc + 2 = pc')
    (hh : ∀ T' h' a, a = h0.size → Sd p l e R s m args below meth c T' n0 (cells + 1) (slots + cap) h' → Ext h0 h' → IA Z h' a ty (List.replicate i (defaultValue ty)) → Rt p e below s k n P (T'.setTop (mkF m pc' Ls (.ref a :: S)))) : Rt p e below s k n P (T.setTop (mkF m pc Ls (.int z :: S))) := by
  subst hp hty
  obtain ⟨locs, X, N, eT⟩ := X
  obtain ⟨T', h', cA, X', e', E', A', st⟩ := Jvm.RoadKit.newP X hx hZ w eT (g := mkF m pc Ls (.int z :: S)) rfl hd rfl hn (cap := cap) (by rw [hz]; exact hcap) hb hc hl
  exact Rt.go st (hh T' h' _ rfl ⟨_, X', N, e'⟩ E' (IA.new A' hz))
theorem Rt.arraylength (X : Sd p l e R s m args below meth c T n0 cells slots h0) (hx : p.tables.exec = Jvm.exec) {Z : State} (hZ : Z.Warmed39 s.vm) {ty : FieldType} {a : Addr} {vs : List Value} (F : IA Z h0 a ty vs) {v : Int32} (hv : vs.length.toInt32 = v) {pc pc' : Nat} {Ls : Array Slot} {S : List Value} (hd : decode c.code pc = .ok (.arraylength, 1)) (hp : pc + 1 = pc')
    (h : Rt p e below s k n P (T.setTop (mkF m pc' Ls (.int v :: S)))) : Rt p e below s k n P (T.setTop (mkF m pc Ls (.ref a :: S))) := by
  subst hp hv
  obtain ⟨locs, X, N, eT⟩ := X
  obtain ⟨cl, A, r, q⟩ := F
  have e1 : vs.length = cl.slots.size := by rw [r]; simp
  rw [e1] at h
  exact Rt.go (X.arraylength hx (by rw [eT]; exact A.1) (State.isArrayOf_alike hZ.alike A.2.1) (g := mkF m pc Ls (.ref a :: S)) rfl rfl hd) h

theorem Rt.iaload (X : Sd p l e R s m args below meth c T n0 cells slots h0) (hx : p.tables.exec = Jvm.exec) {Z : State} (hZ : Z.Warmed39 s.vm) {a : Addr} {vs : List Value} (F : IA Z h0 a .int vs) {j : Int32} {i : Nat} (hi : j.toNatClampNeg = i) (hj : ¬ j < 0) {v : Value} (hv : vs[i]? = some v) {pc pc' : Nat} {Ls : Array Slot} {S : List Value} (hd : decode c.code pc = .ok (.iaload, 1)) (hp : pc + 1 = pc')
    (h : Rt p e below s k n P (T.setTop (mkF m pc' Ls (v :: S)))) : Rt p e below s k n P (T.setTop (mkF m pc Ls (.int j :: .ref a :: S))) := by
  subst hp
  obtain ⟨locs, X, N, eT⟩ := X
  obtain ⟨cl, A, r, q⟩ := F
  exact Rt.go (X.iaload hx (j := j) (v := v) (by rw [eT]; exact A.1) (State.isArrayOf_alike hZ.alike A.2.1) A.2.2 (inA r hj hi (List.getElem?_eq_some_iff.mp hv).1) (by rw [r, hi]; simpa using hv) (g := mkF m pc Ls (.int j :: .ref a :: S)) rfl rfl hd) h
theorem Rt.zaload (X : Sd p l e R s m args below meth c T n0 cells slots h0) (hx : p.tables.exec = Jvm.exec) {Z : State} (hZ : Z.Warmed39 s.vm) {a : Addr} {vs : List Value} (F : IA Z h0 a .boolean vs) {j : Int32} {i : Nat} (hi : j.toNatClampNeg = i) (hj : ¬ j < 0) {v : Value} (hv : vs[i]? = some v) {pc pc' : Nat} {Ls : Array Slot} {S : List Value} (hd : decode c.code pc = .ok (.baload, 1)) (hp : pc + 1 = pc')
    (h : Rt p e below s k n P (T.setTop (mkF m pc' Ls (v :: S)))) : Rt p e below s k n P (T.setTop (mkF m pc Ls (.int j :: .ref a :: S))) := by
  subst hp
  obtain ⟨locs, X, N, eT⟩ := X
  obtain ⟨cl, A, r, q⟩ := F
  exact Rt.go (X.baloadBooleans hx (j := j) (v := v) (by rw [eT]; exact A.1) (State.isArrayOf_alike hZ.alike A.2.1) A.2.2 (inA r hj hi (List.getElem?_eq_some_iff.mp hv).1) (by rw [r, hi]; simpa using hv) (g := mkF m pc Ls (.int j :: .ref a :: S)) rfl rfl hd) h
theorem Rt.iastore (X : Sd p l e R s m args below meth c T n0 cells slots h0) (hx : p.tables.exec = Jvm.exec) {Z : State} (hZ : Z.Warmed39 s.vm) {a : Addr} {vs : List Value} (F : IA Z h0 a .int vs) {j : Int32} {i : Nat} (hi : j.toNatClampNeg = i) (hj : ¬ j < 0) (hv : i < vs.length) {x : Int32} {w : Value} (hw : .int x = w) (ga : n0 ≤ a) {pc pc' : Nat} {Ls : Array Slot} {S : List Value} (hd : decode c.code pc = .ok (.iastore, 1)) (hp : pc + 1 = pc')
    (hh : ∀ T' h', Sd p l e R s m args below meth c T' n0 cells slots h' → Wr h0 h' a i w → IA Z h' a .int (vs.set i w) → Rt p e below s k n P (T'.setTop (mkF m pc' Ls S))) : Rt p e below s k n P (T.setTop (mkF m pc Ls (.int x :: .int j :: .ref a :: S))) := by
  subst hp hw
  obtain ⟨locs, X, N, eT⟩ := X
  obtain ⟨cl, A, r, q⟩ := id F
  obtain ⟨T', h', X', e', W', st⟩ := stI X hx hZ eT A (j := j) (inA r hj hi hv) (g := mkF m pc Ls (.int x :: .int j :: .ref a :: S)) rfl rfl hd
  rw [hi] at W'
  exact Rt.go st (hh T' h' ⟨_, X', Fr.snoc X' N ga, e'⟩ W' (F.set W'))
theorem Rt.zastore (X : Sd p l e R s m args below meth c T n0 cells slots h0) (hx : p.tables.exec = Jvm.exec) {Z : State} (hZ : Z.Warmed39 s.vm) {a : Addr} {vs : List Value} (F : IA Z h0 a .boolean vs) {j : Int32} {i : Nat} (hi : j.toNatClampNeg = i) (hj : ¬ j < 0) (hv : i < vs.length) {x : Int32} {w : Value} (hw : .int (nar .boolean x) = w) (ga : n0 ≤ a) {pc pc' : Nat} {Ls : Array Slot} {S : List Value} (hd : decode c.code pc = .ok (.bastore, 1)) (hp : pc + 1 = pc')
    (hh : ∀ T' h', Sd p l e R s m args below meth c T' n0 cells slots h' → Wr h0 h' a i w → IA Z h' a .boolean (vs.set i w) → Rt p e below s k n P (T'.setTop (mkF m pc' Ls S))) : Rt p e below s k n P (T.setTop (mkF m pc Ls (.int x :: .int j :: .ref a :: S))) := by
  subst hp hw
  obtain ⟨locs, X, N, eT⟩ := X
  obtain ⟨cl, A, r, q⟩ := id F
  obtain ⟨T', h', X', e', W', st⟩ := stZ X hx hZ eT A (j := j) (inA r hj hi hv) (g := mkF m pc Ls (.int x :: .int j :: .ref a :: S)) rfl rfl hd
  rw [hi] at W'
  exact Rt.go st (hh T' h' ⟨_, X', Fr.snoc X' N ga, e'⟩ W' (F.set W'))
def IL (Z : State) (h : Heap) (a : Addr) (ty : FieldType) (N : Nat) : Prop := ∃ vs, IA Z h a ty vs ∧ vs.length = N
section Arrays
variable {Z : State} {h h' : Heap} {a b : Addr} {ty : FieldType} {N : Nat}
theorem IL.lt (F : IL Z h a ty N) : a < h.size := by obtain ⟨_, A, -⟩ := F; exact A.lt
theorem IL.ext (F : IL Z h a ty N) (E : Ext h h') : IL Z h' a ty N := by obtain ⟨c, A, r⟩ := F; exact ⟨c, A.ext E, r⟩
theorem IL.other {sl : Nat} {v : Value} (F : IL Z h a ty N) (W : Wr h h' b sl v) (q : a ≠ b) : IL Z h' a ty N := by obtain ⟨c, A, r⟩ := F; exact ⟨c, A.other W q, r⟩
theorem IL.wr {sl : Nat} {v : Value} (F : IL Z h a ty N) (W : Wr h h' b sl v) : IL Z h' a ty N := by
  obtain ⟨vs, A, r⟩ := F
  by_cases q : a = b
  · subst q; exact ⟨_, A.set W, by rw [List.length_set]; exact r⟩
  · exact ⟨vs, A.other W q, r⟩
theorem IL.keep {ws : List Addr} (F : IL Z h a ty N) (K : Keep h h' ws) : IL Z h' a ty N := by
  obtain ⟨vs, ⟨c, ⟨A1, ⟨A2, A3⟩, A4⟩, r1, r2⟩, r⟩ := F
  obtain ⟨c', q, e1, e2, e3⟩ := K.2.2 a c A1
  refine ⟨c'.slots.toList, ⟨c', ⟨q, ⟨?_, ?_⟩, by rw [e2]; exact A4⟩, by simp, ?_⟩, ?_⟩
  · rw [e2]; exact A2
  · rw [e1]; exact A3
  · rw [Array.length_toList, e3, r1]; simpa using r2
  · rw [Array.length_toList, e3, r1]; simpa using r
end Arrays
theorem Rt.getFR (X : Sd p l e R s m args below meth c T n0 cells slots h0) (hx : p.tables.exec = Jvm.exec) {Z : State} {a0 : Array Value} (hZ : Z.Warmed39 s.vm) {own K f d : String} {index : Nat} (hown : s.vm.findClass own = some m.cls) (w : (Cond.fieldRef own index K f d).before a0 Z = true) {v : Value} {a : Addr} (F : Fld Z h0 a K f d v) {pc pc' : Nat} {Ls : Array Slot} {S : List Value} (hd : decode c.code pc = .ok (.getfield index, 3)) (hp : pc + 3 = pc')
    (hh : ∀ T', Sd p l e R s m args below meth c T' n0 cells slots h0 → Rt p e below s k n P (T'.setTop (mkF m pc' Ls (v :: S)))) : Rt p e below s k n P (T.setTop (mkF m pc Ls (.ref a :: S))) := by
  subst hp
  have hX := X
  obtain ⟨locs, X, N, eT⟩ := X
  have hZT : Z.Warmed39 T.vm := wtrans hZ X.warmed
  obtain ⟨cell, cf, kf, i, fl, g1, g2, g3, g4, -, -, g7⟩ := F
  have hw := Cond.fieldRef_warmed39 hZT w
  have hownZ : (Z.setVm T.vm).vm.findClass own = some m.cls := by
    show T.vm.findClass own = some m.cls
    rw [X.warmed.alike.findClass]; exact hown
  obtain ⟨c2, k2, i2, f2, q1, q2⟩ := Cond.fieldRef_spec hownZ hw
  obtain ⟨k', hi, -⟩ := State.fieldFound?_setVm (s := Z) hZT.alike g2
  cases hi.symm.trans q1
  have hst : ∀ target, Steps p.tables e below (T.setTop (mkF m (pc + 3) Ls (v :: S))) target → Steps p.tables e below (T.setTop (mkF m pc Ls (.ref a :: S))) target := by
    intro target hrest
    jvm_step X.here [hx, hd, getfield.wp_ready (e := e) (s := T) (f := mkF m pc Ls (.ref a :: S)) X.here.top q2 g3 rfl (show T.heap[a]? = some cell by rw [eT]; exact g1) g4 g7]
    exact hrest
  exact Rt.go hst (hh T hX)
/-- a nest mate's constructor by its contract -/
theorem Rt.callIN (X : Sd p l e R s m args below meth c T n0 cells slots h0) (hx : p.tables.exec = Jvm.exec) {Z : State} {a0 : Array Value} (hZ : Z.Warmed39 s.vm) {own : String} {index : Nat} {y : MethodName} {bytes : ByteArray} {maxL W : Nat} {rm : Room} {as' : Array Value} {Q : Option Value → Heap → List Loc → Prop} {host : String} (hy1 : y.name = "<init>")
    (hown : s.vm.findClass own = some m.cls) (w1 : (Cond.methodLinkNest own index y host).before a0 Z = true) (w2 : (Cond.instanceMethod y).before a0 Z = true) (w3 : (Cond.initialized y.cls).before a0 Z = true) (w4 : (Cond.code y bytes maxL none).before a0 Z = true) (hy : y.cls ≠ "java/lang/invoke/MethodHandle" ∧ y.cls ≠ "java/lang/invoke/VarHandle")
    {a : Addr} (hM : Mt l Z y [Cond.code y bytes maxL none] rm as' h0 Q) (hF : ∀ v h L, Q v h L → Fr n0 L) (hf : rm.frames + 1 ≤ R.frames) (hl : W + (maxL + 11) + rm.locals ≤ R.locals) (hc : cells + rm.cells ≤ R.cells) (hs : slots + rm.slots ≤ R.slots)
    {pc pc' : Nat} {Ls : Array Slot} {S argsL rest : List Value} (hsize : Ls.size = c.maxLocals) (hlen : ∀ sig, parseMethodDescriptor y.desc = some sig → argsL.length = sig.parameters.length) (hst : S = argsL.reverse ++ .ref a :: rest) (has : (.ref a :: argsL).toArray = as') (hW : (rest.map fun v => v.category).sum ≤ W) (hd : decode c.code pc = .ok (.invokespecial index, 3)) (hp : pc + 3 = pc')
    (hh : ∀ v T' h' L, Sd p l e R s m args below meth c T' n0 (cells + rm.cells) (slots + rm.slots) h' → Q v h' L → Rt p e below s k n P (T'.setTop (mkF m pc' Ls (v.toList ++ rest)))) : Rt p e below s k n P (T.setTop (mkF m pc Ls S)) := by
  subst hp has
  obtain ⟨locs, X, N, eT⟩ := X
  have w1' : (Cond.methodLinkNest own index y host).before args s = true := by
    have q := Cond.methodLinkNest_wide hZ w1
    simp only [Cond.before, Cond.holds, Cond.value] at q ⊢
    exact q
  obtain ⟨v, _, ⟨T', L', k', n'⟩, -, X', ⟨Lc, hQ, l', y', z'⟩, st⟩ := X.specialBackNest hx (y := y) hy1 hown w1' (mvT hZ w2) (mvT hZ w4) hy (backOf (W := W) hM hZ w4 w3 hf hl) (g := mkF m pc Ls S) rfl hsize (Steps.refl _) (a := a) (argsL := argsL) (rest := rest) hlen hst (by show 2 * 0 + _ ≤ _; omega) hd (fun _ _ => ⟨rfl, eT, hc, hs⟩)
  dsimp only [Pt.U, Pt.locs, Pt.cells, Pt.slots] at X' l' y' z' st hQ
  subst l' y' z'
  exact Rt.go (fun _ q => st.trans q) (hh v T' _ Lc ⟨_, X', Fr.app N (hF _ _ _ hQ), rfl⟩ hQ)
end Own
theorem own_g {a0 : Array Value} {Z : State} (hw : ∀ d ∈ tables_1, d.before a0 Z = true) {w : Jvm.Cond} (i : Nat) (h : tables_1[i]? = some w) : w.before a0 Z = true := hw w (List.mem_of_getElem? h)
abbrev nm1 : String := "com/example/tightfold/tightfold/FocusFiltering$Run"
abbrev nm2 : String := "com/example/tightfold/tightfold/FocusFiltering$PartialCover"
abbrev nm3 : String := "Lcom/example/tightfold/tightfold/FocusFiltering$Run;"
abbrev nm4 : String := "com/example/tightfold/tightfold/FocusFiltering"
abbrev mt1 : MethodName := ⟨"java/lang/Math", "min", "(II)I"⟩
abbrev mt2 : MethodName := ⟨"java/lang/Math", "max", "(II)I"⟩
abbrev mt3 : MethodName := ⟨"com/example/tightfold/tightfold/FocusFiltering$Run", "<init>", "()V"⟩
abbrev mt4 : MethodName := ⟨"com/example/tightfold/tightfold/FocusFiltering$Run", "clear", "(I)V"⟩
abbrev mt5 : MethodName := ⟨"com/example/tightfold/tightfold/FocusFiltering$Run", "offer", "(III)V"⟩
abbrev mt6 : MethodName := ⟨"com/example/tightfold/tightfold/FocusFiltering$PartialCover", "fewest", "()I"⟩
abbrev mt7 : MethodName := ⟨"com/example/tightfold/tightfold/FocusFiltering$PartialCover", "offerExtension", "(Lcom/example/tightfold/tightfold/FocusFiltering$Run;Lcom/example/tightfold/tightfold/FocusFiltering$Run;II)V"⟩
abbrev mt8 : MethodName := ⟨"com/example/tightfold/tightfold/FocusFiltering$PartialCover", "extend", "(ZZI)V"⟩
abbrev mt9 : MethodName := ⟨"com/example/tightfold/tightfold/FocusFiltering$PartialCover", "<init>", "(II)V"⟩
abbrev mt10 : MethodName := ⟨"com/example/tightfold/tightfold/FocusFiltering", "<init>", "(II)V"⟩
abbrev mt11 : MethodName := ⟨"com/example/tightfold/tightfold/FocusFiltering", "fewestRuns", "([Z[ZI)I"⟩
abbrev mt12 : MethodName := ⟨"com/example/tightfold/tightfold/FocusFiltering", "joins", "(ILcom/example/tightfold/tightfold/FocusFiltering$Run;II)Z"⟩
abbrev mt13 : MethodName := ⟨"com/example/tightfold/tightfold/FocusFiltering", "filter", "([Z[ZII)I"⟩
abbrev mt14 : MethodName := ⟨"com/example/tightfold/tightfold/FocusFilteringFilterPinLaw", "step", "([IIIII)V"⟩
abbrev mt15 : MethodName := ⟨"com/example/tightfold/tightfold/FocusFilteringFilterPinLaw", "cost", "(III)I"⟩
abbrev mt16 : MethodName := ⟨"com/example/tightfold/tightfold/FocusFilteringFilterPinLaw", "visit", "([IIIIIII)V"⟩
abbrev mt17 : MethodName := ⟨"com/example/tightfold/tightfold/FocusFilteringFilterPinLaw", "same", "([ZI)Z"⟩
theorem d5_0 : decode jdk_29_method_69_code 0 = .ok (.iload_n 0, 1) := by decide +kernel
theorem d5_1 : decode jdk_29_method_69_code 1 = .ok (.iload_n 1, 1) := by decide +kernel
theorem d5_2 : decode jdk_29_method_69_code 2 = .ok (.if_icmp .gt 7, 3) := by decide +kernel
theorem d5_9 : decode jdk_29_method_69_code 9 = .ok (.iload_n 1, 1) := by decide +kernel
theorem d5_10 : decode jdk_29_method_69_code 10 = .ok (.ireturn, 1) := by decide +kernel
theorem d5_5 : decode jdk_29_method_69_code 5 = .ok (.iload_n 0, 1) := by decide +kernel
theorem d5_6 : decode jdk_29_method_69_code 6 = .ok (.goto 4, 3) := by decide +kernel
def f5 (p1 : Int32) (p2 : Int32) : Int32 := (if p2 < p1 then p2 else p1)
def Q5 (p1 : Int32) (p2 : Int32) (h0 : Heap) (n0 : Nat) (v : Option Value) (h : Heap) (L : List Loc) : Prop := v = some (.int (f5 p1 p2)) ∧ Fr n0 L ∧ h = h0
def rmR5 : Room := { frames := 0, cells := 0, slots := 0, locals := 0 }
theorem ef_5 (m : MethodId) (p1 : Int32) (p2 : Int32) : entryFrame m #[(.int p1), (.int p2)] 2 = mkF m 0 #[.val (.int p1), .val (.int p2)] [] := by first | (simp [entryFrame, mkF, argsToLocals, Value.category]; done) | rfl
set_option maxRecDepth 65536 in
set_option maxHeartbeats 40000000 in
theorem rm5 (l : Launch) (Z : State) (a0 : Array Value) (hw : ∀ d ∈ tables_1, d.before a0 Z = true) (ws : List Jvm.Cond) (p1 : Int32) (p2 : Int32) (h0 : Heap) (n0 : Nat) :
    Mt l Z mt1 (Jvm.Cond.code mt1 jdk_29_method_69_code 2 (some .int) :: ws) rmR5 #[(.int p1), (.int p2)] h0 (Q5 p1 p2 h0 n0) := by
  refine Mt.of n0 (Jvm.Free.JP.mathPlain rfl (by decide +kernel)) ?_
  intro p e s m below meth c T0 X0 hx hZ hby hml hown hret hlk hnm hs0
  have hown : s.vm.findClass "java/lang/Math" = some m.cls := hown
  rw [ef_5]
  show Rt p e below s rmR5.cells rmR5.slots (Q5 p1 p2 h0 n0) (T0.setTop (mkF m 0 #[.val (.int p1), .val (.int p2)] []))
  refine Rt.iloadN (pc' := 1) X0 hx (hb hby d5_0) rfl rfl ?_
  refine Rt.iloadN (pc' := 2) X0 hx (hb hby d5_1) rfl rfl ?_
  by_cases hc2_1 : p2 < p1
  · refine Rt.icmpY (pc' := 9) X0 hx (hb hby d5_2) (tlt hc2_1).2.2.1 (by decide) (by decide) ?_
    refine Rt.iloadN (pc' := 10) X0 hx (hb hby d5_9) rfl rfl ?_
    exact Rt.retI X0 hx hlk hret (hb hby d5_10) (by decide) (by decide) (fun L N => ⟨congrArg some (congrArg Value.int (by rw [f5, if_pos hc2_1])), N, rfl⟩)
  · refine Rt.icmpN (pc' := 5) X0 hx (hb hby d5_2) (flt hc2_1).2.2.1 rfl ?_
    refine Rt.iloadN (pc' := 6) X0 hx (hb hby d5_5) rfl rfl ?_
    refine Rt.goto (pc' := 10) X0 hx (hb hby d5_6) (by decide) (by decide) ?_
    exact Rt.retI X0 hx hlk hret (hb hby d5_10) (by decide) (by decide) (fun L N => ⟨congrArg some (congrArg Value.int (by rw [f5, if_neg hc2_1])), N, rfl⟩)
theorem d1_0 : decode jdk_29_method_65_code 0 = .ok (.iload_n 0, 1) := by decide +kernel
theorem d1_1 : decode jdk_29_method_65_code 1 = .ok (.iload_n 1, 1) := by decide +kernel
theorem d1_2 : decode jdk_29_method_65_code 2 = .ok (.if_icmp .lt 7, 3) := by decide +kernel
theorem d1_9 : decode jdk_29_method_65_code 9 = .ok (.iload_n 1, 1) := by decide +kernel
theorem d1_10 : decode jdk_29_method_65_code 10 = .ok (.ireturn, 1) := by decide +kernel
theorem d1_5 : decode jdk_29_method_65_code 5 = .ok (.iload_n 0, 1) := by decide +kernel
theorem d1_6 : decode jdk_29_method_65_code 6 = .ok (.goto 4, 3) := by decide +kernel
def f1 (p1 : Int32) (p2 : Int32) : Int32 := (if p1 < p2 then p2 else p1)
def Q1 (p1 : Int32) (p2 : Int32) (h0 : Heap) (n0 : Nat) (v : Option Value) (h : Heap) (L : List Loc) : Prop := v = some (.int (f1 p1 p2)) ∧ Fr n0 L ∧ h = h0
def rmR1 : Room := { frames := 0, cells := 0, slots := 0, locals := 0 }
theorem ef_1 (m : MethodId) (p1 : Int32) (p2 : Int32) : entryFrame m #[(.int p1), (.int p2)] 2 = mkF m 0 #[.val (.int p1), .val (.int p2)] [] := by first | (simp [entryFrame, mkF, argsToLocals, Value.category]; done) | rfl
set_option maxRecDepth 65536 in
set_option maxHeartbeats 40000000 in
theorem rm1 (l : Launch) (Z : State) (a0 : Array Value) (hw : ∀ d ∈ tables_1, d.before a0 Z = true) (ws : List Jvm.Cond) (p1 : Int32) (p2 : Int32) (h0 : Heap) (n0 : Nat) :
    Mt l Z mt2 (Jvm.Cond.code mt2 jdk_29_method_65_code 2 (some .int) :: ws) rmR1 #[(.int p1), (.int p2)] h0 (Q1 p1 p2 h0 n0) := by
  refine Mt.of n0 (Jvm.Free.JP.mathPlain rfl (by decide +kernel)) ?_
  intro p e s m below meth c T0 X0 hx hZ hby hml hown hret hlk hnm hs0
  have hown : s.vm.findClass "java/lang/Math" = some m.cls := hown
  rw [ef_1]
  show Rt p e below s rmR1.cells rmR1.slots (Q1 p1 p2 h0 n0) (T0.setTop (mkF m 0 #[.val (.int p1), .val (.int p2)] []))
  refine Rt.iloadN (pc' := 1) X0 hx (hb hby d1_0) rfl rfl ?_
  refine Rt.iloadN (pc' := 2) X0 hx (hb hby d1_1) rfl rfl ?_
  by_cases hc2_1 : p1 < p2
  · refine Rt.icmpY (pc' := 9) X0 hx (hb hby d1_2) (tlt hc2_1).1 (by decide) (by decide) ?_
    refine Rt.iloadN (pc' := 10) X0 hx (hb hby d1_9) rfl rfl ?_
    exact Rt.retI X0 hx hlk hret (hb hby d1_10) (by decide) (by decide) (fun L N => ⟨congrArg some (congrArg Value.int (by rw [f1, if_pos hc2_1])), N, rfl⟩)
  · refine Rt.icmpN (pc' := 5) X0 hx (hb hby d1_2) (flt hc2_1).1 rfl ?_
    refine Rt.iloadN (pc' := 6) X0 hx (hb hby d1_5) rfl rfl ?_
    refine Rt.goto (pc' := 10) X0 hx (hb hby d1_6) (by decide) (by decide) ?_
    exact Rt.retI X0 hx hlk hret (hb hby d1_10) (by decide) (by decide) (fun L N => ⟨congrArg some (congrArg Value.int (by rw [f1, if_neg hc2_1])), N, rfl⟩)
theorem d11_0 : decode prog_5_method_1_code 0 = .ok (.aload_n 0, 1) := by decide +kernel
theorem d11_1 : decode prog_5_method_1_code 1 = .ok (.invokespecial 1, 3) := by decide +kernel
theorem d11_4 : decode prog_5_method_1_code 4 = .ok (.return_, 1) := by decide +kernel
def Q11 (a1 : Addr) (h0 : Heap) (n0 : Nat) (v : Option Value) (h : Heap) (L : List Loc) : Prop := v = none ∧ Fr n0 L ∧ h = h0
def rmR11 : Room := { frames := 1, cells := 0, slots := 0, locals := 12 }
theorem ef_11 (m : MethodId) (a1 : Addr) : entryFrame m #[(.ref a1)] 1 = mkF m 0 #[.val (.ref a1)] [] := by first | (simp [entryFrame, mkF, argsToLocals, Value.category]; done) | rfl
theorem pn_com_example_tightfold_tightfold_FocusFiltering_Run : plainName "com/example/tightfold/tightfold/FocusFiltering$Run" = true := by first | (simp [plainName, overriddenIn]; done) | decide +kernel
set_option maxRecDepth 65536 in
set_option maxHeartbeats 40000000 in
theorem rm11 (l : Launch) (Z : State) (a0 : Array Value) (hw : ∀ d ∈ tables_1, d.before a0 Z = true) (ws : List Jvm.Cond) (a1 : Addr) (h0 : Heap) (n0 : Nat) :
    Mt l Z mt3 (Jvm.Cond.code mt3 prog_5_method_1_code 1 none :: ws) rmR11 #[(.ref a1)] h0 (Q11 a1 h0 n0) := by
  refine Mt.of n0 (plainFor_of_name pn_com_example_tightfold_tightfold_FocusFiltering_Run) ?_
  intro p e s m below meth c T0 X0 hx hZ hby hml hown hret hlk hnm hs0
  have hown : s.vm.findClass "com/example/tightfold/tightfold/FocusFiltering$Run" = some m.cls := hown
  rw [ef_11]
  show Rt p e below s rmR11.cells rmR11.slots (Q11 a1 h0 n0) (T0.setTop (mkF m 0 #[.val (.ref a1)] []))
  refine Rt.aloadN (pc' := 1) X0 hx (hb hby d11_0) rfl rfl rfl ?_
  refine Rt.initO (pc' := 4) X0 hx hZ hown (own_g hw 70 rfl) (own_g hw 27 rfl) (own_g hw 28 rfl) (by rw [hml]; rfl) (hb hby d11_1) (by decide) (W := 0) (Nat.le_of_eq rfl) (by decide) rfl ?_
  intro T1 X1
  exact Rt.retV X1 hx hlk hret (hb hby d11_4) (by decide) (by decide) (fun L N => ⟨rfl, N, rfl⟩)
theorem d12_0 : decode prog_5_method_2_code 0 = .ok (.aload_n 0, 1) := by decide +kernel
theorem d12_1 : decode prog_5_method_2_code 1 = .ok (.iload_n 1, 1) := by decide +kernel
theorem d12_2 : decode prog_5_method_2_code 2 = .ok (.putfield 7, 3) := by decide +kernel
theorem d12_5 : decode prog_5_method_2_code 5 = .ok (.aload_n 0, 1) := by decide +kernel
theorem d12_6 : decode prog_5_method_2_code 6 = .ok (.iconst 0, 1) := by decide +kernel
theorem d12_7 : decode prog_5_method_2_code 7 = .ok (.putfield 13, 3) := by decide +kernel
theorem d12_10 : decode prog_5_method_2_code 10 = .ok (.aload_n 0, 1) := by decide +kernel
theorem d12_11 : decode prog_5_method_2_code 11 = .ok (.iconst 0, 1) := by decide +kernel
theorem d12_12 : decode prog_5_method_2_code 12 = .ok (.putfield 16, 3) := by decide +kernel
theorem d12_15 : decode prog_5_method_2_code 15 = .ok (.return_, 1) := by decide +kernel
def Q12 (Z : State) (a1 : Addr) (p2 : Int32) (x : Int32) (y : Int32) (z : Int32) (h0 : Heap) (n0 : Nat) (v : Option Value) (h : Heap) (L : List Loc) : Prop := v = none ∧ Fr n0 L ∧ Keep h0 h [a1] ∧ Exa Z h a1 nm1 ∧ Fld Z h a1 nm1 "runs" "I" (.int p2) ∧ Fld Z h a1 nm1 "length" "I" (.int (0 : Int32)) ∧ Fld Z h a1 nm1 "lows" "I" (.int (0 : Int32))
def rmR12 : Room := { frames := 0, cells := 0, slots := 0, locals := 0 }
theorem ef_12 (m : MethodId) (a1 : Addr) (p2 : Int32) : entryFrame m #[(.ref a1), (.int p2)] 2 = mkF m 0 #[.val (.ref a1), .val (.int p2)] [] := by first | (simp [entryFrame, mkF, argsToLocals, Value.category]; done) | rfl
set_option maxRecDepth 65536 in
set_option maxHeartbeats 40000000 in
theorem rm12 (l : Launch) (Z : State) (a0 : Array Value) (hw : ∀ d ∈ tables_1, d.before a0 Z = true) (ws : List Jvm.Cond) (a1 : Addr) (p2 : Int32) (x : Int32) (y : Int32) (z : Int32) (h0 : Heap) (n0 : Nat) (Z0 : n0 ≤ h0.size) (F_E_a1 : Exa Z h0 a1 nm1) (F_F_a1_runs : Fld Z h0 a1 nm1 "runs" "I" (.int x)) (F_F_a1_length : Fld Z h0 a1 nm1 "length" "I" (.int y)) (F_F_a1_lows : Fld Z h0 a1 nm1 "lows" "I" (.int z)) (g_a1 : n0 ≤ a1) :
    Mt l Z mt4 (Jvm.Cond.code mt4 prog_5_method_2_code 2 none :: ws) rmR12 #[(.ref a1), (.int p2)] h0 (Q12 Z a1 p2 x y z h0 n0) := by
  refine Mt.of n0 (plainFor_of_name pn_com_example_tightfold_tightfold_FocusFiltering_Run) ?_
  intro p e s m below meth c T0 X0 hx hZ hby hml hown hret hlk hnm hs0
  have Sl0 := slot_ne (Or.inl (own_g hw 93 rfl)) (Or.inl (own_g hw 91 rfl)) (by decide) (t := .int) (t' := .int) (by decide) (by decide)
  have Sl1 := slot_ne (Or.inl (own_g hw 95 rfl)) (Or.inl (own_g hw 91 rfl)) (by decide) (t := .int) (t' := .int) (by decide) (by decide)
  have Sl2 := slot_ne (Or.inl (own_g hw 91 rfl)) (Or.inl (own_g hw 93 rfl)) (by decide) (t := .int) (t' := .int) (by decide) (by decide)
  have Sl3 := slot_ne (Or.inl (own_g hw 95 rfl)) (Or.inl (own_g hw 93 rfl)) (by decide) (t := .int) (t' := .int) (by decide) (by decide)
  have Sl4 := slot_ne (Or.inl (own_g hw 91 rfl)) (Or.inl (own_g hw 95 rfl)) (by decide) (t := .int) (t' := .int) (by decide) (by decide)
  have Sl5 := slot_ne (Or.inl (own_g hw 93 rfl)) (Or.inl (own_g hw 95 rfl)) (by decide) (t := .int) (t' := .int) (by decide) (by decide)
  have hown : s.vm.findClass "com/example/tightfold/tightfold/FocusFiltering$Run" = some m.cls := hown
  rw [ef_12]
  show Rt p e below s rmR12.cells rmR12.slots (Q12 Z a1 p2 x y z h0 n0) (T0.setTop (mkF m 0 #[.val (.ref a1), .val (.int p2)] []))
  refine Rt.aloadN (pc' := 1) X0 hx (hb hby d12_0) rfl rfl rfl ?_
  refine Rt.iloadN (pc' := 2) X0 hx (hb hby d12_1) rfl rfl ?_
  refine Rt.putF (pc' := 5) (v := (.int p2)) X0 hx hZ hown (host := "") (Or.inl (own_g hw 90 rfl)) F_F_a1_runs F_E_a1 (Or.inl (own_g hw 91 rfl)) (own_g hw 65 rfl) (ty := .int) (by decide) rfl rfl g_a1 (hb hby d12_2) rfl ?_
  intro T1 h1 X1 W1 F1
  have F2 := F_E_a1.wr W1
  have F3 := F_F_a1_length.other W1 (Or.inr Sl0)
  have F4 := F_F_a1_lows.other W1 (Or.inr Sl1)
  have K5 := (Keep.refl h0 [a1]).wr W1 (Or.inl (List.mem_of_getElem? (i := 0) rfl))
  have Z6 := Nat.le_trans Z0 (Keep.of_wr W1).1
  refine Rt.aloadN (pc' := 6) X1 hx (hb hby d12_5) rfl rfl rfl ?_
  refine Rt.iconst (pc' := 7) (v := (0 : Int32)) X1 hx (hb hby d12_6) rfl rfl ?_
  refine Rt.putF (pc' := 10) (v := (.int (0 : Int32))) X1 hx hZ hown (host := "") (Or.inl (own_g hw 92 rfl)) F3 F2 (Or.inl (own_g hw 93 rfl)) (own_g hw 65 rfl) (ty := .int) (by decide) rfl rfl g_a1 (hb hby d12_7) rfl ?_
  intro T7 h7 X7 W7 F7
  have F8 := F2.wr W7
  have F9 := F1.other W7 (Or.inr Sl2)
  have F10 := F4.other W7 (Or.inr Sl3)
  have K11 := K5.wr W7 (Or.inl (List.mem_of_getElem? (i := 0) rfl))
  have Z12 := Nat.le_trans Z6 (Keep.of_wr W7).1
  refine Rt.aloadN (pc' := 11) X7 hx (hb hby d12_10) rfl rfl rfl ?_
  refine Rt.iconst (pc' := 12) (v := (0 : Int32)) X7 hx (hb hby d12_11) rfl rfl ?_
  refine Rt.putF (pc' := 15) (v := (.int (0 : Int32))) X7 hx hZ hown (host := "") (Or.inl (own_g hw 94 rfl)) F10 F8 (Or.inl (own_g hw 95 rfl)) (own_g hw 65 rfl) (ty := .int) (by decide) rfl rfl g_a1 (hb hby d12_12) rfl ?_
  intro T13 h13 X13 W13 F13
  have F14 := F8.wr W13
  have F15 := F9.other W13 (Or.inr Sl4)
  have F16 := F7.other W13 (Or.inr Sl5)
  have K17 := K11.wr W13 (Or.inl (List.mem_of_getElem? (i := 0) rfl))
  have Z18 := Nat.le_trans Z12 (Keep.of_wr W13).1
  exact Rt.retV X13 hx hlk hret (hb hby d12_15) (by decide) (by decide) (fun L N => ⟨rfl, N, K17, F14, F15, F16, F13⟩)
theorem d17_0 : decode prog_5_method_3_code 0 = .ok (.iload_n 1, 1) := by decide +kernel
theorem d17_1 : decode prog_5_method_3_code 1 = .ok (.aload_n 0, 1) := by decide +kernel
theorem d17_2 : decode prog_5_method_3_code 2 = .ok (.getfield 7, 3) := by decide +kernel
theorem d17_67 : decode prog_5_method_3_code 67 = .ok (.iload 4, 2) := by decide +kernel
theorem d17_69 : decode prog_5_method_3_code 69 = .ok (.ifCond .eq 18, 3) := by decide +kernel
theorem d17_87 : decode prog_5_method_3_code 87 = .ok (.return_, 1) := by decide +kernel
theorem d17_72 : decode prog_5_method_3_code 72 = .ok (.aload_n 0, 1) := by decide +kernel
theorem d17_73 : decode prog_5_method_3_code 73 = .ok (.iload_n 1, 1) := by decide +kernel
theorem d17_74 : decode prog_5_method_3_code 74 = .ok (.putfield 7, 3) := by decide +kernel
theorem d17_77 : decode prog_5_method_3_code 77 = .ok (.aload_n 0, 1) := by decide +kernel
theorem d17_78 : decode prog_5_method_3_code 78 = .ok (.iload_n 2, 1) := by decide +kernel
theorem d17_79 : decode prog_5_method_3_code 79 = .ok (.putfield 13, 3) := by decide +kernel
theorem d17_82 : decode prog_5_method_3_code 82 = .ok (.aload_n 0, 1) := by decide +kernel
theorem d17_83 : decode prog_5_method_3_code 83 = .ok (.iload_n 3, 1) := by decide +kernel
theorem d17_84 : decode prog_5_method_3_code 84 = .ok (.putfield 16, 3) := by decide +kernel
theorem d17_5 : decode prog_5_method_3_code 5 = .ok (.if_icmp .eq 21, 3) := by decide +kernel
theorem d17_26 : decode prog_5_method_3_code 26 = .ok (.iload_n 2, 1) := by decide +kernel
theorem d17_27 : decode prog_5_method_3_code 27 = .ok (.aload_n 0, 1) := by decide +kernel
theorem d17_28 : decode prog_5_method_3_code 28 = .ok (.getfield 13, 3) := by decide +kernel
theorem d17_31 : decode prog_5_method_3_code 31 = .ok (.if_icmp .eq 21, 3) := by decide +kernel
theorem d17_52 : decode prog_5_method_3_code 52 = .ok (.iload_n 3, 1) := by decide +kernel
theorem d17_53 : decode prog_5_method_3_code 53 = .ok (.aload_n 0, 1) := by decide +kernel
theorem d17_54 : decode prog_5_method_3_code 54 = .ok (.getfield 16, 3) := by decide +kernel
theorem d17_65 : decode prog_5_method_3_code 65 = .ok (.istore 4, 2) := by decide +kernel
theorem d17_57 : decode prog_5_method_3_code 57 = .ok (.if_icmp .ge 7, 3) := by decide +kernel
theorem d17_60 : decode prog_5_method_3_code 60 = .ok (.iconst 1, 1) := by decide +kernel
theorem d17_61 : decode prog_5_method_3_code 61 = .ok (.goto 4, 3) := by decide +kernel
theorem d17_64 : decode prog_5_method_3_code 64 = .ok (.iconst 0, 1) := by decide +kernel
theorem d17_34 : decode prog_5_method_3_code 34 = .ok (.iload_n 2, 1) := by decide +kernel
theorem d17_35 : decode prog_5_method_3_code 35 = .ok (.aload_n 0, 1) := by decide +kernel
theorem d17_36 : decode prog_5_method_3_code 36 = .ok (.getfield 13, 3) := by decide +kernel
theorem d17_47 : decode prog_5_method_3_code 47 = .ok (.istore 4, 2) := by decide +kernel
theorem d17_49 : decode prog_5_method_3_code 49 = .ok (.goto 18, 3) := by decide +kernel
theorem d17_39 : decode prog_5_method_3_code 39 = .ok (.if_icmp .ge 7, 3) := by decide +kernel
theorem d17_42 : decode prog_5_method_3_code 42 = .ok (.iconst 1, 1) := by decide +kernel
theorem d17_43 : decode prog_5_method_3_code 43 = .ok (.goto 4, 3) := by decide +kernel
theorem d17_46 : decode prog_5_method_3_code 46 = .ok (.iconst 0, 1) := by decide +kernel
theorem d17_8 : decode prog_5_method_3_code 8 = .ok (.iload_n 1, 1) := by decide +kernel
theorem d17_9 : decode prog_5_method_3_code 9 = .ok (.aload_n 0, 1) := by decide +kernel
theorem d17_10 : decode prog_5_method_3_code 10 = .ok (.getfield 7, 3) := by decide +kernel
theorem d17_21 : decode prog_5_method_3_code 21 = .ok (.istore 4, 2) := by decide +kernel
theorem d17_23 : decode prog_5_method_3_code 23 = .ok (.goto 44, 3) := by decide +kernel
theorem d17_13 : decode prog_5_method_3_code 13 = .ok (.if_icmp .ge 7, 3) := by decide +kernel
theorem d17_16 : decode prog_5_method_3_code 16 = .ok (.iconst 1, 1) := by decide +kernel
theorem d17_17 : decode prog_5_method_3_code 17 = .ok (.goto 4, 3) := by decide +kernel
theorem d17_20 : decode prog_5_method_3_code 20 = .ok (.iconst 0, 1) := by decide +kernel
def f17_j65_s0 (p4 : Int32) (z : Int32) : Int32 := (if p4 < z then (1 : Int32) else (0 : Int32))
def f17_j47_s0 (p3 : Int32) (y : Int32) : Int32 := (if p3 < y then (1 : Int32) else (0 : Int32))
def f17_j21_s0 (p2 : Int32) (x : Int32) : Int32 := (if p2 < x then (1 : Int32) else (0 : Int32))
def f17_j67_l4 (p2 : Int32) (p3 : Int32) (p4 : Int32) (x : Int32) (y : Int32) (z : Int32) : Int32 := (if p2 = x then (if p3 = y then (f17_j65_s0 p4 z) else (f17_j47_s0 p3 y)) else (f17_j21_s0 p2 x))
def f17_o_F_a1_runs_0 (p2 : Int32) (p3 : Int32) (p4 : Int32) (x : Int32) (y : Int32) (z : Int32) : Int32 := (if (f17_j67_l4 p2 p3 p4 x y z) = (0 : Int32) then x else p2)
def f17_o_F_a1_length_0 (p2 : Int32) (p3 : Int32) (p4 : Int32) (x : Int32) (y : Int32) (z : Int32) : Int32 := (if (f17_j67_l4 p2 p3 p4 x y z) = (0 : Int32) then y else p3)
def f17_o_F_a1_lows_0 (p2 : Int32) (p3 : Int32) (p4 : Int32) (x : Int32) (y : Int32) (z : Int32) : Int32 := (if (f17_j67_l4 p2 p3 p4 x y z) = (0 : Int32) then z else p4)
def Q17 (Z : State) (a1 : Addr) (p2 : Int32) (p3 : Int32) (p4 : Int32) (x : Int32) (y : Int32) (z : Int32) (h0 : Heap) (n0 : Nat) (v : Option Value) (h : Heap) (L : List Loc) : Prop := v = none ∧ Fr n0 L ∧ Keep h0 h [a1] ∧ Exa Z h a1 nm1 ∧ Fld Z h a1 nm1 "runs" "I" (.int (f17_o_F_a1_runs_0 p2 p3 p4 x y z)) ∧ Fld Z h a1 nm1 "length" "I" (.int (f17_o_F_a1_length_0 p2 p3 p4 x y z)) ∧ Fld Z h a1 nm1 "lows" "I" (.int (f17_o_F_a1_lows_0 p2 p3 p4 x y z))
def rmR17 : Room := { frames := 0, cells := 0, slots := 0, locals := 0 }
theorem ef_17 (m : MethodId) (a1 : Addr) (p2 : Int32) (p3 : Int32) (p4 : Int32) : entryFrame m #[(.ref a1), (.int p2), (.int p3), (.int p4)] 5 = mkF m 0 #[.val (.ref a1), .val (.int p2), .val (.int p3), .val (.int p4), .unset] [] := by first | (simp [entryFrame, mkF, argsToLocals, Value.category]; done) | rfl
set_option maxRecDepth 65536 in
set_option maxHeartbeats 40000000 in
theorem rm17 (l : Launch) (Z : State) (a0 : Array Value) (hw : ∀ d ∈ tables_1, d.before a0 Z = true) (ws : List Jvm.Cond) (a1 : Addr) (p2 : Int32) (p3 : Int32) (p4 : Int32) (x : Int32) (y : Int32) (z : Int32) (h0 : Heap) (n0 : Nat) (Z0 : n0 ≤ h0.size) (F_E_a1 : Exa Z h0 a1 nm1) (F_F_a1_runs : Fld Z h0 a1 nm1 "runs" "I" (.int x)) (F_F_a1_length : Fld Z h0 a1 nm1 "length" "I" (.int y)) (F_F_a1_lows : Fld Z h0 a1 nm1 "lows" "I" (.int z)) (g_a1 : n0 ≤ a1) :
    Mt l Z mt5 (Jvm.Cond.code mt5 prog_5_method_3_code 5 none :: ws) rmR17 #[(.ref a1), (.int p2), (.int p3), (.int p4)] h0 (Q17 Z a1 p2 p3 p4 x y z h0 n0) := by
  refine Mt.of n0 (plainFor_of_name pn_com_example_tightfold_tightfold_FocusFiltering_Run) ?_
  intro p e s m below meth c T0 X0 hx hZ hby hml hown hret hlk hnm hs0
  have Sl0 := slot_ne (Or.inl (own_g hw 93 rfl)) (Or.inl (own_g hw 91 rfl)) (by decide) (t := .int) (t' := .int) (by decide) (by decide)
  have Sl1 := slot_ne (Or.inl (own_g hw 95 rfl)) (Or.inl (own_g hw 91 rfl)) (by decide) (t := .int) (t' := .int) (by decide) (by decide)
  have Sl2 := slot_ne (Or.inl (own_g hw 91 rfl)) (Or.inl (own_g hw 93 rfl)) (by decide) (t := .int) (t' := .int) (by decide) (by decide)
  have Sl3 := slot_ne (Or.inl (own_g hw 95 rfl)) (Or.inl (own_g hw 93 rfl)) (by decide) (t := .int) (t' := .int) (by decide) (by decide)
  have Sl4 := slot_ne (Or.inl (own_g hw 91 rfl)) (Or.inl (own_g hw 95 rfl)) (by decide) (t := .int) (t' := .int) (by decide) (by decide)
  have Sl5 := slot_ne (Or.inl (own_g hw 93 rfl)) (Or.inl (own_g hw 95 rfl)) (by decide) (t := .int) (t' := .int) (by decide) (by decide)
  have hown : s.vm.findClass "com/example/tightfold/tightfold/FocusFiltering$Run" = some m.cls := hown
  rw [ef_17]
  show Rt p e below s rmR17.cells rmR17.slots (Q17 Z a1 p2 p3 p4 x y z h0 n0) (T0.setTop (mkF m 0 #[.val (.ref a1), .val (.int p2), .val (.int p3), .val (.int p4), .unset] []))
  refine Rt.iloadN (pc' := 1) X0 hx (hb hby d17_0) rfl rfl ?_
  refine Rt.aloadN (pc' := 2) X0 hx (hb hby d17_1) rfl rfl rfl ?_
  refine Rt.getF (pc' := 5) (v := (.int x)) X0 hx hZ hown (host := "") (Or.inl (own_g hw 90 rfl)) F_F_a1_runs (hb hby d17_2) rfl ?_
  intro T1 X1
  have J5_2 : ∀ T2  , Sd p l e rmR17 s m #[(.ref a1), (.int p2), (.int p3), (.int p4)] below meth c T2 n0 0 0 h0 → Rt p e below s rmR17.cells rmR17.slots (Q17 Z a1 p2 p3 p4 x y z h0 n0) (T2.setTop (mkF m 67 #[.val (.ref a1), .val (.int p2), .val (.int p3), .val (.int p4), .val (.int (f17_j67_l4 p2 p3 p4 x y z))] [])) := by
    intro T2   X2 
    refine Rt.iload (pc' := 69) X2 hx (hb hby d17_67) rfl rfl ?_
    by_cases hc69_3 : (f17_j67_l4 p2 p3 p4 x y z) = (0 : Int32)
    · refine Rt.ifY (pc' := 87) X2 hx (hb hby d17_69) ((if0 _ _).trans (teq hc69_3).1) (by decide) (by decide) ?_
      have F4 : Fld Z h0 a1 nm1 "runs" "I" (.int (f17_o_F_a1_runs_0 p2 p3 p4 x y z)) := by rw [show (f17_o_F_a1_runs_0 p2 p3 p4 x y z) = x from by rw [f17_o_F_a1_runs_0, if_pos hc69_3]]; exact F_F_a1_runs
      have F5 : Fld Z h0 a1 nm1 "length" "I" (.int (f17_o_F_a1_length_0 p2 p3 p4 x y z)) := by rw [show (f17_o_F_a1_length_0 p2 p3 p4 x y z) = y from by rw [f17_o_F_a1_length_0, if_pos hc69_3]]; exact F_F_a1_length
      have F6 : Fld Z h0 a1 nm1 "lows" "I" (.int (f17_o_F_a1_lows_0 p2 p3 p4 x y z)) := by rw [show (f17_o_F_a1_lows_0 p2 p3 p4 x y z) = z from by rw [f17_o_F_a1_lows_0, if_pos hc69_3]]; exact F_F_a1_lows
      exact Rt.retV X2 hx hlk hret (hb hby d17_87) (by decide) (by decide) (fun L N => ⟨rfl, N, (Keep.refl h0 [a1]), F_E_a1, F4, F5, F6⟩)
    · refine Rt.ifN (pc' := 72) X2 hx (hb hby d17_69) ((if0 _ _).trans (feq hc69_3).1) rfl ?_
      refine Rt.aloadN (pc' := 73) X2 hx (hb hby d17_72) rfl rfl rfl ?_
      refine Rt.iloadN (pc' := 74) X2 hx (hb hby d17_73) rfl rfl ?_
      refine Rt.putF (pc' := 77) (v := (.int p2)) X2 hx hZ hown (host := "") (Or.inl (own_g hw 90 rfl)) F_F_a1_runs F_E_a1 (Or.inl (own_g hw 91 rfl)) (own_g hw 65 rfl) (ty := .int) (by decide) rfl rfl g_a1 (hb hby d17_74) rfl ?_
      intro T7 h7 X7 W7 F7
      have F8 := F_E_a1.wr W7
      have F9 := F_F_a1_length.other W7 (Or.inr Sl0)
      have F10 := F_F_a1_lows.other W7 (Or.inr Sl1)
      have K11 := (Keep.refl h0 [a1]).wr W7 (Or.inl (List.mem_of_getElem? (i := 0) rfl))
      have Z12 := Nat.le_trans Z0 (Keep.of_wr W7).1
      refine Rt.aloadN (pc' := 78) X7 hx (hb hby d17_77) rfl rfl rfl ?_
      refine Rt.iloadN (pc' := 79) X7 hx (hb hby d17_78) rfl rfl ?_
      refine Rt.putF (pc' := 82) (v := (.int p3)) X7 hx hZ hown (host := "") (Or.inl (own_g hw 92 rfl)) F9 F8 (Or.inl (own_g hw 93 rfl)) (own_g hw 65 rfl) (ty := .int) (by decide) rfl rfl g_a1 (hb hby d17_79) rfl ?_
      intro T13 h13 X13 W13 F13
      have F14 := F8.wr W13
      have F15 := F7.other W13 (Or.inr Sl2)
      have F16 := F10.other W13 (Or.inr Sl3)
      have K17 := K11.wr W13 (Or.inl (List.mem_of_getElem? (i := 0) rfl))
      have Z18 := Nat.le_trans Z12 (Keep.of_wr W13).1
      refine Rt.aloadN (pc' := 83) X13 hx (hb hby d17_82) rfl rfl rfl ?_
      refine Rt.iloadN (pc' := 84) X13 hx (hb hby d17_83) rfl rfl ?_
      refine Rt.putF (pc' := 87) (v := (.int p4)) X13 hx hZ hown (host := "") (Or.inl (own_g hw 94 rfl)) F16 F14 (Or.inl (own_g hw 95 rfl)) (own_g hw 65 rfl) (ty := .int) (by decide) rfl rfl g_a1 (hb hby d17_84) rfl ?_
      intro T19 h19 X19 W19 F19
      have F20 := F14.wr W19
      have F21 := F15.other W19 (Or.inr Sl4)
      have F22 := F13.other W19 (Or.inr Sl5)
      have K23 := K17.wr W19 (Or.inl (List.mem_of_getElem? (i := 0) rfl))
      have Z24 := Nat.le_trans Z18 (Keep.of_wr W19).1
      have F25 : Fld Z h19 a1 nm1 "runs" "I" (.int (f17_o_F_a1_runs_0 p2 p3 p4 x y z)) := by rw [show (f17_o_F_a1_runs_0 p2 p3 p4 x y z) = p2 from by rw [f17_o_F_a1_runs_0, if_neg hc69_3]]; exact F21
      have F26 : Fld Z h19 a1 nm1 "length" "I" (.int (f17_o_F_a1_length_0 p2 p3 p4 x y z)) := by rw [show (f17_o_F_a1_length_0 p2 p3 p4 x y z) = p3 from by rw [f17_o_F_a1_length_0, if_neg hc69_3]]; exact F22
      have F27 : Fld Z h19 a1 nm1 "lows" "I" (.int (f17_o_F_a1_lows_0 p2 p3 p4 x y z)) := by rw [show (f17_o_F_a1_lows_0 p2 p3 p4 x y z) = p4 from by rw [f17_o_F_a1_lows_0, if_neg hc69_3]]; exact F19
      exact Rt.retV X19 hx hlk hret (hb hby d17_87) (by decide) (by decide) (fun L N => ⟨rfl, N, K23, F20, F25, F26, F27⟩)
  by_cases hc5_28 : p2 = x
  · refine Rt.icmpY (pc' := 26) X1 hx (hb hby d17_5) (teq hc5_28).1 (by decide) (by decide) ?_
    refine Rt.iloadN (pc' := 27) X1 hx (hb hby d17_26) rfl rfl ?_
    refine Rt.aloadN (pc' := 28) X1 hx (hb hby d17_27) rfl rfl rfl ?_
    refine Rt.getF (pc' := 31) (v := (.int y)) X1 hx hZ hown (host := "") (Or.inl (own_g hw 92 rfl)) F_F_a1_length (hb hby d17_28) rfl ?_
    intro T29 X29
    by_cases hc31_30 : p3 = y
    · refine Rt.icmpY (pc' := 52) X29 hx (hb hby d17_31) (teq hc31_30).1 (by decide) (by decide) ?_
      refine Rt.iloadN (pc' := 53) X29 hx (hb hby d17_52) rfl rfl ?_
      refine Rt.aloadN (pc' := 54) X29 hx (hb hby d17_53) rfl rfl rfl ?_
      refine Rt.getF (pc' := 57) (v := (.int z)) X29 hx hZ hown (host := "") (Or.inl (own_g hw 94 rfl)) F_F_a1_lows (hb hby d17_54) rfl ?_
      intro T31 X31
      have J57_32 : ∀ T32  , Sd p l e rmR17 s m #[(.ref a1), (.int p2), (.int p3), (.int p4)] below meth c T32 n0 0 0 h0 → Rt p e below s rmR17.cells rmR17.slots (Q17 Z a1 p2 p3 p4 x y z h0 n0) (T32.setTop (mkF m 65 #[.val (.ref a1), .val (.int p2), .val (.int p3), .val (.int p4), .unset] [(.int (f17_j65_s0 p4 z))])) := by
        intro T32   X32 
        refine Rt.istore (pc' := 67) (v := (f17_j65_s0 p4 z)) (l' := #[.val (.ref a1), .val (.int p2), .val (.int p3), .val (.int p4), .val (.int (f17_j65_s0 p4 z))]) X32 hx (hb hby d17_65) rfl rfl ?_
        have q := J5_2 T32   X32
        rw [show (f17_j67_l4 p2 p3 p4 x y z) = (f17_j65_s0 p4 z) from by rw [f17_j67_l4, if_pos hc5_28, if_pos hc31_30]] at q
        exact q
      by_cases hc57_33 : p4 < z
      · refine Rt.icmpN (pc' := 60) X31 hx (hb hby d17_57) (tlt hc57_33).2.1 rfl ?_
        refine Rt.iconst (pc' := 61) (v := (1 : Int32)) X31 hx (hb hby d17_60) rfl rfl ?_
        refine Rt.goto (pc' := 65) X31 hx (hb hby d17_61) (by decide) (by decide) ?_
        have q := J57_32 T31   X31
        rw [show (f17_j65_s0 p4 z) = (1 : Int32) from by rw [f17_j65_s0, if_pos hc57_33]] at q
        exact q
      · refine Rt.icmpY (pc' := 64) X31 hx (hb hby d17_57) (flt hc57_33).2.1 (by decide) (by decide) ?_
        refine Rt.iconst (pc' := 65) (v := (0 : Int32)) X31 hx (hb hby d17_64) rfl rfl ?_
        have q := J57_32 T31   X31
        rw [show (f17_j65_s0 p4 z) = (0 : Int32) from by rw [f17_j65_s0, if_neg hc57_33]] at q
        exact q
    · refine Rt.icmpN (pc' := 34) X29 hx (hb hby d17_31) (feq hc31_30).1 rfl ?_
      refine Rt.iloadN (pc' := 35) X29 hx (hb hby d17_34) rfl rfl ?_
      refine Rt.aloadN (pc' := 36) X29 hx (hb hby d17_35) rfl rfl rfl ?_
      refine Rt.getF (pc' := 39) (v := (.int y)) X29 hx hZ hown (host := "") (Or.inl (own_g hw 92 rfl)) F_F_a1_length (hb hby d17_36) rfl ?_
      intro T34 X34
      have J39_35 : ∀ T35  , Sd p l e rmR17 s m #[(.ref a1), (.int p2), (.int p3), (.int p4)] below meth c T35 n0 0 0 h0 → Rt p e below s rmR17.cells rmR17.slots (Q17 Z a1 p2 p3 p4 x y z h0 n0) (T35.setTop (mkF m 47 #[.val (.ref a1), .val (.int p2), .val (.int p3), .val (.int p4), .unset] [(.int (f17_j47_s0 p3 y))])) := by
        intro T35   X35 
        refine Rt.istore (pc' := 49) (v := (f17_j47_s0 p3 y)) (l' := #[.val (.ref a1), .val (.int p2), .val (.int p3), .val (.int p4), .val (.int (f17_j47_s0 p3 y))]) X35 hx (hb hby d17_47) rfl rfl ?_
        refine Rt.goto (pc' := 67) X35 hx (hb hby d17_49) (by decide) (by decide) ?_
        have q := J5_2 T35   X35
        rw [show (f17_j67_l4 p2 p3 p4 x y z) = (f17_j47_s0 p3 y) from by rw [f17_j67_l4, if_pos hc5_28, if_neg hc31_30]] at q
        exact q
      by_cases hc39_36 : p3 < y
      · refine Rt.icmpN (pc' := 42) X34 hx (hb hby d17_39) (tlt hc39_36).2.1 rfl ?_
        refine Rt.iconst (pc' := 43) (v := (1 : Int32)) X34 hx (hb hby d17_42) rfl rfl ?_
        refine Rt.goto (pc' := 47) X34 hx (hb hby d17_43) (by decide) (by decide) ?_
        have q := J39_35 T34   X34
        rw [show (f17_j47_s0 p3 y) = (1 : Int32) from by rw [f17_j47_s0, if_pos hc39_36]] at q
        exact q
      · refine Rt.icmpY (pc' := 46) X34 hx (hb hby d17_39) (flt hc39_36).2.1 (by decide) (by decide) ?_
        refine Rt.iconst (pc' := 47) (v := (0 : Int32)) X34 hx (hb hby d17_46) rfl rfl ?_
        have q := J39_35 T34   X34
        rw [show (f17_j47_s0 p3 y) = (0 : Int32) from by rw [f17_j47_s0, if_neg hc39_36]] at q
        exact q
  · refine Rt.icmpN (pc' := 8) X1 hx (hb hby d17_5) (feq hc5_28).1 rfl ?_
    refine Rt.iloadN (pc' := 9) X1 hx (hb hby d17_8) rfl rfl ?_
    refine Rt.aloadN (pc' := 10) X1 hx (hb hby d17_9) rfl rfl rfl ?_
    refine Rt.getF (pc' := 13) (v := (.int x)) X1 hx hZ hown (host := "") (Or.inl (own_g hw 90 rfl)) F_F_a1_runs (hb hby d17_10) rfl ?_
    intro T37 X37
    have J13_38 : ∀ T38  , Sd p l e rmR17 s m #[(.ref a1), (.int p2), (.int p3), (.int p4)] below meth c T38 n0 0 0 h0 → Rt p e below s rmR17.cells rmR17.slots (Q17 Z a1 p2 p3 p4 x y z h0 n0) (T38.setTop (mkF m 21 #[.val (.ref a1), .val (.int p2), .val (.int p3), .val (.int p4), .unset] [(.int (f17_j21_s0 p2 x))])) := by
      intro T38   X38 
      refine Rt.istore (pc' := 23) (v := (f17_j21_s0 p2 x)) (l' := #[.val (.ref a1), .val (.int p2), .val (.int p3), .val (.int p4), .val (.int (f17_j21_s0 p2 x))]) X38 hx (hb hby d17_21) rfl rfl ?_
      refine Rt.goto (pc' := 67) X38 hx (hb hby d17_23) (by decide) (by decide) ?_
      have q := J5_2 T38   X38
      rw [show (f17_j67_l4 p2 p3 p4 x y z) = (f17_j21_s0 p2 x) from by rw [f17_j67_l4, if_neg hc5_28]] at q
      exact q
    by_cases hc13_39 : p2 < x
    · refine Rt.icmpN (pc' := 16) X37 hx (hb hby d17_13) (tlt hc13_39).2.1 rfl ?_
      refine Rt.iconst (pc' := 17) (v := (1 : Int32)) X37 hx (hb hby d17_16) rfl rfl ?_
      refine Rt.goto (pc' := 21) X37 hx (hb hby d17_17) (by decide) (by decide) ?_
      have q := J13_38 T37   X37
      rw [show (f17_j21_s0 p2 x) = (1 : Int32) from by rw [f17_j21_s0, if_pos hc13_39]] at q
      exact q
    · refine Rt.icmpY (pc' := 20) X37 hx (hb hby d17_13) (flt hc13_39).2.1 (by decide) (by decide) ?_
      refine Rt.iconst (pc' := 21) (v := (0 : Int32)) X37 hx (hb hby d17_20) rfl rfl ?_
      have q := J13_38 T37   X37
      rw [show (f17_j21_s0 p2 x) = (0 : Int32) from by rw [f17_j21_s0, if_neg hc13_39]] at q
      exact q
theorem d14_0 : decode prog_4_method_2_code 0 = .ok (.aload_n 0, 1) := by decide +kernel
theorem d14_1 : decode prog_4_method_2_code 1 = .ok (.getfield 32, 3) := by decide +kernel
theorem d14_4 : decode prog_4_method_2_code 4 = .ok (.aload_n 0, 1) := by decide +kernel
theorem d14_5 : decode prog_4_method_2_code 5 = .ok (.getfield 16, 3) := by decide +kernel
theorem d14_8 : decode prog_4_method_2_code 8 = .ok (.getfield 39, 3) := by decide +kernel
theorem pd_0 : parseMethodDescriptor "(II)I" = some ⟨[.int, .int], some .int⟩ := by decide +kernel
theorem d14_11 : decode prog_4_method_2_code 11 = .ok (.invokestatic 42, 3) := by decide +kernel
theorem d14_14 : decode prog_4_method_2_code 14 = .ok (.ireturn, 1) := by decide +kernel
def f14 (lo : Int32) (x2 : Int32) : Int32 := (f5 lo x2)
def Q14 (a1 : Addr) (lo : Int32) (r2 : Addr) (x2 : Int32) (h0 : Heap) (n0 : Nat) (v : Option Value) (h : Heap) (L : List Loc) : Prop := v = some (.int (f14 lo x2)) ∧ Fr n0 L ∧ h = h0
def rmR14 : Room := { frames := 1, cells := 0, slots := 0, locals := 13 }
theorem ef_14 (m : MethodId) (a1 : Addr) : entryFrame m #[(.ref a1)] 1 = mkF m 0 #[.val (.ref a1)] [] := by first | (simp [entryFrame, mkF, argsToLocals, Value.category]; done) | rfl
theorem pn_com_example_tightfold_tightfold_FocusFiltering_PartialCover : plainName "com/example/tightfold/tightfold/FocusFiltering$PartialCover" = true := by first | (simp [plainName, overriddenIn]; done) | decide +kernel
set_option maxRecDepth 65536 in
set_option maxHeartbeats 40000000 in
theorem rm14 (l : Launch) (Z : State) (a0 : Array Value) (hw : ∀ d ∈ tables_1, d.before a0 Z = true) (ws : List Jvm.Cond) (a1 : Addr) (lo : Int32) (r2 : Addr) (x2 : Int32) (h0 : Heap) (n0 : Nat) (F_F_a1_lowOut : Fld Z h0 a1 nm2 "lowOut" "I" (.int lo)) (F_F_a1_high : Fld Z h0 a1 nm2 "high" nm3 (.ref r2)) (F_F_r2_runs : Fld Z h0 r2 nm1 "runs" "I" (.int x2)) :
    Mt l Z mt6 (Jvm.Cond.code mt6 prog_4_method_2_code 1 (some .int) :: ws) rmR14 #[(.ref a1)] h0 (Q14 a1 lo r2 x2 h0 n0) := by
  refine Mt.of n0 (plainFor_of_name pn_com_example_tightfold_tightfold_FocusFiltering_PartialCover) ?_
  intro p e s m below meth c T0 X0 hx hZ hby hml hown hret hlk hnm hs0
  have hown : s.vm.findClass "com/example/tightfold/tightfold/FocusFiltering$PartialCover" = some m.cls := hown
  rw [ef_14]
  show Rt p e below s rmR14.cells rmR14.slots (Q14 a1 lo r2 x2 h0 n0) (T0.setTop (mkF m 0 #[.val (.ref a1)] []))
  refine Rt.aloadN (pc' := 1) X0 hx (hb hby d14_0) rfl rfl rfl ?_
  refine Rt.getF (pc' := 4) (v := (.int lo)) X0 hx hZ hown (host := "") (Or.inl (own_g hw 83 rfl)) F_F_a1_lowOut (hb hby d14_1) rfl ?_
  intro T1 X1
  refine Rt.aloadN (pc' := 5) X1 hx (hb hby d14_4) rfl rfl rfl ?_
  refine Rt.getF (pc' := 8) (v := (.ref r2)) X1 hx hZ hown (host := "") (Or.inl (own_g hw 73 rfl)) F_F_a1_high (hb hby d14_5) rfl ?_
  intro T2 X2
  refine Rt.getF (pc' := 11) (v := (.int x2)) X2 hx hZ hown (Or.inr (own_g hw 106 rfl)) F_F_r2_runs (hb hby d14_8) rfl ?_
  intro T3 X3
  refine Rt.callP (pc' := 14) (r := (.int (f5 lo x2))) X3 hx hZ (y := mt1) hown (own_g hw 107 rfl) (own_g hw 18 rfl) (own_g hw 3 rfl) (own_g hw 19 rfl) (by decide) (rm5 l Z a0 hw [] lo x2 h0 n0) (W := 0) (by decide) (by decide) (by decide) (by decide) rfl rfl (argsL := [(.int lo), (.int x2)]) (rest := []) (by rw [hml]; rfl) (lenOf pd_0 rfl) rfl rfl (Nat.le_of_eq rfl) (hb hby d14_11) rfl ?_
  intro T4 X4
  exact Rt.retI X4 hx hlk hret (hb hby d14_14) (by decide) (by decide) (fun L N => ⟨congrArg some (congrArg Value.int (by rw [f14])), N, rfl⟩)
theorem d15_0 : decode prog_4_method_4_code 0 = .ok (.aload_n 2, 1) := by decide +kernel
theorem d15_1 : decode prog_4_method_4_code 1 = .ok (.getfield 39, 3) := by decide +kernel
theorem d15_4 : decode prog_4_method_4_code 4 = .ok (.aload_n 0, 1) := by decide +kernel
theorem d15_5 : decode prog_4_method_4_code 5 = .ok (.getfield 25, 3) := by decide +kernel
theorem d15_8 : decode prog_4_method_4_code 8 = .ok (.if_icmp .eq 46, 3) := by decide +kernel
theorem d15_54 : decode prog_4_method_4_code 54 = .ok (.return_, 1) := by decide +kernel
theorem d15_11 : decode prog_4_method_4_code 11 = .ok (.aload_n 2, 1) := by decide +kernel
theorem d15_12 : decode prog_4_method_4_code 12 = .ok (.getfield 60, 3) := by decide +kernel
theorem d15_15 : decode prog_4_method_4_code 15 = .ok (.iload_n 3, 1) := by decide +kernel
theorem d15_16 : decode prog_4_method_4_code 16 = .ok (.if_icmp .ge 38, 3) := by decide +kernel
theorem d15_19 : decode prog_4_method_4_code 19 = .ok (.aload_n 2, 1) := by decide +kernel
theorem d15_20 : decode prog_4_method_4_code 20 = .ok (.getfield 63, 3) := by decide +kernel
theorem d15_23 : decode prog_4_method_4_code 23 = .ok (.iload 4, 2) := by decide +kernel
theorem d15_25 : decode prog_4_method_4_code 25 = .ok (.iadd, 1) := by decide +kernel
theorem d15_26 : decode prog_4_method_4_code 26 = .ok (.aload_n 0, 1) := by decide +kernel
theorem d15_27 : decode prog_4_method_4_code 27 = .ok (.getfield 29, 3) := by decide +kernel
theorem d15_30 : decode prog_4_method_4_code 30 = .ok (.if_icmp .gt 24, 3) := by decide +kernel
theorem d15_33 : decode prog_4_method_4_code 33 = .ok (.aload_n 1, 1) := by decide +kernel
theorem d15_34 : decode prog_4_method_4_code 34 = .ok (.aload_n 2, 1) := by decide +kernel
theorem d15_35 : decode prog_4_method_4_code 35 = .ok (.getfield 39, 3) := by decide +kernel
theorem d15_38 : decode prog_4_method_4_code 38 = .ok (.aload_n 2, 1) := by decide +kernel
theorem d15_39 : decode prog_4_method_4_code 39 = .ok (.getfield 60, 3) := by decide +kernel
theorem d15_42 : decode prog_4_method_4_code 42 = .ok (.iconst 1, 1) := by decide +kernel
theorem d15_43 : decode prog_4_method_4_code 43 = .ok (.iadd, 1) := by decide +kernel
theorem d15_44 : decode prog_4_method_4_code 44 = .ok (.aload_n 2, 1) := by decide +kernel
theorem d15_45 : decode prog_4_method_4_code 45 = .ok (.getfield 63, 3) := by decide +kernel
theorem d15_48 : decode prog_4_method_4_code 48 = .ok (.iload 4, 2) := by decide +kernel
theorem d15_50 : decode prog_4_method_4_code 50 = .ok (.iadd, 1) := by decide +kernel
theorem pd_1 : parseMethodDescriptor "(III)V" = some ⟨[.int, .int, .int], none⟩ := by decide +kernel
theorem d15_51 : decode prog_4_method_4_code 51 = .ok (.invokevirtual 56, 3) := by decide +kernel
def f15_a51_1 (y3 : Int32) : Int32 := (y3 + (1 : Int32))
def f15_c51_a2_runs0 (p5 : Int32) (x2 : Int32) (y2 : Int32) (z2 : Int32) (x3 : Int32) (y3 : Int32) (z3 : Int32) : Int32 := (f17_o_F_a1_runs_0 x3 (f15_a51_1 y3) (z3 + p5) x2 y2 z2)
def f15_c51_a2_length0 (p5 : Int32) (x2 : Int32) (y2 : Int32) (z2 : Int32) (x3 : Int32) (y3 : Int32) (z3 : Int32) : Int32 := (f17_o_F_a1_length_0 x3 (f15_a51_1 y3) (z3 + p5) x2 y2 z2)
def f15_c51_a2_lows0 (p5 : Int32) (x2 : Int32) (y2 : Int32) (z2 : Int32) (x3 : Int32) (y3 : Int32) (z3 : Int32) : Int32 := (f17_o_F_a1_lows_0 x3 (f15_a51_1 y3) (z3 + p5) x2 y2 z2)
def f15_o_F_a2_runs_0 (p4 : Int32) (p5 : Int32) (imp : Int32) (hm : Int32) (x2 : Int32) (y2 : Int32) (z2 : Int32) (x3 : Int32) (y3 : Int32) (z3 : Int32) : Int32 := (if x3 = imp then x2 else (if y3 < p4 then (if hm < (z3 + p5) then x2 else (f15_c51_a2_runs0 p5 x2 y2 z2 x3 y3 z3)) else x2))
def f15_o_F_a2_length_0 (p4 : Int32) (p5 : Int32) (imp : Int32) (hm : Int32) (x2 : Int32) (y2 : Int32) (z2 : Int32) (x3 : Int32) (y3 : Int32) (z3 : Int32) : Int32 := (if x3 = imp then y2 else (if y3 < p4 then (if hm < (z3 + p5) then y2 else (f15_c51_a2_length0 p5 x2 y2 z2 x3 y3 z3)) else y2))
def f15_o_F_a2_lows_0 (p4 : Int32) (p5 : Int32) (imp : Int32) (hm : Int32) (x2 : Int32) (y2 : Int32) (z2 : Int32) (x3 : Int32) (y3 : Int32) (z3 : Int32) : Int32 := (if x3 = imp then z2 else (if y3 < p4 then (if hm < (z3 + p5) then z2 else (f15_c51_a2_lows0 p5 x2 y2 z2 x3 y3 z3)) else z2))
def Q15 (Z : State) (a1 : Addr) (a2 : Addr) (a3 : Addr) (p4 : Int32) (p5 : Int32) (imp : Int32) (hm : Int32) (x2 : Int32) (y2 : Int32) (z2 : Int32) (x3 : Int32) (y3 : Int32) (z3 : Int32) (h0 : Heap) (n0 : Nat) (v : Option Value) (h : Heap) (L : List Loc) : Prop := v = none ∧ Fr n0 L ∧ Keep h0 h [a2] ∧ Exa Z h a2 nm1 ∧ Fld Z h a2 nm1 "runs" "I" (.int (f15_o_F_a2_runs_0 p4 p5 imp hm x2 y2 z2 x3 y3 z3)) ∧ Fld Z h a2 nm1 "length" "I" (.int (f15_o_F_a2_length_0 p4 p5 imp hm x2 y2 z2 x3 y3 z3)) ∧ Fld Z h a2 nm1 "lows" "I" (.int (f15_o_F_a2_lows_0 p4 p5 imp hm x2 y2 z2 x3 y3 z3))
def rmR15 : Room := { frames := 1, cells := 0, slots := 0, locals := 16 }
theorem ef_15 (m : MethodId) (a1 : Addr) (a2 : Addr) (a3 : Addr) (p4 : Int32) (p5 : Int32) : entryFrame m #[(.ref a1), (.ref a2), (.ref a3), (.int p4), (.int p5)] 5 = mkF m 0 #[.val (.ref a1), .val (.ref a2), .val (.ref a3), .val (.int p4), .val (.int p5)] [] := by first | (simp [entryFrame, mkF, argsToLocals, Value.category]; done) | rfl
set_option maxRecDepth 65536 in
set_option maxHeartbeats 40000000 in
theorem rm15 (l : Launch) (Z : State) (a0 : Array Value) (hw : ∀ d ∈ tables_1, d.before a0 Z = true) (ws : List Jvm.Cond) (a1 : Addr) (a2 : Addr) (a3 : Addr) (p4 : Int32) (p5 : Int32) (imp : Int32) (hm : Int32) (x2 : Int32) (y2 : Int32) (z2 : Int32) (x3 : Int32) (y3 : Int32) (z3 : Int32) (h0 : Heap) (n0 : Nat) (Z0 : n0 ≤ h0.size) (F_E_a1 : Exa Z h0 a1 nm2) (F_F_a1_impossible : Fld Z h0 a1 nm2 "impossible" "I" (.int imp)) (F_F_a1_h : Fld Z h0 a1 nm2 "h" "I" (.int hm)) (F_E_a2 : Exa Z h0 a2 nm1) (F_F_a2_runs : Fld Z h0 a2 nm1 "runs" "I" (.int x2)) (F_F_a2_length : Fld Z h0 a2 nm1 "length" "I" (.int y2)) (F_F_a2_lows : Fld Z h0 a2 nm1 "lows" "I" (.int z2)) (F_F_a3_runs : Fld Z h0 a3 nm1 "runs" "I" (.int x3)) (F_F_a3_length : Fld Z h0 a3 nm1 "length" "I" (.int y3)) (F_F_a3_lows : Fld Z h0 a3 nm1 "lows" "I" (.int z3)) (g_a2 : n0 ≤ a2) (ne_a2_a3 : a2 ≠ a3) (ne_a1_a2 : a1 ≠ a2) :
    Mt l Z mt7 (Jvm.Cond.code mt7 prog_4_method_4_code 5 none :: ws) rmR15 #[(.ref a1), (.ref a2), (.ref a3), (.int p4), (.int p5)] h0 (Q15 Z a1 a2 a3 p4 p5 imp hm x2 y2 z2 x3 y3 z3 h0 n0) := by
  refine Mt.of n0 (plainFor_of_name pn_com_example_tightfold_tightfold_FocusFiltering_PartialCover) ?_
  intro p e s m below meth c T0 X0 hx hZ hby hml hown hret hlk hnm hs0
  have hown : s.vm.findClass "com/example/tightfold/tightfold/FocusFiltering$PartialCover" = some m.cls := hown
  rw [ef_15]
  show Rt p e below s rmR15.cells rmR15.slots (Q15 Z a1 a2 a3 p4 p5 imp hm x2 y2 z2 x3 y3 z3 h0 n0) (T0.setTop (mkF m 0 #[.val (.ref a1), .val (.ref a2), .val (.ref a3), .val (.int p4), .val (.int p5)] []))
  refine Rt.aloadN (pc' := 1) X0 hx (hb hby d15_0) rfl rfl rfl ?_
  refine Rt.getF (pc' := 4) (v := (.int x3)) X0 hx hZ hown (Or.inr (own_g hw 106 rfl)) F_F_a3_runs (hb hby d15_1) rfl ?_
  intro T1 X1
  refine Rt.aloadN (pc' := 5) X1 hx (hb hby d15_4) rfl rfl rfl ?_
  refine Rt.getF (pc' := 8) (v := (.int imp)) X1 hx hZ hown (host := "") (Or.inl (own_g hw 79 rfl)) F_F_a1_impossible (hb hby d15_5) rfl ?_
  intro T2 X2
  by_cases hc8_3 : x3 = imp
  · refine Rt.icmpY (pc' := 54) X2 hx (hb hby d15_8) (teq hc8_3).1 (by decide) (by decide) ?_
    have F4 : Fld Z h0 a2 nm1 "runs" "I" (.int (f15_o_F_a2_runs_0 p4 p5 imp hm x2 y2 z2 x3 y3 z3)) := by rw [show (f15_o_F_a2_runs_0 p4 p5 imp hm x2 y2 z2 x3 y3 z3) = x2 from by rw [f15_o_F_a2_runs_0, if_pos hc8_3]]; exact F_F_a2_runs
    have F5 : Fld Z h0 a2 nm1 "length" "I" (.int (f15_o_F_a2_length_0 p4 p5 imp hm x2 y2 z2 x3 y3 z3)) := by rw [show (f15_o_F_a2_length_0 p4 p5 imp hm x2 y2 z2 x3 y3 z3) = y2 from by rw [f15_o_F_a2_length_0, if_pos hc8_3]]; exact F_F_a2_length
    have F6 : Fld Z h0 a2 nm1 "lows" "I" (.int (f15_o_F_a2_lows_0 p4 p5 imp hm x2 y2 z2 x3 y3 z3)) := by rw [show (f15_o_F_a2_lows_0 p4 p5 imp hm x2 y2 z2 x3 y3 z3) = z2 from by rw [f15_o_F_a2_lows_0, if_pos hc8_3]]; exact F_F_a2_lows
    exact Rt.retV X2 hx hlk hret (hb hby d15_54) (by decide) (by decide) (fun L N => ⟨rfl, N, (Keep.refl h0 [a2]), F_E_a2, F4, F5, F6⟩)
  · refine Rt.icmpN (pc' := 11) X2 hx (hb hby d15_8) (feq hc8_3).1 rfl ?_
    refine Rt.aloadN (pc' := 12) X2 hx (hb hby d15_11) rfl rfl rfl ?_
    refine Rt.getF (pc' := 15) (v := (.int y3)) X2 hx hZ hown (Or.inr (own_g hw 127 rfl)) F_F_a3_length (hb hby d15_12) rfl ?_
    intro T7 X7
    refine Rt.iloadN (pc' := 16) X7 hx (hb hby d15_15) rfl rfl ?_
    by_cases hc16_8 : y3 < p4
    · refine Rt.icmpN (pc' := 19) X7 hx (hb hby d15_16) (tlt hc16_8).2.1 rfl ?_
      refine Rt.aloadN (pc' := 20) X7 hx (hb hby d15_19) rfl rfl rfl ?_
      refine Rt.getF (pc' := 23) (v := (.int z3)) X7 hx hZ hown (Or.inr (own_g hw 128 rfl)) F_F_a3_lows (hb hby d15_20) rfl ?_
      intro T9 X9
      refine Rt.iload (pc' := 25) X9 hx (hb hby d15_23) rfl rfl ?_
      refine Rt.iadd (pc' := 26) (r := (z3 + p5)) X9 hx (hb hby d15_25) rfl rfl ?_
      refine Rt.aloadN (pc' := 27) X9 hx (hb hby d15_26) rfl rfl rfl ?_
      refine Rt.getF (pc' := 30) (v := (.int hm)) X9 hx hZ hown (host := "") (Or.inl (own_g hw 81 rfl)) F_F_a1_h (hb hby d15_27) rfl ?_
      intro T10 X10
      by_cases hc30_11 : hm < (z3 + p5)
      · refine Rt.icmpY (pc' := 54) X10 hx (hb hby d15_30) (tlt hc30_11).2.2.1 (by decide) (by decide) ?_
        have F12 : Fld Z h0 a2 nm1 "runs" "I" (.int (f15_o_F_a2_runs_0 p4 p5 imp hm x2 y2 z2 x3 y3 z3)) := by rw [show (f15_o_F_a2_runs_0 p4 p5 imp hm x2 y2 z2 x3 y3 z3) = x2 from by rw [f15_o_F_a2_runs_0, if_neg hc8_3, if_pos hc16_8, if_pos hc30_11]]; exact F_F_a2_runs
        have F13 : Fld Z h0 a2 nm1 "length" "I" (.int (f15_o_F_a2_length_0 p4 p5 imp hm x2 y2 z2 x3 y3 z3)) := by rw [show (f15_o_F_a2_length_0 p4 p5 imp hm x2 y2 z2 x3 y3 z3) = y2 from by rw [f15_o_F_a2_length_0, if_neg hc8_3, if_pos hc16_8, if_pos hc30_11]]; exact F_F_a2_length
        have F14 : Fld Z h0 a2 nm1 "lows" "I" (.int (f15_o_F_a2_lows_0 p4 p5 imp hm x2 y2 z2 x3 y3 z3)) := by rw [show (f15_o_F_a2_lows_0 p4 p5 imp hm x2 y2 z2 x3 y3 z3) = z2 from by rw [f15_o_F_a2_lows_0, if_neg hc8_3, if_pos hc16_8, if_pos hc30_11]]; exact F_F_a2_lows
        exact Rt.retV X10 hx hlk hret (hb hby d15_54) (by decide) (by decide) (fun L N => ⟨rfl, N, (Keep.refl h0 [a2]), F_E_a2, F12, F13, F14⟩)
      · refine Rt.icmpN (pc' := 33) X10 hx (hb hby d15_30) (flt hc30_11).2.2.1 rfl ?_
        refine Rt.aloadN (pc' := 34) X10 hx (hb hby d15_33) rfl rfl rfl ?_
        refine Rt.aloadN (pc' := 35) X10 hx (hb hby d15_34) rfl rfl rfl ?_
        refine Rt.getF (pc' := 38) (v := (.int x3)) X10 hx hZ hown (Or.inr (own_g hw 106 rfl)) F_F_a3_runs (hb hby d15_35) rfl ?_
        intro T15 X15
        refine Rt.aloadN (pc' := 39) X15 hx (hb hby d15_38) rfl rfl rfl ?_
        refine Rt.getF (pc' := 42) (v := (.int y3)) X15 hx hZ hown (Or.inr (own_g hw 127 rfl)) F_F_a3_length (hb hby d15_39) rfl ?_
        intro T16 X16
        refine Rt.iconst (pc' := 43) (v := (1 : Int32)) X16 hx (hb hby d15_42) rfl rfl ?_
        refine Rt.iadd (pc' := 44) (r := (y3 + (1 : Int32))) X16 hx (hb hby d15_43) rfl rfl ?_
        refine Rt.aloadN (pc' := 45) X16 hx (hb hby d15_44) rfl rfl rfl ?_
        refine Rt.getF (pc' := 48) (v := (.int z3)) X16 hx hZ hown (Or.inr (own_g hw 128 rfl)) F_F_a3_lows (hb hby d15_45) rfl ?_
        intro T17 X17
        refine Rt.iload (pc' := 50) X17 hx (hb hby d15_48) rfl rfl ?_
        refine Rt.iadd (pc' := 51) (r := (z3 + p5)) X17 hx (hb hby d15_50) rfl rfl ?_
        refine Rt.callV (pc' := 54) X17 hx hZ (y := mt5) (yz := mt5) hown (own_g hw 122 rfl) (own_g hw 123 rfl) (notFace_of_selects (args := #[]) (mvT hZ (own_g hw 125 rfl))) (own_g hw 125 rfl) (own_g hw 124 rfl) (own_g hw 66 rfl) (own_g hw 126 rfl) (by decide) F_E_a2 (rm17 l Z a0 hw [] a2 x3 (f15_a51_1 y3) (z3 + p5) x2 y2 z2 h0 n0 Z0 F_E_a2 F_F_a2_runs F_F_a2_length F_F_a2_lows g_a2) (fun _ _ _ q => q.2.1) (W := 0) (by decide) (by decide) (by decide) (by decide) (argsL := [(.int x3), (.int (f15_a51_1 y3)), (.int (z3 + p5))]) (rest := []) (by rw [hml]; rfl) (lenOf pd_1 rfl) rfl rfl (Nat.le_of_eq rfl) (hb hby d15_51) rfl ?_
        rintro _ T18 h18 L18 X18 ⟨rfl, N18, K18, F19, F20, F21, F22⟩
        have F23 := F_E_a1.keep K18
        have F24 := F_F_a1_impossible.keep K18 (ninS ne_a1_a2 nin0)
        have F25 := F_F_a1_h.keep K18 (ninS ne_a1_a2 nin0)
        have F26 := F_E_a2.keep K18
        have F27 := F_F_a3_runs.keep K18 (ninS (Ne.symm ne_a2_a3) nin0)
        have F28 := F_F_a3_length.keep K18 (ninS (Ne.symm ne_a2_a3) nin0)
        have F29 := F_F_a3_lows.keep K18 (ninS (Ne.symm ne_a2_a3) nin0)
        have K30 := (Keep.refl h0 [a2]).trans K18 (allS (Or.inl (List.mem_of_getElem? (i := 0) rfl)) all0)
        have Z31 := Nat.le_trans Z0 K18.1
        have F32 : Fld Z h18 a2 nm1 "runs" "I" (.int (f15_c51_a2_runs0 p5 x2 y2 z2 x3 y3 z3)) := F20
        have F33 : Fld Z h18 a2 nm1 "length" "I" (.int (f15_c51_a2_length0 p5 x2 y2 z2 x3 y3 z3)) := F21
        have F34 : Fld Z h18 a2 nm1 "lows" "I" (.int (f15_c51_a2_lows0 p5 x2 y2 z2 x3 y3 z3)) := F22
        show Rt _ _ _ _ _ _ _ (T18.setTop (mkF m 54 #[.val (.ref a1), .val (.ref a2), .val (.ref a3), .val (.int p4), .val (.int p5)] []))
        have F35 : Fld Z h18 a2 nm1 "runs" "I" (.int (f15_o_F_a2_runs_0 p4 p5 imp hm x2 y2 z2 x3 y3 z3)) := by rw [show (f15_o_F_a2_runs_0 p4 p5 imp hm x2 y2 z2 x3 y3 z3) = (f15_c51_a2_runs0 p5 x2 y2 z2 x3 y3 z3) from by rw [f15_o_F_a2_runs_0, if_neg hc8_3, if_pos hc16_8, if_neg hc30_11]]; exact F32
        have F36 : Fld Z h18 a2 nm1 "length" "I" (.int (f15_o_F_a2_length_0 p4 p5 imp hm x2 y2 z2 x3 y3 z3)) := by rw [show (f15_o_F_a2_length_0 p4 p5 imp hm x2 y2 z2 x3 y3 z3) = (f15_c51_a2_length0 p5 x2 y2 z2 x3 y3 z3) from by rw [f15_o_F_a2_length_0, if_neg hc8_3, if_pos hc16_8, if_neg hc30_11]]; exact F33
        have F37 : Fld Z h18 a2 nm1 "lows" "I" (.int (f15_o_F_a2_lows_0 p4 p5 imp hm x2 y2 z2 x3 y3 z3)) := by rw [show (f15_o_F_a2_lows_0 p4 p5 imp hm x2 y2 z2 x3 y3 z3) = (f15_c51_a2_lows0 p5 x2 y2 z2 x3 y3 z3) from by rw [f15_o_F_a2_lows_0, if_neg hc8_3, if_pos hc16_8, if_neg hc30_11]]; exact F34
        exact Rt.retV X18 hx hlk hret (hb hby d15_54) (by decide) (by decide) (fun L N => ⟨rfl, N, K30, F19, F35, F36, F37⟩)
    · refine Rt.icmpY (pc' := 54) X7 hx (hb hby d15_16) (flt hc16_8).2.1 (by decide) (by decide) ?_
      have F38 : Fld Z h0 a2 nm1 "runs" "I" (.int (f15_o_F_a2_runs_0 p4 p5 imp hm x2 y2 z2 x3 y3 z3)) := by rw [show (f15_o_F_a2_runs_0 p4 p5 imp hm x2 y2 z2 x3 y3 z3) = x2 from by rw [f15_o_F_a2_runs_0, if_neg hc8_3, if_neg hc16_8]]; exact F_F_a2_runs
      have F39 : Fld Z h0 a2 nm1 "length" "I" (.int (f15_o_F_a2_length_0 p4 p5 imp hm x2 y2 z2 x3 y3 z3)) := by rw [show (f15_o_F_a2_length_0 p4 p5 imp hm x2 y2 z2 x3 y3 z3) = y2 from by rw [f15_o_F_a2_length_0, if_neg hc8_3, if_neg hc16_8]]; exact F_F_a2_length
      have F40 : Fld Z h0 a2 nm1 "lows" "I" (.int (f15_o_F_a2_lows_0 p4 p5 imp hm x2 y2 z2 x3 y3 z3)) := by rw [show (f15_o_F_a2_lows_0 p4 p5 imp hm x2 y2 z2 x3 y3 z3) = z2 from by rw [f15_o_F_a2_lows_0, if_neg hc8_3, if_neg hc16_8]]; exact F_F_a2_lows
      exact Rt.retV X7 hx hlk hret (hb hby d15_54) (by decide) (by decide) (fun L N => ⟨rfl, N, (Keep.refl h0 [a2]), F_E_a2, F38, F39, F40⟩)
theorem d13_0 : decode prog_4_method_3_code 0 = .ok (.aload_n 0, 1) := by decide +kernel
theorem pd_2 : parseMethodDescriptor "()I" = some ⟨[], some .int⟩ := by decide +kernel
theorem d13_1 : decode prog_4_method_3_code 1 = .ok (.invokevirtual 48, 3) := by decide +kernel
theorem d13_4 : decode prog_4_method_3_code 4 = .ok (.istore 4, 2) := by decide +kernel
theorem d13_6 : decode prog_4_method_3_code 6 = .ok (.aload_n 0, 1) := by decide +kernel
theorem d13_7 : decode prog_4_method_3_code 7 = .ok (.getfield 19, 3) := by decide +kernel
theorem d13_10 : decode prog_4_method_3_code 10 = .ok (.aload_n 0, 1) := by decide +kernel
theorem d13_11 : decode prog_4_method_3_code 11 = .ok (.getfield 25, 3) := by decide +kernel
theorem pd_3 : parseMethodDescriptor "(I)V" = some ⟨[.int], none⟩ := by decide +kernel
theorem d13_14 : decode prog_4_method_3_code 14 = .ok (.invokevirtual 35, 3) := by decide +kernel
theorem d13_17 : decode prog_4_method_3_code 17 = .ok (.aload_n 0, 1) := by decide +kernel
theorem d13_18 : decode prog_4_method_3_code 18 = .ok (.getfield 22, 3) := by decide +kernel
theorem d13_21 : decode prog_4_method_3_code 21 = .ok (.aload_n 0, 1) := by decide +kernel
theorem d13_22 : decode prog_4_method_3_code 22 = .ok (.getfield 25, 3) := by decide +kernel
theorem d13_25 : decode prog_4_method_3_code 25 = .ok (.invokevirtual 35, 3) := by decide +kernel
theorem d13_28 : decode prog_4_method_3_code 28 = .ok (.iload_n 1, 1) := by decide +kernel
theorem d13_64 : decode prog_4_method_3_code 64 = .ok (.iload_n 2, 1) := by decide +kernel
theorem d13_109 : decode prog_4_method_3_code 109 = .ok (.aload_n 0, 1) := by decide +kernel
theorem d13_110 : decode prog_4_method_3_code 110 = .ok (.iload_n 1, 1) := by decide +kernel
theorem d13_123 : decode prog_4_method_3_code 123 = .ok (.putfield 32, 3) := by decide +kernel
theorem d13_126 : decode prog_4_method_3_code 126 = .ok (.aload_n 0, 1) := by decide +kernel
theorem d13_127 : decode prog_4_method_3_code 127 = .ok (.getfield 10, 3) := by decide +kernel
theorem d13_130 : decode prog_4_method_3_code 130 = .ok (.astore 5, 2) := by decide +kernel
theorem d13_132 : decode prog_4_method_3_code 132 = .ok (.aload_n 0, 1) := by decide +kernel
theorem d13_133 : decode prog_4_method_3_code 133 = .ok (.aload_n 0, 1) := by decide +kernel
theorem d13_134 : decode prog_4_method_3_code 134 = .ok (.getfield 19, 3) := by decide +kernel
theorem d13_137 : decode prog_4_method_3_code 137 = .ok (.putfield 10, 3) := by decide +kernel
theorem d13_140 : decode prog_4_method_3_code 140 = .ok (.aload_n 0, 1) := by decide +kernel
theorem d13_141 : decode prog_4_method_3_code 141 = .ok (.aload 5, 2) := by decide +kernel
theorem d13_143 : decode prog_4_method_3_code 143 = .ok (.putfield 19, 3) := by decide +kernel
theorem d13_146 : decode prog_4_method_3_code 146 = .ok (.aload_n 0, 1) := by decide +kernel
theorem d13_147 : decode prog_4_method_3_code 147 = .ok (.getfield 16, 3) := by decide +kernel
theorem d13_150 : decode prog_4_method_3_code 150 = .ok (.astore 6, 2) := by decide +kernel
theorem d13_152 : decode prog_4_method_3_code 152 = .ok (.aload_n 0, 1) := by decide +kernel
theorem d13_153 : decode prog_4_method_3_code 153 = .ok (.aload_n 0, 1) := by decide +kernel
theorem d13_154 : decode prog_4_method_3_code 154 = .ok (.getfield 22, 3) := by decide +kernel
theorem d13_157 : decode prog_4_method_3_code 157 = .ok (.putfield 16, 3) := by decide +kernel
theorem d13_160 : decode prog_4_method_3_code 160 = .ok (.aload_n 0, 1) := by decide +kernel
theorem d13_161 : decode prog_4_method_3_code 161 = .ok (.aload 6, 2) := by decide +kernel
theorem d13_163 : decode prog_4_method_3_code 163 = .ok (.putfield 22, 3) := by decide +kernel
theorem d13_166 : decode prog_4_method_3_code 166 = .ok (.return_, 1) := by decide +kernel
theorem d13_111 : decode prog_4_method_3_code 111 = .ok (.ifCond .eq 8, 3) := by decide +kernel
theorem d13_119 : decode prog_4_method_3_code 119 = .ok (.aload_n 0, 1) := by decide +kernel
theorem d13_120 : decode prog_4_method_3_code 120 = .ok (.getfield 25, 3) := by decide +kernel
theorem d13_114 : decode prog_4_method_3_code 114 = .ok (.iload 4, 2) := by decide +kernel
theorem d13_116 : decode prog_4_method_3_code 116 = .ok (.goto 7, 3) := by decide +kernel
theorem d13_65 : decode prog_4_method_3_code 65 = .ok (.ifCond .eq 44, 3) := by decide +kernel
theorem d13_68 : decode prog_4_method_3_code 68 = .ok (.aload_n 0, 1) := by decide +kernel
theorem d13_69 : decode prog_4_method_3_code 69 = .ok (.aload_n 0, 1) := by decide +kernel
theorem d13_70 : decode prog_4_method_3_code 70 = .ok (.getfield 22, 3) := by decide +kernel
theorem d13_73 : decode prog_4_method_3_code 73 = .ok (.aload_n 0, 1) := by decide +kernel
theorem d13_74 : decode prog_4_method_3_code 74 = .ok (.getfield 10, 3) := by decide +kernel
theorem d13_77 : decode prog_4_method_3_code 77 = .ok (.iload_n 3, 1) := by decide +kernel
theorem d13_78 : decode prog_4_method_3_code 78 = .ok (.iconst 0, 1) := by decide +kernel
theorem pd_4 : parseMethodDescriptor "(Lcom/example/tightfold/tightfold/FocusFiltering$Run;Lcom/example/tightfold/tightfold/FocusFiltering$Run;II)V" = some ⟨[(.object "com/example/tightfold/tightfold/FocusFiltering$Run"), (.object "com/example/tightfold/tightfold/FocusFiltering$Run"), .int, .int], none⟩ := by decide +kernel
theorem d13_79 : decode prog_4_method_3_code 79 = .ok (.invokevirtual 52, 3) := by decide +kernel
theorem d13_82 : decode prog_4_method_3_code 82 = .ok (.aload_n 0, 1) := by decide +kernel
theorem d13_83 : decode prog_4_method_3_code 83 = .ok (.aload_n 0, 1) := by decide +kernel
theorem d13_84 : decode prog_4_method_3_code 84 = .ok (.getfield 22, 3) := by decide +kernel
theorem d13_87 : decode prog_4_method_3_code 87 = .ok (.aload_n 0, 1) := by decide +kernel
theorem d13_88 : decode prog_4_method_3_code 88 = .ok (.getfield 16, 3) := by decide +kernel
theorem d13_91 : decode prog_4_method_3_code 91 = .ok (.iload_n 3, 1) := by decide +kernel
theorem d13_92 : decode prog_4_method_3_code 92 = .ok (.iconst 0, 1) := by decide +kernel
theorem d13_93 : decode prog_4_method_3_code 93 = .ok (.invokevirtual 52, 3) := by decide +kernel
theorem d13_96 : decode prog_4_method_3_code 96 = .ok (.aload_n 0, 1) := by decide +kernel
theorem d13_97 : decode prog_4_method_3_code 97 = .ok (.getfield 22, 3) := by decide +kernel
theorem d13_100 : decode prog_4_method_3_code 100 = .ok (.iload 4, 2) := by decide +kernel
theorem d13_102 : decode prog_4_method_3_code 102 = .ok (.iconst 1, 1) := by decide +kernel
theorem d13_103 : decode prog_4_method_3_code 103 = .ok (.iadd, 1) := by decide +kernel
theorem d13_104 : decode prog_4_method_3_code 104 = .ok (.iconst 1, 1) := by decide +kernel
theorem d13_105 : decode prog_4_method_3_code 105 = .ok (.iconst 0, 1) := by decide +kernel
theorem d13_106 : decode prog_4_method_3_code 106 = .ok (.invokevirtual 56, 3) := by decide +kernel
theorem d13_29 : decode prog_4_method_3_code 29 = .ok (.ifCond .eq 35, 3) := by decide +kernel
theorem d13_32 : decode prog_4_method_3_code 32 = .ok (.aload_n 0, 1) := by decide +kernel
theorem d13_33 : decode prog_4_method_3_code 33 = .ok (.aload_n 0, 1) := by decide +kernel
theorem d13_34 : decode prog_4_method_3_code 34 = .ok (.getfield 19, 3) := by decide +kernel
theorem d13_37 : decode prog_4_method_3_code 37 = .ok (.aload_n 0, 1) := by decide +kernel
theorem d13_38 : decode prog_4_method_3_code 38 = .ok (.getfield 10, 3) := by decide +kernel
theorem d13_41 : decode prog_4_method_3_code 41 = .ok (.iload_n 3, 1) := by decide +kernel
theorem d13_42 : decode prog_4_method_3_code 42 = .ok (.iconst 1, 1) := by decide +kernel
theorem d13_43 : decode prog_4_method_3_code 43 = .ok (.isub, 1) := by decide +kernel
theorem d13_44 : decode prog_4_method_3_code 44 = .ok (.iconst 1, 1) := by decide +kernel
theorem d13_45 : decode prog_4_method_3_code 45 = .ok (.invokevirtual 52, 3) := by decide +kernel
theorem d13_48 : decode prog_4_method_3_code 48 = .ok (.aload_n 0, 1) := by decide +kernel
theorem d13_49 : decode prog_4_method_3_code 49 = .ok (.aload_n 0, 1) := by decide +kernel
theorem d13_50 : decode prog_4_method_3_code 50 = .ok (.getfield 19, 3) := by decide +kernel
theorem d13_53 : decode prog_4_method_3_code 53 = .ok (.aload_n 0, 1) := by decide +kernel
theorem d13_54 : decode prog_4_method_3_code 54 = .ok (.getfield 16, 3) := by decide +kernel
theorem d13_57 : decode prog_4_method_3_code 57 = .ok (.iload_n 3, 1) := by decide +kernel
theorem d13_58 : decode prog_4_method_3_code 58 = .ok (.iconst 1, 1) := by decide +kernel
theorem d13_59 : decode prog_4_method_3_code 59 = .ok (.isub, 1) := by decide +kernel
theorem d13_60 : decode prog_4_method_3_code 60 = .ok (.iconst 1, 1) := by decide +kernel
theorem d13_61 : decode prog_4_method_3_code 61 = .ok (.invokevirtual 52, 3) := by decide +kernel
def f13_a45_2 (p4 : Int32) : Int32 := (p4 - (1 : Int32))
def f13_c45_r3_runs0 (p4 : Int32) (imp : Int32) (hm : Int32) (x1 : Int32) (y1 : Int32) (z1 : Int32) : Int32 := (f15_o_F_a2_runs_0 (f13_a45_2 p4) (1 : Int32) imp hm imp (0 : Int32) (0 : Int32) x1 y1 z1)
def f13_c45_r3_length0 (p4 : Int32) (imp : Int32) (hm : Int32) (x1 : Int32) (y1 : Int32) (z1 : Int32) : Int32 := (f15_o_F_a2_length_0 (f13_a45_2 p4) (1 : Int32) imp hm imp (0 : Int32) (0 : Int32) x1 y1 z1)
def f13_c45_r3_lows0 (p4 : Int32) (imp : Int32) (hm : Int32) (x1 : Int32) (y1 : Int32) (z1 : Int32) : Int32 := (f15_o_F_a2_lows_0 (f13_a45_2 p4) (1 : Int32) imp hm imp (0 : Int32) (0 : Int32) x1 y1 z1)
def f13_a61_2 (p4 : Int32) : Int32 := (p4 - (1 : Int32))
def f13_c61_r3_runs0 (p4 : Int32) (imp : Int32) (hm : Int32) (x1 : Int32) (y1 : Int32) (z1 : Int32) (x2 : Int32) (y2 : Int32) (z2 : Int32) : Int32 := (f15_o_F_a2_runs_0 (f13_a61_2 p4) (1 : Int32) imp hm (f13_c45_r3_runs0 p4 imp hm x1 y1 z1) (f13_c45_r3_length0 p4 imp hm x1 y1 z1) (f13_c45_r3_lows0 p4 imp hm x1 y1 z1) x2 y2 z2)
def f13_c61_r3_length0 (p4 : Int32) (imp : Int32) (hm : Int32) (x1 : Int32) (y1 : Int32) (z1 : Int32) (x2 : Int32) (y2 : Int32) (z2 : Int32) : Int32 := (f15_o_F_a2_length_0 (f13_a61_2 p4) (1 : Int32) imp hm (f13_c45_r3_runs0 p4 imp hm x1 y1 z1) (f13_c45_r3_length0 p4 imp hm x1 y1 z1) (f13_c45_r3_lows0 p4 imp hm x1 y1 z1) x2 y2 z2)
def f13_c61_r3_lows0 (p4 : Int32) (imp : Int32) (hm : Int32) (x1 : Int32) (y1 : Int32) (z1 : Int32) (x2 : Int32) (y2 : Int32) (z2 : Int32) : Int32 := (f15_o_F_a2_lows_0 (f13_a61_2 p4) (1 : Int32) imp hm (f13_c45_r3_runs0 p4 imp hm x1 y1 z1) (f13_c45_r3_length0 p4 imp hm x1 y1 z1) (f13_c45_r3_lows0 p4 imp hm x1 y1 z1) x2 y2 z2)
def f13_j64_F_r3_runs_0 (p2 : Int32) (p4 : Int32) (imp : Int32) (hm : Int32) (x1 : Int32) (y1 : Int32) (z1 : Int32) (x2 : Int32) (y2 : Int32) (z2 : Int32) : Int32 := (if p2 = (0 : Int32) then imp else (f13_c61_r3_runs0 p4 imp hm x1 y1 z1 x2 y2 z2))
def f13_j64_F_r3_length_0 (p2 : Int32) (p4 : Int32) (imp : Int32) (hm : Int32) (x1 : Int32) (y1 : Int32) (z1 : Int32) (x2 : Int32) (y2 : Int32) (z2 : Int32) : Int32 := (if p2 = (0 : Int32) then (0 : Int32) else (f13_c61_r3_length0 p4 imp hm x1 y1 z1 x2 y2 z2))
def f13_j64_F_r3_lows_0 (p2 : Int32) (p4 : Int32) (imp : Int32) (hm : Int32) (x1 : Int32) (y1 : Int32) (z1 : Int32) (x2 : Int32) (y2 : Int32) (z2 : Int32) : Int32 := (if p2 = (0 : Int32) then (0 : Int32) else (f13_c61_r3_lows0 p4 imp hm x1 y1 z1 x2 y2 z2))
def f13_c79_r4_runs0 (p4 : Int32) (imp : Int32) (hm : Int32) (x1 : Int32) (y1 : Int32) (z1 : Int32) : Int32 := (f15_o_F_a2_runs_0 p4 (0 : Int32) imp hm imp (0 : Int32) (0 : Int32) x1 y1 z1)
def f13_c79_r4_length0 (p4 : Int32) (imp : Int32) (hm : Int32) (x1 : Int32) (y1 : Int32) (z1 : Int32) : Int32 := (f15_o_F_a2_length_0 p4 (0 : Int32) imp hm imp (0 : Int32) (0 : Int32) x1 y1 z1)
def f13_c79_r4_lows0 (p4 : Int32) (imp : Int32) (hm : Int32) (x1 : Int32) (y1 : Int32) (z1 : Int32) : Int32 := (f15_o_F_a2_lows_0 p4 (0 : Int32) imp hm imp (0 : Int32) (0 : Int32) x1 y1 z1)
def f13_c93_r4_runs0 (p4 : Int32) (imp : Int32) (hm : Int32) (x1 : Int32) (y1 : Int32) (z1 : Int32) (x2 : Int32) (y2 : Int32) (z2 : Int32) : Int32 := (f15_o_F_a2_runs_0 p4 (0 : Int32) imp hm (f13_c79_r4_runs0 p4 imp hm x1 y1 z1) (f13_c79_r4_length0 p4 imp hm x1 y1 z1) (f13_c79_r4_lows0 p4 imp hm x1 y1 z1) x2 y2 z2)
def f13_c93_r4_length0 (p4 : Int32) (imp : Int32) (hm : Int32) (x1 : Int32) (y1 : Int32) (z1 : Int32) (x2 : Int32) (y2 : Int32) (z2 : Int32) : Int32 := (f15_o_F_a2_length_0 p4 (0 : Int32) imp hm (f13_c79_r4_runs0 p4 imp hm x1 y1 z1) (f13_c79_r4_length0 p4 imp hm x1 y1 z1) (f13_c79_r4_lows0 p4 imp hm x1 y1 z1) x2 y2 z2)
def f13_c93_r4_lows0 (p4 : Int32) (imp : Int32) (hm : Int32) (x1 : Int32) (y1 : Int32) (z1 : Int32) (x2 : Int32) (y2 : Int32) (z2 : Int32) : Int32 := (f15_o_F_a2_lows_0 p4 (0 : Int32) imp hm (f13_c79_r4_runs0 p4 imp hm x1 y1 z1) (f13_c79_r4_length0 p4 imp hm x1 y1 z1) (f13_c79_r4_lows0 p4 imp hm x1 y1 z1) x2 y2 z2)
def f13_a106_0 (lo : Int32) (x2 : Int32) : Int32 := ((f14 lo x2) + (1 : Int32))
def f13_c106_r4_runs0 (p4 : Int32) (imp : Int32) (hm : Int32) (lo : Int32) (x1 : Int32) (y1 : Int32) (z1 : Int32) (x2 : Int32) (y2 : Int32) (z2 : Int32) : Int32 := (f17_o_F_a1_runs_0 (f13_a106_0 lo x2) (1 : Int32) (0 : Int32) (f13_c93_r4_runs0 p4 imp hm x1 y1 z1 x2 y2 z2) (f13_c93_r4_length0 p4 imp hm x1 y1 z1 x2 y2 z2) (f13_c93_r4_lows0 p4 imp hm x1 y1 z1 x2 y2 z2))
def f13_c106_r4_length0 (p4 : Int32) (imp : Int32) (hm : Int32) (lo : Int32) (x1 : Int32) (y1 : Int32) (z1 : Int32) (x2 : Int32) (y2 : Int32) (z2 : Int32) : Int32 := (f17_o_F_a1_length_0 (f13_a106_0 lo x2) (1 : Int32) (0 : Int32) (f13_c93_r4_runs0 p4 imp hm x1 y1 z1 x2 y2 z2) (f13_c93_r4_length0 p4 imp hm x1 y1 z1 x2 y2 z2) (f13_c93_r4_lows0 p4 imp hm x1 y1 z1 x2 y2 z2))
def f13_c106_r4_lows0 (p4 : Int32) (imp : Int32) (hm : Int32) (lo : Int32) (x1 : Int32) (y1 : Int32) (z1 : Int32) (x2 : Int32) (y2 : Int32) (z2 : Int32) : Int32 := (f17_o_F_a1_lows_0 (f13_a106_0 lo x2) (1 : Int32) (0 : Int32) (f13_c93_r4_runs0 p4 imp hm x1 y1 z1 x2 y2 z2) (f13_c93_r4_length0 p4 imp hm x1 y1 z1 x2 y2 z2) (f13_c93_r4_lows0 p4 imp hm x1 y1 z1 x2 y2 z2))
def f13_j109_F_r4_runs_0 (p3 : Int32) (p4 : Int32) (imp : Int32) (hm : Int32) (lo : Int32) (x1 : Int32) (y1 : Int32) (z1 : Int32) (x2 : Int32) (y2 : Int32) (z2 : Int32) : Int32 := (if p3 = (0 : Int32) then imp else (f13_c106_r4_runs0 p4 imp hm lo x1 y1 z1 x2 y2 z2))
def f13_j109_F_r4_length_0 (p3 : Int32) (p4 : Int32) (imp : Int32) (hm : Int32) (lo : Int32) (x1 : Int32) (y1 : Int32) (z1 : Int32) (x2 : Int32) (y2 : Int32) (z2 : Int32) : Int32 := (if p3 = (0 : Int32) then (0 : Int32) else (f13_c106_r4_length0 p4 imp hm lo x1 y1 z1 x2 y2 z2))
def f13_j109_F_r4_lows_0 (p3 : Int32) (p4 : Int32) (imp : Int32) (hm : Int32) (lo : Int32) (x1 : Int32) (y1 : Int32) (z1 : Int32) (x2 : Int32) (y2 : Int32) (z2 : Int32) : Int32 := (if p3 = (0 : Int32) then (0 : Int32) else (f13_c106_r4_lows0 p4 imp hm lo x1 y1 z1 x2 y2 z2))
def f13_j123_s0 (p2 : Int32) (imp : Int32) (lo : Int32) (x2 : Int32) : Int32 := (if p2 = (0 : Int32) then imp else (f14 lo x2))
def Q13 (Z : State) (a1 : Addr) (p2 : Int32) (p3 : Int32) (p4 : Int32) (imp : Int32) (hm : Int32) (lo : Int32) (r1 : Addr) (r2 : Addr) (r3 : Addr) (r4 : Addr) (x1 : Int32) (y1 : Int32) (z1 : Int32) (x2 : Int32) (y2 : Int32) (z2 : Int32) (x3 : Int32) (y3 : Int32) (z3 : Int32) (x4 : Int32) (y4 : Int32) (z4 : Int32) (h0 : Heap) (n0 : Nat) (v : Option Value) (h : Heap) (L : List Loc) : Prop := v = none ∧ Fr n0 L ∧ Keep h0 h [a1, r3, r4] ∧ Exa Z h a1 nm2 ∧ Fld Z h a1 nm2 "impossible" "I" (.int imp) ∧ Fld Z h a1 nm2 "h" "I" (.int hm) ∧ Fld Z h a1 nm2 "lowOut" "I" (.int (f13_j123_s0 p2 imp lo x2)) ∧ Fld Z h a1 nm2 "lowIn" nm3 (.ref r3) ∧ Fld Z h a1 nm2 "high" nm3 (.ref r4) ∧ Fld Z h a1 nm2 "nextLowIn" nm3 (.ref r1) ∧ Fld Z h a1 nm2 "nextHigh" nm3 (.ref r2) ∧ Exa Z h r3 nm1 ∧ Exa Z h r4 nm1 ∧ Fld Z h r3 nm1 "runs" "I" (.int (f13_j64_F_r3_runs_0 p2 p4 imp hm x1 y1 z1 x2 y2 z2)) ∧ Fld Z h r3 nm1 "length" "I" (.int (f13_j64_F_r3_length_0 p2 p4 imp hm x1 y1 z1 x2 y2 z2)) ∧ Fld Z h r3 nm1 "lows" "I" (.int (f13_j64_F_r3_lows_0 p2 p4 imp hm x1 y1 z1 x2 y2 z2)) ∧ Fld Z h r4 nm1 "runs" "I" (.int (f13_j109_F_r4_runs_0 p3 p4 imp hm lo x1 y1 z1 x2 y2 z2)) ∧ Fld Z h r4 nm1 "length" "I" (.int (f13_j109_F_r4_length_0 p3 p4 imp hm lo x1 y1 z1 x2 y2 z2)) ∧ Fld Z h r4 nm1 "lows" "I" (.int (f13_j109_F_r4_lows_0 p3 p4 imp hm lo x1 y1 z1 x2 y2 z2))
def rmR13 : Room := { frames := 2, cells := 0, slots := 0, locals := 32 }
theorem ef_13 (m : MethodId) (a1 : Addr) (p2 : Int32) (p3 : Int32) (p4 : Int32) : entryFrame m #[(.ref a1), (.int p2), (.int p3), (.int p4)] 7 = mkF m 0 #[.val (.ref a1), .val (.int p2), .val (.int p3), .val (.int p4), .unset, .unset, .unset] [] := by first | (simp [entryFrame, mkF, argsToLocals, Value.category]; done) | rfl
set_option maxRecDepth 65536 in
set_option maxHeartbeats 40000000 in
theorem rm13 (l : Launch) (Z : State) (a0 : Array Value) (hw : ∀ d ∈ tables_1, d.before a0 Z = true) (ws : List Jvm.Cond) (a1 : Addr) (p2 : Int32) (p3 : Int32) (p4 : Int32) (imp : Int32) (hm : Int32) (lo : Int32) (r1 : Addr) (r2 : Addr) (r3 : Addr) (r4 : Addr) (x1 : Int32) (y1 : Int32) (z1 : Int32) (x2 : Int32) (y2 : Int32) (z2 : Int32) (x3 : Int32) (y3 : Int32) (z3 : Int32) (x4 : Int32) (y4 : Int32) (z4 : Int32) (h0 : Heap) (n0 : Nat) (Z0 : n0 ≤ h0.size) (F_E_a1 : Exa Z h0 a1 nm2) (F_F_a1_impossible : Fld Z h0 a1 nm2 "impossible" "I" (.int imp)) (F_F_a1_h : Fld Z h0 a1 nm2 "h" "I" (.int hm)) (F_F_a1_lowOut : Fld Z h0 a1 nm2 "lowOut" "I" (.int lo)) (F_F_a1_lowIn : Fld Z h0 a1 nm2 "lowIn" nm3 (.ref r1)) (F_F_a1_high : Fld Z h0 a1 nm2 "high" nm3 (.ref r2)) (F_F_a1_nextLowIn : Fld Z h0 a1 nm2 "nextLowIn" nm3 (.ref r3)) (F_F_a1_nextHigh : Fld Z h0 a1 nm2 "nextHigh" nm3 (.ref r4)) (F_E_r1 : Exa Z h0 r1 nm1) (F_F_r1_runs : Fld Z h0 r1 nm1 "runs" "I" (.int x1)) (F_F_r1_length : Fld Z h0 r1 nm1 "length" "I" (.int y1)) (F_F_r1_lows : Fld Z h0 r1 nm1 "lows" "I" (.int z1)) (F_E_r2 : Exa Z h0 r2 nm1) (F_F_r2_runs : Fld Z h0 r2 nm1 "runs" "I" (.int x2)) (F_F_r2_length : Fld Z h0 r2 nm1 "length" "I" (.int y2)) (F_F_r2_lows : Fld Z h0 r2 nm1 "lows" "I" (.int z2)) (F_E_r3 : Exa Z h0 r3 nm1) (F_F_r3_runs : Fld Z h0 r3 nm1 "runs" "I" (.int x3)) (F_F_r3_length : Fld Z h0 r3 nm1 "length" "I" (.int y3)) (F_F_r3_lows : Fld Z h0 r3 nm1 "lows" "I" (.int z3)) (F_E_r4 : Exa Z h0 r4 nm1) (F_F_r4_runs : Fld Z h0 r4 nm1 "runs" "I" (.int x4)) (F_F_r4_length : Fld Z h0 r4 nm1 "length" "I" (.int y4)) (F_F_r4_lows : Fld Z h0 r4 nm1 "lows" "I" (.int z4)) (g_a1 : n0 ≤ a1) (g_r3 : n0 ≤ r3) (g_r4 : n0 ≤ r4) (ne_a1_r1 : a1 ≠ r1) (ne_a1_r2 : a1 ≠ r2) (ne_a1_r3 : a1 ≠ r3) (ne_a1_r4 : a1 ≠ r4) (ne_r1_r2 : r1 ≠ r2) (ne_r1_r3 : r1 ≠ r3) (ne_r1_r4 : r1 ≠ r4) (ne_r2_r3 : r2 ≠ r3) (ne_r2_r4 : r2 ≠ r4) (ne_r3_r4 : r3 ≠ r4) :
    Mt l Z mt8 (Jvm.Cond.code mt8 prog_4_method_3_code 7 none :: ws) rmR13 #[(.ref a1), (.int p2), (.int p3), (.int p4)] h0 (Q13 Z a1 p2 p3 p4 imp hm lo r1 r2 r3 r4 x1 y1 z1 x2 y2 z2 x3 y3 z3 x4 y4 z4 h0 n0) := by
  refine Mt.of n0 (plainFor_of_name pn_com_example_tightfold_tightfold_FocusFiltering_PartialCover) ?_
  intro p e s m below meth c T0 X0 hx hZ hby hml hown hret hlk hnm hs0
  have Sl0 := slot_ne (Or.inr (own_g hw 80 rfl)) (Or.inl (own_g hw 84 rfl)) (by decide) (t := .int) (t' := .int) (by decide) (by decide)
  have Sl1 := slot_ne (Or.inr (own_g hw 82 rfl)) (Or.inl (own_g hw 84 rfl)) (by decide) (t := .int) (t' := .int) (by decide) (by decide)
  have Sl2 := slot_ne (Or.inl (own_g hw 72 rfl)) (Or.inl (own_g hw 84 rfl)) (by decide) (t := (.object "com/example/tightfold/tightfold/FocusFiltering$Run")) (t' := .int) (by decide) (by decide)
  have Sl3 := slot_ne (Or.inl (own_g hw 74 rfl)) (Or.inl (own_g hw 84 rfl)) (by decide) (t := (.object "com/example/tightfold/tightfold/FocusFiltering$Run")) (t' := .int) (by decide) (by decide)
  have Sl4 := slot_ne (Or.inl (own_g hw 76 rfl)) (Or.inl (own_g hw 84 rfl)) (by decide) (t := (.object "com/example/tightfold/tightfold/FocusFiltering$Run")) (t' := .int) (by decide) (by decide)
  have Sl5 := slot_ne (Or.inl (own_g hw 78 rfl)) (Or.inl (own_g hw 84 rfl)) (by decide) (t := (.object "com/example/tightfold/tightfold/FocusFiltering$Run")) (t' := .int) (by decide) (by decide)
  have Sl6 := slot_ne (Or.inr (own_g hw 80 rfl)) (Or.inl (own_g hw 72 rfl)) (by decide) (t := .int) (t' := (.object "com/example/tightfold/tightfold/FocusFiltering$Run")) (by decide) (by decide)
  have Sl7 := slot_ne (Or.inr (own_g hw 82 rfl)) (Or.inl (own_g hw 72 rfl)) (by decide) (t := .int) (t' := (.object "com/example/tightfold/tightfold/FocusFiltering$Run")) (by decide) (by decide)
  have Sl8 := slot_ne (Or.inl (own_g hw 84 rfl)) (Or.inl (own_g hw 72 rfl)) (by decide) (t := .int) (t' := (.object "com/example/tightfold/tightfold/FocusFiltering$Run")) (by decide) (by decide)
  have Sl9 := slot_ne (Or.inl (own_g hw 74 rfl)) (Or.inl (own_g hw 72 rfl)) (by decide) (t := (.object "com/example/tightfold/tightfold/FocusFiltering$Run")) (t' := (.object "com/example/tightfold/tightfold/FocusFiltering$Run")) (by decide) (by decide)
  have Sl10 := slot_ne (Or.inl (own_g hw 76 rfl)) (Or.inl (own_g hw 72 rfl)) (by decide) (t := (.object "com/example/tightfold/tightfold/FocusFiltering$Run")) (t' := (.object "com/example/tightfold/tightfold/FocusFiltering$Run")) (by decide) (by decide)
  have Sl11 := slot_ne (Or.inl (own_g hw 78 rfl)) (Or.inl (own_g hw 72 rfl)) (by decide) (t := (.object "com/example/tightfold/tightfold/FocusFiltering$Run")) (t' := (.object "com/example/tightfold/tightfold/FocusFiltering$Run")) (by decide) (by decide)
  have Sl12 := slot_ne (Or.inr (own_g hw 80 rfl)) (Or.inl (own_g hw 76 rfl)) (by decide) (t := .int) (t' := (.object "com/example/tightfold/tightfold/FocusFiltering$Run")) (by decide) (by decide)
  have Sl13 := slot_ne (Or.inr (own_g hw 82 rfl)) (Or.inl (own_g hw 76 rfl)) (by decide) (t := .int) (t' := (.object "com/example/tightfold/tightfold/FocusFiltering$Run")) (by decide) (by decide)
  have Sl14 := slot_ne (Or.inl (own_g hw 84 rfl)) (Or.inl (own_g hw 76 rfl)) (by decide) (t := .int) (t' := (.object "com/example/tightfold/tightfold/FocusFiltering$Run")) (by decide) (by decide)
  have Sl15 := slot_ne (Or.inl (own_g hw 72 rfl)) (Or.inl (own_g hw 76 rfl)) (by decide) (t := (.object "com/example/tightfold/tightfold/FocusFiltering$Run")) (t' := (.object "com/example/tightfold/tightfold/FocusFiltering$Run")) (by decide) (by decide)
  have Sl16 := slot_ne (Or.inl (own_g hw 74 rfl)) (Or.inl (own_g hw 76 rfl)) (by decide) (t := (.object "com/example/tightfold/tightfold/FocusFiltering$Run")) (t' := (.object "com/example/tightfold/tightfold/FocusFiltering$Run")) (by decide) (by decide)
  have Sl17 := slot_ne (Or.inl (own_g hw 78 rfl)) (Or.inl (own_g hw 76 rfl)) (by decide) (t := (.object "com/example/tightfold/tightfold/FocusFiltering$Run")) (t' := (.object "com/example/tightfold/tightfold/FocusFiltering$Run")) (by decide) (by decide)
  have Sl18 := slot_ne (Or.inr (own_g hw 80 rfl)) (Or.inl (own_g hw 74 rfl)) (by decide) (t := .int) (t' := (.object "com/example/tightfold/tightfold/FocusFiltering$Run")) (by decide) (by decide)
  have Sl19 := slot_ne (Or.inr (own_g hw 82 rfl)) (Or.inl (own_g hw 74 rfl)) (by decide) (t := .int) (t' := (.object "com/example/tightfold/tightfold/FocusFiltering$Run")) (by decide) (by decide)
  have Sl20 := slot_ne (Or.inl (own_g hw 84 rfl)) (Or.inl (own_g hw 74 rfl)) (by decide) (t := .int) (t' := (.object "com/example/tightfold/tightfold/FocusFiltering$Run")) (by decide) (by decide)
  have Sl21 := slot_ne (Or.inl (own_g hw 72 rfl)) (Or.inl (own_g hw 74 rfl)) (by decide) (t := (.object "com/example/tightfold/tightfold/FocusFiltering$Run")) (t' := (.object "com/example/tightfold/tightfold/FocusFiltering$Run")) (by decide) (by decide)
  have Sl22 := slot_ne (Or.inl (own_g hw 76 rfl)) (Or.inl (own_g hw 74 rfl)) (by decide) (t := (.object "com/example/tightfold/tightfold/FocusFiltering$Run")) (t' := (.object "com/example/tightfold/tightfold/FocusFiltering$Run")) (by decide) (by decide)
  have Sl23 := slot_ne (Or.inl (own_g hw 78 rfl)) (Or.inl (own_g hw 74 rfl)) (by decide) (t := (.object "com/example/tightfold/tightfold/FocusFiltering$Run")) (t' := (.object "com/example/tightfold/tightfold/FocusFiltering$Run")) (by decide) (by decide)
  have Sl24 := slot_ne (Or.inr (own_g hw 80 rfl)) (Or.inl (own_g hw 78 rfl)) (by decide) (t := .int) (t' := (.object "com/example/tightfold/tightfold/FocusFiltering$Run")) (by decide) (by decide)
  have Sl25 := slot_ne (Or.inr (own_g hw 82 rfl)) (Or.inl (own_g hw 78 rfl)) (by decide) (t := .int) (t' := (.object "com/example/tightfold/tightfold/FocusFiltering$Run")) (by decide) (by decide)
  have Sl26 := slot_ne (Or.inl (own_g hw 84 rfl)) (Or.inl (own_g hw 78 rfl)) (by decide) (t := .int) (t' := (.object "com/example/tightfold/tightfold/FocusFiltering$Run")) (by decide) (by decide)
  have Sl27 := slot_ne (Or.inl (own_g hw 72 rfl)) (Or.inl (own_g hw 78 rfl)) (by decide) (t := (.object "com/example/tightfold/tightfold/FocusFiltering$Run")) (t' := (.object "com/example/tightfold/tightfold/FocusFiltering$Run")) (by decide) (by decide)
  have Sl28 := slot_ne (Or.inl (own_g hw 74 rfl)) (Or.inl (own_g hw 78 rfl)) (by decide) (t := (.object "com/example/tightfold/tightfold/FocusFiltering$Run")) (t' := (.object "com/example/tightfold/tightfold/FocusFiltering$Run")) (by decide) (by decide)
  have Sl29 := slot_ne (Or.inl (own_g hw 76 rfl)) (Or.inl (own_g hw 78 rfl)) (by decide) (t := (.object "com/example/tightfold/tightfold/FocusFiltering$Run")) (t' := (.object "com/example/tightfold/tightfold/FocusFiltering$Run")) (by decide) (by decide)
  have hown : s.vm.findClass "com/example/tightfold/tightfold/FocusFiltering$PartialCover" = some m.cls := hown
  rw [ef_13]
  show Rt p e below s rmR13.cells rmR13.slots (Q13 Z a1 p2 p3 p4 imp hm lo r1 r2 r3 r4 x1 y1 z1 x2 y2 z2 x3 y3 z3 x4 y4 z4 h0 n0) (T0.setTop (mkF m 0 #[.val (.ref a1), .val (.int p2), .val (.int p3), .val (.int p4), .unset, .unset, .unset] []))
  refine Rt.aloadN (pc' := 1) X0 hx (hb hby d13_0) rfl rfl rfl ?_
  refine Rt.callV (pc' := 4) X0 hx hZ (y := mt6) (yz := mt6) hown (own_g hw 101 rfl) (own_g hw 102 rfl) (notFace_of_selects (args := #[]) (mvT hZ (own_g hw 104 rfl))) (own_g hw 104 rfl) (own_g hw 103 rfl) (own_g hw 59 rfl) (own_g hw 105 rfl) (by decide) F_E_a1 (rm14 l Z a0 hw [] a1 lo r2 x2 h0 n0 F_F_a1_lowOut F_F_a1_high F_F_r2_runs) (fun _ _ _ q => q.2.1) (W := 0) (by decide) (by decide) (by decide) (by decide) (argsL := []) (rest := []) (by rw [hml]; rfl) (lenOf pd_2 rfl) rfl rfl (Nat.le_of_eq rfl) (hb hby d13_1) rfl ?_
  rintro _ T1 h1 L1 X1 ⟨rfl, N1, e1⟩
  rw [e1] at X1
  show Rt _ _ _ _ _ _ _ (T1.setTop (mkF m 4 #[.val (.ref a1), .val (.int p2), .val (.int p3), .val (.int p4), .unset, .unset, .unset] [(.int (f14 lo x2))]))
  refine Rt.istore (pc' := 6) (v := (f14 lo x2)) (l' := #[.val (.ref a1), .val (.int p2), .val (.int p3), .val (.int p4), .val (.int (f14 lo x2)), .unset, .unset]) X1 hx (hb hby d13_4) rfl rfl ?_
  refine Rt.aloadN (pc' := 7) X1 hx (hb hby d13_6) rfl rfl rfl ?_
  refine Rt.getF (pc' := 10) (v := (.ref r3)) X1 hx hZ hown (host := "") (Or.inl (own_g hw 75 rfl)) F_F_a1_nextLowIn (hb hby d13_7) rfl ?_
  intro T2 X2
  refine Rt.aloadN (pc' := 11) X2 hx (hb hby d13_10) rfl rfl rfl ?_
  refine Rt.getF (pc' := 14) (v := (.int imp)) X2 hx hZ hown (host := "") (Or.inl (own_g hw 79 rfl)) F_F_a1_impossible (hb hby d13_11) rfl ?_
  intro T3 X3
  refine Rt.callV (pc' := 17) X3 hx hZ (y := mt4) (yz := mt4) hown (own_g hw 85 rfl) (own_g hw 86 rfl) (notFace_of_selects (args := #[]) (mvT hZ (own_g hw 88 rfl))) (own_g hw 88 rfl) (own_g hw 87 rfl) (own_g hw 66 rfl) (own_g hw 89 rfl) (by decide) F_E_r3 (rm12 l Z a0 hw [] r3 imp x3 y3 z3 h0 n0 Z0 F_E_r3 F_F_r3_runs F_F_r3_length F_F_r3_lows g_r3) (fun _ _ _ q => q.2.1) (W := 0) (by decide) (by decide) (by decide) (by decide) (argsL := [(.int imp)]) (rest := []) (by rw [hml]; rfl) (lenOf pd_3 rfl) rfl rfl (Nat.le_of_eq rfl) (hb hby d13_14) rfl ?_
  rintro _ T4 h4 L4 X4 ⟨rfl, N4, K4, F5, F6, F7, F8⟩
  have F9 := F_E_a1.keep K4
  have F10 := F_F_a1_impossible.keep K4 (ninS ne_a1_r3 nin0)
  have F11 := F_F_a1_h.keep K4 (ninS ne_a1_r3 nin0)
  have F12 := F_F_a1_lowOut.keep K4 (ninS ne_a1_r3 nin0)
  have F13 := F_F_a1_lowIn.keep K4 (ninS ne_a1_r3 nin0)
  have F14 := F_F_a1_high.keep K4 (ninS ne_a1_r3 nin0)
  have F15 := F_F_a1_nextLowIn.keep K4 (ninS ne_a1_r3 nin0)
  have F16 := F_F_a1_nextHigh.keep K4 (ninS ne_a1_r3 nin0)
  have F17 := F_E_r1.keep K4
  have F18 := F_F_r1_runs.keep K4 (ninS ne_r1_r3 nin0)
  have F19 := F_F_r1_length.keep K4 (ninS ne_r1_r3 nin0)
  have F20 := F_F_r1_lows.keep K4 (ninS ne_r1_r3 nin0)
  have F21 := F_E_r2.keep K4
  have F22 := F_F_r2_runs.keep K4 (ninS ne_r2_r3 nin0)
  have F23 := F_F_r2_length.keep K4 (ninS ne_r2_r3 nin0)
  have F24 := F_F_r2_lows.keep K4 (ninS ne_r2_r3 nin0)
  have F25 := F_E_r3.keep K4
  have F26 := F_E_r4.keep K4
  have F27 := F_F_r4_runs.keep K4 (ninS (Ne.symm ne_r3_r4) nin0)
  have F28 := F_F_r4_length.keep K4 (ninS (Ne.symm ne_r3_r4) nin0)
  have F29 := F_F_r4_lows.keep K4 (ninS (Ne.symm ne_r3_r4) nin0)
  have K30 := (Keep.refl h0 [a1, r3, r4]).trans K4 (allS (Or.inl (List.mem_of_getElem? (i := 1) rfl)) all0)
  have Z31 := Nat.le_trans Z0 K4.1
  show Rt _ _ _ _ _ _ _ (T4.setTop (mkF m 17 #[.val (.ref a1), .val (.int p2), .val (.int p3), .val (.int p4), .val (.int (f14 lo x2)), .unset, .unset] []))
  refine Rt.aloadN (pc' := 18) X4 hx (hb hby d13_17) rfl rfl rfl ?_
  refine Rt.getF (pc' := 21) (v := (.ref r4)) X4 hx hZ hown (host := "") (Or.inl (own_g hw 77 rfl)) F16 (hb hby d13_18) rfl ?_
  intro T32 X32
  refine Rt.aloadN (pc' := 22) X32 hx (hb hby d13_21) rfl rfl rfl ?_
  refine Rt.getF (pc' := 25) (v := (.int imp)) X32 hx hZ hown (host := "") (Or.inl (own_g hw 79 rfl)) F10 (hb hby d13_22) rfl ?_
  intro T33 X33
  refine Rt.callV (pc' := 28) X33 hx hZ (y := mt4) (yz := mt4) hown (own_g hw 85 rfl) (own_g hw 86 rfl) (notFace_of_selects (args := #[]) (mvT hZ (own_g hw 88 rfl))) (own_g hw 88 rfl) (own_g hw 87 rfl) (own_g hw 66 rfl) (own_g hw 89 rfl) (by decide) F26 (rm12 l Z a0 hw [] r4 imp x4 y4 z4 h4 n0 Z31 F26 F27 F28 F29 g_r4) (fun _ _ _ q => q.2.1) (W := 0) (by decide) (by decide) (by decide) (by decide) (argsL := [(.int imp)]) (rest := []) (by rw [hml]; rfl) (lenOf pd_3 rfl) rfl rfl (Nat.le_of_eq rfl) (hb hby d13_25) rfl ?_
  rintro _ T34 h34 L34 X34 ⟨rfl, N34, K34, F35, F36, F37, F38⟩
  have F39 := F9.keep K34
  have F40 := F10.keep K34 (ninS ne_a1_r4 nin0)
  have F41 := F11.keep K34 (ninS ne_a1_r4 nin0)
  have F42 := F12.keep K34 (ninS ne_a1_r4 nin0)
  have F43 := F13.keep K34 (ninS ne_a1_r4 nin0)
  have F44 := F14.keep K34 (ninS ne_a1_r4 nin0)
  have F45 := F15.keep K34 (ninS ne_a1_r4 nin0)
  have F46 := F16.keep K34 (ninS ne_a1_r4 nin0)
  have F47 := F17.keep K34
  have F48 := F18.keep K34 (ninS ne_r1_r4 nin0)
  have F49 := F19.keep K34 (ninS ne_r1_r4 nin0)
  have F50 := F20.keep K34 (ninS ne_r1_r4 nin0)
  have F51 := F21.keep K34
  have F52 := F22.keep K34 (ninS ne_r2_r4 nin0)
  have F53 := F23.keep K34 (ninS ne_r2_r4 nin0)
  have F54 := F24.keep K34 (ninS ne_r2_r4 nin0)
  have F55 := F5.keep K34
  have F56 := F26.keep K34
  have F57 := F6.keep K34 (ninS ne_r3_r4 nin0)
  have F58 := F7.keep K34 (ninS ne_r3_r4 nin0)
  have F59 := F8.keep K34 (ninS ne_r3_r4 nin0)
  have K60 := K30.trans K34 (allS (Or.inl (List.mem_of_getElem? (i := 2) rfl)) all0)
  have Z61 := Nat.le_trans Z31 K34.1
  show Rt _ _ _ _ _ _ _ (T34.setTop (mkF m 28 #[.val (.ref a1), .val (.int p2), .val (.int p3), .val (.int p4), .val (.int (f14 lo x2)), .unset, .unset] []))
  refine Rt.iloadN (pc' := 29) X34 hx (hb hby d13_28) rfl rfl ?_
  have J29_62 : ∀ T62 (h62 : Heap) , Sd p l e rmR13 s m #[(.ref a1), (.int p2), (.int p3), (.int p4)] below meth c T62 n0 0 0 h62 → n0 ≤ h62.size → Keep h0 h62 [a1, r3, r4] → Exa Z h62 a1 nm2 → Fld Z h62 a1 nm2 "impossible" "I" (.int imp) → Fld Z h62 a1 nm2 "h" "I" (.int hm) → Fld Z h62 a1 nm2 "lowOut" "I" (.int lo) → Fld Z h62 a1 nm2 "lowIn" nm3 (.ref r1) → Fld Z h62 a1 nm2 "high" nm3 (.ref r2) → Fld Z h62 a1 nm2 "nextLowIn" nm3 (.ref r3) → Fld Z h62 a1 nm2 "nextHigh" nm3 (.ref r4) → Exa Z h62 r1 nm1 → Fld Z h62 r1 nm1 "runs" "I" (.int x1) → Fld Z h62 r1 nm1 "length" "I" (.int y1) → Fld Z h62 r1 nm1 "lows" "I" (.int z1) → Exa Z h62 r2 nm1 → Fld Z h62 r2 nm1 "runs" "I" (.int x2) → Fld Z h62 r2 nm1 "length" "I" (.int y2) → Fld Z h62 r2 nm1 "lows" "I" (.int z2) → Exa Z h62 r3 nm1 → Exa Z h62 r4 nm1 → Fld Z h62 r3 nm1 "runs" "I" (.int (f13_j64_F_r3_runs_0 p2 p4 imp hm x1 y1 z1 x2 y2 z2)) → Fld Z h62 r3 nm1 "length" "I" (.int (f13_j64_F_r3_length_0 p2 p4 imp hm x1 y1 z1 x2 y2 z2)) → Fld Z h62 r3 nm1 "lows" "I" (.int (f13_j64_F_r3_lows_0 p2 p4 imp hm x1 y1 z1 x2 y2 z2)) → Fld Z h62 r4 nm1 "runs" "I" (.int imp) → Fld Z h62 r4 nm1 "length" "I" (.int (0 : Int32)) → Fld Z h62 r4 nm1 "lows" "I" (.int (0 : Int32)) → Rt p e below s rmR13.cells rmR13.slots (Q13 Z a1 p2 p3 p4 imp hm lo r1 r2 r3 r4 x1 y1 z1 x2 y2 z2 x3 y3 z3 x4 y4 z4 h0 n0) (T62.setTop (mkF m 64 #[.val (.ref a1), .val (.int p2), .val (.int p3), .val (.int p4), .val (.int (f14 lo x2)), .unset, .unset] [])) := by
    intro T62 h62  X62 Z62 K62 F63 F64 F65 F66 F67 F68 F69 F70 F71 F72 F73 F74 F75 F76 F77 F78 F79 F80 F81 F82 F83 F84 F85 F86
    refine Rt.iloadN (pc' := 65) X62 hx (hb hby d13_64) rfl rfl ?_
    have J65_87 : ∀ T87 (h87 : Heap) , Sd p l e rmR13 s m #[(.ref a1), (.int p2), (.int p3), (.int p4)] below meth c T87 n0 0 0 h87 → n0 ≤ h87.size → Keep h0 h87 [a1, r3, r4] → Exa Z h87 a1 nm2 → Fld Z h87 a1 nm2 "impossible" "I" (.int imp) → Fld Z h87 a1 nm2 "h" "I" (.int hm) → Fld Z h87 a1 nm2 "lowOut" "I" (.int lo) → Fld Z h87 a1 nm2 "lowIn" nm3 (.ref r1) → Fld Z h87 a1 nm2 "high" nm3 (.ref r2) → Fld Z h87 a1 nm2 "nextLowIn" nm3 (.ref r3) → Fld Z h87 a1 nm2 "nextHigh" nm3 (.ref r4) → Exa Z h87 r1 nm1 → Fld Z h87 r1 nm1 "runs" "I" (.int x1) → Fld Z h87 r1 nm1 "length" "I" (.int y1) → Fld Z h87 r1 nm1 "lows" "I" (.int z1) → Exa Z h87 r2 nm1 → Fld Z h87 r2 nm1 "runs" "I" (.int x2) → Fld Z h87 r2 nm1 "length" "I" (.int y2) → Fld Z h87 r2 nm1 "lows" "I" (.int z2) → Exa Z h87 r3 nm1 → Exa Z h87 r4 nm1 → Fld Z h87 r3 nm1 "runs" "I" (.int (f13_j64_F_r3_runs_0 p2 p4 imp hm x1 y1 z1 x2 y2 z2)) → Fld Z h87 r3 nm1 "length" "I" (.int (f13_j64_F_r3_length_0 p2 p4 imp hm x1 y1 z1 x2 y2 z2)) → Fld Z h87 r3 nm1 "lows" "I" (.int (f13_j64_F_r3_lows_0 p2 p4 imp hm x1 y1 z1 x2 y2 z2)) → Fld Z h87 r4 nm1 "runs" "I" (.int (f13_j109_F_r4_runs_0 p3 p4 imp hm lo x1 y1 z1 x2 y2 z2)) → Fld Z h87 r4 nm1 "length" "I" (.int (f13_j109_F_r4_length_0 p3 p4 imp hm lo x1 y1 z1 x2 y2 z2)) → Fld Z h87 r4 nm1 "lows" "I" (.int (f13_j109_F_r4_lows_0 p3 p4 imp hm lo x1 y1 z1 x2 y2 z2)) → Rt p e below s rmR13.cells rmR13.slots (Q13 Z a1 p2 p3 p4 imp hm lo r1 r2 r3 r4 x1 y1 z1 x2 y2 z2 x3 y3 z3 x4 y4 z4 h0 n0) (T87.setTop (mkF m 109 #[.val (.ref a1), .val (.int p2), .val (.int p3), .val (.int p4), .val (.int (f14 lo x2)), .unset, .unset] [])) := by
      intro T87 h87  X87 Z87 K87 F88 F89 F90 F91 F92 F93 F94 F95 F96 F97 F98 F99 F100 F101 F102 F103 F104 F105 F106 F107 F108 F109 F110 F111
      refine Rt.aloadN (pc' := 110) X87 hx (hb hby d13_109) rfl rfl rfl ?_
      refine Rt.iloadN (pc' := 111) X87 hx (hb hby d13_110) rfl rfl ?_
      have J111_112 : ∀ T112  , Sd p l e rmR13 s m #[(.ref a1), (.int p2), (.int p3), (.int p4)] below meth c T112 n0 0 0 h87 → Rt p e below s rmR13.cells rmR13.slots (Q13 Z a1 p2 p3 p4 imp hm lo r1 r2 r3 r4 x1 y1 z1 x2 y2 z2 x3 y3 z3 x4 y4 z4 h0 n0) (T112.setTop (mkF m 123 #[.val (.ref a1), .val (.int p2), .val (.int p3), .val (.int p4), .val (.int (f14 lo x2)), .unset, .unset] [(.int (f13_j123_s0 p2 imp lo x2)), (.ref a1)])) := by
        intro T112   X112 
        refine Rt.putF (pc' := 126) (v := (.int (f13_j123_s0 p2 imp lo x2))) X112 hx hZ hown (host := "") (Or.inl (own_g hw 83 rfl)) F91 F88 (Or.inl (own_g hw 84 rfl)) (own_g hw 58 rfl) (ty := .int) (by decide) rfl rfl g_a1 (hb hby d13_123) rfl ?_
        intro T113 h113 X113 W113 F113
        have F114 := F88.wr W113
        have F115 := F89.other W113 (Or.inr Sl0)
        have F116 := F90.other W113 (Or.inr Sl1)
        have F117 := F92.other W113 (Or.inr Sl2)
        have F118 := F93.other W113 (Or.inr Sl3)
        have F119 := F94.other W113 (Or.inr Sl4)
        have F120 := F95.other W113 (Or.inr Sl5)
        have F121 := F96.wr W113
        have F122 := F97.other W113 (Or.inl (Ne.symm ne_a1_r1))
        have F123 := F98.other W113 (Or.inl (Ne.symm ne_a1_r1))
        have F124 := F99.other W113 (Or.inl (Ne.symm ne_a1_r1))
        have F125 := F100.wr W113
        have F126 := F101.other W113 (Or.inl (Ne.symm ne_a1_r2))
        have F127 := F102.other W113 (Or.inl (Ne.symm ne_a1_r2))
        have F128 := F103.other W113 (Or.inl (Ne.symm ne_a1_r2))
        have F129 := F104.wr W113
        have F130 := F105.wr W113
        have F131 := F106.other W113 (Or.inl (Ne.symm ne_a1_r3))
        have F132 := F107.other W113 (Or.inl (Ne.symm ne_a1_r3))
        have F133 := F108.other W113 (Or.inl (Ne.symm ne_a1_r3))
        have F134 := F109.other W113 (Or.inl (Ne.symm ne_a1_r4))
        have F135 := F110.other W113 (Or.inl (Ne.symm ne_a1_r4))
        have F136 := F111.other W113 (Or.inl (Ne.symm ne_a1_r4))
        have K137 := K87.wr W113 (Or.inl (List.mem_of_getElem? (i := 0) rfl))
        have Z138 := Nat.le_trans Z87 (Keep.of_wr W113).1
        refine Rt.aloadN (pc' := 127) X113 hx (hb hby d13_126) rfl rfl rfl ?_
        refine Rt.getF (pc' := 130) (v := (.ref r1)) X113 hx hZ hown (host := "") (Or.inl (own_g hw 71 rfl)) F117 (hb hby d13_127) rfl ?_
        intro T139 X139
        refine Rt.astore (pc' := 132) (v := (.ref r1)) (l' := #[.val (.ref a1), .val (.int p2), .val (.int p3), .val (.int p4), .val (.int (f14 lo x2)), .val (.ref r1), .unset]) X139 hx (hb hby d13_130) rfl rfl rfl ?_
        refine Rt.aloadN (pc' := 133) X139 hx (hb hby d13_132) rfl rfl rfl ?_
        refine Rt.aloadN (pc' := 134) X139 hx (hb hby d13_133) rfl rfl rfl ?_
        refine Rt.getF (pc' := 137) (v := (.ref r3)) X139 hx hZ hown (host := "") (Or.inl (own_g hw 75 rfl)) F119 (hb hby d13_134) rfl ?_
        intro T140 X140
        refine Rt.putF (pc' := 140) (v := (.ref r3)) X140 hx hZ hown (host := "") (Or.inl (own_g hw 71 rfl)) F117 F114 (Or.inl (own_g hw 72 rfl)) (own_g hw 58 rfl) (ty := (.object "com/example/tightfold/tightfold/FocusFiltering$Run")) (by decide) rfl rfl g_a1 (hb hby d13_137) rfl ?_
        intro T141 h141 X141 W141 F141
        have F142 := F114.wr W141
        have F143 := F115.other W141 (Or.inr Sl6)
        have F144 := F116.other W141 (Or.inr Sl7)
        have F145 := F113.other W141 (Or.inr Sl8)
        have F146 := F118.other W141 (Or.inr Sl9)
        have F147 := F119.other W141 (Or.inr Sl10)
        have F148 := F120.other W141 (Or.inr Sl11)
        have F149 := F121.wr W141
        have F150 := F122.other W141 (Or.inl (Ne.symm ne_a1_r1))
        have F151 := F123.other W141 (Or.inl (Ne.symm ne_a1_r1))
        have F152 := F124.other W141 (Or.inl (Ne.symm ne_a1_r1))
        have F153 := F125.wr W141
        have F154 := F126.other W141 (Or.inl (Ne.symm ne_a1_r2))
        have F155 := F127.other W141 (Or.inl (Ne.symm ne_a1_r2))
        have F156 := F128.other W141 (Or.inl (Ne.symm ne_a1_r2))
        have F157 := F129.wr W141
        have F158 := F130.wr W141
        have F159 := F131.other W141 (Or.inl (Ne.symm ne_a1_r3))
        have F160 := F132.other W141 (Or.inl (Ne.symm ne_a1_r3))
        have F161 := F133.other W141 (Or.inl (Ne.symm ne_a1_r3))
        have F162 := F134.other W141 (Or.inl (Ne.symm ne_a1_r4))
        have F163 := F135.other W141 (Or.inl (Ne.symm ne_a1_r4))
        have F164 := F136.other W141 (Or.inl (Ne.symm ne_a1_r4))
        have K165 := K137.wr W141 (Or.inl (List.mem_of_getElem? (i := 0) rfl))
        have Z166 := Nat.le_trans Z138 (Keep.of_wr W141).1
        refine Rt.aloadN (pc' := 141) X141 hx (hb hby d13_140) rfl rfl rfl ?_
        refine Rt.aload (pc' := 143) X141 hx (hb hby d13_141) rfl rfl rfl ?_
        refine Rt.putF (pc' := 146) (v := (.ref r1)) X141 hx hZ hown (host := "") (Or.inl (own_g hw 75 rfl)) F147 F142 (Or.inl (own_g hw 76 rfl)) (own_g hw 58 rfl) (ty := (.object "com/example/tightfold/tightfold/FocusFiltering$Run")) (by decide) rfl rfl g_a1 (hb hby d13_143) rfl ?_
        intro T167 h167 X167 W167 F167
        have F168 := F142.wr W167
        have F169 := F143.other W167 (Or.inr Sl12)
        have F170 := F144.other W167 (Or.inr Sl13)
        have F171 := F145.other W167 (Or.inr Sl14)
        have F172 := F141.other W167 (Or.inr Sl15)
        have F173 := F146.other W167 (Or.inr Sl16)
        have F174 := F148.other W167 (Or.inr Sl17)
        have F175 := F149.wr W167
        have F176 := F150.other W167 (Or.inl (Ne.symm ne_a1_r1))
        have F177 := F151.other W167 (Or.inl (Ne.symm ne_a1_r1))
        have F178 := F152.other W167 (Or.inl (Ne.symm ne_a1_r1))
        have F179 := F153.wr W167
        have F180 := F154.other W167 (Or.inl (Ne.symm ne_a1_r2))
        have F181 := F155.other W167 (Or.inl (Ne.symm ne_a1_r2))
        have F182 := F156.other W167 (Or.inl (Ne.symm ne_a1_r2))
        have F183 := F157.wr W167
        have F184 := F158.wr W167
        have F185 := F159.other W167 (Or.inl (Ne.symm ne_a1_r3))
        have F186 := F160.other W167 (Or.inl (Ne.symm ne_a1_r3))
        have F187 := F161.other W167 (Or.inl (Ne.symm ne_a1_r3))
        have F188 := F162.other W167 (Or.inl (Ne.symm ne_a1_r4))
        have F189 := F163.other W167 (Or.inl (Ne.symm ne_a1_r4))
        have F190 := F164.other W167 (Or.inl (Ne.symm ne_a1_r4))
        have K191 := K165.wr W167 (Or.inl (List.mem_of_getElem? (i := 0) rfl))
        have Z192 := Nat.le_trans Z166 (Keep.of_wr W167).1
        refine Rt.aloadN (pc' := 147) X167 hx (hb hby d13_146) rfl rfl rfl ?_
        refine Rt.getF (pc' := 150) (v := (.ref r2)) X167 hx hZ hown (host := "") (Or.inl (own_g hw 73 rfl)) F173 (hb hby d13_147) rfl ?_
        intro T193 X193
        refine Rt.astore (pc' := 152) (v := (.ref r2)) (l' := #[.val (.ref a1), .val (.int p2), .val (.int p3), .val (.int p4), .val (.int (f14 lo x2)), .val (.ref r1), .val (.ref r2)]) X193 hx (hb hby d13_150) rfl rfl rfl ?_
        refine Rt.aloadN (pc' := 153) X193 hx (hb hby d13_152) rfl rfl rfl ?_
        refine Rt.aloadN (pc' := 154) X193 hx (hb hby d13_153) rfl rfl rfl ?_
        refine Rt.getF (pc' := 157) (v := (.ref r4)) X193 hx hZ hown (host := "") (Or.inl (own_g hw 77 rfl)) F174 (hb hby d13_154) rfl ?_
        intro T194 X194
        refine Rt.putF (pc' := 160) (v := (.ref r4)) X194 hx hZ hown (host := "") (Or.inl (own_g hw 73 rfl)) F173 F168 (Or.inl (own_g hw 74 rfl)) (own_g hw 58 rfl) (ty := (.object "com/example/tightfold/tightfold/FocusFiltering$Run")) (by decide) rfl rfl g_a1 (hb hby d13_157) rfl ?_
        intro T195 h195 X195 W195 F195
        have F196 := F168.wr W195
        have F197 := F169.other W195 (Or.inr Sl18)
        have F198 := F170.other W195 (Or.inr Sl19)
        have F199 := F171.other W195 (Or.inr Sl20)
        have F200 := F172.other W195 (Or.inr Sl21)
        have F201 := F167.other W195 (Or.inr Sl22)
        have F202 := F174.other W195 (Or.inr Sl23)
        have F203 := F175.wr W195
        have F204 := F176.other W195 (Or.inl (Ne.symm ne_a1_r1))
        have F205 := F177.other W195 (Or.inl (Ne.symm ne_a1_r1))
        have F206 := F178.other W195 (Or.inl (Ne.symm ne_a1_r1))
        have F207 := F179.wr W195
        have F208 := F180.other W195 (Or.inl (Ne.symm ne_a1_r2))
        have F209 := F181.other W195 (Or.inl (Ne.symm ne_a1_r2))
        have F210 := F182.other W195 (Or.inl (Ne.symm ne_a1_r2))
        have F211 := F183.wr W195
        have F212 := F184.wr W195
        have F213 := F185.other W195 (Or.inl (Ne.symm ne_a1_r3))
        have F214 := F186.other W195 (Or.inl (Ne.symm ne_a1_r3))
        have F215 := F187.other W195 (Or.inl (Ne.symm ne_a1_r3))
        have F216 := F188.other W195 (Or.inl (Ne.symm ne_a1_r4))
        have F217 := F189.other W195 (Or.inl (Ne.symm ne_a1_r4))
        have F218 := F190.other W195 (Or.inl (Ne.symm ne_a1_r4))
        have K219 := K191.wr W195 (Or.inl (List.mem_of_getElem? (i := 0) rfl))
        have Z220 := Nat.le_trans Z192 (Keep.of_wr W195).1
        refine Rt.aloadN (pc' := 161) X195 hx (hb hby d13_160) rfl rfl rfl ?_
        refine Rt.aload (pc' := 163) X195 hx (hb hby d13_161) rfl rfl rfl ?_
        refine Rt.putF (pc' := 166) (v := (.ref r2)) X195 hx hZ hown (host := "") (Or.inl (own_g hw 77 rfl)) F202 F196 (Or.inl (own_g hw 78 rfl)) (own_g hw 58 rfl) (ty := (.object "com/example/tightfold/tightfold/FocusFiltering$Run")) (by decide) rfl rfl g_a1 (hb hby d13_163) rfl ?_
        intro T221 h221 X221 W221 F221
        have F222 := F196.wr W221
        have F223 := F197.other W221 (Or.inr Sl24)
        have F224 := F198.other W221 (Or.inr Sl25)
        have F225 := F199.other W221 (Or.inr Sl26)
        have F226 := F200.other W221 (Or.inr Sl27)
        have F227 := F195.other W221 (Or.inr Sl28)
        have F228 := F201.other W221 (Or.inr Sl29)
        have F229 := F203.wr W221
        have F230 := F204.other W221 (Or.inl (Ne.symm ne_a1_r1))
        have F231 := F205.other W221 (Or.inl (Ne.symm ne_a1_r1))
        have F232 := F206.other W221 (Or.inl (Ne.symm ne_a1_r1))
        have F233 := F207.wr W221
        have F234 := F208.other W221 (Or.inl (Ne.symm ne_a1_r2))
        have F235 := F209.other W221 (Or.inl (Ne.symm ne_a1_r2))
        have F236 := F210.other W221 (Or.inl (Ne.symm ne_a1_r2))
        have F237 := F211.wr W221
        have F238 := F212.wr W221
        have F239 := F213.other W221 (Or.inl (Ne.symm ne_a1_r3))
        have F240 := F214.other W221 (Or.inl (Ne.symm ne_a1_r3))
        have F241 := F215.other W221 (Or.inl (Ne.symm ne_a1_r3))
        have F242 := F216.other W221 (Or.inl (Ne.symm ne_a1_r4))
        have F243 := F217.other W221 (Or.inl (Ne.symm ne_a1_r4))
        have F244 := F218.other W221 (Or.inl (Ne.symm ne_a1_r4))
        have K245 := K219.wr W221 (Or.inl (List.mem_of_getElem? (i := 0) rfl))
        have Z246 := Nat.le_trans Z220 (Keep.of_wr W221).1
        exact Rt.retV X221 hx hlk hret (hb hby d13_166) (by decide) (by decide) (fun L N => ⟨rfl, N, K245, F222, F223, F224, F225, F226, F227, F228, F221, F237, F238, F239, F240, F241, F242, F243, F244⟩)
      by_cases hc111_247 : p2 = (0 : Int32)
      · refine Rt.ifY (pc' := 119) X87 hx (hb hby d13_111) ((if0 _ _).trans (teq hc111_247).1) (by decide) (by decide) ?_
        refine Rt.aloadN (pc' := 120) X87 hx (hb hby d13_119) rfl rfl rfl ?_
        refine Rt.getF (pc' := 123) (v := (.int imp)) X87 hx hZ hown (host := "") (Or.inl (own_g hw 79 rfl)) F89 (hb hby d13_120) rfl ?_
        intro T248 X248
        have q := J111_112 T248   X248
        rw [show (f13_j123_s0 p2 imp lo x2) = imp from by rw [f13_j123_s0, if_pos hc111_247]] at q
        exact q
      · refine Rt.ifN (pc' := 114) X87 hx (hb hby d13_111) ((if0 _ _).trans (feq hc111_247).1) rfl ?_
        refine Rt.iload (pc' := 116) X87 hx (hb hby d13_114) rfl rfl ?_
        refine Rt.goto (pc' := 123) X87 hx (hb hby d13_116) (by decide) (by decide) ?_
        have q := J111_112 T87   X87
        rw [show (f13_j123_s0 p2 imp lo x2) = (f14 lo x2) from by rw [f13_j123_s0, if_neg hc111_247]] at q
        exact q
    by_cases hc65_249 : p3 = (0 : Int32)
    · refine Rt.ifY (pc' := 109) X62 hx (hb hby d13_65) ((if0 _ _).trans (teq hc65_249).1) (by decide) (by decide) ?_
      have q := J65_87 T62 h62  X62
      rw [show (f13_j109_F_r4_runs_0 p3 p4 imp hm lo x1 y1 z1 x2 y2 z2) = imp from by rw [f13_j109_F_r4_runs_0, if_pos hc65_249]] at q
      rw [show (f13_j109_F_r4_length_0 p3 p4 imp hm lo x1 y1 z1 x2 y2 z2) = (0 : Int32) from by rw [f13_j109_F_r4_length_0, if_pos hc65_249]] at q
      rw [show (f13_j109_F_r4_lows_0 p3 p4 imp hm lo x1 y1 z1 x2 y2 z2) = (0 : Int32) from by rw [f13_j109_F_r4_lows_0, if_pos hc65_249]] at q
      exact q Z62 K62 F63 F64 F65 F66 F67 F68 F69 F70 F71 F72 F73 F74 F75 F76 F77 F78 F79 F80 F81 F82 F83 F84 F85 F86
    · refine Rt.ifN (pc' := 68) X62 hx (hb hby d13_65) ((if0 _ _).trans (feq hc65_249).1) rfl ?_
      refine Rt.aloadN (pc' := 69) X62 hx (hb hby d13_68) rfl rfl rfl ?_
      refine Rt.aloadN (pc' := 70) X62 hx (hb hby d13_69) rfl rfl rfl ?_
      refine Rt.getF (pc' := 73) (v := (.ref r4)) X62 hx hZ hown (host := "") (Or.inl (own_g hw 77 rfl)) F70 (hb hby d13_70) rfl ?_
      intro T250 X250
      refine Rt.aloadN (pc' := 74) X250 hx (hb hby d13_73) rfl rfl rfl ?_
      refine Rt.getF (pc' := 77) (v := (.ref r1)) X250 hx hZ hown (host := "") (Or.inl (own_g hw 71 rfl)) F67 (hb hby d13_74) rfl ?_
      intro T251 X251
      refine Rt.iloadN (pc' := 78) X251 hx (hb hby d13_77) rfl rfl ?_
      refine Rt.iconst (pc' := 79) (v := (0 : Int32)) X251 hx (hb hby d13_78) rfl rfl ?_
      refine Rt.callPr (pc' := 82) X251 hx hZ (y := mt7) hown (own_g hw 108 rfl) (own_g hw 109 rfl) (own_g hw 110 rfl) (own_g hw 58 rfl) (own_g hw 59 rfl) (own_g hw 111 rfl) (by decide) F63 (rm15 l Z a0 hw [] a1 r4 r1 p4 (0 : Int32) imp hm imp (0 : Int32) (0 : Int32) x1 y1 z1 h62 n0 Z62 F63 F64 F65 F80 F84 F85 F86 F72 F73 F74 g_r4 (Ne.symm ne_r1_r4) ne_a1_r4) (fun _ _ _ q => q.2.1) (W := 0) (by decide) (by decide) (by decide) (by decide) (argsL := [(.ref r4), (.ref r1), (.int p4), (.int (0 : Int32))]) (rest := []) (by rw [hml]; rfl) (lenOf pd_4 rfl) rfl rfl (Nat.le_of_eq rfl) (hb hby d13_79) rfl ?_
      rintro _ T252 h252 L252 X252 ⟨rfl, N252, K252, F253, F254, F255, F256⟩
      have F257 := F63.keep K252
      have F258 := F64.keep K252 (ninS ne_a1_r4 nin0)
      have F259 := F65.keep K252 (ninS ne_a1_r4 nin0)
      have F260 := F66.keep K252 (ninS ne_a1_r4 nin0)
      have F261 := F67.keep K252 (ninS ne_a1_r4 nin0)
      have F262 := F68.keep K252 (ninS ne_a1_r4 nin0)
      have F263 := F69.keep K252 (ninS ne_a1_r4 nin0)
      have F264 := F70.keep K252 (ninS ne_a1_r4 nin0)
      have F265 := F71.keep K252
      have F266 := F72.keep K252 (ninS ne_r1_r4 nin0)
      have F267 := F73.keep K252 (ninS ne_r1_r4 nin0)
      have F268 := F74.keep K252 (ninS ne_r1_r4 nin0)
      have F269 := F75.keep K252
      have F270 := F76.keep K252 (ninS ne_r2_r4 nin0)
      have F271 := F77.keep K252 (ninS ne_r2_r4 nin0)
      have F272 := F78.keep K252 (ninS ne_r2_r4 nin0)
      have F273 := F79.keep K252
      have F274 := F80.keep K252
      have F275 := F81.keep K252 (ninS ne_r3_r4 nin0)
      have F276 := F82.keep K252 (ninS ne_r3_r4 nin0)
      have F277 := F83.keep K252 (ninS ne_r3_r4 nin0)
      have K278 := K62.trans K252 (allS (Or.inl (List.mem_of_getElem? (i := 2) rfl)) all0)
      have Z279 := Nat.le_trans Z62 K252.1
      have F280 : Fld Z h252 r4 nm1 "runs" "I" (.int (f13_c79_r4_runs0 p4 imp hm x1 y1 z1)) := F254
      have F281 : Fld Z h252 r4 nm1 "length" "I" (.int (f13_c79_r4_length0 p4 imp hm x1 y1 z1)) := F255
      have F282 : Fld Z h252 r4 nm1 "lows" "I" (.int (f13_c79_r4_lows0 p4 imp hm x1 y1 z1)) := F256
      show Rt _ _ _ _ _ _ _ (T252.setTop (mkF m 82 #[.val (.ref a1), .val (.int p2), .val (.int p3), .val (.int p4), .val (.int (f14 lo x2)), .unset, .unset] []))
      refine Rt.aloadN (pc' := 83) X252 hx (hb hby d13_82) rfl rfl rfl ?_
      refine Rt.aloadN (pc' := 84) X252 hx (hb hby d13_83) rfl rfl rfl ?_
      refine Rt.getF (pc' := 87) (v := (.ref r4)) X252 hx hZ hown (host := "") (Or.inl (own_g hw 77 rfl)) F264 (hb hby d13_84) rfl ?_
      intro T283 X283
      refine Rt.aloadN (pc' := 88) X283 hx (hb hby d13_87) rfl rfl rfl ?_
      refine Rt.getF (pc' := 91) (v := (.ref r2)) X283 hx hZ hown (host := "") (Or.inl (own_g hw 73 rfl)) F262 (hb hby d13_88) rfl ?_
      intro T284 X284
      refine Rt.iloadN (pc' := 92) X284 hx (hb hby d13_91) rfl rfl ?_
      refine Rt.iconst (pc' := 93) (v := (0 : Int32)) X284 hx (hb hby d13_92) rfl rfl ?_
      refine Rt.callPr (pc' := 96) X284 hx hZ (y := mt7) hown (own_g hw 108 rfl) (own_g hw 109 rfl) (own_g hw 110 rfl) (own_g hw 58 rfl) (own_g hw 59 rfl) (own_g hw 111 rfl) (by decide) F257 (rm15 l Z a0 hw [] a1 r4 r2 p4 (0 : Int32) imp hm (f13_c79_r4_runs0 p4 imp hm x1 y1 z1) (f13_c79_r4_length0 p4 imp hm x1 y1 z1) (f13_c79_r4_lows0 p4 imp hm x1 y1 z1) x2 y2 z2 h252 n0 Z279 F257 F258 F259 F253 F280 F281 F282 F270 F271 F272 g_r4 (Ne.symm ne_r2_r4) ne_a1_r4) (fun _ _ _ q => q.2.1) (W := 0) (by decide) (by decide) (by decide) (by decide) (argsL := [(.ref r4), (.ref r2), (.int p4), (.int (0 : Int32))]) (rest := []) (by rw [hml]; rfl) (lenOf pd_4 rfl) rfl rfl (Nat.le_of_eq rfl) (hb hby d13_93) rfl ?_
      rintro _ T285 h285 L285 X285 ⟨rfl, N285, K285, F286, F287, F288, F289⟩
      have F290 := F257.keep K285
      have F291 := F258.keep K285 (ninS ne_a1_r4 nin0)
      have F292 := F259.keep K285 (ninS ne_a1_r4 nin0)
      have F293 := F260.keep K285 (ninS ne_a1_r4 nin0)
      have F294 := F261.keep K285 (ninS ne_a1_r4 nin0)
      have F295 := F262.keep K285 (ninS ne_a1_r4 nin0)
      have F296 := F263.keep K285 (ninS ne_a1_r4 nin0)
      have F297 := F264.keep K285 (ninS ne_a1_r4 nin0)
      have F298 := F265.keep K285
      have F299 := F266.keep K285 (ninS ne_r1_r4 nin0)
      have F300 := F267.keep K285 (ninS ne_r1_r4 nin0)
      have F301 := F268.keep K285 (ninS ne_r1_r4 nin0)
      have F302 := F269.keep K285
      have F303 := F270.keep K285 (ninS ne_r2_r4 nin0)
      have F304 := F271.keep K285 (ninS ne_r2_r4 nin0)
      have F305 := F272.keep K285 (ninS ne_r2_r4 nin0)
      have F306 := F273.keep K285
      have F307 := F253.keep K285
      have F308 := F275.keep K285 (ninS ne_r3_r4 nin0)
      have F309 := F276.keep K285 (ninS ne_r3_r4 nin0)
      have F310 := F277.keep K285 (ninS ne_r3_r4 nin0)
      have K311 := K278.trans K285 (allS (Or.inl (List.mem_of_getElem? (i := 2) rfl)) all0)
      have Z312 := Nat.le_trans Z279 K285.1
      have F313 : Fld Z h285 r4 nm1 "runs" "I" (.int (f13_c93_r4_runs0 p4 imp hm x1 y1 z1 x2 y2 z2)) := F287
      have F314 : Fld Z h285 r4 nm1 "length" "I" (.int (f13_c93_r4_length0 p4 imp hm x1 y1 z1 x2 y2 z2)) := F288
      have F315 : Fld Z h285 r4 nm1 "lows" "I" (.int (f13_c93_r4_lows0 p4 imp hm x1 y1 z1 x2 y2 z2)) := F289
      show Rt _ _ _ _ _ _ _ (T285.setTop (mkF m 96 #[.val (.ref a1), .val (.int p2), .val (.int p3), .val (.int p4), .val (.int (f14 lo x2)), .unset, .unset] []))
      refine Rt.aloadN (pc' := 97) X285 hx (hb hby d13_96) rfl rfl rfl ?_
      refine Rt.getF (pc' := 100) (v := (.ref r4)) X285 hx hZ hown (host := "") (Or.inl (own_g hw 77 rfl)) F297 (hb hby d13_97) rfl ?_
      intro T316 X316
      refine Rt.iload (pc' := 102) X316 hx (hb hby d13_100) rfl rfl ?_
      refine Rt.iconst (pc' := 103) (v := (1 : Int32)) X316 hx (hb hby d13_102) rfl rfl ?_
      refine Rt.iadd (pc' := 104) (r := ((f14 lo x2) + (1 : Int32))) X316 hx (hb hby d13_103) rfl rfl ?_
      refine Rt.iconst (pc' := 105) (v := (1 : Int32)) X316 hx (hb hby d13_104) rfl rfl ?_
      refine Rt.iconst (pc' := 106) (v := (0 : Int32)) X316 hx (hb hby d13_105) rfl rfl ?_
      refine Rt.callV (pc' := 109) X316 hx hZ (y := mt5) (yz := mt5) hown (own_g hw 122 rfl) (own_g hw 123 rfl) (notFace_of_selects (args := #[]) (mvT hZ (own_g hw 125 rfl))) (own_g hw 125 rfl) (own_g hw 124 rfl) (own_g hw 66 rfl) (own_g hw 126 rfl) (by decide) F286 (rm17 l Z a0 hw [] r4 (f13_a106_0 lo x2) (1 : Int32) (0 : Int32) (f13_c93_r4_runs0 p4 imp hm x1 y1 z1 x2 y2 z2) (f13_c93_r4_length0 p4 imp hm x1 y1 z1 x2 y2 z2) (f13_c93_r4_lows0 p4 imp hm x1 y1 z1 x2 y2 z2) h285 n0 Z312 F286 F313 F314 F315 g_r4) (fun _ _ _ q => q.2.1) (W := 0) (by decide) (by decide) (by decide) (by decide) (argsL := [(.int (f13_a106_0 lo x2)), (.int (1 : Int32)), (.int (0 : Int32))]) (rest := []) (by rw [hml]; rfl) (lenOf pd_1 rfl) rfl rfl (Nat.le_of_eq rfl) (hb hby d13_106) rfl ?_
      rintro _ T317 h317 L317 X317 ⟨rfl, N317, K317, F318, F319, F320, F321⟩
      have F322 := F290.keep K317
      have F323 := F291.keep K317 (ninS ne_a1_r4 nin0)
      have F324 := F292.keep K317 (ninS ne_a1_r4 nin0)
      have F325 := F293.keep K317 (ninS ne_a1_r4 nin0)
      have F326 := F294.keep K317 (ninS ne_a1_r4 nin0)
      have F327 := F295.keep K317 (ninS ne_a1_r4 nin0)
      have F328 := F296.keep K317 (ninS ne_a1_r4 nin0)
      have F329 := F297.keep K317 (ninS ne_a1_r4 nin0)
      have F330 := F298.keep K317
      have F331 := F299.keep K317 (ninS ne_r1_r4 nin0)
      have F332 := F300.keep K317 (ninS ne_r1_r4 nin0)
      have F333 := F301.keep K317 (ninS ne_r1_r4 nin0)
      have F334 := F302.keep K317
      have F335 := F303.keep K317 (ninS ne_r2_r4 nin0)
      have F336 := F304.keep K317 (ninS ne_r2_r4 nin0)
      have F337 := F305.keep K317 (ninS ne_r2_r4 nin0)
      have F338 := F306.keep K317
      have F339 := F286.keep K317
      have F340 := F308.keep K317 (ninS ne_r3_r4 nin0)
      have F341 := F309.keep K317 (ninS ne_r3_r4 nin0)
      have F342 := F310.keep K317 (ninS ne_r3_r4 nin0)
      have K343 := K311.trans K317 (allS (Or.inl (List.mem_of_getElem? (i := 2) rfl)) all0)
      have Z344 := Nat.le_trans Z312 K317.1
      have F345 : Fld Z h317 r4 nm1 "runs" "I" (.int (f13_c106_r4_runs0 p4 imp hm lo x1 y1 z1 x2 y2 z2)) := F319
      have F346 : Fld Z h317 r4 nm1 "length" "I" (.int (f13_c106_r4_length0 p4 imp hm lo x1 y1 z1 x2 y2 z2)) := F320
      have F347 : Fld Z h317 r4 nm1 "lows" "I" (.int (f13_c106_r4_lows0 p4 imp hm lo x1 y1 z1 x2 y2 z2)) := F321
      show Rt _ _ _ _ _ _ _ (T317.setTop (mkF m 109 #[.val (.ref a1), .val (.int p2), .val (.int p3), .val (.int p4), .val (.int (f14 lo x2)), .unset, .unset] []))
      have q := J65_87 T317 h317  X317
      rw [show (f13_j109_F_r4_runs_0 p3 p4 imp hm lo x1 y1 z1 x2 y2 z2) = (f13_c106_r4_runs0 p4 imp hm lo x1 y1 z1 x2 y2 z2) from by rw [f13_j109_F_r4_runs_0, if_neg hc65_249]] at q
      rw [show (f13_j109_F_r4_length_0 p3 p4 imp hm lo x1 y1 z1 x2 y2 z2) = (f13_c106_r4_length0 p4 imp hm lo x1 y1 z1 x2 y2 z2) from by rw [f13_j109_F_r4_length_0, if_neg hc65_249]] at q
      rw [show (f13_j109_F_r4_lows_0 p3 p4 imp hm lo x1 y1 z1 x2 y2 z2) = (f13_c106_r4_lows0 p4 imp hm lo x1 y1 z1 x2 y2 z2) from by rw [f13_j109_F_r4_lows_0, if_neg hc65_249]] at q
      exact q Z344 K343 F322 F323 F324 F325 F326 F327 F328 F329 F330 F331 F332 F333 F334 F335 F336 F337 F338 F318 F340 F341 F342 F345 F346 F347
  by_cases hc29_348 : p2 = (0 : Int32)
  · refine Rt.ifY (pc' := 64) X34 hx (hb hby d13_29) ((if0 _ _).trans (teq hc29_348).1) (by decide) (by decide) ?_
    have q := J29_62 T34 h34  X34
    rw [show (f13_j64_F_r3_runs_0 p2 p4 imp hm x1 y1 z1 x2 y2 z2) = imp from by rw [f13_j64_F_r3_runs_0, if_pos hc29_348]] at q
    rw [show (f13_j64_F_r3_length_0 p2 p4 imp hm x1 y1 z1 x2 y2 z2) = (0 : Int32) from by rw [f13_j64_F_r3_length_0, if_pos hc29_348]] at q
    rw [show (f13_j64_F_r3_lows_0 p2 p4 imp hm x1 y1 z1 x2 y2 z2) = (0 : Int32) from by rw [f13_j64_F_r3_lows_0, if_pos hc29_348]] at q
    exact q Z61 K60 F39 F40 F41 F42 F43 F44 F45 F46 F47 F48 F49 F50 F51 F52 F53 F54 F55 F35 F57 F58 F59 F36 F37 F38
  · refine Rt.ifN (pc' := 32) X34 hx (hb hby d13_29) ((if0 _ _).trans (feq hc29_348).1) rfl ?_
    refine Rt.aloadN (pc' := 33) X34 hx (hb hby d13_32) rfl rfl rfl ?_
    refine Rt.aloadN (pc' := 34) X34 hx (hb hby d13_33) rfl rfl rfl ?_
    refine Rt.getF (pc' := 37) (v := (.ref r3)) X34 hx hZ hown (host := "") (Or.inl (own_g hw 75 rfl)) F45 (hb hby d13_34) rfl ?_
    intro T349 X349
    refine Rt.aloadN (pc' := 38) X349 hx (hb hby d13_37) rfl rfl rfl ?_
    refine Rt.getF (pc' := 41) (v := (.ref r1)) X349 hx hZ hown (host := "") (Or.inl (own_g hw 71 rfl)) F43 (hb hby d13_38) rfl ?_
    intro T350 X350
    refine Rt.iloadN (pc' := 42) X350 hx (hb hby d13_41) rfl rfl ?_
    refine Rt.iconst (pc' := 43) (v := (1 : Int32)) X350 hx (hb hby d13_42) rfl rfl ?_
    refine Rt.isub (pc' := 44) (r := (p4 - (1 : Int32))) X350 hx (hb hby d13_43) rfl rfl ?_
    refine Rt.iconst (pc' := 45) (v := (1 : Int32)) X350 hx (hb hby d13_44) rfl rfl ?_
    refine Rt.callPr (pc' := 48) X350 hx hZ (y := mt7) hown (own_g hw 108 rfl) (own_g hw 109 rfl) (own_g hw 110 rfl) (own_g hw 58 rfl) (own_g hw 59 rfl) (own_g hw 111 rfl) (by decide) F39 (rm15 l Z a0 hw [] a1 r3 r1 (f13_a45_2 p4) (1 : Int32) imp hm imp (0 : Int32) (0 : Int32) x1 y1 z1 h34 n0 Z61 F39 F40 F41 F55 F57 F58 F59 F48 F49 F50 g_r3 (Ne.symm ne_r1_r3) ne_a1_r3) (fun _ _ _ q => q.2.1) (W := 0) (by decide) (by decide) (by decide) (by decide) (argsL := [(.ref r3), (.ref r1), (.int (f13_a45_2 p4)), (.int (1 : Int32))]) (rest := []) (by rw [hml]; rfl) (lenOf pd_4 rfl) rfl rfl (Nat.le_of_eq rfl) (hb hby d13_45) rfl ?_
    rintro _ T351 h351 L351 X351 ⟨rfl, N351, K351, F352, F353, F354, F355⟩
    have F356 := F39.keep K351
    have F357 := F40.keep K351 (ninS ne_a1_r3 nin0)
    have F358 := F41.keep K351 (ninS ne_a1_r3 nin0)
    have F359 := F42.keep K351 (ninS ne_a1_r3 nin0)
    have F360 := F43.keep K351 (ninS ne_a1_r3 nin0)
    have F361 := F44.keep K351 (ninS ne_a1_r3 nin0)
    have F362 := F45.keep K351 (ninS ne_a1_r3 nin0)
    have F363 := F46.keep K351 (ninS ne_a1_r3 nin0)
    have F364 := F47.keep K351
    have F365 := F48.keep K351 (ninS ne_r1_r3 nin0)
    have F366 := F49.keep K351 (ninS ne_r1_r3 nin0)
    have F367 := F50.keep K351 (ninS ne_r1_r3 nin0)
    have F368 := F51.keep K351
    have F369 := F52.keep K351 (ninS ne_r2_r3 nin0)
    have F370 := F53.keep K351 (ninS ne_r2_r3 nin0)
    have F371 := F54.keep K351 (ninS ne_r2_r3 nin0)
    have F372 := F55.keep K351
    have F373 := F35.keep K351
    have F374 := F36.keep K351 (ninS (Ne.symm ne_r3_r4) nin0)
    have F375 := F37.keep K351 (ninS (Ne.symm ne_r3_r4) nin0)
    have F376 := F38.keep K351 (ninS (Ne.symm ne_r3_r4) nin0)
    have K377 := K60.trans K351 (allS (Or.inl (List.mem_of_getElem? (i := 1) rfl)) all0)
    have Z378 := Nat.le_trans Z61 K351.1
    have F379 : Fld Z h351 r3 nm1 "runs" "I" (.int (f13_c45_r3_runs0 p4 imp hm x1 y1 z1)) := F353
    have F380 : Fld Z h351 r3 nm1 "length" "I" (.int (f13_c45_r3_length0 p4 imp hm x1 y1 z1)) := F354
    have F381 : Fld Z h351 r3 nm1 "lows" "I" (.int (f13_c45_r3_lows0 p4 imp hm x1 y1 z1)) := F355
    show Rt _ _ _ _ _ _ _ (T351.setTop (mkF m 48 #[.val (.ref a1), .val (.int p2), .val (.int p3), .val (.int p4), .val (.int (f14 lo x2)), .unset, .unset] []))
    refine Rt.aloadN (pc' := 49) X351 hx (hb hby d13_48) rfl rfl rfl ?_
    refine Rt.aloadN (pc' := 50) X351 hx (hb hby d13_49) rfl rfl rfl ?_
    refine Rt.getF (pc' := 53) (v := (.ref r3)) X351 hx hZ hown (host := "") (Or.inl (own_g hw 75 rfl)) F362 (hb hby d13_50) rfl ?_
    intro T382 X382
    refine Rt.aloadN (pc' := 54) X382 hx (hb hby d13_53) rfl rfl rfl ?_
    refine Rt.getF (pc' := 57) (v := (.ref r2)) X382 hx hZ hown (host := "") (Or.inl (own_g hw 73 rfl)) F361 (hb hby d13_54) rfl ?_
    intro T383 X383
    refine Rt.iloadN (pc' := 58) X383 hx (hb hby d13_57) rfl rfl ?_
    refine Rt.iconst (pc' := 59) (v := (1 : Int32)) X383 hx (hb hby d13_58) rfl rfl ?_
    refine Rt.isub (pc' := 60) (r := (p4 - (1 : Int32))) X383 hx (hb hby d13_59) rfl rfl ?_
    refine Rt.iconst (pc' := 61) (v := (1 : Int32)) X383 hx (hb hby d13_60) rfl rfl ?_
    refine Rt.callPr (pc' := 64) X383 hx hZ (y := mt7) hown (own_g hw 108 rfl) (own_g hw 109 rfl) (own_g hw 110 rfl) (own_g hw 58 rfl) (own_g hw 59 rfl) (own_g hw 111 rfl) (by decide) F356 (rm15 l Z a0 hw [] a1 r3 r2 (f13_a61_2 p4) (1 : Int32) imp hm (f13_c45_r3_runs0 p4 imp hm x1 y1 z1) (f13_c45_r3_length0 p4 imp hm x1 y1 z1) (f13_c45_r3_lows0 p4 imp hm x1 y1 z1) x2 y2 z2 h351 n0 Z378 F356 F357 F358 F352 F379 F380 F381 F369 F370 F371 g_r3 (Ne.symm ne_r2_r3) ne_a1_r3) (fun _ _ _ q => q.2.1) (W := 0) (by decide) (by decide) (by decide) (by decide) (argsL := [(.ref r3), (.ref r2), (.int (f13_a61_2 p4)), (.int (1 : Int32))]) (rest := []) (by rw [hml]; rfl) (lenOf pd_4 rfl) rfl rfl (Nat.le_of_eq rfl) (hb hby d13_61) rfl ?_
    rintro _ T384 h384 L384 X384 ⟨rfl, N384, K384, F385, F386, F387, F388⟩
    have F389 := F356.keep K384
    have F390 := F357.keep K384 (ninS ne_a1_r3 nin0)
    have F391 := F358.keep K384 (ninS ne_a1_r3 nin0)
    have F392 := F359.keep K384 (ninS ne_a1_r3 nin0)
    have F393 := F360.keep K384 (ninS ne_a1_r3 nin0)
    have F394 := F361.keep K384 (ninS ne_a1_r3 nin0)
    have F395 := F362.keep K384 (ninS ne_a1_r3 nin0)
    have F396 := F363.keep K384 (ninS ne_a1_r3 nin0)
    have F397 := F364.keep K384
    have F398 := F365.keep K384 (ninS ne_r1_r3 nin0)
    have F399 := F366.keep K384 (ninS ne_r1_r3 nin0)
    have F400 := F367.keep K384 (ninS ne_r1_r3 nin0)
    have F401 := F368.keep K384
    have F402 := F369.keep K384 (ninS ne_r2_r3 nin0)
    have F403 := F370.keep K384 (ninS ne_r2_r3 nin0)
    have F404 := F371.keep K384 (ninS ne_r2_r3 nin0)
    have F405 := F352.keep K384
    have F406 := F373.keep K384
    have F407 := F374.keep K384 (ninS (Ne.symm ne_r3_r4) nin0)
    have F408 := F375.keep K384 (ninS (Ne.symm ne_r3_r4) nin0)
    have F409 := F376.keep K384 (ninS (Ne.symm ne_r3_r4) nin0)
    have K410 := K377.trans K384 (allS (Or.inl (List.mem_of_getElem? (i := 1) rfl)) all0)
    have Z411 := Nat.le_trans Z378 K384.1
    have F412 : Fld Z h384 r3 nm1 "runs" "I" (.int (f13_c61_r3_runs0 p4 imp hm x1 y1 z1 x2 y2 z2)) := F386
    have F413 : Fld Z h384 r3 nm1 "length" "I" (.int (f13_c61_r3_length0 p4 imp hm x1 y1 z1 x2 y2 z2)) := F387
    have F414 : Fld Z h384 r3 nm1 "lows" "I" (.int (f13_c61_r3_lows0 p4 imp hm x1 y1 z1 x2 y2 z2)) := F388
    show Rt _ _ _ _ _ _ _ (T384.setTop (mkF m 64 #[.val (.ref a1), .val (.int p2), .val (.int p3), .val (.int p4), .val (.int (f14 lo x2)), .unset, .unset] []))
    have q := J29_62 T384 h384  X384
    rw [show (f13_j64_F_r3_runs_0 p2 p4 imp hm x1 y1 z1 x2 y2 z2) = (f13_c61_r3_runs0 p4 imp hm x1 y1 z1 x2 y2 z2) from by rw [f13_j64_F_r3_runs_0, if_neg hc29_348]] at q
    rw [show (f13_j64_F_r3_length_0 p2 p4 imp hm x1 y1 z1 x2 y2 z2) = (f13_c61_r3_length0 p4 imp hm x1 y1 z1 x2 y2 z2) from by rw [f13_j64_F_r3_length_0, if_neg hc29_348]] at q
    rw [show (f13_j64_F_r3_lows_0 p2 p4 imp hm x1 y1 z1 x2 y2 z2) = (f13_c61_r3_lows0 p4 imp hm x1 y1 z1 x2 y2 z2) from by rw [f13_j64_F_r3_lows_0, if_neg hc29_348]] at q
    exact q Z411 K410 F389 F390 F391 F392 F393 F394 F395 F396 F397 F398 F399 F400 F401 F402 F403 F404 F385 F406 F412 F413 F414 F407 F408 F409
theorem d10_0 : decode prog_4_method_1_code 0 = .ok (.aload_n 0, 1) := by decide +kernel
theorem d10_1 : decode prog_4_method_1_code 1 = .ok (.invokespecial 1, 3) := by decide +kernel
theorem d10_4 : decode prog_4_method_1_code 4 = .ok (.aload_n 0, 1) := by decide +kernel
theorem d10_5 : decode prog_4_method_1_code 5 = .ok (.new 7, 3) := by decide +kernel
theorem d10_8 : decode prog_4_method_1_code 8 = .ok (.dup, 1) := by decide +kernel
theorem pd_5 : parseMethodDescriptor "()V" = some ⟨[], none⟩ := by decide +kernel
theorem d10_9 : decode prog_4_method_1_code 9 = .ok (.invokespecial 9, 3) := by decide +kernel
theorem d10_12 : decode prog_4_method_1_code 12 = .ok (.putfield 10, 3) := by decide +kernel
theorem d10_15 : decode prog_4_method_1_code 15 = .ok (.aload_n 0, 1) := by decide +kernel
theorem d10_16 : decode prog_4_method_1_code 16 = .ok (.new 7, 3) := by decide +kernel
theorem d10_19 : decode prog_4_method_1_code 19 = .ok (.dup, 1) := by decide +kernel
theorem d10_20 : decode prog_4_method_1_code 20 = .ok (.invokespecial 9, 3) := by decide +kernel
theorem d10_23 : decode prog_4_method_1_code 23 = .ok (.putfield 16, 3) := by decide +kernel
theorem d10_26 : decode prog_4_method_1_code 26 = .ok (.aload_n 0, 1) := by decide +kernel
theorem d10_27 : decode prog_4_method_1_code 27 = .ok (.new 7, 3) := by decide +kernel
theorem d10_30 : decode prog_4_method_1_code 30 = .ok (.dup, 1) := by decide +kernel
theorem d10_31 : decode prog_4_method_1_code 31 = .ok (.invokespecial 9, 3) := by decide +kernel
theorem d10_34 : decode prog_4_method_1_code 34 = .ok (.putfield 19, 3) := by decide +kernel
theorem d10_37 : decode prog_4_method_1_code 37 = .ok (.aload_n 0, 1) := by decide +kernel
theorem d10_38 : decode prog_4_method_1_code 38 = .ok (.new 7, 3) := by decide +kernel
theorem d10_41 : decode prog_4_method_1_code 41 = .ok (.dup, 1) := by decide +kernel
theorem d10_42 : decode prog_4_method_1_code 42 = .ok (.invokespecial 9, 3) := by decide +kernel
theorem d10_45 : decode prog_4_method_1_code 45 = .ok (.putfield 22, 3) := by decide +kernel
theorem d10_48 : decode prog_4_method_1_code 48 = .ok (.aload_n 0, 1) := by decide +kernel
theorem d10_49 : decode prog_4_method_1_code 49 = .ok (.iload_n 1, 1) := by decide +kernel
theorem d10_50 : decode prog_4_method_1_code 50 = .ok (.putfield 25, 3) := by decide +kernel
theorem d10_53 : decode prog_4_method_1_code 53 = .ok (.aload_n 0, 1) := by decide +kernel
theorem d10_54 : decode prog_4_method_1_code 54 = .ok (.iload_n 2, 1) := by decide +kernel
theorem d10_55 : decode prog_4_method_1_code 55 = .ok (.putfield 29, 3) := by decide +kernel
theorem d10_58 : decode prog_4_method_1_code 58 = .ok (.aload_n 0, 1) := by decide +kernel
theorem d10_59 : decode prog_4_method_1_code 59 = .ok (.iconst 0, 1) := by decide +kernel
theorem d10_60 : decode prog_4_method_1_code 60 = .ok (.putfield 32, 3) := by decide +kernel
theorem d10_63 : decode prog_4_method_1_code 63 = .ok (.aload_n 0, 1) := by decide +kernel
theorem d10_64 : decode prog_4_method_1_code 64 = .ok (.getfield 10, 3) := by decide +kernel
theorem d10_67 : decode prog_4_method_1_code 67 = .ok (.iload_n 1, 1) := by decide +kernel
theorem d10_68 : decode prog_4_method_1_code 68 = .ok (.invokevirtual 35, 3) := by decide +kernel
theorem d10_71 : decode prog_4_method_1_code 71 = .ok (.aload_n 0, 1) := by decide +kernel
theorem d10_72 : decode prog_4_method_1_code 72 = .ok (.getfield 16, 3) := by decide +kernel
theorem d10_75 : decode prog_4_method_1_code 75 = .ok (.iload_n 1, 1) := by decide +kernel
theorem d10_76 : decode prog_4_method_1_code 76 = .ok (.invokevirtual 35, 3) := by decide +kernel
theorem d10_79 : decode prog_4_method_1_code 79 = .ok (.return_, 1) := by decide +kernel
def Q10 (Z : State) (a1 : Addr) (p2 : Int32) (p3 : Int32) (h0 : Heap) (n0 : Nat) (v : Option Value) (h : Heap) (L : List Loc) : Prop := ∃ nr1 : Addr, ∃ nr2 : Addr, ∃ nr3 : Addr, ∃ nr4 : Addr, h0.size ≤ nr1 ∧ h0.size ≤ nr2 ∧ h0.size ≤ nr3 ∧ h0.size ≤ nr4 ∧ nr1 ≠ nr2 ∧ nr1 ≠ nr3 ∧ nr1 ≠ nr4 ∧ nr2 ≠ nr3 ∧ nr2 ≠ nr4 ∧ nr3 ≠ nr4 ∧ v = none ∧ Fr n0 L ∧ Keep h0 h [a1] ∧ Exa Z h a1 nm2 ∧ Fld Z h a1 nm2 "impossible" "I" (.int p2) ∧ Fld Z h a1 nm2 "h" "I" (.int p3) ∧ Fld Z h a1 nm2 "lowOut" "I" (.int (0 : Int32)) ∧ Fld Z h a1 nm2 "lowIn" nm3 (.ref nr1) ∧ Fld Z h a1 nm2 "high" nm3 (.ref nr2) ∧ Fld Z h a1 nm2 "nextLowIn" nm3 (.ref nr3) ∧ Fld Z h a1 nm2 "nextHigh" nm3 (.ref nr4) ∧ Exa Z h nr1 nm1 ∧ Exa Z h nr2 nm1 ∧ Exa Z h nr3 nm1 ∧ Fld Z h nr3 nm1 "runs" "I" (.int (0 : Int32)) ∧ Fld Z h nr3 nm1 "length" "I" (.int (0 : Int32)) ∧ Fld Z h nr3 nm1 "lows" "I" (.int (0 : Int32)) ∧ Exa Z h nr4 nm1 ∧ Fld Z h nr4 nm1 "runs" "I" (.int (0 : Int32)) ∧ Fld Z h nr4 nm1 "length" "I" (.int (0 : Int32)) ∧ Fld Z h nr4 nm1 "lows" "I" (.int (0 : Int32)) ∧ Fld Z h nr1 nm1 "runs" "I" (.int p2) ∧ Fld Z h nr1 nm1 "length" "I" (.int (0 : Int32)) ∧ Fld Z h nr1 nm1 "lows" "I" (.int (0 : Int32)) ∧ Fld Z h nr2 nm1 "runs" "I" (.int p2) ∧ Fld Z h nr2 nm1 "length" "I" (.int (0 : Int32)) ∧ Fld Z h nr2 nm1 "lows" "I" (.int (0 : Int32))
def rmR10 : Room := { frames := 2, cells := 4, slots := 12, locals := 26 }
theorem ef_10 (m : MethodId) (a1 : Addr) (p2 : Int32) (p3 : Int32) : entryFrame m #[(.ref a1), (.int p2), (.int p3)] 3 = mkF m 0 #[.val (.ref a1), .val (.int p2), .val (.int p3)] [] := by first | (simp [entryFrame, mkF, argsToLocals, Value.category]; done) | rfl
set_option maxRecDepth 65536 in
set_option maxHeartbeats 40000000 in
theorem rm10 (l : Launch) (Z : State) (a0 : Array Value) (hw : ∀ d ∈ tables_1, d.before a0 Z = true) (ws : List Jvm.Cond) (a1 : Addr) (p2 : Int32) (p3 : Int32) (h0 : Heap) (n0 : Nat) (Z0 : n0 ≤ h0.size) (F_E_a1 : Exa Z h0 a1 nm2) (F_F_a1_impossible : Fld Z h0 a1 nm2 "impossible" "I" (.int (0 : Int32))) (F_F_a1_h : Fld Z h0 a1 nm2 "h" "I" (.int (0 : Int32))) (F_F_a1_lowOut : Fld Z h0 a1 nm2 "lowOut" "I" (.int (0 : Int32))) (F_F_a1_lowIn : Fld Z h0 a1 nm2 "lowIn" nm3 .null) (F_F_a1_high : Fld Z h0 a1 nm2 "high" nm3 .null) (F_F_a1_nextLowIn : Fld Z h0 a1 nm2 "nextLowIn" nm3 .null) (F_F_a1_nextHigh : Fld Z h0 a1 nm2 "nextHigh" nm3 .null) (g_a1 : n0 ≤ a1) :
    Mt l Z mt9 (Jvm.Cond.code mt9 prog_4_method_1_code 3 none :: ws) rmR10 #[(.ref a1), (.int p2), (.int p3)] h0 (Q10 Z a1 p2 p3 h0 n0) := by
  refine Mt.of n0 (plainFor_of_name pn_com_example_tightfold_tightfold_FocusFiltering_PartialCover) ?_
  intro p e s m below meth c T0 X0 hx hZ hby hml hown hret hlk hnm hs0
  have Sl0 := slot_ne (Or.inr (own_g hw 80 rfl)) (Or.inl (own_g hw 72 rfl)) (by decide) (t := .int) (t' := (.object "com/example/tightfold/tightfold/FocusFiltering$Run")) (by decide) (by decide)
  have Sl1 := slot_ne (Or.inr (own_g hw 82 rfl)) (Or.inl (own_g hw 72 rfl)) (by decide) (t := .int) (t' := (.object "com/example/tightfold/tightfold/FocusFiltering$Run")) (by decide) (by decide)
  have Sl2 := slot_ne (Or.inl (own_g hw 84 rfl)) (Or.inl (own_g hw 72 rfl)) (by decide) (t := .int) (t' := (.object "com/example/tightfold/tightfold/FocusFiltering$Run")) (by decide) (by decide)
  have Sl3 := slot_ne (Or.inl (own_g hw 74 rfl)) (Or.inl (own_g hw 72 rfl)) (by decide) (t := (.object "com/example/tightfold/tightfold/FocusFiltering$Run")) (t' := (.object "com/example/tightfold/tightfold/FocusFiltering$Run")) (by decide) (by decide)
  have Sl4 := slot_ne (Or.inl (own_g hw 76 rfl)) (Or.inl (own_g hw 72 rfl)) (by decide) (t := (.object "com/example/tightfold/tightfold/FocusFiltering$Run")) (t' := (.object "com/example/tightfold/tightfold/FocusFiltering$Run")) (by decide) (by decide)
  have Sl5 := slot_ne (Or.inl (own_g hw 78 rfl)) (Or.inl (own_g hw 72 rfl)) (by decide) (t := (.object "com/example/tightfold/tightfold/FocusFiltering$Run")) (t' := (.object "com/example/tightfold/tightfold/FocusFiltering$Run")) (by decide) (by decide)
  have Sl6 := slot_ne (Or.inr (own_g hw 80 rfl)) (Or.inl (own_g hw 74 rfl)) (by decide) (t := .int) (t' := (.object "com/example/tightfold/tightfold/FocusFiltering$Run")) (by decide) (by decide)
  have Sl7 := slot_ne (Or.inr (own_g hw 82 rfl)) (Or.inl (own_g hw 74 rfl)) (by decide) (t := .int) (t' := (.object "com/example/tightfold/tightfold/FocusFiltering$Run")) (by decide) (by decide)
  have Sl8 := slot_ne (Or.inl (own_g hw 84 rfl)) (Or.inl (own_g hw 74 rfl)) (by decide) (t := .int) (t' := (.object "com/example/tightfold/tightfold/FocusFiltering$Run")) (by decide) (by decide)
  have Sl9 := slot_ne (Or.inl (own_g hw 72 rfl)) (Or.inl (own_g hw 74 rfl)) (by decide) (t := (.object "com/example/tightfold/tightfold/FocusFiltering$Run")) (t' := (.object "com/example/tightfold/tightfold/FocusFiltering$Run")) (by decide) (by decide)
  have Sl10 := slot_ne (Or.inl (own_g hw 76 rfl)) (Or.inl (own_g hw 74 rfl)) (by decide) (t := (.object "com/example/tightfold/tightfold/FocusFiltering$Run")) (t' := (.object "com/example/tightfold/tightfold/FocusFiltering$Run")) (by decide) (by decide)
  have Sl11 := slot_ne (Or.inl (own_g hw 78 rfl)) (Or.inl (own_g hw 74 rfl)) (by decide) (t := (.object "com/example/tightfold/tightfold/FocusFiltering$Run")) (t' := (.object "com/example/tightfold/tightfold/FocusFiltering$Run")) (by decide) (by decide)
  have Sl12 := slot_ne (Or.inr (own_g hw 80 rfl)) (Or.inl (own_g hw 76 rfl)) (by decide) (t := .int) (t' := (.object "com/example/tightfold/tightfold/FocusFiltering$Run")) (by decide) (by decide)
  have Sl13 := slot_ne (Or.inr (own_g hw 82 rfl)) (Or.inl (own_g hw 76 rfl)) (by decide) (t := .int) (t' := (.object "com/example/tightfold/tightfold/FocusFiltering$Run")) (by decide) (by decide)
  have Sl14 := slot_ne (Or.inl (own_g hw 84 rfl)) (Or.inl (own_g hw 76 rfl)) (by decide) (t := .int) (t' := (.object "com/example/tightfold/tightfold/FocusFiltering$Run")) (by decide) (by decide)
  have Sl15 := slot_ne (Or.inl (own_g hw 72 rfl)) (Or.inl (own_g hw 76 rfl)) (by decide) (t := (.object "com/example/tightfold/tightfold/FocusFiltering$Run")) (t' := (.object "com/example/tightfold/tightfold/FocusFiltering$Run")) (by decide) (by decide)
  have Sl16 := slot_ne (Or.inl (own_g hw 74 rfl)) (Or.inl (own_g hw 76 rfl)) (by decide) (t := (.object "com/example/tightfold/tightfold/FocusFiltering$Run")) (t' := (.object "com/example/tightfold/tightfold/FocusFiltering$Run")) (by decide) (by decide)
  have Sl17 := slot_ne (Or.inl (own_g hw 78 rfl)) (Or.inl (own_g hw 76 rfl)) (by decide) (t := (.object "com/example/tightfold/tightfold/FocusFiltering$Run")) (t' := (.object "com/example/tightfold/tightfold/FocusFiltering$Run")) (by decide) (by decide)
  have Sl18 := slot_ne (Or.inr (own_g hw 80 rfl)) (Or.inl (own_g hw 78 rfl)) (by decide) (t := .int) (t' := (.object "com/example/tightfold/tightfold/FocusFiltering$Run")) (by decide) (by decide)
  have Sl19 := slot_ne (Or.inr (own_g hw 82 rfl)) (Or.inl (own_g hw 78 rfl)) (by decide) (t := .int) (t' := (.object "com/example/tightfold/tightfold/FocusFiltering$Run")) (by decide) (by decide)
  have Sl20 := slot_ne (Or.inl (own_g hw 84 rfl)) (Or.inl (own_g hw 78 rfl)) (by decide) (t := .int) (t' := (.object "com/example/tightfold/tightfold/FocusFiltering$Run")) (by decide) (by decide)
  have Sl21 := slot_ne (Or.inl (own_g hw 72 rfl)) (Or.inl (own_g hw 78 rfl)) (by decide) (t := (.object "com/example/tightfold/tightfold/FocusFiltering$Run")) (t' := (.object "com/example/tightfold/tightfold/FocusFiltering$Run")) (by decide) (by decide)
  have Sl22 := slot_ne (Or.inl (own_g hw 74 rfl)) (Or.inl (own_g hw 78 rfl)) (by decide) (t := (.object "com/example/tightfold/tightfold/FocusFiltering$Run")) (t' := (.object "com/example/tightfold/tightfold/FocusFiltering$Run")) (by decide) (by decide)
  have Sl23 := slot_ne (Or.inl (own_g hw 76 rfl)) (Or.inl (own_g hw 78 rfl)) (by decide) (t := (.object "com/example/tightfold/tightfold/FocusFiltering$Run")) (t' := (.object "com/example/tightfold/tightfold/FocusFiltering$Run")) (by decide) (by decide)
  have Sl24 := slot_ne (Or.inr (own_g hw 82 rfl)) (Or.inr (own_g hw 80 rfl)) (by decide) (t := .int) (t' := .int) (by decide) (by decide)
  have Sl25 := slot_ne (Or.inl (own_g hw 84 rfl)) (Or.inr (own_g hw 80 rfl)) (by decide) (t := .int) (t' := .int) (by decide) (by decide)
  have Sl26 := slot_ne (Or.inl (own_g hw 72 rfl)) (Or.inr (own_g hw 80 rfl)) (by decide) (t := (.object "com/example/tightfold/tightfold/FocusFiltering$Run")) (t' := .int) (by decide) (by decide)
  have Sl27 := slot_ne (Or.inl (own_g hw 74 rfl)) (Or.inr (own_g hw 80 rfl)) (by decide) (t := (.object "com/example/tightfold/tightfold/FocusFiltering$Run")) (t' := .int) (by decide) (by decide)
  have Sl28 := slot_ne (Or.inl (own_g hw 76 rfl)) (Or.inr (own_g hw 80 rfl)) (by decide) (t := (.object "com/example/tightfold/tightfold/FocusFiltering$Run")) (t' := .int) (by decide) (by decide)
  have Sl29 := slot_ne (Or.inl (own_g hw 78 rfl)) (Or.inr (own_g hw 80 rfl)) (by decide) (t := (.object "com/example/tightfold/tightfold/FocusFiltering$Run")) (t' := .int) (by decide) (by decide)
  have Sl30 := slot_ne (Or.inr (own_g hw 80 rfl)) (Or.inr (own_g hw 82 rfl)) (by decide) (t := .int) (t' := .int) (by decide) (by decide)
  have Sl31 := slot_ne (Or.inl (own_g hw 84 rfl)) (Or.inr (own_g hw 82 rfl)) (by decide) (t := .int) (t' := .int) (by decide) (by decide)
  have Sl32 := slot_ne (Or.inl (own_g hw 72 rfl)) (Or.inr (own_g hw 82 rfl)) (by decide) (t := (.object "com/example/tightfold/tightfold/FocusFiltering$Run")) (t' := .int) (by decide) (by decide)
  have Sl33 := slot_ne (Or.inl (own_g hw 74 rfl)) (Or.inr (own_g hw 82 rfl)) (by decide) (t := (.object "com/example/tightfold/tightfold/FocusFiltering$Run")) (t' := .int) (by decide) (by decide)
  have Sl34 := slot_ne (Or.inl (own_g hw 76 rfl)) (Or.inr (own_g hw 82 rfl)) (by decide) (t := (.object "com/example/tightfold/tightfold/FocusFiltering$Run")) (t' := .int) (by decide) (by decide)
  have Sl35 := slot_ne (Or.inl (own_g hw 78 rfl)) (Or.inr (own_g hw 82 rfl)) (by decide) (t := (.object "com/example/tightfold/tightfold/FocusFiltering$Run")) (t' := .int) (by decide) (by decide)
  have Sl36 := slot_ne (Or.inr (own_g hw 80 rfl)) (Or.inl (own_g hw 84 rfl)) (by decide) (t := .int) (t' := .int) (by decide) (by decide)
  have Sl37 := slot_ne (Or.inr (own_g hw 82 rfl)) (Or.inl (own_g hw 84 rfl)) (by decide) (t := .int) (t' := .int) (by decide) (by decide)
  have Sl38 := slot_ne (Or.inl (own_g hw 72 rfl)) (Or.inl (own_g hw 84 rfl)) (by decide) (t := (.object "com/example/tightfold/tightfold/FocusFiltering$Run")) (t' := .int) (by decide) (by decide)
  have Sl39 := slot_ne (Or.inl (own_g hw 74 rfl)) (Or.inl (own_g hw 84 rfl)) (by decide) (t := (.object "com/example/tightfold/tightfold/FocusFiltering$Run")) (t' := .int) (by decide) (by decide)
  have Sl40 := slot_ne (Or.inl (own_g hw 76 rfl)) (Or.inl (own_g hw 84 rfl)) (by decide) (t := (.object "com/example/tightfold/tightfold/FocusFiltering$Run")) (t' := .int) (by decide) (by decide)
  have Sl41 := slot_ne (Or.inl (own_g hw 78 rfl)) (Or.inl (own_g hw 84 rfl)) (by decide) (t := (.object "com/example/tightfold/tightfold/FocusFiltering$Run")) (t' := .int) (by decide) (by decide)
  have hown : s.vm.findClass "com/example/tightfold/tightfold/FocusFiltering$PartialCover" = some m.cls := hown
  rw [ef_10]
  show Rt p e below s rmR10.cells rmR10.slots (Q10 Z a1 p2 p3 h0 n0) (T0.setTop (mkF m 0 #[.val (.ref a1), .val (.int p2), .val (.int p3)] []))
  refine Rt.aloadN (pc' := 1) X0 hx (hb hby d10_0) rfl rfl rfl ?_
  refine Rt.initO (pc' := 4) X0 hx hZ hown (own_g hw 63 rfl) (own_g hw 27 rfl) (own_g hw 28 rfl) (by rw [hml]; rfl) (hb hby d10_1) (by decide) (W := 0) (Nat.le_of_eq rfl) (by decide) rfl ?_
  intro T1 X1
  refine Rt.aloadN (pc' := 5) X1 hx (hb hby d10_4) rfl rfl rfl ?_
  refine Rt.newO (pc' := 8) X1 hx hZ hown (own_g hw 64 rfl) (own_g hw 65 rfl) (own_g hw 66 rfl) (hb hby d10_5) (by decide) (by decide) rfl ?_
  intro T2 h2 b5 ha2 X2 E2 A2 D2
  have g3 : n0 ≤ b5 := by rw [ha2]; exact Z0
  have s4 : h0.size ≤ b5 := by rw [ha2]; exact (Keep.refl h0 [a1]).1
  have ne5 : a1 ≠ b5 := by rw [ha2]; exact Nat.ne_of_lt F_E_a1.lt
  have F6 := F_E_a1.ext E2
  have F7 := F_F_a1_impossible.ext E2
  have F8 := F_F_a1_h.ext E2
  have F9 := F_F_a1_lowOut.ext E2
  have F10 := F_F_a1_lowIn.ext E2
  have F11 := F_F_a1_high.ext E2
  have F12 := F_F_a1_nextLowIn.ext E2
  have F13 := F_F_a1_nextHigh.ext E2
  have K14 := (Keep.refl h0 [a1]).ext E2
  have Z15 := Nat.le_trans Z0 E2.1
  have F16 : Fld Z h2 b5 nm1 "runs" "I" (.int (0 : Int32)) := D2 (Or.inl (own_g hw 91 rfl)) (ty := .int) (by decide)
  have F17 : Fld Z h2 b5 nm1 "length" "I" (.int (0 : Int32)) := D2 (Or.inl (own_g hw 93 rfl)) (ty := .int) (by decide)
  have F18 : Fld Z h2 b5 nm1 "lows" "I" (.int (0 : Int32)) := D2 (Or.inl (own_g hw 95 rfl)) (ty := .int) (by decide)
  refine Rt.dup (pc' := 9) X2 hx (hb hby d10_8) rfl rfl ?_
  refine Rt.callIN (pc' := 12) X2 hx hZ (y := mt3) rfl hown (own_g hw 67 rfl) (own_g hw 68 rfl) (own_g hw 66 rfl) (own_g hw 69 rfl) (by decide) (rm11 l Z a0 hw [] b5 h2 n0) (fun _ _ _ q => q.2.1) (W := 2) (by decide) (by decide) (by decide) (by decide) (argsL := []) (rest := [(.ref b5), (.ref a1)]) (by rw [hml]; rfl) (lenOf pd_5 rfl) rfl rfl (Nat.le_of_eq rfl) (hb hby d10_9) rfl ?_
  rintro _ T19 h19 L19 X19 ⟨rfl, N19, e19⟩
  rw [e19] at X19
  show Rt _ _ _ _ _ _ _ (T19.setTop (mkF m 12 #[.val (.ref a1), .val (.int p2), .val (.int p3)] [(.ref b5), (.ref a1)]))
  refine Rt.putF (pc' := 15) (v := (.ref b5)) X19 hx hZ hown (host := "") (Or.inl (own_g hw 71 rfl)) F10 F6 (Or.inl (own_g hw 72 rfl)) (own_g hw 58 rfl) (ty := (.object "com/example/tightfold/tightfold/FocusFiltering$Run")) (by decide) rfl rfl g_a1 (hb hby d10_12) rfl ?_
  intro T20 h20 X20 W20 F20
  have F21 := F6.wr W20
  have F22 := F7.other W20 (Or.inr Sl0)
  have F23 := F8.other W20 (Or.inr Sl1)
  have F24 := F9.other W20 (Or.inr Sl2)
  have F25 := F11.other W20 (Or.inr Sl3)
  have F26 := F12.other W20 (Or.inr Sl4)
  have F27 := F13.other W20 (Or.inr Sl5)
  have F28 := A2.wr W20
  have F29 := F16.other W20 (Or.inl (Ne.symm ne5))
  have F30 := F17.other W20 (Or.inl (Ne.symm ne5))
  have F31 := F18.other W20 (Or.inl (Ne.symm ne5))
  have K32 := K14.wr W20 (Or.inl (List.mem_of_getElem? (i := 0) rfl))
  have Z33 := Nat.le_trans Z15 (Keep.of_wr W20).1
  refine Rt.aloadN (pc' := 16) X20 hx (hb hby d10_15) rfl rfl rfl ?_
  refine Rt.newO (pc' := 19) X20 hx hZ hown (own_g hw 64 rfl) (own_g hw 65 rfl) (own_g hw 66 rfl) (hb hby d10_16) (by decide) (by decide) rfl ?_
  intro T34 h34 b16 ha34 X34 E34 A34 D34
  have g35 : n0 ≤ b16 := by rw [ha34]; exact Z33
  have s36 : h0.size ≤ b16 := by rw [ha34]; exact K32.1
  have ne37 : a1 ≠ b16 := by rw [ha34]; exact Nat.ne_of_lt F21.lt
  have ne38 : b5 ≠ b16 := by rw [ha34]; exact Nat.ne_of_lt F28.lt
  have F39 := F21.ext E34
  have F40 := F22.ext E34
  have F41 := F23.ext E34
  have F42 := F24.ext E34
  have F43 := F20.ext E34
  have F44 := F25.ext E34
  have F45 := F26.ext E34
  have F46 := F27.ext E34
  have F47 := F28.ext E34
  have F48 := F29.ext E34
  have F49 := F30.ext E34
  have F50 := F31.ext E34
  have K51 := K32.ext E34
  have Z52 := Nat.le_trans Z33 E34.1
  have F53 : Fld Z h34 b16 nm1 "runs" "I" (.int (0 : Int32)) := D34 (Or.inl (own_g hw 91 rfl)) (ty := .int) (by decide)
  have F54 : Fld Z h34 b16 nm1 "length" "I" (.int (0 : Int32)) := D34 (Or.inl (own_g hw 93 rfl)) (ty := .int) (by decide)
  have F55 : Fld Z h34 b16 nm1 "lows" "I" (.int (0 : Int32)) := D34 (Or.inl (own_g hw 95 rfl)) (ty := .int) (by decide)
  refine Rt.dup (pc' := 20) X34 hx (hb hby d10_19) rfl rfl ?_
  refine Rt.callIN (pc' := 23) X34 hx hZ (y := mt3) rfl hown (own_g hw 67 rfl) (own_g hw 68 rfl) (own_g hw 66 rfl) (own_g hw 69 rfl) (by decide) (rm11 l Z a0 hw [] b16 h34 n0) (fun _ _ _ q => q.2.1) (W := 2) (by decide) (by decide) (by decide) (by decide) (argsL := []) (rest := [(.ref b16), (.ref a1)]) (by rw [hml]; rfl) (lenOf pd_5 rfl) rfl rfl (Nat.le_of_eq rfl) (hb hby d10_20) rfl ?_
  rintro _ T56 h56 L56 X56 ⟨rfl, N56, e56⟩
  rw [e56] at X56
  show Rt _ _ _ _ _ _ _ (T56.setTop (mkF m 23 #[.val (.ref a1), .val (.int p2), .val (.int p3)] [(.ref b16), (.ref a1)]))
  refine Rt.putF (pc' := 26) (v := (.ref b16)) X56 hx hZ hown (host := "") (Or.inl (own_g hw 73 rfl)) F44 F39 (Or.inl (own_g hw 74 rfl)) (own_g hw 58 rfl) (ty := (.object "com/example/tightfold/tightfold/FocusFiltering$Run")) (by decide) rfl rfl g_a1 (hb hby d10_23) rfl ?_
  intro T57 h57 X57 W57 F57
  have F58 := F39.wr W57
  have F59 := F40.other W57 (Or.inr Sl6)
  have F60 := F41.other W57 (Or.inr Sl7)
  have F61 := F42.other W57 (Or.inr Sl8)
  have F62 := F43.other W57 (Or.inr Sl9)
  have F63 := F45.other W57 (Or.inr Sl10)
  have F64 := F46.other W57 (Or.inr Sl11)
  have F65 := F47.wr W57
  have F66 := F48.other W57 (Or.inl (Ne.symm ne5))
  have F67 := F49.other W57 (Or.inl (Ne.symm ne5))
  have F68 := F50.other W57 (Or.inl (Ne.symm ne5))
  have F69 := A34.wr W57
  have F70 := F53.other W57 (Or.inl (Ne.symm ne37))
  have F71 := F54.other W57 (Or.inl (Ne.symm ne37))
  have F72 := F55.other W57 (Or.inl (Ne.symm ne37))
  have K73 := K51.wr W57 (Or.inl (List.mem_of_getElem? (i := 0) rfl))
  have Z74 := Nat.le_trans Z52 (Keep.of_wr W57).1
  refine Rt.aloadN (pc' := 27) X57 hx (hb hby d10_26) rfl rfl rfl ?_
  refine Rt.newO (pc' := 30) X57 hx hZ hown (own_g hw 64 rfl) (own_g hw 65 rfl) (own_g hw 66 rfl) (hb hby d10_27) (by decide) (by decide) rfl ?_
  intro T75 h75 b27 ha75 X75 E75 A75 D75
  have g76 : n0 ≤ b27 := by rw [ha75]; exact Z74
  have s77 : h0.size ≤ b27 := by rw [ha75]; exact K73.1
  have ne78 : a1 ≠ b27 := by rw [ha75]; exact Nat.ne_of_lt F58.lt
  have ne79 : b5 ≠ b27 := by rw [ha75]; exact Nat.ne_of_lt F65.lt
  have ne80 : b16 ≠ b27 := by rw [ha75]; exact Nat.ne_of_lt F69.lt
  have F81 := F58.ext E75
  have F82 := F59.ext E75
  have F83 := F60.ext E75
  have F84 := F61.ext E75
  have F85 := F62.ext E75
  have F86 := F57.ext E75
  have F87 := F63.ext E75
  have F88 := F64.ext E75
  have F89 := F65.ext E75
  have F90 := F66.ext E75
  have F91 := F67.ext E75
  have F92 := F68.ext E75
  have F93 := F69.ext E75
  have F94 := F70.ext E75
  have F95 := F71.ext E75
  have F96 := F72.ext E75
  have K97 := K73.ext E75
  have Z98 := Nat.le_trans Z74 E75.1
  have F99 : Fld Z h75 b27 nm1 "runs" "I" (.int (0 : Int32)) := D75 (Or.inl (own_g hw 91 rfl)) (ty := .int) (by decide)
  have F100 : Fld Z h75 b27 nm1 "length" "I" (.int (0 : Int32)) := D75 (Or.inl (own_g hw 93 rfl)) (ty := .int) (by decide)
  have F101 : Fld Z h75 b27 nm1 "lows" "I" (.int (0 : Int32)) := D75 (Or.inl (own_g hw 95 rfl)) (ty := .int) (by decide)
  refine Rt.dup (pc' := 31) X75 hx (hb hby d10_30) rfl rfl ?_
  refine Rt.callIN (pc' := 34) X75 hx hZ (y := mt3) rfl hown (own_g hw 67 rfl) (own_g hw 68 rfl) (own_g hw 66 rfl) (own_g hw 69 rfl) (by decide) (rm11 l Z a0 hw [] b27 h75 n0) (fun _ _ _ q => q.2.1) (W := 2) (by decide) (by decide) (by decide) (by decide) (argsL := []) (rest := [(.ref b27), (.ref a1)]) (by rw [hml]; rfl) (lenOf pd_5 rfl) rfl rfl (Nat.le_of_eq rfl) (hb hby d10_31) rfl ?_
  rintro _ T102 h102 L102 X102 ⟨rfl, N102, e102⟩
  rw [e102] at X102
  show Rt _ _ _ _ _ _ _ (T102.setTop (mkF m 34 #[.val (.ref a1), .val (.int p2), .val (.int p3)] [(.ref b27), (.ref a1)]))
  refine Rt.putF (pc' := 37) (v := (.ref b27)) X102 hx hZ hown (host := "") (Or.inl (own_g hw 75 rfl)) F87 F81 (Or.inl (own_g hw 76 rfl)) (own_g hw 58 rfl) (ty := (.object "com/example/tightfold/tightfold/FocusFiltering$Run")) (by decide) rfl rfl g_a1 (hb hby d10_34) rfl ?_
  intro T103 h103 X103 W103 F103
  have F104 := F81.wr W103
  have F105 := F82.other W103 (Or.inr Sl12)
  have F106 := F83.other W103 (Or.inr Sl13)
  have F107 := F84.other W103 (Or.inr Sl14)
  have F108 := F85.other W103 (Or.inr Sl15)
  have F109 := F86.other W103 (Or.inr Sl16)
  have F110 := F88.other W103 (Or.inr Sl17)
  have F111 := F89.wr W103
  have F112 := F90.other W103 (Or.inl (Ne.symm ne5))
  have F113 := F91.other W103 (Or.inl (Ne.symm ne5))
  have F114 := F92.other W103 (Or.inl (Ne.symm ne5))
  have F115 := F93.wr W103
  have F116 := F94.other W103 (Or.inl (Ne.symm ne37))
  have F117 := F95.other W103 (Or.inl (Ne.symm ne37))
  have F118 := F96.other W103 (Or.inl (Ne.symm ne37))
  have F119 := A75.wr W103
  have F120 := F99.other W103 (Or.inl (Ne.symm ne78))
  have F121 := F100.other W103 (Or.inl (Ne.symm ne78))
  have F122 := F101.other W103 (Or.inl (Ne.symm ne78))
  have K123 := K97.wr W103 (Or.inl (List.mem_of_getElem? (i := 0) rfl))
  have Z124 := Nat.le_trans Z98 (Keep.of_wr W103).1
  refine Rt.aloadN (pc' := 38) X103 hx (hb hby d10_37) rfl rfl rfl ?_
  refine Rt.newO (pc' := 41) X103 hx hZ hown (own_g hw 64 rfl) (own_g hw 65 rfl) (own_g hw 66 rfl) (hb hby d10_38) (by decide) (by decide) rfl ?_
  intro T125 h125 b38 ha125 X125 E125 A125 D125
  have g126 : n0 ≤ b38 := by rw [ha125]; exact Z124
  have s127 : h0.size ≤ b38 := by rw [ha125]; exact K123.1
  have ne128 : a1 ≠ b38 := by rw [ha125]; exact Nat.ne_of_lt F104.lt
  have ne129 : b5 ≠ b38 := by rw [ha125]; exact Nat.ne_of_lt F111.lt
  have ne130 : b16 ≠ b38 := by rw [ha125]; exact Nat.ne_of_lt F115.lt
  have ne131 : b27 ≠ b38 := by rw [ha125]; exact Nat.ne_of_lt F119.lt
  have F132 := F104.ext E125
  have F133 := F105.ext E125
  have F134 := F106.ext E125
  have F135 := F107.ext E125
  have F136 := F108.ext E125
  have F137 := F109.ext E125
  have F138 := F103.ext E125
  have F139 := F110.ext E125
  have F140 := F111.ext E125
  have F141 := F112.ext E125
  have F142 := F113.ext E125
  have F143 := F114.ext E125
  have F144 := F115.ext E125
  have F145 := F116.ext E125
  have F146 := F117.ext E125
  have F147 := F118.ext E125
  have F148 := F119.ext E125
  have F149 := F120.ext E125
  have F150 := F121.ext E125
  have F151 := F122.ext E125
  have K152 := K123.ext E125
  have Z153 := Nat.le_trans Z124 E125.1
  have F154 : Fld Z h125 b38 nm1 "runs" "I" (.int (0 : Int32)) := D125 (Or.inl (own_g hw 91 rfl)) (ty := .int) (by decide)
  have F155 : Fld Z h125 b38 nm1 "length" "I" (.int (0 : Int32)) := D125 (Or.inl (own_g hw 93 rfl)) (ty := .int) (by decide)
  have F156 : Fld Z h125 b38 nm1 "lows" "I" (.int (0 : Int32)) := D125 (Or.inl (own_g hw 95 rfl)) (ty := .int) (by decide)
  refine Rt.dup (pc' := 42) X125 hx (hb hby d10_41) rfl rfl ?_
  refine Rt.callIN (pc' := 45) X125 hx hZ (y := mt3) rfl hown (own_g hw 67 rfl) (own_g hw 68 rfl) (own_g hw 66 rfl) (own_g hw 69 rfl) (by decide) (rm11 l Z a0 hw [] b38 h125 n0) (fun _ _ _ q => q.2.1) (W := 2) (by decide) (by decide) (by decide) (by decide) (argsL := []) (rest := [(.ref b38), (.ref a1)]) (by rw [hml]; rfl) (lenOf pd_5 rfl) rfl rfl (Nat.le_of_eq rfl) (hb hby d10_42) rfl ?_
  rintro _ T157 h157 L157 X157 ⟨rfl, N157, e157⟩
  rw [e157] at X157
  show Rt _ _ _ _ _ _ _ (T157.setTop (mkF m 45 #[.val (.ref a1), .val (.int p2), .val (.int p3)] [(.ref b38), (.ref a1)]))
  refine Rt.putF (pc' := 48) (v := (.ref b38)) X157 hx hZ hown (host := "") (Or.inl (own_g hw 77 rfl)) F139 F132 (Or.inl (own_g hw 78 rfl)) (own_g hw 58 rfl) (ty := (.object "com/example/tightfold/tightfold/FocusFiltering$Run")) (by decide) rfl rfl g_a1 (hb hby d10_45) rfl ?_
  intro T158 h158 X158 W158 F158
  have F159 := F132.wr W158
  have F160 := F133.other W158 (Or.inr Sl18)
  have F161 := F134.other W158 (Or.inr Sl19)
  have F162 := F135.other W158 (Or.inr Sl20)
  have F163 := F136.other W158 (Or.inr Sl21)
  have F164 := F137.other W158 (Or.inr Sl22)
  have F165 := F138.other W158 (Or.inr Sl23)
  have F166 := F140.wr W158
  have F167 := F141.other W158 (Or.inl (Ne.symm ne5))
  have F168 := F142.other W158 (Or.inl (Ne.symm ne5))
  have F169 := F143.other W158 (Or.inl (Ne.symm ne5))
  have F170 := F144.wr W158
  have F171 := F145.other W158 (Or.inl (Ne.symm ne37))
  have F172 := F146.other W158 (Or.inl (Ne.symm ne37))
  have F173 := F147.other W158 (Or.inl (Ne.symm ne37))
  have F174 := F148.wr W158
  have F175 := F149.other W158 (Or.inl (Ne.symm ne78))
  have F176 := F150.other W158 (Or.inl (Ne.symm ne78))
  have F177 := F151.other W158 (Or.inl (Ne.symm ne78))
  have F178 := A125.wr W158
  have F179 := F154.other W158 (Or.inl (Ne.symm ne128))
  have F180 := F155.other W158 (Or.inl (Ne.symm ne128))
  have F181 := F156.other W158 (Or.inl (Ne.symm ne128))
  have K182 := K152.wr W158 (Or.inl (List.mem_of_getElem? (i := 0) rfl))
  have Z183 := Nat.le_trans Z153 (Keep.of_wr W158).1
  refine Rt.aloadN (pc' := 49) X158 hx (hb hby d10_48) rfl rfl rfl ?_
  refine Rt.iloadN (pc' := 50) X158 hx (hb hby d10_49) rfl rfl ?_
  refine Rt.putF (pc' := 53) (v := (.int p2)) X158 hx hZ hown (host := "") (Or.inl (own_g hw 79 rfl)) F160 F159 (Or.inr ⟨(own_g hw 80 rfl), rfl, hnm⟩) (own_g hw 58 rfl) (ty := .int) (by decide) rfl rfl g_a1 (hb hby d10_50) rfl ?_
  intro T184 h184 X184 W184 F184
  have F185 := F159.wr W184
  have F186 := F161.other W184 (Or.inr Sl24)
  have F187 := F162.other W184 (Or.inr Sl25)
  have F188 := F163.other W184 (Or.inr Sl26)
  have F189 := F164.other W184 (Or.inr Sl27)
  have F190 := F165.other W184 (Or.inr Sl28)
  have F191 := F158.other W184 (Or.inr Sl29)
  have F192 := F166.wr W184
  have F193 := F167.other W184 (Or.inl (Ne.symm ne5))
  have F194 := F168.other W184 (Or.inl (Ne.symm ne5))
  have F195 := F169.other W184 (Or.inl (Ne.symm ne5))
  have F196 := F170.wr W184
  have F197 := F171.other W184 (Or.inl (Ne.symm ne37))
  have F198 := F172.other W184 (Or.inl (Ne.symm ne37))
  have F199 := F173.other W184 (Or.inl (Ne.symm ne37))
  have F200 := F174.wr W184
  have F201 := F175.other W184 (Or.inl (Ne.symm ne78))
  have F202 := F176.other W184 (Or.inl (Ne.symm ne78))
  have F203 := F177.other W184 (Or.inl (Ne.symm ne78))
  have F204 := F178.wr W184
  have F205 := F179.other W184 (Or.inl (Ne.symm ne128))
  have F206 := F180.other W184 (Or.inl (Ne.symm ne128))
  have F207 := F181.other W184 (Or.inl (Ne.symm ne128))
  have K208 := K182.wr W184 (Or.inl (List.mem_of_getElem? (i := 0) rfl))
  have Z209 := Nat.le_trans Z183 (Keep.of_wr W184).1
  refine Rt.aloadN (pc' := 54) X184 hx (hb hby d10_53) rfl rfl rfl ?_
  refine Rt.iloadN (pc' := 55) X184 hx (hb hby d10_54) rfl rfl ?_
  refine Rt.putF (pc' := 58) (v := (.int p3)) X184 hx hZ hown (host := "") (Or.inl (own_g hw 81 rfl)) F186 F185 (Or.inr ⟨(own_g hw 82 rfl), rfl, hnm⟩) (own_g hw 58 rfl) (ty := .int) (by decide) rfl rfl g_a1 (hb hby d10_55) rfl ?_
  intro T210 h210 X210 W210 F210
  have F211 := F185.wr W210
  have F212 := F184.other W210 (Or.inr Sl30)
  have F213 := F187.other W210 (Or.inr Sl31)
  have F214 := F188.other W210 (Or.inr Sl32)
  have F215 := F189.other W210 (Or.inr Sl33)
  have F216 := F190.other W210 (Or.inr Sl34)
  have F217 := F191.other W210 (Or.inr Sl35)
  have F218 := F192.wr W210
  have F219 := F193.other W210 (Or.inl (Ne.symm ne5))
  have F220 := F194.other W210 (Or.inl (Ne.symm ne5))
  have F221 := F195.other W210 (Or.inl (Ne.symm ne5))
  have F222 := F196.wr W210
  have F223 := F197.other W210 (Or.inl (Ne.symm ne37))
  have F224 := F198.other W210 (Or.inl (Ne.symm ne37))
  have F225 := F199.other W210 (Or.inl (Ne.symm ne37))
  have F226 := F200.wr W210
  have F227 := F201.other W210 (Or.inl (Ne.symm ne78))
  have F228 := F202.other W210 (Or.inl (Ne.symm ne78))
  have F229 := F203.other W210 (Or.inl (Ne.symm ne78))
  have F230 := F204.wr W210
  have F231 := F205.other W210 (Or.inl (Ne.symm ne128))
  have F232 := F206.other W210 (Or.inl (Ne.symm ne128))
  have F233 := F207.other W210 (Or.inl (Ne.symm ne128))
  have K234 := K208.wr W210 (Or.inl (List.mem_of_getElem? (i := 0) rfl))
  have Z235 := Nat.le_trans Z209 (Keep.of_wr W210).1
  refine Rt.aloadN (pc' := 59) X210 hx (hb hby d10_58) rfl rfl rfl ?_
  refine Rt.iconst (pc' := 60) (v := (0 : Int32)) X210 hx (hb hby d10_59) rfl rfl ?_
  refine Rt.putF (pc' := 63) (v := (.int (0 : Int32))) X210 hx hZ hown (host := "") (Or.inl (own_g hw 83 rfl)) F213 F211 (Or.inl (own_g hw 84 rfl)) (own_g hw 58 rfl) (ty := .int) (by decide) rfl rfl g_a1 (hb hby d10_60) rfl ?_
  intro T236 h236 X236 W236 F236
  have F237 := F211.wr W236
  have F238 := F212.other W236 (Or.inr Sl36)
  have F239 := F210.other W236 (Or.inr Sl37)
  have F240 := F214.other W236 (Or.inr Sl38)
  have F241 := F215.other W236 (Or.inr Sl39)
  have F242 := F216.other W236 (Or.inr Sl40)
  have F243 := F217.other W236 (Or.inr Sl41)
  have F244 := F218.wr W236
  have F245 := F219.other W236 (Or.inl (Ne.symm ne5))
  have F246 := F220.other W236 (Or.inl (Ne.symm ne5))
  have F247 := F221.other W236 (Or.inl (Ne.symm ne5))
  have F248 := F222.wr W236
  have F249 := F223.other W236 (Or.inl (Ne.symm ne37))
  have F250 := F224.other W236 (Or.inl (Ne.symm ne37))
  have F251 := F225.other W236 (Or.inl (Ne.symm ne37))
  have F252 := F226.wr W236
  have F253 := F227.other W236 (Or.inl (Ne.symm ne78))
  have F254 := F228.other W236 (Or.inl (Ne.symm ne78))
  have F255 := F229.other W236 (Or.inl (Ne.symm ne78))
  have F256 := F230.wr W236
  have F257 := F231.other W236 (Or.inl (Ne.symm ne128))
  have F258 := F232.other W236 (Or.inl (Ne.symm ne128))
  have F259 := F233.other W236 (Or.inl (Ne.symm ne128))
  have K260 := K234.wr W236 (Or.inl (List.mem_of_getElem? (i := 0) rfl))
  have Z261 := Nat.le_trans Z235 (Keep.of_wr W236).1
  refine Rt.aloadN (pc' := 64) X236 hx (hb hby d10_63) rfl rfl rfl ?_
  refine Rt.getF (pc' := 67) (v := (.ref b5)) X236 hx hZ hown (host := "") (Or.inl (own_g hw 71 rfl)) F240 (hb hby d10_64) rfl ?_
  intro T262 X262
  refine Rt.iloadN (pc' := 68) X262 hx (hb hby d10_67) rfl rfl ?_
  refine Rt.callV (pc' := 71) X262 hx hZ (y := mt4) (yz := mt4) hown (own_g hw 85 rfl) (own_g hw 86 rfl) (notFace_of_selects (args := #[]) (mvT hZ (own_g hw 88 rfl))) (own_g hw 88 rfl) (own_g hw 87 rfl) (own_g hw 66 rfl) (own_g hw 89 rfl) (by decide) F244 (rm12 l Z a0 hw [] b5 p2 (0 : Int32) (0 : Int32) (0 : Int32) h236 n0 Z261 F244 F245 F246 F247 g3) (fun _ _ _ q => q.2.1) (W := 0) (by decide) (by decide) (by decide) (by decide) (argsL := [(.int p2)]) (rest := []) (by rw [hml]; rfl) (lenOf pd_3 rfl) rfl rfl (Nat.le_of_eq rfl) (hb hby d10_68) rfl ?_
  rintro _ T263 h263 L263 X263 ⟨rfl, N263, K263, F264, F265, F266, F267⟩
  have F268 := F237.keep K263
  have F269 := F238.keep K263 (ninS ne5 nin0)
  have F270 := F239.keep K263 (ninS ne5 nin0)
  have F271 := F236.keep K263 (ninS ne5 nin0)
  have F272 := F240.keep K263 (ninS ne5 nin0)
  have F273 := F241.keep K263 (ninS ne5 nin0)
  have F274 := F242.keep K263 (ninS ne5 nin0)
  have F275 := F243.keep K263 (ninS ne5 nin0)
  have F276 := F244.keep K263
  have F277 := F248.keep K263
  have F278 := F249.keep K263 (ninS (Ne.symm ne38) nin0)
  have F279 := F250.keep K263 (ninS (Ne.symm ne38) nin0)
  have F280 := F251.keep K263 (ninS (Ne.symm ne38) nin0)
  have F281 := F252.keep K263
  have F282 := F253.keep K263 (ninS (Ne.symm ne79) nin0)
  have F283 := F254.keep K263 (ninS (Ne.symm ne79) nin0)
  have F284 := F255.keep K263 (ninS (Ne.symm ne79) nin0)
  have F285 := F256.keep K263
  have F286 := F257.keep K263 (ninS (Ne.symm ne129) nin0)
  have F287 := F258.keep K263 (ninS (Ne.symm ne129) nin0)
  have F288 := F259.keep K263 (ninS (Ne.symm ne129) nin0)
  have K289 := K260.trans K263 (allS (Or.inr s4) all0)
  have Z290 := Nat.le_trans Z261 K263.1
  show Rt _ _ _ _ _ _ _ (T263.setTop (mkF m 71 #[.val (.ref a1), .val (.int p2), .val (.int p3)] []))
  refine Rt.aloadN (pc' := 72) X263 hx (hb hby d10_71) rfl rfl rfl ?_
  refine Rt.getF (pc' := 75) (v := (.ref b16)) X263 hx hZ hown (host := "") (Or.inl (own_g hw 73 rfl)) F273 (hb hby d10_72) rfl ?_
  intro T291 X291
  refine Rt.iloadN (pc' := 76) X291 hx (hb hby d10_75) rfl rfl ?_
  refine Rt.callV (pc' := 79) X291 hx hZ (y := mt4) (yz := mt4) hown (own_g hw 85 rfl) (own_g hw 86 rfl) (notFace_of_selects (args := #[]) (mvT hZ (own_g hw 88 rfl))) (own_g hw 88 rfl) (own_g hw 87 rfl) (own_g hw 66 rfl) (own_g hw 89 rfl) (by decide) F277 (rm12 l Z a0 hw [] b16 p2 (0 : Int32) (0 : Int32) (0 : Int32) h263 n0 Z290 F277 F278 F279 F280 g35) (fun _ _ _ q => q.2.1) (W := 0) (by decide) (by decide) (by decide) (by decide) (argsL := [(.int p2)]) (rest := []) (by rw [hml]; rfl) (lenOf pd_3 rfl) rfl rfl (Nat.le_of_eq rfl) (hb hby d10_76) rfl ?_
  rintro _ T292 h292 L292 X292 ⟨rfl, N292, K292, F293, F294, F295, F296⟩
  have F297 := F268.keep K292
  have F298 := F269.keep K292 (ninS ne37 nin0)
  have F299 := F270.keep K292 (ninS ne37 nin0)
  have F300 := F271.keep K292 (ninS ne37 nin0)
  have F301 := F272.keep K292 (ninS ne37 nin0)
  have F302 := F273.keep K292 (ninS ne37 nin0)
  have F303 := F274.keep K292 (ninS ne37 nin0)
  have F304 := F275.keep K292 (ninS ne37 nin0)
  have F305 := F264.keep K292
  have F306 := F277.keep K292
  have F307 := F281.keep K292
  have F308 := F282.keep K292 (ninS (Ne.symm ne80) nin0)
  have F309 := F283.keep K292 (ninS (Ne.symm ne80) nin0)
  have F310 := F284.keep K292 (ninS (Ne.symm ne80) nin0)
  have F311 := F285.keep K292
  have F312 := F286.keep K292 (ninS (Ne.symm ne130) nin0)
  have F313 := F287.keep K292 (ninS (Ne.symm ne130) nin0)
  have F314 := F288.keep K292 (ninS (Ne.symm ne130) nin0)
  have F315 := F265.keep K292 (ninS ne38 nin0)
  have F316 := F266.keep K292 (ninS ne38 nin0)
  have F317 := F267.keep K292 (ninS ne38 nin0)
  have K318 := K289.trans K292 (allS (Or.inr s36) all0)
  have Z319 := Nat.le_trans Z290 K292.1
  show Rt _ _ _ _ _ _ _ (T292.setTop (mkF m 79 #[.val (.ref a1), .val (.int p2), .val (.int p3)] []))
  exact Rt.retV X292 hx hlk hret (hb hby d10_79) (by decide) (by decide) (fun L N => ⟨b5, b16, b27, b38, s4, s36, s77, s127, ne38, ne79, ne129, ne80, ne130, ne131, rfl, N, K318, F297, F298, F299, F300, F301, F302, F303, F304, F305, F293, F307, F308, F309, F310, F311, F312, F313, F314, F315, F316, F317, F294, F295, F296⟩)
theorem d6_0 : decode prog_3_method_1_code 0 = .ok (.aload_n 0, 1) := by decide +kernel
theorem d6_1 : decode prog_3_method_1_code 1 = .ok (.invokespecial 1, 3) := by decide +kernel
theorem d6_4 : decode prog_3_method_1_code 4 = .ok (.aload_n 0, 1) := by decide +kernel
theorem d6_5 : decode prog_3_method_1_code 5 = .ok (.iload_n 1, 1) := by decide +kernel
theorem d6_6 : decode prog_3_method_1_code 6 = .ok (.iconst 1, 1) := by decide +kernel
theorem d6_7 : decode prog_3_method_1_code 7 = .ok (.iadd, 1) := by decide +kernel
theorem d6_8 : decode prog_3_method_1_code 8 = .ok (.putfield 7, 3) := by decide +kernel
theorem d6_11 : decode prog_3_method_1_code 11 = .ok (.aload_n 0, 1) := by decide +kernel
theorem d6_12 : decode prog_3_method_1_code 12 = .ok (.iload_n 2, 1) := by decide +kernel
theorem d6_13 : decode prog_3_method_1_code 13 = .ok (.putfield 13, 3) := by decide +kernel
theorem d6_16 : decode prog_3_method_1_code 16 = .ok (.aload_n 0, 1) := by decide +kernel
theorem d6_17 : decode prog_3_method_1_code 17 = .ok (.iload_n 1, 1) := by decide +kernel
theorem d6_18 : decode prog_3_method_1_code 18 = .ok (.newarray .int, 2) := by decide +kernel
theorem d6_20 : decode prog_3_method_1_code 20 = .ok (.putfield 16, 3) := by decide +kernel
theorem d6_23 : decode prog_3_method_1_code 23 = .ok (.aload_n 0, 1) := by decide +kernel
theorem d6_24 : decode prog_3_method_1_code 24 = .ok (.iload_n 1, 1) := by decide +kernel
theorem d6_25 : decode prog_3_method_1_code 25 = .ok (.newarray .int, 2) := by decide +kernel
theorem d6_27 : decode prog_3_method_1_code 27 = .ok (.putfield 20, 3) := by decide +kernel
theorem d6_30 : decode prog_3_method_1_code 30 = .ok (.aload_n 0, 1) := by decide +kernel
theorem d6_31 : decode prog_3_method_1_code 31 = .ok (.iload_n 1, 1) := by decide +kernel
theorem d6_32 : decode prog_3_method_1_code 32 = .ok (.newarray .int, 2) := by decide +kernel
theorem d6_34 : decode prog_3_method_1_code 34 = .ok (.putfield 23, 3) := by decide +kernel
theorem d6_37 : decode prog_3_method_1_code 37 = .ok (.aload_n 0, 1) := by decide +kernel
theorem d6_38 : decode prog_3_method_1_code 38 = .ok (.iload_n 1, 1) := by decide +kernel
theorem d6_39 : decode prog_3_method_1_code 39 = .ok (.newarray .int, 2) := by decide +kernel
theorem d6_41 : decode prog_3_method_1_code 41 = .ok (.putfield 26, 3) := by decide +kernel
theorem d6_44 : decode prog_3_method_1_code 44 = .ok (.aload_n 0, 1) := by decide +kernel
theorem d6_45 : decode prog_3_method_1_code 45 = .ok (.iload_n 1, 1) := by decide +kernel
theorem d6_46 : decode prog_3_method_1_code 46 = .ok (.newarray .int, 2) := by decide +kernel
theorem d6_48 : decode prog_3_method_1_code 48 = .ok (.putfield 29, 3) := by decide +kernel
theorem d6_51 : decode prog_3_method_1_code 51 = .ok (.aload_n 0, 1) := by decide +kernel
theorem d6_52 : decode prog_3_method_1_code 52 = .ok (.iload_n 1, 1) := by decide +kernel
theorem d6_53 : decode prog_3_method_1_code 53 = .ok (.newarray .int, 2) := by decide +kernel
theorem d6_55 : decode prog_3_method_1_code 55 = .ok (.putfield 32, 3) := by decide +kernel
theorem d6_58 : decode prog_3_method_1_code 58 = .ok (.aload_n 0, 1) := by decide +kernel
theorem d6_59 : decode prog_3_method_1_code 59 = .ok (.iload_n 1, 1) := by decide +kernel
theorem d6_60 : decode prog_3_method_1_code 60 = .ok (.newarray .int, 2) := by decide +kernel
theorem d6_62 : decode prog_3_method_1_code 62 = .ok (.putfield 35, 3) := by decide +kernel
theorem d6_65 : decode prog_3_method_1_code 65 = .ok (.return_, 1) := by decide +kernel
def Q6 (Z : State) (a1 : Addr) (p3 : Int32) (h0 : Heap) (n0 : Nat) (v : Option Value) (h : Heap) (L : List Loc) : Prop := ∃ na1 : Addr, ∃ na2 : Addr, ∃ na3 : Addr, ∃ na4 : Addr, ∃ na5 : Addr, ∃ na6 : Addr, ∃ na7 : Addr, h0.size ≤ na1 ∧ h0.size ≤ na2 ∧ h0.size ≤ na3 ∧ h0.size ≤ na4 ∧ h0.size ≤ na5 ∧ h0.size ≤ na6 ∧ h0.size ≤ na7 ∧ na1 ≠ na2 ∧ na1 ≠ na3 ∧ na1 ≠ na4 ∧ na1 ≠ na5 ∧ na1 ≠ na6 ∧ na1 ≠ na7 ∧ na2 ≠ na3 ∧ na2 ≠ na4 ∧ na2 ≠ na5 ∧ na2 ≠ na6 ∧ na2 ≠ na7 ∧ na3 ≠ na4 ∧ na3 ≠ na5 ∧ na3 ≠ na6 ∧ na3 ≠ na7 ∧ na4 ≠ na5 ∧ na4 ≠ na6 ∧ na4 ≠ na7 ∧ na5 ≠ na6 ∧ na5 ≠ na7 ∧ na6 ≠ na7 ∧ v = none ∧ Fr n0 L ∧ Keep h0 h [a1] ∧ Exa Z h a1 nm4 ∧ Fld Z h a1 nm4 "impossible" "I" (.int (5 : Int32)) ∧ Fld Z h a1 nm4 "h" "I" (.int p3) ∧ Fld Z h a1 nm4 "lowOut" "[I" (.ref na1) ∧ Fld Z h a1 nm4 "lowIn" "[I" (.ref na2) ∧ Fld Z h a1 nm4 "lowInLength" "[I" (.ref na3) ∧ Fld Z h a1 nm4 "lowInLows" "[I" (.ref na4) ∧ Fld Z h a1 nm4 "high" "[I" (.ref na5) ∧ Fld Z h a1 nm4 "highLength" "[I" (.ref na6) ∧ Fld Z h a1 nm4 "highLows" "[I" (.ref na7) ∧ IA Z h na1 .int [(.int (0 : Int32)), (.int (0 : Int32)), (.int (0 : Int32)), (.int (0 : Int32))] ∧ IA Z h na2 .int [(.int (0 : Int32)), (.int (0 : Int32)), (.int (0 : Int32)), (.int (0 : Int32))] ∧ IA Z h na3 .int [(.int (0 : Int32)), (.int (0 : Int32)), (.int (0 : Int32)), (.int (0 : Int32))] ∧ IA Z h na4 .int [(.int (0 : Int32)), (.int (0 : Int32)), (.int (0 : Int32)), (.int (0 : Int32))] ∧ IA Z h na5 .int [(.int (0 : Int32)), (.int (0 : Int32)), (.int (0 : Int32)), (.int (0 : Int32))] ∧ IA Z h na6 .int [(.int (0 : Int32)), (.int (0 : Int32)), (.int (0 : Int32)), (.int (0 : Int32))] ∧ IA Z h na7 .int [(.int (0 : Int32)), (.int (0 : Int32)), (.int (0 : Int32)), (.int (0 : Int32))]
def rmR6 : Room := { frames := 1, cells := 7, slots := 28, locals := 12 }
theorem ef_6 (m : MethodId) (a1 : Addr) (p3 : Int32) : entryFrame m #[(.ref a1), (.int (4 : Int32)), (.int p3)] 3 = mkF m 0 #[.val (.ref a1), .val (.int (4 : Int32)), .val (.int p3)] [] := by first | (simp [entryFrame, mkF, argsToLocals, Value.category]; done) | rfl
theorem pn_com_example_tightfold_tightfold_FocusFiltering : plainName "com/example/tightfold/tightfold/FocusFiltering" = true := by first | (simp [plainName, overriddenIn]; done) | decide +kernel
set_option maxRecDepth 65536 in
set_option maxHeartbeats 40000000 in
theorem rm6 (l : Launch) (Z : State) (a0 : Array Value) (hw : ∀ d ∈ tables_1, d.before a0 Z = true) (ws : List Jvm.Cond) (a1 : Addr) (p3 : Int32) (h0 : Heap) (n0 : Nat) (Z0 : n0 ≤ h0.size) (F_E_a1 : Exa Z h0 a1 nm4) (F_F_a1_impossible : Fld Z h0 a1 nm4 "impossible" "I" (.int (0 : Int32))) (F_F_a1_h : Fld Z h0 a1 nm4 "h" "I" (.int (0 : Int32))) (F_F_a1_lowOut : Fld Z h0 a1 nm4 "lowOut" "[I" .null) (F_F_a1_lowIn : Fld Z h0 a1 nm4 "lowIn" "[I" .null) (F_F_a1_lowInLength : Fld Z h0 a1 nm4 "lowInLength" "[I" .null) (F_F_a1_lowInLows : Fld Z h0 a1 nm4 "lowInLows" "[I" .null) (F_F_a1_high : Fld Z h0 a1 nm4 "high" "[I" .null) (F_F_a1_highLength : Fld Z h0 a1 nm4 "highLength" "[I" .null) (F_F_a1_highLows : Fld Z h0 a1 nm4 "highLows" "[I" .null) (g_a1 : n0 ≤ a1) :
    Mt l Z mt10 (Jvm.Cond.code mt10 prog_3_method_1_code 3 none :: ws) rmR6 #[(.ref a1), (.int (4 : Int32)), (.int p3)] h0 (Q6 Z a1 p3 h0 n0) := by
  refine Mt.of n0 (plainFor_of_name pn_com_example_tightfold_tightfold_FocusFiltering) ?_
  intro p e s m below meth c T0 X0 hx hZ hby hml hown hret hlk hnm hs0
  have Sl0 := slot_ne (Or.inr (own_g hw 32 rfl)) (Or.inr (own_g hw 30 rfl)) (by decide) (t := .int) (t' := .int) (by decide) (by decide)
  have Sl1 := slot_ne (Or.inr (own_g hw 34 rfl)) (Or.inr (own_g hw 30 rfl)) (by decide) (t := (.array .int)) (t' := .int) (by decide) (by decide)
  have Sl2 := slot_ne (Or.inr (own_g hw 36 rfl)) (Or.inr (own_g hw 30 rfl)) (by decide) (t := (.array .int)) (t' := .int) (by decide) (by decide)
  have Sl3 := slot_ne (Or.inr (own_g hw 38 rfl)) (Or.inr (own_g hw 30 rfl)) (by decide) (t := (.array .int)) (t' := .int) (by decide) (by decide)
  have Sl4 := slot_ne (Or.inr (own_g hw 40 rfl)) (Or.inr (own_g hw 30 rfl)) (by decide) (t := (.array .int)) (t' := .int) (by decide) (by decide)
  have Sl5 := slot_ne (Or.inr (own_g hw 42 rfl)) (Or.inr (own_g hw 30 rfl)) (by decide) (t := (.array .int)) (t' := .int) (by decide) (by decide)
  have Sl6 := slot_ne (Or.inr (own_g hw 44 rfl)) (Or.inr (own_g hw 30 rfl)) (by decide) (t := (.array .int)) (t' := .int) (by decide) (by decide)
  have Sl7 := slot_ne (Or.inr (own_g hw 46 rfl)) (Or.inr (own_g hw 30 rfl)) (by decide) (t := (.array .int)) (t' := .int) (by decide) (by decide)
  have Sl8 := slot_ne (Or.inr (own_g hw 30 rfl)) (Or.inr (own_g hw 32 rfl)) (by decide) (t := .int) (t' := .int) (by decide) (by decide)
  have Sl9 := slot_ne (Or.inr (own_g hw 34 rfl)) (Or.inr (own_g hw 32 rfl)) (by decide) (t := (.array .int)) (t' := .int) (by decide) (by decide)
  have Sl10 := slot_ne (Or.inr (own_g hw 36 rfl)) (Or.inr (own_g hw 32 rfl)) (by decide) (t := (.array .int)) (t' := .int) (by decide) (by decide)
  have Sl11 := slot_ne (Or.inr (own_g hw 38 rfl)) (Or.inr (own_g hw 32 rfl)) (by decide) (t := (.array .int)) (t' := .int) (by decide) (by decide)
  have Sl12 := slot_ne (Or.inr (own_g hw 40 rfl)) (Or.inr (own_g hw 32 rfl)) (by decide) (t := (.array .int)) (t' := .int) (by decide) (by decide)
  have Sl13 := slot_ne (Or.inr (own_g hw 42 rfl)) (Or.inr (own_g hw 32 rfl)) (by decide) (t := (.array .int)) (t' := .int) (by decide) (by decide)
  have Sl14 := slot_ne (Or.inr (own_g hw 44 rfl)) (Or.inr (own_g hw 32 rfl)) (by decide) (t := (.array .int)) (t' := .int) (by decide) (by decide)
  have Sl15 := slot_ne (Or.inr (own_g hw 46 rfl)) (Or.inr (own_g hw 32 rfl)) (by decide) (t := (.array .int)) (t' := .int) (by decide) (by decide)
  have Sl16 := slot_ne (Or.inr (own_g hw 30 rfl)) (Or.inr (own_g hw 34 rfl)) (by decide) (t := .int) (t' := (.array .int)) (by decide) (by decide)
  have Sl17 := slot_ne (Or.inr (own_g hw 32 rfl)) (Or.inr (own_g hw 34 rfl)) (by decide) (t := .int) (t' := (.array .int)) (by decide) (by decide)
  have Sl18 := slot_ne (Or.inr (own_g hw 36 rfl)) (Or.inr (own_g hw 34 rfl)) (by decide) (t := (.array .int)) (t' := (.array .int)) (by decide) (by decide)
  have Sl19 := slot_ne (Or.inr (own_g hw 38 rfl)) (Or.inr (own_g hw 34 rfl)) (by decide) (t := (.array .int)) (t' := (.array .int)) (by decide) (by decide)
  have Sl20 := slot_ne (Or.inr (own_g hw 40 rfl)) (Or.inr (own_g hw 34 rfl)) (by decide) (t := (.array .int)) (t' := (.array .int)) (by decide) (by decide)
  have Sl21 := slot_ne (Or.inr (own_g hw 42 rfl)) (Or.inr (own_g hw 34 rfl)) (by decide) (t := (.array .int)) (t' := (.array .int)) (by decide) (by decide)
  have Sl22 := slot_ne (Or.inr (own_g hw 44 rfl)) (Or.inr (own_g hw 34 rfl)) (by decide) (t := (.array .int)) (t' := (.array .int)) (by decide) (by decide)
  have Sl23 := slot_ne (Or.inr (own_g hw 46 rfl)) (Or.inr (own_g hw 34 rfl)) (by decide) (t := (.array .int)) (t' := (.array .int)) (by decide) (by decide)
  have Sl24 := slot_ne (Or.inr (own_g hw 30 rfl)) (Or.inr (own_g hw 36 rfl)) (by decide) (t := .int) (t' := (.array .int)) (by decide) (by decide)
  have Sl25 := slot_ne (Or.inr (own_g hw 32 rfl)) (Or.inr (own_g hw 36 rfl)) (by decide) (t := .int) (t' := (.array .int)) (by decide) (by decide)
  have Sl26 := slot_ne (Or.inr (own_g hw 34 rfl)) (Or.inr (own_g hw 36 rfl)) (by decide) (t := (.array .int)) (t' := (.array .int)) (by decide) (by decide)
  have Sl27 := slot_ne (Or.inr (own_g hw 38 rfl)) (Or.inr (own_g hw 36 rfl)) (by decide) (t := (.array .int)) (t' := (.array .int)) (by decide) (by decide)
  have Sl28 := slot_ne (Or.inr (own_g hw 40 rfl)) (Or.inr (own_g hw 36 rfl)) (by decide) (t := (.array .int)) (t' := (.array .int)) (by decide) (by decide)
  have Sl29 := slot_ne (Or.inr (own_g hw 42 rfl)) (Or.inr (own_g hw 36 rfl)) (by decide) (t := (.array .int)) (t' := (.array .int)) (by decide) (by decide)
  have Sl30 := slot_ne (Or.inr (own_g hw 44 rfl)) (Or.inr (own_g hw 36 rfl)) (by decide) (t := (.array .int)) (t' := (.array .int)) (by decide) (by decide)
  have Sl31 := slot_ne (Or.inr (own_g hw 46 rfl)) (Or.inr (own_g hw 36 rfl)) (by decide) (t := (.array .int)) (t' := (.array .int)) (by decide) (by decide)
  have Sl32 := slot_ne (Or.inr (own_g hw 30 rfl)) (Or.inr (own_g hw 38 rfl)) (by decide) (t := .int) (t' := (.array .int)) (by decide) (by decide)
  have Sl33 := slot_ne (Or.inr (own_g hw 32 rfl)) (Or.inr (own_g hw 38 rfl)) (by decide) (t := .int) (t' := (.array .int)) (by decide) (by decide)
  have Sl34 := slot_ne (Or.inr (own_g hw 34 rfl)) (Or.inr (own_g hw 38 rfl)) (by decide) (t := (.array .int)) (t' := (.array .int)) (by decide) (by decide)
  have Sl35 := slot_ne (Or.inr (own_g hw 36 rfl)) (Or.inr (own_g hw 38 rfl)) (by decide) (t := (.array .int)) (t' := (.array .int)) (by decide) (by decide)
  have Sl36 := slot_ne (Or.inr (own_g hw 40 rfl)) (Or.inr (own_g hw 38 rfl)) (by decide) (t := (.array .int)) (t' := (.array .int)) (by decide) (by decide)
  have Sl37 := slot_ne (Or.inr (own_g hw 42 rfl)) (Or.inr (own_g hw 38 rfl)) (by decide) (t := (.array .int)) (t' := (.array .int)) (by decide) (by decide)
  have Sl38 := slot_ne (Or.inr (own_g hw 44 rfl)) (Or.inr (own_g hw 38 rfl)) (by decide) (t := (.array .int)) (t' := (.array .int)) (by decide) (by decide)
  have Sl39 := slot_ne (Or.inr (own_g hw 46 rfl)) (Or.inr (own_g hw 38 rfl)) (by decide) (t := (.array .int)) (t' := (.array .int)) (by decide) (by decide)
  have Sl40 := slot_ne (Or.inr (own_g hw 30 rfl)) (Or.inr (own_g hw 40 rfl)) (by decide) (t := .int) (t' := (.array .int)) (by decide) (by decide)
  have Sl41 := slot_ne (Or.inr (own_g hw 32 rfl)) (Or.inr (own_g hw 40 rfl)) (by decide) (t := .int) (t' := (.array .int)) (by decide) (by decide)
  have Sl42 := slot_ne (Or.inr (own_g hw 34 rfl)) (Or.inr (own_g hw 40 rfl)) (by decide) (t := (.array .int)) (t' := (.array .int)) (by decide) (by decide)
  have Sl43 := slot_ne (Or.inr (own_g hw 36 rfl)) (Or.inr (own_g hw 40 rfl)) (by decide) (t := (.array .int)) (t' := (.array .int)) (by decide) (by decide)
  have Sl44 := slot_ne (Or.inr (own_g hw 38 rfl)) (Or.inr (own_g hw 40 rfl)) (by decide) (t := (.array .int)) (t' := (.array .int)) (by decide) (by decide)
  have Sl45 := slot_ne (Or.inr (own_g hw 42 rfl)) (Or.inr (own_g hw 40 rfl)) (by decide) (t := (.array .int)) (t' := (.array .int)) (by decide) (by decide)
  have Sl46 := slot_ne (Or.inr (own_g hw 44 rfl)) (Or.inr (own_g hw 40 rfl)) (by decide) (t := (.array .int)) (t' := (.array .int)) (by decide) (by decide)
  have Sl47 := slot_ne (Or.inr (own_g hw 46 rfl)) (Or.inr (own_g hw 40 rfl)) (by decide) (t := (.array .int)) (t' := (.array .int)) (by decide) (by decide)
  have Sl48 := slot_ne (Or.inr (own_g hw 30 rfl)) (Or.inr (own_g hw 42 rfl)) (by decide) (t := .int) (t' := (.array .int)) (by decide) (by decide)
  have Sl49 := slot_ne (Or.inr (own_g hw 32 rfl)) (Or.inr (own_g hw 42 rfl)) (by decide) (t := .int) (t' := (.array .int)) (by decide) (by decide)
  have Sl50 := slot_ne (Or.inr (own_g hw 34 rfl)) (Or.inr (own_g hw 42 rfl)) (by decide) (t := (.array .int)) (t' := (.array .int)) (by decide) (by decide)
  have Sl51 := slot_ne (Or.inr (own_g hw 36 rfl)) (Or.inr (own_g hw 42 rfl)) (by decide) (t := (.array .int)) (t' := (.array .int)) (by decide) (by decide)
  have Sl52 := slot_ne (Or.inr (own_g hw 38 rfl)) (Or.inr (own_g hw 42 rfl)) (by decide) (t := (.array .int)) (t' := (.array .int)) (by decide) (by decide)
  have Sl53 := slot_ne (Or.inr (own_g hw 40 rfl)) (Or.inr (own_g hw 42 rfl)) (by decide) (t := (.array .int)) (t' := (.array .int)) (by decide) (by decide)
  have Sl54 := slot_ne (Or.inr (own_g hw 44 rfl)) (Or.inr (own_g hw 42 rfl)) (by decide) (t := (.array .int)) (t' := (.array .int)) (by decide) (by decide)
  have Sl55 := slot_ne (Or.inr (own_g hw 46 rfl)) (Or.inr (own_g hw 42 rfl)) (by decide) (t := (.array .int)) (t' := (.array .int)) (by decide) (by decide)
  have Sl56 := slot_ne (Or.inr (own_g hw 30 rfl)) (Or.inr (own_g hw 44 rfl)) (by decide) (t := .int) (t' := (.array .int)) (by decide) (by decide)
  have Sl57 := slot_ne (Or.inr (own_g hw 32 rfl)) (Or.inr (own_g hw 44 rfl)) (by decide) (t := .int) (t' := (.array .int)) (by decide) (by decide)
  have Sl58 := slot_ne (Or.inr (own_g hw 34 rfl)) (Or.inr (own_g hw 44 rfl)) (by decide) (t := (.array .int)) (t' := (.array .int)) (by decide) (by decide)
  have Sl59 := slot_ne (Or.inr (own_g hw 36 rfl)) (Or.inr (own_g hw 44 rfl)) (by decide) (t := (.array .int)) (t' := (.array .int)) (by decide) (by decide)
  have Sl60 := slot_ne (Or.inr (own_g hw 38 rfl)) (Or.inr (own_g hw 44 rfl)) (by decide) (t := (.array .int)) (t' := (.array .int)) (by decide) (by decide)
  have Sl61 := slot_ne (Or.inr (own_g hw 40 rfl)) (Or.inr (own_g hw 44 rfl)) (by decide) (t := (.array .int)) (t' := (.array .int)) (by decide) (by decide)
  have Sl62 := slot_ne (Or.inr (own_g hw 42 rfl)) (Or.inr (own_g hw 44 rfl)) (by decide) (t := (.array .int)) (t' := (.array .int)) (by decide) (by decide)
  have Sl63 := slot_ne (Or.inr (own_g hw 46 rfl)) (Or.inr (own_g hw 44 rfl)) (by decide) (t := (.array .int)) (t' := (.array .int)) (by decide) (by decide)
  have Sl64 := slot_ne (Or.inr (own_g hw 30 rfl)) (Or.inr (own_g hw 46 rfl)) (by decide) (t := .int) (t' := (.array .int)) (by decide) (by decide)
  have Sl65 := slot_ne (Or.inr (own_g hw 32 rfl)) (Or.inr (own_g hw 46 rfl)) (by decide) (t := .int) (t' := (.array .int)) (by decide) (by decide)
  have Sl66 := slot_ne (Or.inr (own_g hw 34 rfl)) (Or.inr (own_g hw 46 rfl)) (by decide) (t := (.array .int)) (t' := (.array .int)) (by decide) (by decide)
  have Sl67 := slot_ne (Or.inr (own_g hw 36 rfl)) (Or.inr (own_g hw 46 rfl)) (by decide) (t := (.array .int)) (t' := (.array .int)) (by decide) (by decide)
  have Sl68 := slot_ne (Or.inr (own_g hw 38 rfl)) (Or.inr (own_g hw 46 rfl)) (by decide) (t := (.array .int)) (t' := (.array .int)) (by decide) (by decide)
  have Sl69 := slot_ne (Or.inr (own_g hw 40 rfl)) (Or.inr (own_g hw 46 rfl)) (by decide) (t := (.array .int)) (t' := (.array .int)) (by decide) (by decide)
  have Sl70 := slot_ne (Or.inr (own_g hw 42 rfl)) (Or.inr (own_g hw 46 rfl)) (by decide) (t := (.array .int)) (t' := (.array .int)) (by decide) (by decide)
  have Sl71 := slot_ne (Or.inr (own_g hw 44 rfl)) (Or.inr (own_g hw 46 rfl)) (by decide) (t := (.array .int)) (t' := (.array .int)) (by decide) (by decide)
  have hown : s.vm.findClass "com/example/tightfold/tightfold/FocusFiltering" = some m.cls := hown
  rw [ef_6]
  show Rt p e below s rmR6.cells rmR6.slots (Q6 Z a1 p3 h0 n0) (T0.setTop (mkF m 0 #[.val (.ref a1), .val (.int (4 : Int32)), .val (.int p3)] []))
  refine Rt.aloadN (pc' := 1) X0 hx (hb hby d6_0) rfl rfl rfl ?_
  refine Rt.initO (pc' := 4) X0 hx hZ hown (own_g hw 26 rfl) (own_g hw 27 rfl) (own_g hw 28 rfl) (by rw [hml]; rfl) (hb hby d6_1) (by decide) (W := 0) (Nat.le_of_eq rfl) (by decide) rfl ?_
  intro T1 X1
  refine Rt.aloadN (pc' := 5) X1 hx (hb hby d6_4) rfl rfl rfl ?_
  refine Rt.iloadN (pc' := 6) X1 hx (hb hby d6_5) rfl rfl ?_
  refine Rt.iconst (pc' := 7) (v := (1 : Int32)) X1 hx (hb hby d6_6) rfl rfl ?_
  refine Rt.iadd (pc' := 8) (r := (5 : Int32)) X1 hx (hb hby d6_7) (by decide) rfl ?_
  refine Rt.putF (pc' := 11) (v := (.int (5 : Int32))) X1 hx hZ hown (host := "") (Or.inl (own_g hw 29 rfl)) F_F_a1_impossible F_E_a1 (Or.inr ⟨(own_g hw 30 rfl), rfl, hnm⟩) (own_g hw 21 rfl) (ty := .int) (by decide) rfl rfl g_a1 (hb hby d6_8) rfl ?_
  intro T2 h2 X2 W2 F2
  have F3 := F_E_a1.wr W2
  have F4 := F_F_a1_h.other W2 (Or.inr Sl0)
  have F5 := F_F_a1_lowOut.other W2 (Or.inr Sl1)
  have F6 := F_F_a1_lowIn.other W2 (Or.inr Sl2)
  have F7 := F_F_a1_lowInLength.other W2 (Or.inr Sl3)
  have F8 := F_F_a1_lowInLows.other W2 (Or.inr Sl4)
  have F9 := F_F_a1_high.other W2 (Or.inr Sl5)
  have F10 := F_F_a1_highLength.other W2 (Or.inr Sl6)
  have F11 := F_F_a1_highLows.other W2 (Or.inr Sl7)
  have K12 := (Keep.refl h0 [a1]).wr W2 (Or.inl (List.mem_of_getElem? (i := 0) rfl))
  have Z13 := Nat.le_trans Z0 (Keep.of_wr W2).1
  refine Rt.aloadN (pc' := 12) X2 hx (hb hby d6_11) rfl rfl rfl ?_
  refine Rt.iloadN (pc' := 13) X2 hx (hb hby d6_12) rfl rfl ?_
  refine Rt.putF (pc' := 16) (v := (.int p3)) X2 hx hZ hown (host := "") (Or.inl (own_g hw 31 rfl)) F4 F3 (Or.inr ⟨(own_g hw 32 rfl), rfl, hnm⟩) (own_g hw 21 rfl) (ty := .int) (by decide) rfl rfl g_a1 (hb hby d6_13) rfl ?_
  intro T14 h14 X14 W14 F14
  have F15 := F3.wr W14
  have F16 := F2.other W14 (Or.inr Sl8)
  have F17 := F5.other W14 (Or.inr Sl9)
  have F18 := F6.other W14 (Or.inr Sl10)
  have F19 := F7.other W14 (Or.inr Sl11)
  have F20 := F8.other W14 (Or.inr Sl12)
  have F21 := F9.other W14 (Or.inr Sl13)
  have F22 := F10.other W14 (Or.inr Sl14)
  have F23 := F11.other W14 (Or.inr Sl15)
  have K24 := K12.wr W14 (Or.inl (List.mem_of_getElem? (i := 0) rfl))
  have Z25 := Nat.le_trans Z13 (Keep.of_wr W14).1
  refine Rt.aloadN (pc' := 17) X14 hx (hb hby d6_16) rfl rfl rfl ?_
  refine Rt.iloadN (pc' := 18) X14 hx (hb hby d6_17) rfl rfl ?_
  refine Rt.newP (pc' := 20) X14 hx hZ (ty := .int) rfl (own_g hw 6 rfl) (z := (4 : Int32)) (i := 4) (by decide) (by decide) (cap := 4) (by decide) (by decide) (hb hby d6_18) (by decide) (by decide) rfl ?_
  intro T26 h26 b18 ha26 X26 E26 A26
  have g27 : n0 ≤ b18 := by rw [ha26]; exact Z25
  have s28 : h0.size ≤ b18 := by rw [ha26]; exact K24.1
  have ne29 : a1 ≠ b18 := by rw [ha26]; exact Nat.ne_of_lt F15.lt
  have F30 := F15.ext E26
  have F31 := F16.ext E26
  have F32 := F14.ext E26
  have F33 := F17.ext E26
  have F34 := F18.ext E26
  have F35 := F19.ext E26
  have F36 := F20.ext E26
  have F37 := F21.ext E26
  have F38 := F22.ext E26
  have F39 := F23.ext E26
  have K40 := K24.ext E26
  have Z41 := Nat.le_trans Z25 E26.1
  have A26 : IA Z h26 b18 .int [(.int (0 : Int32)), (.int (0 : Int32)), (.int (0 : Int32)), (.int (0 : Int32))] := A26
  refine Rt.putF (pc' := 23) (v := (.ref b18)) X26 hx hZ hown (host := "") (Or.inl (own_g hw 33 rfl)) F33 F30 (Or.inr ⟨(own_g hw 34 rfl), rfl, hnm⟩) (own_g hw 21 rfl) (ty := (.array .int)) (by decide) rfl rfl g_a1 (hb hby d6_20) rfl ?_
  intro T42 h42 X42 W42 F42
  have F43 := F30.wr W42
  have F44 := F31.other W42 (Or.inr Sl16)
  have F45 := F32.other W42 (Or.inr Sl17)
  have F46 := F34.other W42 (Or.inr Sl18)
  have F47 := F35.other W42 (Or.inr Sl19)
  have F48 := F36.other W42 (Or.inr Sl20)
  have F49 := F37.other W42 (Or.inr Sl21)
  have F50 := F38.other W42 (Or.inr Sl22)
  have F51 := F39.other W42 (Or.inr Sl23)
  have F52 := A26.other W42 (Ne.symm ne29)
  have K53 := K40.wr W42 (Or.inl (List.mem_of_getElem? (i := 0) rfl))
  have Z54 := Nat.le_trans Z41 (Keep.of_wr W42).1
  refine Rt.aloadN (pc' := 24) X42 hx (hb hby d6_23) rfl rfl rfl ?_
  refine Rt.iloadN (pc' := 25) X42 hx (hb hby d6_24) rfl rfl ?_
  refine Rt.newP (pc' := 27) X42 hx hZ (ty := .int) rfl (own_g hw 6 rfl) (z := (4 : Int32)) (i := 4) (by decide) (by decide) (cap := 4) (by decide) (by decide) (hb hby d6_25) (by decide) (by decide) rfl ?_
  intro T55 h55 b25 ha55 X55 E55 A55
  have g56 : n0 ≤ b25 := by rw [ha55]; exact Z54
  have s57 : h0.size ≤ b25 := by rw [ha55]; exact K53.1
  have ne58 : a1 ≠ b25 := by rw [ha55]; exact Nat.ne_of_lt F43.lt
  have ne59 : b18 ≠ b25 := by rw [ha55]; exact Nat.ne_of_lt F52.lt
  have F60 := F43.ext E55
  have F61 := F44.ext E55
  have F62 := F45.ext E55
  have F63 := F42.ext E55
  have F64 := F46.ext E55
  have F65 := F47.ext E55
  have F66 := F48.ext E55
  have F67 := F49.ext E55
  have F68 := F50.ext E55
  have F69 := F51.ext E55
  have F70 := F52.ext E55
  have K71 := K53.ext E55
  have Z72 := Nat.le_trans Z54 E55.1
  have A55 : IA Z h55 b25 .int [(.int (0 : Int32)), (.int (0 : Int32)), (.int (0 : Int32)), (.int (0 : Int32))] := A55
  refine Rt.putF (pc' := 30) (v := (.ref b25)) X55 hx hZ hown (host := "") (Or.inl (own_g hw 35 rfl)) F64 F60 (Or.inr ⟨(own_g hw 36 rfl), rfl, hnm⟩) (own_g hw 21 rfl) (ty := (.array .int)) (by decide) rfl rfl g_a1 (hb hby d6_27) rfl ?_
  intro T73 h73 X73 W73 F73
  have F74 := F60.wr W73
  have F75 := F61.other W73 (Or.inr Sl24)
  have F76 := F62.other W73 (Or.inr Sl25)
  have F77 := F63.other W73 (Or.inr Sl26)
  have F78 := F65.other W73 (Or.inr Sl27)
  have F79 := F66.other W73 (Or.inr Sl28)
  have F80 := F67.other W73 (Or.inr Sl29)
  have F81 := F68.other W73 (Or.inr Sl30)
  have F82 := F69.other W73 (Or.inr Sl31)
  have F83 := F70.other W73 (Ne.symm ne29)
  have F84 := A55.other W73 (Ne.symm ne58)
  have K85 := K71.wr W73 (Or.inl (List.mem_of_getElem? (i := 0) rfl))
  have Z86 := Nat.le_trans Z72 (Keep.of_wr W73).1
  refine Rt.aloadN (pc' := 31) X73 hx (hb hby d6_30) rfl rfl rfl ?_
  refine Rt.iloadN (pc' := 32) X73 hx (hb hby d6_31) rfl rfl ?_
  refine Rt.newP (pc' := 34) X73 hx hZ (ty := .int) rfl (own_g hw 6 rfl) (z := (4 : Int32)) (i := 4) (by decide) (by decide) (cap := 4) (by decide) (by decide) (hb hby d6_32) (by decide) (by decide) rfl ?_
  intro T87 h87 b32 ha87 X87 E87 A87
  have g88 : n0 ≤ b32 := by rw [ha87]; exact Z86
  have s89 : h0.size ≤ b32 := by rw [ha87]; exact K85.1
  have ne90 : a1 ≠ b32 := by rw [ha87]; exact Nat.ne_of_lt F74.lt
  have ne91 : b18 ≠ b32 := by rw [ha87]; exact Nat.ne_of_lt F83.lt
  have ne92 : b25 ≠ b32 := by rw [ha87]; exact Nat.ne_of_lt F84.lt
  have F93 := F74.ext E87
  have F94 := F75.ext E87
  have F95 := F76.ext E87
  have F96 := F77.ext E87
  have F97 := F73.ext E87
  have F98 := F78.ext E87
  have F99 := F79.ext E87
  have F100 := F80.ext E87
  have F101 := F81.ext E87
  have F102 := F82.ext E87
  have F103 := F83.ext E87
  have F104 := F84.ext E87
  have K105 := K85.ext E87
  have Z106 := Nat.le_trans Z86 E87.1
  have A87 : IA Z h87 b32 .int [(.int (0 : Int32)), (.int (0 : Int32)), (.int (0 : Int32)), (.int (0 : Int32))] := A87
  refine Rt.putF (pc' := 37) (v := (.ref b32)) X87 hx hZ hown (host := "") (Or.inl (own_g hw 37 rfl)) F98 F93 (Or.inr ⟨(own_g hw 38 rfl), rfl, hnm⟩) (own_g hw 21 rfl) (ty := (.array .int)) (by decide) rfl rfl g_a1 (hb hby d6_34) rfl ?_
  intro T107 h107 X107 W107 F107
  have F108 := F93.wr W107
  have F109 := F94.other W107 (Or.inr Sl32)
  have F110 := F95.other W107 (Or.inr Sl33)
  have F111 := F96.other W107 (Or.inr Sl34)
  have F112 := F97.other W107 (Or.inr Sl35)
  have F113 := F99.other W107 (Or.inr Sl36)
  have F114 := F100.other W107 (Or.inr Sl37)
  have F115 := F101.other W107 (Or.inr Sl38)
  have F116 := F102.other W107 (Or.inr Sl39)
  have F117 := F103.other W107 (Ne.symm ne29)
  have F118 := F104.other W107 (Ne.symm ne58)
  have F119 := A87.other W107 (Ne.symm ne90)
  have K120 := K105.wr W107 (Or.inl (List.mem_of_getElem? (i := 0) rfl))
  have Z121 := Nat.le_trans Z106 (Keep.of_wr W107).1
  refine Rt.aloadN (pc' := 38) X107 hx (hb hby d6_37) rfl rfl rfl ?_
  refine Rt.iloadN (pc' := 39) X107 hx (hb hby d6_38) rfl rfl ?_
  refine Rt.newP (pc' := 41) X107 hx hZ (ty := .int) rfl (own_g hw 6 rfl) (z := (4 : Int32)) (i := 4) (by decide) (by decide) (cap := 4) (by decide) (by decide) (hb hby d6_39) (by decide) (by decide) rfl ?_
  intro T122 h122 b39 ha122 X122 E122 A122
  have g123 : n0 ≤ b39 := by rw [ha122]; exact Z121
  have s124 : h0.size ≤ b39 := by rw [ha122]; exact K120.1
  have ne125 : a1 ≠ b39 := by rw [ha122]; exact Nat.ne_of_lt F108.lt
  have ne126 : b18 ≠ b39 := by rw [ha122]; exact Nat.ne_of_lt F117.lt
  have ne127 : b25 ≠ b39 := by rw [ha122]; exact Nat.ne_of_lt F118.lt
  have ne128 : b32 ≠ b39 := by rw [ha122]; exact Nat.ne_of_lt F119.lt
  have F129 := F108.ext E122
  have F130 := F109.ext E122
  have F131 := F110.ext E122
  have F132 := F111.ext E122
  have F133 := F112.ext E122
  have F134 := F107.ext E122
  have F135 := F113.ext E122
  have F136 := F114.ext E122
  have F137 := F115.ext E122
  have F138 := F116.ext E122
  have F139 := F117.ext E122
  have F140 := F118.ext E122
  have F141 := F119.ext E122
  have K142 := K120.ext E122
  have Z143 := Nat.le_trans Z121 E122.1
  have A122 : IA Z h122 b39 .int [(.int (0 : Int32)), (.int (0 : Int32)), (.int (0 : Int32)), (.int (0 : Int32))] := A122
  refine Rt.putF (pc' := 44) (v := (.ref b39)) X122 hx hZ hown (host := "") (Or.inl (own_g hw 39 rfl)) F135 F129 (Or.inr ⟨(own_g hw 40 rfl), rfl, hnm⟩) (own_g hw 21 rfl) (ty := (.array .int)) (by decide) rfl rfl g_a1 (hb hby d6_41) rfl ?_
  intro T144 h144 X144 W144 F144
  have F145 := F129.wr W144
  have F146 := F130.other W144 (Or.inr Sl40)
  have F147 := F131.other W144 (Or.inr Sl41)
  have F148 := F132.other W144 (Or.inr Sl42)
  have F149 := F133.other W144 (Or.inr Sl43)
  have F150 := F134.other W144 (Or.inr Sl44)
  have F151 := F136.other W144 (Or.inr Sl45)
  have F152 := F137.other W144 (Or.inr Sl46)
  have F153 := F138.other W144 (Or.inr Sl47)
  have F154 := F139.other W144 (Ne.symm ne29)
  have F155 := F140.other W144 (Ne.symm ne58)
  have F156 := F141.other W144 (Ne.symm ne90)
  have F157 := A122.other W144 (Ne.symm ne125)
  have K158 := K142.wr W144 (Or.inl (List.mem_of_getElem? (i := 0) rfl))
  have Z159 := Nat.le_trans Z143 (Keep.of_wr W144).1
  refine Rt.aloadN (pc' := 45) X144 hx (hb hby d6_44) rfl rfl rfl ?_
  refine Rt.iloadN (pc' := 46) X144 hx (hb hby d6_45) rfl rfl ?_
  refine Rt.newP (pc' := 48) X144 hx hZ (ty := .int) rfl (own_g hw 6 rfl) (z := (4 : Int32)) (i := 4) (by decide) (by decide) (cap := 4) (by decide) (by decide) (hb hby d6_46) (by decide) (by decide) rfl ?_
  intro T160 h160 b46 ha160 X160 E160 A160
  have g161 : n0 ≤ b46 := by rw [ha160]; exact Z159
  have s162 : h0.size ≤ b46 := by rw [ha160]; exact K158.1
  have ne163 : a1 ≠ b46 := by rw [ha160]; exact Nat.ne_of_lt F145.lt
  have ne164 : b18 ≠ b46 := by rw [ha160]; exact Nat.ne_of_lt F154.lt
  have ne165 : b25 ≠ b46 := by rw [ha160]; exact Nat.ne_of_lt F155.lt
  have ne166 : b32 ≠ b46 := by rw [ha160]; exact Nat.ne_of_lt F156.lt
  have ne167 : b39 ≠ b46 := by rw [ha160]; exact Nat.ne_of_lt F157.lt
  have F168 := F145.ext E160
  have F169 := F146.ext E160
  have F170 := F147.ext E160
  have F171 := F148.ext E160
  have F172 := F149.ext E160
  have F173 := F150.ext E160
  have F174 := F144.ext E160
  have F175 := F151.ext E160
  have F176 := F152.ext E160
  have F177 := F153.ext E160
  have F178 := F154.ext E160
  have F179 := F155.ext E160
  have F180 := F156.ext E160
  have F181 := F157.ext E160
  have K182 := K158.ext E160
  have Z183 := Nat.le_trans Z159 E160.1
  have A160 : IA Z h160 b46 .int [(.int (0 : Int32)), (.int (0 : Int32)), (.int (0 : Int32)), (.int (0 : Int32))] := A160
  refine Rt.putF (pc' := 51) (v := (.ref b46)) X160 hx hZ hown (host := "") (Or.inl (own_g hw 41 rfl)) F175 F168 (Or.inr ⟨(own_g hw 42 rfl), rfl, hnm⟩) (own_g hw 21 rfl) (ty := (.array .int)) (by decide) rfl rfl g_a1 (hb hby d6_48) rfl ?_
  intro T184 h184 X184 W184 F184
  have F185 := F168.wr W184
  have F186 := F169.other W184 (Or.inr Sl48)
  have F187 := F170.other W184 (Or.inr Sl49)
  have F188 := F171.other W184 (Or.inr Sl50)
  have F189 := F172.other W184 (Or.inr Sl51)
  have F190 := F173.other W184 (Or.inr Sl52)
  have F191 := F174.other W184 (Or.inr Sl53)
  have F192 := F176.other W184 (Or.inr Sl54)
  have F193 := F177.other W184 (Or.inr Sl55)
  have F194 := F178.other W184 (Ne.symm ne29)
  have F195 := F179.other W184 (Ne.symm ne58)
  have F196 := F180.other W184 (Ne.symm ne90)
  have F197 := F181.other W184 (Ne.symm ne125)
  have F198 := A160.other W184 (Ne.symm ne163)
  have K199 := K182.wr W184 (Or.inl (List.mem_of_getElem? (i := 0) rfl))
  have Z200 := Nat.le_trans Z183 (Keep.of_wr W184).1
  refine Rt.aloadN (pc' := 52) X184 hx (hb hby d6_51) rfl rfl rfl ?_
  refine Rt.iloadN (pc' := 53) X184 hx (hb hby d6_52) rfl rfl ?_
  refine Rt.newP (pc' := 55) X184 hx hZ (ty := .int) rfl (own_g hw 6 rfl) (z := (4 : Int32)) (i := 4) (by decide) (by decide) (cap := 4) (by decide) (by decide) (hb hby d6_53) (by decide) (by decide) rfl ?_
  intro T201 h201 b53 ha201 X201 E201 A201
  have g202 : n0 ≤ b53 := by rw [ha201]; exact Z200
  have s203 : h0.size ≤ b53 := by rw [ha201]; exact K199.1
  have ne204 : a1 ≠ b53 := by rw [ha201]; exact Nat.ne_of_lt F185.lt
  have ne205 : b18 ≠ b53 := by rw [ha201]; exact Nat.ne_of_lt F194.lt
  have ne206 : b25 ≠ b53 := by rw [ha201]; exact Nat.ne_of_lt F195.lt
  have ne207 : b32 ≠ b53 := by rw [ha201]; exact Nat.ne_of_lt F196.lt
  have ne208 : b39 ≠ b53 := by rw [ha201]; exact Nat.ne_of_lt F197.lt
  have ne209 : b46 ≠ b53 := by rw [ha201]; exact Nat.ne_of_lt F198.lt
  have F210 := F185.ext E201
  have F211 := F186.ext E201
  have F212 := F187.ext E201
  have F213 := F188.ext E201
  have F214 := F189.ext E201
  have F215 := F190.ext E201
  have F216 := F191.ext E201
  have F217 := F184.ext E201
  have F218 := F192.ext E201
  have F219 := F193.ext E201
  have F220 := F194.ext E201
  have F221 := F195.ext E201
  have F222 := F196.ext E201
  have F223 := F197.ext E201
  have F224 := F198.ext E201
  have K225 := K199.ext E201
  have Z226 := Nat.le_trans Z200 E201.1
  have A201 : IA Z h201 b53 .int [(.int (0 : Int32)), (.int (0 : Int32)), (.int (0 : Int32)), (.int (0 : Int32))] := A201
  refine Rt.putF (pc' := 58) (v := (.ref b53)) X201 hx hZ hown (host := "") (Or.inl (own_g hw 43 rfl)) F218 F210 (Or.inr ⟨(own_g hw 44 rfl), rfl, hnm⟩) (own_g hw 21 rfl) (ty := (.array .int)) (by decide) rfl rfl g_a1 (hb hby d6_55) rfl ?_
  intro T227 h227 X227 W227 F227
  have F228 := F210.wr W227
  have F229 := F211.other W227 (Or.inr Sl56)
  have F230 := F212.other W227 (Or.inr Sl57)
  have F231 := F213.other W227 (Or.inr Sl58)
  have F232 := F214.other W227 (Or.inr Sl59)
  have F233 := F215.other W227 (Or.inr Sl60)
  have F234 := F216.other W227 (Or.inr Sl61)
  have F235 := F217.other W227 (Or.inr Sl62)
  have F236 := F219.other W227 (Or.inr Sl63)
  have F237 := F220.other W227 (Ne.symm ne29)
  have F238 := F221.other W227 (Ne.symm ne58)
  have F239 := F222.other W227 (Ne.symm ne90)
  have F240 := F223.other W227 (Ne.symm ne125)
  have F241 := F224.other W227 (Ne.symm ne163)
  have F242 := A201.other W227 (Ne.symm ne204)
  have K243 := K225.wr W227 (Or.inl (List.mem_of_getElem? (i := 0) rfl))
  have Z244 := Nat.le_trans Z226 (Keep.of_wr W227).1
  refine Rt.aloadN (pc' := 59) X227 hx (hb hby d6_58) rfl rfl rfl ?_
  refine Rt.iloadN (pc' := 60) X227 hx (hb hby d6_59) rfl rfl ?_
  refine Rt.newP (pc' := 62) X227 hx hZ (ty := .int) rfl (own_g hw 6 rfl) (z := (4 : Int32)) (i := 4) (by decide) (by decide) (cap := 4) (by decide) (by decide) (hb hby d6_60) (by decide) (by decide) rfl ?_
  intro T245 h245 b60 ha245 X245 E245 A245
  have g246 : n0 ≤ b60 := by rw [ha245]; exact Z244
  have s247 : h0.size ≤ b60 := by rw [ha245]; exact K243.1
  have ne248 : a1 ≠ b60 := by rw [ha245]; exact Nat.ne_of_lt F228.lt
  have ne249 : b18 ≠ b60 := by rw [ha245]; exact Nat.ne_of_lt F237.lt
  have ne250 : b25 ≠ b60 := by rw [ha245]; exact Nat.ne_of_lt F238.lt
  have ne251 : b32 ≠ b60 := by rw [ha245]; exact Nat.ne_of_lt F239.lt
  have ne252 : b39 ≠ b60 := by rw [ha245]; exact Nat.ne_of_lt F240.lt
  have ne253 : b46 ≠ b60 := by rw [ha245]; exact Nat.ne_of_lt F241.lt
  have ne254 : b53 ≠ b60 := by rw [ha245]; exact Nat.ne_of_lt F242.lt
  have F255 := F228.ext E245
  have F256 := F229.ext E245
  have F257 := F230.ext E245
  have F258 := F231.ext E245
  have F259 := F232.ext E245
  have F260 := F233.ext E245
  have F261 := F234.ext E245
  have F262 := F235.ext E245
  have F263 := F227.ext E245
  have F264 := F236.ext E245
  have F265 := F237.ext E245
  have F266 := F238.ext E245
  have F267 := F239.ext E245
  have F268 := F240.ext E245
  have F269 := F241.ext E245
  have F270 := F242.ext E245
  have K271 := K243.ext E245
  have Z272 := Nat.le_trans Z244 E245.1
  have A245 : IA Z h245 b60 .int [(.int (0 : Int32)), (.int (0 : Int32)), (.int (0 : Int32)), (.int (0 : Int32))] := A245
  refine Rt.putF (pc' := 65) (v := (.ref b60)) X245 hx hZ hown (host := "") (Or.inl (own_g hw 45 rfl)) F264 F255 (Or.inr ⟨(own_g hw 46 rfl), rfl, hnm⟩) (own_g hw 21 rfl) (ty := (.array .int)) (by decide) rfl rfl g_a1 (hb hby d6_62) rfl ?_
  intro T273 h273 X273 W273 F273
  have F274 := F255.wr W273
  have F275 := F256.other W273 (Or.inr Sl64)
  have F276 := F257.other W273 (Or.inr Sl65)
  have F277 := F258.other W273 (Or.inr Sl66)
  have F278 := F259.other W273 (Or.inr Sl67)
  have F279 := F260.other W273 (Or.inr Sl68)
  have F280 := F261.other W273 (Or.inr Sl69)
  have F281 := F262.other W273 (Or.inr Sl70)
  have F282 := F263.other W273 (Or.inr Sl71)
  have F283 := F265.other W273 (Ne.symm ne29)
  have F284 := F266.other W273 (Ne.symm ne58)
  have F285 := F267.other W273 (Ne.symm ne90)
  have F286 := F268.other W273 (Ne.symm ne125)
  have F287 := F269.other W273 (Ne.symm ne163)
  have F288 := F270.other W273 (Ne.symm ne204)
  have F289 := A245.other W273 (Ne.symm ne248)
  have K290 := K271.wr W273 (Or.inl (List.mem_of_getElem? (i := 0) rfl))
  have Z291 := Nat.le_trans Z272 (Keep.of_wr W273).1
  exact Rt.retV X273 hx hlk hret (hb hby d6_65) (by decide) (by decide) (fun L N => ⟨b18, b25, b32, b39, b46, b53, b60, s28, s57, s89, s124, s162, s203, s247, ne59, ne91, ne126, ne164, ne205, ne249, ne92, ne127, ne165, ne206, ne250, ne128, ne166, ne207, ne251, ne167, ne208, ne252, ne209, ne253, ne254, rfl, N, K290, F274, F275, F276, F277, F278, F279, F280, F281, F282, F273, F283, F284, F285, F286, F287, F288, F289⟩)
theorem d9_0 : decode prog_3_method_2_code 0 = .ok (.new 38, 3) := by decide +kernel
theorem d9_3 : decode prog_3_method_2_code 3 = .ok (.dup, 1) := by decide +kernel
theorem d9_4 : decode prog_3_method_2_code 4 = .ok (.aload_n 0, 1) := by decide +kernel
theorem d9_5 : decode prog_3_method_2_code 5 = .ok (.getfield 7, 3) := by decide +kernel
theorem d9_8 : decode prog_3_method_2_code 8 = .ok (.aload_n 0, 1) := by decide +kernel
theorem d9_9 : decode prog_3_method_2_code 9 = .ok (.getfield 13, 3) := by decide +kernel
theorem pd_6 : parseMethodDescriptor "(II)V" = some ⟨[.int, .int], none⟩ := by decide +kernel
theorem d9_12 : decode prog_3_method_2_code 12 = .ok (.invokespecial 40, 3) := by decide +kernel
theorem d9_15 : decode prog_3_method_2_code 15 = .ok (.astore 4, 2) := by decide +kernel
theorem d9_17 : decode prog_3_method_2_code 17 = .ok (.iconst 0, 1) := by decide +kernel
theorem d9_18 : decode prog_3_method_2_code 18 = .ok (.istore 5, 2) := by decide +kernel
theorem d9_20 : decode prog_3_method_2_code 20 = .ok (.iload 5, 2) := by decide +kernel
theorem d9_22 : decode prog_3_method_2_code 22 = .ok (.aload_n 0, 1) := by decide +kernel
theorem d9_23 : decode prog_3_method_2_code 23 = .ok (.getfield 16, 3) := by decide +kernel
theorem d9_26 : decode prog_3_method_2_code 26 = .ok (.arraylength, 1) := by decide +kernel
theorem d9_27 : decode prog_3_method_2_code 27 = .ok (.if_icmp .ge 125, 3) := by decide +kernel
theorem d9_30 : decode prog_3_method_2_code 30 = .ok (.aload 4, 2) := by decide +kernel
theorem d9_32 : decode prog_3_method_2_code 32 = .ok (.aload_n 1, 1) := by decide +kernel
theorem d9_33 : decode prog_3_method_2_code 33 = .ok (.iload 5, 2) := by decide +kernel
theorem d9_35 : decode prog_3_method_2_code 35 = .ok (.baload, 1) := by decide +kernel
theorem d9_36 : decode prog_3_method_2_code 36 = .ok (.aload_n 2, 1) := by decide +kernel
theorem d9_37 : decode prog_3_method_2_code 37 = .ok (.iload 5, 2) := by decide +kernel
theorem d9_39 : decode prog_3_method_2_code 39 = .ok (.baload, 1) := by decide +kernel
theorem d9_40 : decode prog_3_method_2_code 40 = .ok (.iload_n 3, 1) := by decide +kernel
theorem pd_7 : parseMethodDescriptor "(ZZI)V" = some ⟨[.boolean, .boolean, .int], none⟩ := by decide +kernel
theorem d9_41 : decode prog_3_method_2_code 41 = .ok (.invokevirtual 43, 3) := by decide +kernel
theorem d9_44 : decode prog_3_method_2_code 44 = .ok (.aload_n 0, 1) := by decide +kernel
theorem d9_45 : decode prog_3_method_2_code 45 = .ok (.getfield 16, 3) := by decide +kernel
theorem d9_48 : decode prog_3_method_2_code 48 = .ok (.iload 5, 2) := by decide +kernel
theorem d9_50 : decode prog_3_method_2_code 50 = .ok (.aload 4, 2) := by decide +kernel
theorem d9_52 : decode prog_3_method_2_code 52 = .ok (.getfield 47, 3) := by decide +kernel
theorem d9_55 : decode prog_3_method_2_code 55 = .ok (.iastore, 1) := by decide +kernel
theorem d9_56 : decode prog_3_method_2_code 56 = .ok (.aload_n 0, 1) := by decide +kernel
theorem d9_57 : decode prog_3_method_2_code 57 = .ok (.getfield 20, 3) := by decide +kernel
theorem d9_60 : decode prog_3_method_2_code 60 = .ok (.iload 5, 2) := by decide +kernel
theorem d9_62 : decode prog_3_method_2_code 62 = .ok (.aload 4, 2) := by decide +kernel
theorem d9_64 : decode prog_3_method_2_code 64 = .ok (.getfield 49, 3) := by decide +kernel
theorem d9_67 : decode prog_3_method_2_code 67 = .ok (.getfield 52, 3) := by decide +kernel
theorem d9_70 : decode prog_3_method_2_code 70 = .ok (.iastore, 1) := by decide +kernel
theorem d9_71 : decode prog_3_method_2_code 71 = .ok (.aload_n 0, 1) := by decide +kernel
theorem d9_72 : decode prog_3_method_2_code 72 = .ok (.getfield 23, 3) := by decide +kernel
theorem d9_75 : decode prog_3_method_2_code 75 = .ok (.iload 5, 2) := by decide +kernel
theorem d9_77 : decode prog_3_method_2_code 77 = .ok (.aload 4, 2) := by decide +kernel
theorem d9_79 : decode prog_3_method_2_code 79 = .ok (.getfield 49, 3) := by decide +kernel
theorem d9_82 : decode prog_3_method_2_code 82 = .ok (.getfield 57, 3) := by decide +kernel
theorem d9_85 : decode prog_3_method_2_code 85 = .ok (.iastore, 1) := by decide +kernel
theorem d9_86 : decode prog_3_method_2_code 86 = .ok (.aload_n 0, 1) := by decide +kernel
theorem d9_87 : decode prog_3_method_2_code 87 = .ok (.getfield 26, 3) := by decide +kernel
theorem d9_90 : decode prog_3_method_2_code 90 = .ok (.iload 5, 2) := by decide +kernel
theorem d9_92 : decode prog_3_method_2_code 92 = .ok (.aload 4, 2) := by decide +kernel
theorem d9_94 : decode prog_3_method_2_code 94 = .ok (.getfield 49, 3) := by decide +kernel
theorem d9_97 : decode prog_3_method_2_code 97 = .ok (.getfield 60, 3) := by decide +kernel
theorem d9_100 : decode prog_3_method_2_code 100 = .ok (.iastore, 1) := by decide +kernel
theorem d9_101 : decode prog_3_method_2_code 101 = .ok (.aload_n 0, 1) := by decide +kernel
theorem d9_102 : decode prog_3_method_2_code 102 = .ok (.getfield 29, 3) := by decide +kernel
theorem d9_105 : decode prog_3_method_2_code 105 = .ok (.iload 5, 2) := by decide +kernel
theorem d9_107 : decode prog_3_method_2_code 107 = .ok (.aload 4, 2) := by decide +kernel
theorem d9_109 : decode prog_3_method_2_code 109 = .ok (.getfield 63, 3) := by decide +kernel
theorem d9_112 : decode prog_3_method_2_code 112 = .ok (.getfield 52, 3) := by decide +kernel
theorem d9_115 : decode prog_3_method_2_code 115 = .ok (.iastore, 1) := by decide +kernel
theorem d9_116 : decode prog_3_method_2_code 116 = .ok (.aload_n 0, 1) := by decide +kernel
theorem d9_117 : decode prog_3_method_2_code 117 = .ok (.getfield 32, 3) := by decide +kernel
theorem d9_120 : decode prog_3_method_2_code 120 = .ok (.iload 5, 2) := by decide +kernel
theorem d9_122 : decode prog_3_method_2_code 122 = .ok (.aload 4, 2) := by decide +kernel
theorem d9_124 : decode prog_3_method_2_code 124 = .ok (.getfield 63, 3) := by decide +kernel
theorem d9_127 : decode prog_3_method_2_code 127 = .ok (.getfield 57, 3) := by decide +kernel
theorem d9_130 : decode prog_3_method_2_code 130 = .ok (.iastore, 1) := by decide +kernel
theorem d9_131 : decode prog_3_method_2_code 131 = .ok (.aload_n 0, 1) := by decide +kernel
theorem d9_132 : decode prog_3_method_2_code 132 = .ok (.getfield 35, 3) := by decide +kernel
theorem d9_135 : decode prog_3_method_2_code 135 = .ok (.iload 5, 2) := by decide +kernel
theorem d9_137 : decode prog_3_method_2_code 137 = .ok (.aload 4, 2) := by decide +kernel
theorem d9_139 : decode prog_3_method_2_code 139 = .ok (.getfield 63, 3) := by decide +kernel
theorem d9_142 : decode prog_3_method_2_code 142 = .ok (.getfield 60, 3) := by decide +kernel
theorem d9_145 : decode prog_3_method_2_code 145 = .ok (.iastore, 1) := by decide +kernel
theorem d9_146 : decode prog_3_method_2_code 146 = .ok (.iinc 5 1, 3) := by decide +kernel
theorem d9_149 : decode prog_3_method_2_code 149 = .ok (.goto (-129), 3) := by decide +kernel
theorem d9_152 : decode prog_3_method_2_code 152 = .ok (.aload 4, 2) := by decide +kernel
theorem d9_154 : decode prog_3_method_2_code 154 = .ok (.invokevirtual 65, 3) := by decide +kernel
theorem d9_157 : decode prog_3_method_2_code 157 = .ok (.ireturn, 1) := by decide +kernel
def f9_c41_b0_lowOut0 (cl0 : Int32) : Int32 := (f13_j123_s0 cl0 (5 : Int32) (0 : Int32) (5 : Int32))
def f9_c41_b12nr3_runs0 (p4 : Int32) (hm : Int32) (cl0 : Int32) : Int32 := (f13_j64_F_r3_runs_0 cl0 p4 (5 : Int32) hm (5 : Int32) (0 : Int32) (0 : Int32) (5 : Int32) (0 : Int32) (0 : Int32))
def f9_c41_b12nr3_length0 (p4 : Int32) (hm : Int32) (cl0 : Int32) : Int32 := (f13_j64_F_r3_length_0 cl0 p4 (5 : Int32) hm (5 : Int32) (0 : Int32) (0 : Int32) (5 : Int32) (0 : Int32) (0 : Int32))
def f9_c41_b12nr3_lows0 (p4 : Int32) (hm : Int32) (cl0 : Int32) : Int32 := (f13_j64_F_r3_lows_0 cl0 p4 (5 : Int32) hm (5 : Int32) (0 : Int32) (0 : Int32) (5 : Int32) (0 : Int32) (0 : Int32))
def f9_c41_b12nr4_runs0 (p4 : Int32) (hm : Int32) (ch0 : Int32) : Int32 := (f13_j109_F_r4_runs_0 ch0 p4 (5 : Int32) hm (0 : Int32) (5 : Int32) (0 : Int32) (0 : Int32) (5 : Int32) (0 : Int32) (0 : Int32))
def f9_c41_b12nr4_length0 (p4 : Int32) (hm : Int32) (ch0 : Int32) : Int32 := (f13_j109_F_r4_length_0 ch0 p4 (5 : Int32) hm (0 : Int32) (5 : Int32) (0 : Int32) (0 : Int32) (5 : Int32) (0 : Int32) (0 : Int32))
def f9_c41_b12nr4_lows0 (p4 : Int32) (hm : Int32) (ch0 : Int32) : Int32 := (f13_j109_F_r4_lows_0 ch0 p4 (5 : Int32) hm (0 : Int32) (5 : Int32) (0 : Int32) (0 : Int32) (5 : Int32) (0 : Int32) (0 : Int32))
def f9_c41_b0_lowOut0_1 (p4 : Int32) (hm : Int32) (cl0 : Int32) (cl1 : Int32) (ch0 : Int32) : Int32 := (f13_j123_s0 cl1 (5 : Int32) (f9_c41_b0_lowOut0 cl0) (f9_c41_b12nr4_runs0 p4 hm ch0))
def f9_c41_b12nr1_runs0 (p4 : Int32) (hm : Int32) (cl0 : Int32) (cl1 : Int32) (ch0 : Int32) : Int32 := (f13_j64_F_r3_runs_0 cl1 p4 (5 : Int32) hm (f9_c41_b12nr3_runs0 p4 hm cl0) (f9_c41_b12nr3_length0 p4 hm cl0) (f9_c41_b12nr3_lows0 p4 hm cl0) (f9_c41_b12nr4_runs0 p4 hm ch0) (f9_c41_b12nr4_length0 p4 hm ch0) (f9_c41_b12nr4_lows0 p4 hm ch0))
def f9_c41_b12nr1_length0 (p4 : Int32) (hm : Int32) (cl0 : Int32) (cl1 : Int32) (ch0 : Int32) : Int32 := (f13_j64_F_r3_length_0 cl1 p4 (5 : Int32) hm (f9_c41_b12nr3_runs0 p4 hm cl0) (f9_c41_b12nr3_length0 p4 hm cl0) (f9_c41_b12nr3_lows0 p4 hm cl0) (f9_c41_b12nr4_runs0 p4 hm ch0) (f9_c41_b12nr4_length0 p4 hm ch0) (f9_c41_b12nr4_lows0 p4 hm ch0))
def f9_c41_b12nr1_lows0 (p4 : Int32) (hm : Int32) (cl0 : Int32) (cl1 : Int32) (ch0 : Int32) : Int32 := (f13_j64_F_r3_lows_0 cl1 p4 (5 : Int32) hm (f9_c41_b12nr3_runs0 p4 hm cl0) (f9_c41_b12nr3_length0 p4 hm cl0) (f9_c41_b12nr3_lows0 p4 hm cl0) (f9_c41_b12nr4_runs0 p4 hm ch0) (f9_c41_b12nr4_length0 p4 hm ch0) (f9_c41_b12nr4_lows0 p4 hm ch0))
def f9_c41_b12nr2_runs0 (p4 : Int32) (hm : Int32) (cl0 : Int32) (ch0 : Int32) (ch1 : Int32) : Int32 := (f13_j109_F_r4_runs_0 ch1 p4 (5 : Int32) hm (f9_c41_b0_lowOut0 cl0) (f9_c41_b12nr3_runs0 p4 hm cl0) (f9_c41_b12nr3_length0 p4 hm cl0) (f9_c41_b12nr3_lows0 p4 hm cl0) (f9_c41_b12nr4_runs0 p4 hm ch0) (f9_c41_b12nr4_length0 p4 hm ch0) (f9_c41_b12nr4_lows0 p4 hm ch0))
def f9_c41_b12nr2_length0 (p4 : Int32) (hm : Int32) (cl0 : Int32) (ch0 : Int32) (ch1 : Int32) : Int32 := (f13_j109_F_r4_length_0 ch1 p4 (5 : Int32) hm (f9_c41_b0_lowOut0 cl0) (f9_c41_b12nr3_runs0 p4 hm cl0) (f9_c41_b12nr3_length0 p4 hm cl0) (f9_c41_b12nr3_lows0 p4 hm cl0) (f9_c41_b12nr4_runs0 p4 hm ch0) (f9_c41_b12nr4_length0 p4 hm ch0) (f9_c41_b12nr4_lows0 p4 hm ch0))
def f9_c41_b12nr2_lows0 (p4 : Int32) (hm : Int32) (cl0 : Int32) (ch0 : Int32) (ch1 : Int32) : Int32 := (f13_j109_F_r4_lows_0 ch1 p4 (5 : Int32) hm (f9_c41_b0_lowOut0 cl0) (f9_c41_b12nr3_runs0 p4 hm cl0) (f9_c41_b12nr3_length0 p4 hm cl0) (f9_c41_b12nr3_lows0 p4 hm cl0) (f9_c41_b12nr4_runs0 p4 hm ch0) (f9_c41_b12nr4_length0 p4 hm ch0) (f9_c41_b12nr4_lows0 p4 hm ch0))
def f9_c41_b0_lowOut0_2 (p4 : Int32) (hm : Int32) (cl0 : Int32) (cl1 : Int32) (cl2 : Int32) (ch0 : Int32) (ch1 : Int32) : Int32 := (f13_j123_s0 cl2 (5 : Int32) (f9_c41_b0_lowOut0_1 p4 hm cl0 cl1 ch0) (f9_c41_b12nr2_runs0 p4 hm cl0 ch0 ch1))
def f9_c41_b12nr3_runs0_1 (p4 : Int32) (hm : Int32) (cl0 : Int32) (cl1 : Int32) (cl2 : Int32) (ch0 : Int32) (ch1 : Int32) : Int32 := (f13_j64_F_r3_runs_0 cl2 p4 (5 : Int32) hm (f9_c41_b12nr1_runs0 p4 hm cl0 cl1 ch0) (f9_c41_b12nr1_length0 p4 hm cl0 cl1 ch0) (f9_c41_b12nr1_lows0 p4 hm cl0 cl1 ch0) (f9_c41_b12nr2_runs0 p4 hm cl0 ch0 ch1) (f9_c41_b12nr2_length0 p4 hm cl0 ch0 ch1) (f9_c41_b12nr2_lows0 p4 hm cl0 ch0 ch1))
def f9_c41_b12nr3_length0_1 (p4 : Int32) (hm : Int32) (cl0 : Int32) (cl1 : Int32) (cl2 : Int32) (ch0 : Int32) (ch1 : Int32) : Int32 := (f13_j64_F_r3_length_0 cl2 p4 (5 : Int32) hm (f9_c41_b12nr1_runs0 p4 hm cl0 cl1 ch0) (f9_c41_b12nr1_length0 p4 hm cl0 cl1 ch0) (f9_c41_b12nr1_lows0 p4 hm cl0 cl1 ch0) (f9_c41_b12nr2_runs0 p4 hm cl0 ch0 ch1) (f9_c41_b12nr2_length0 p4 hm cl0 ch0 ch1) (f9_c41_b12nr2_lows0 p4 hm cl0 ch0 ch1))
def f9_c41_b12nr3_lows0_1 (p4 : Int32) (hm : Int32) (cl0 : Int32) (cl1 : Int32) (cl2 : Int32) (ch0 : Int32) (ch1 : Int32) : Int32 := (f13_j64_F_r3_lows_0 cl2 p4 (5 : Int32) hm (f9_c41_b12nr1_runs0 p4 hm cl0 cl1 ch0) (f9_c41_b12nr1_length0 p4 hm cl0 cl1 ch0) (f9_c41_b12nr1_lows0 p4 hm cl0 cl1 ch0) (f9_c41_b12nr2_runs0 p4 hm cl0 ch0 ch1) (f9_c41_b12nr2_length0 p4 hm cl0 ch0 ch1) (f9_c41_b12nr2_lows0 p4 hm cl0 ch0 ch1))
def f9_c41_b12nr4_runs0_1 (p4 : Int32) (hm : Int32) (cl0 : Int32) (cl1 : Int32) (ch0 : Int32) (ch1 : Int32) (ch2 : Int32) : Int32 := (f13_j109_F_r4_runs_0 ch2 p4 (5 : Int32) hm (f9_c41_b0_lowOut0_1 p4 hm cl0 cl1 ch0) (f9_c41_b12nr1_runs0 p4 hm cl0 cl1 ch0) (f9_c41_b12nr1_length0 p4 hm cl0 cl1 ch0) (f9_c41_b12nr1_lows0 p4 hm cl0 cl1 ch0) (f9_c41_b12nr2_runs0 p4 hm cl0 ch0 ch1) (f9_c41_b12nr2_length0 p4 hm cl0 ch0 ch1) (f9_c41_b12nr2_lows0 p4 hm cl0 ch0 ch1))
def f9_c41_b12nr4_length0_1 (p4 : Int32) (hm : Int32) (cl0 : Int32) (cl1 : Int32) (ch0 : Int32) (ch1 : Int32) (ch2 : Int32) : Int32 := (f13_j109_F_r4_length_0 ch2 p4 (5 : Int32) hm (f9_c41_b0_lowOut0_1 p4 hm cl0 cl1 ch0) (f9_c41_b12nr1_runs0 p4 hm cl0 cl1 ch0) (f9_c41_b12nr1_length0 p4 hm cl0 cl1 ch0) (f9_c41_b12nr1_lows0 p4 hm cl0 cl1 ch0) (f9_c41_b12nr2_runs0 p4 hm cl0 ch0 ch1) (f9_c41_b12nr2_length0 p4 hm cl0 ch0 ch1) (f9_c41_b12nr2_lows0 p4 hm cl0 ch0 ch1))
def f9_c41_b12nr4_lows0_1 (p4 : Int32) (hm : Int32) (cl0 : Int32) (cl1 : Int32) (ch0 : Int32) (ch1 : Int32) (ch2 : Int32) : Int32 := (f13_j109_F_r4_lows_0 ch2 p4 (5 : Int32) hm (f9_c41_b0_lowOut0_1 p4 hm cl0 cl1 ch0) (f9_c41_b12nr1_runs0 p4 hm cl0 cl1 ch0) (f9_c41_b12nr1_length0 p4 hm cl0 cl1 ch0) (f9_c41_b12nr1_lows0 p4 hm cl0 cl1 ch0) (f9_c41_b12nr2_runs0 p4 hm cl0 ch0 ch1) (f9_c41_b12nr2_length0 p4 hm cl0 ch0 ch1) (f9_c41_b12nr2_lows0 p4 hm cl0 ch0 ch1))
def f9_c41_b0_lowOut0_3 (p4 : Int32) (hm : Int32) (cl0 : Int32) (cl1 : Int32) (cl2 : Int32) (cl3 : Int32) (ch0 : Int32) (ch1 : Int32) (ch2 : Int32) : Int32 := (f13_j123_s0 cl3 (5 : Int32) (f9_c41_b0_lowOut0_2 p4 hm cl0 cl1 cl2 ch0 ch1) (f9_c41_b12nr4_runs0_1 p4 hm cl0 cl1 ch0 ch1 ch2))
def f9_c41_b12nr1_runs0_1 (p4 : Int32) (hm : Int32) (cl0 : Int32) (cl1 : Int32) (cl2 : Int32) (cl3 : Int32) (ch0 : Int32) (ch1 : Int32) (ch2 : Int32) : Int32 := (f13_j64_F_r3_runs_0 cl3 p4 (5 : Int32) hm (f9_c41_b12nr3_runs0_1 p4 hm cl0 cl1 cl2 ch0 ch1) (f9_c41_b12nr3_length0_1 p4 hm cl0 cl1 cl2 ch0 ch1) (f9_c41_b12nr3_lows0_1 p4 hm cl0 cl1 cl2 ch0 ch1) (f9_c41_b12nr4_runs0_1 p4 hm cl0 cl1 ch0 ch1 ch2) (f9_c41_b12nr4_length0_1 p4 hm cl0 cl1 ch0 ch1 ch2) (f9_c41_b12nr4_lows0_1 p4 hm cl0 cl1 ch0 ch1 ch2))
def f9_c41_b12nr1_length0_1 (p4 : Int32) (hm : Int32) (cl0 : Int32) (cl1 : Int32) (cl2 : Int32) (cl3 : Int32) (ch0 : Int32) (ch1 : Int32) (ch2 : Int32) : Int32 := (f13_j64_F_r3_length_0 cl3 p4 (5 : Int32) hm (f9_c41_b12nr3_runs0_1 p4 hm cl0 cl1 cl2 ch0 ch1) (f9_c41_b12nr3_length0_1 p4 hm cl0 cl1 cl2 ch0 ch1) (f9_c41_b12nr3_lows0_1 p4 hm cl0 cl1 cl2 ch0 ch1) (f9_c41_b12nr4_runs0_1 p4 hm cl0 cl1 ch0 ch1 ch2) (f9_c41_b12nr4_length0_1 p4 hm cl0 cl1 ch0 ch1 ch2) (f9_c41_b12nr4_lows0_1 p4 hm cl0 cl1 ch0 ch1 ch2))
def f9_c41_b12nr1_lows0_1 (p4 : Int32) (hm : Int32) (cl0 : Int32) (cl1 : Int32) (cl2 : Int32) (cl3 : Int32) (ch0 : Int32) (ch1 : Int32) (ch2 : Int32) : Int32 := (f13_j64_F_r3_lows_0 cl3 p4 (5 : Int32) hm (f9_c41_b12nr3_runs0_1 p4 hm cl0 cl1 cl2 ch0 ch1) (f9_c41_b12nr3_length0_1 p4 hm cl0 cl1 cl2 ch0 ch1) (f9_c41_b12nr3_lows0_1 p4 hm cl0 cl1 cl2 ch0 ch1) (f9_c41_b12nr4_runs0_1 p4 hm cl0 cl1 ch0 ch1 ch2) (f9_c41_b12nr4_length0_1 p4 hm cl0 cl1 ch0 ch1 ch2) (f9_c41_b12nr4_lows0_1 p4 hm cl0 cl1 ch0 ch1 ch2))
def f9_c41_b12nr2_runs0_1 (p4 : Int32) (hm : Int32) (cl0 : Int32) (cl1 : Int32) (cl2 : Int32) (ch0 : Int32) (ch1 : Int32) (ch2 : Int32) (ch3 : Int32) : Int32 := (f13_j109_F_r4_runs_0 ch3 p4 (5 : Int32) hm (f9_c41_b0_lowOut0_2 p4 hm cl0 cl1 cl2 ch0 ch1) (f9_c41_b12nr3_runs0_1 p4 hm cl0 cl1 cl2 ch0 ch1) (f9_c41_b12nr3_length0_1 p4 hm cl0 cl1 cl2 ch0 ch1) (f9_c41_b12nr3_lows0_1 p4 hm cl0 cl1 cl2 ch0 ch1) (f9_c41_b12nr4_runs0_1 p4 hm cl0 cl1 ch0 ch1 ch2) (f9_c41_b12nr4_length0_1 p4 hm cl0 cl1 ch0 ch1 ch2) (f9_c41_b12nr4_lows0_1 p4 hm cl0 cl1 ch0 ch1 ch2))
def f9_c41_b12nr2_length0_1 (p4 : Int32) (hm : Int32) (cl0 : Int32) (cl1 : Int32) (cl2 : Int32) (ch0 : Int32) (ch1 : Int32) (ch2 : Int32) (ch3 : Int32) : Int32 := (f13_j109_F_r4_length_0 ch3 p4 (5 : Int32) hm (f9_c41_b0_lowOut0_2 p4 hm cl0 cl1 cl2 ch0 ch1) (f9_c41_b12nr3_runs0_1 p4 hm cl0 cl1 cl2 ch0 ch1) (f9_c41_b12nr3_length0_1 p4 hm cl0 cl1 cl2 ch0 ch1) (f9_c41_b12nr3_lows0_1 p4 hm cl0 cl1 cl2 ch0 ch1) (f9_c41_b12nr4_runs0_1 p4 hm cl0 cl1 ch0 ch1 ch2) (f9_c41_b12nr4_length0_1 p4 hm cl0 cl1 ch0 ch1 ch2) (f9_c41_b12nr4_lows0_1 p4 hm cl0 cl1 ch0 ch1 ch2))
def f9_c41_b12nr2_lows0_1 (p4 : Int32) (hm : Int32) (cl0 : Int32) (cl1 : Int32) (cl2 : Int32) (ch0 : Int32) (ch1 : Int32) (ch2 : Int32) (ch3 : Int32) : Int32 := (f13_j109_F_r4_lows_0 ch3 p4 (5 : Int32) hm (f9_c41_b0_lowOut0_2 p4 hm cl0 cl1 cl2 ch0 ch1) (f9_c41_b12nr3_runs0_1 p4 hm cl0 cl1 cl2 ch0 ch1) (f9_c41_b12nr3_length0_1 p4 hm cl0 cl1 cl2 ch0 ch1) (f9_c41_b12nr3_lows0_1 p4 hm cl0 cl1 cl2 ch0 ch1) (f9_c41_b12nr4_runs0_1 p4 hm cl0 cl1 ch0 ch1 ch2) (f9_c41_b12nr4_length0_1 p4 hm cl0 cl1 ch0 ch1 ch2) (f9_c41_b12nr4_lows0_1 p4 hm cl0 cl1 ch0 ch1 ch2))
def f9 (p4 : Int32) (hm : Int32) (cl0 : Int32) (cl1 : Int32) (cl2 : Int32) (cl3 : Int32) (ch0 : Int32) (ch1 : Int32) (ch2 : Int32) (ch3 : Int32) : Int32 := (f14 (f9_c41_b0_lowOut0_3 p4 hm cl0 cl1 cl2 cl3 ch0 ch1 ch2) (f9_c41_b12nr2_runs0_1 p4 hm cl0 cl1 cl2 ch0 ch1 ch2 ch3))
def Q9 (Z : State) (a1 : Addr) (a2 : Addr) (a3 : Addr) (p4 : Int32) (m1 : Addr) (m2 : Addr) (m3 : Addr) (m4 : Addr) (m5 : Addr) (m6 : Addr) (m7 : Addr) (hm : Int32) (cl0 : Int32) (cl1 : Int32) (cl2 : Int32) (cl3 : Int32) (ch0 : Int32) (ch1 : Int32) (ch2 : Int32) (ch3 : Int32) (h0 : Heap) (n0 : Nat) (v : Option Value) (h : Heap) (L : List Loc) : Prop := v = some (.int (f9 p4 hm cl0 cl1 cl2 cl3 ch0 ch1 ch2 ch3)) ∧ Fr n0 L ∧ Keep h0 h [m1, m2, m3, m4, m5, m6, m7] ∧ IA Z h m1 .int [(.int (f9_c41_b0_lowOut0 cl0)), (.int (f9_c41_b0_lowOut0_1 p4 hm cl0 cl1 ch0)), (.int (f9_c41_b0_lowOut0_2 p4 hm cl0 cl1 cl2 ch0 ch1)), (.int (f9_c41_b0_lowOut0_3 p4 hm cl0 cl1 cl2 cl3 ch0 ch1 ch2))] ∧ IA Z h m2 .int [(.int (f9_c41_b12nr3_runs0 p4 hm cl0)), (.int (f9_c41_b12nr1_runs0 p4 hm cl0 cl1 ch0)), (.int (f9_c41_b12nr3_runs0_1 p4 hm cl0 cl1 cl2 ch0 ch1)), (.int (f9_c41_b12nr1_runs0_1 p4 hm cl0 cl1 cl2 cl3 ch0 ch1 ch2))] ∧ IA Z h m3 .int [(.int (f9_c41_b12nr3_length0 p4 hm cl0)), (.int (f9_c41_b12nr1_length0 p4 hm cl0 cl1 ch0)), (.int (f9_c41_b12nr3_length0_1 p4 hm cl0 cl1 cl2 ch0 ch1)), (.int (f9_c41_b12nr1_length0_1 p4 hm cl0 cl1 cl2 cl3 ch0 ch1 ch2))] ∧ IA Z h m4 .int [(.int (f9_c41_b12nr3_lows0 p4 hm cl0)), (.int (f9_c41_b12nr1_lows0 p4 hm cl0 cl1 ch0)), (.int (f9_c41_b12nr3_lows0_1 p4 hm cl0 cl1 cl2 ch0 ch1)), (.int (f9_c41_b12nr1_lows0_1 p4 hm cl0 cl1 cl2 cl3 ch0 ch1 ch2))] ∧ IA Z h m5 .int [(.int (f9_c41_b12nr4_runs0 p4 hm ch0)), (.int (f9_c41_b12nr2_runs0 p4 hm cl0 ch0 ch1)), (.int (f9_c41_b12nr4_runs0_1 p4 hm cl0 cl1 ch0 ch1 ch2)), (.int (f9_c41_b12nr2_runs0_1 p4 hm cl0 cl1 cl2 ch0 ch1 ch2 ch3))] ∧ IA Z h m6 .int [(.int (f9_c41_b12nr4_length0 p4 hm ch0)), (.int (f9_c41_b12nr2_length0 p4 hm cl0 ch0 ch1)), (.int (f9_c41_b12nr4_length0_1 p4 hm cl0 cl1 ch0 ch1 ch2)), (.int (f9_c41_b12nr2_length0_1 p4 hm cl0 cl1 cl2 ch0 ch1 ch2 ch3))] ∧ IA Z h m7 .int [(.int (f9_c41_b12nr4_lows0 p4 hm ch0)), (.int (f9_c41_b12nr2_lows0 p4 hm cl0 ch0 ch1)), (.int (f9_c41_b12nr4_lows0_1 p4 hm cl0 cl1 ch0 ch1 ch2)), (.int (f9_c41_b12nr2_lows0_1 p4 hm cl0 cl1 cl2 ch0 ch1 ch2 ch3))]
def rmR9 : Room := { frames := 3, cells := 5, slots := 19, locals := 50 }
theorem ef_9 (m : MethodId) (a1 : Addr) (a2 : Addr) (a3 : Addr) (p4 : Int32) : entryFrame m #[(.ref a1), (.ref a2), (.ref a3), (.int p4)] 6 = mkF m 0 #[.val (.ref a1), .val (.ref a2), .val (.ref a3), .val (.int p4), .unset, .unset] [] := by first | (simp [entryFrame, mkF, argsToLocals, Value.category]; done) | rfl
set_option maxRecDepth 65536 in
set_option maxHeartbeats 40000000 in
theorem rm9 (l : Launch) (Z : State) (a0 : Array Value) (hw : ∀ d ∈ tables_1, d.before a0 Z = true) (ws : List Jvm.Cond) (a1 : Addr) (a2 : Addr) (a3 : Addr) (p4 : Int32) (m1 : Addr) (m2 : Addr) (m3 : Addr) (m4 : Addr) (m5 : Addr) (m6 : Addr) (m7 : Addr) (hm : Int32) (cl0 : Int32) (cl1 : Int32) (cl2 : Int32) (cl3 : Int32) (ch0 : Int32) (ch1 : Int32) (ch2 : Int32) (ch3 : Int32) (h0 : Heap) (n0 : Nat) (Z0 : n0 ≤ h0.size) (F_E_a1 : Exa Z h0 a1 nm4) (F_F_a1_impossible : Fld Z h0 a1 nm4 "impossible" "I" (.int (5 : Int32))) (F_F_a1_h : Fld Z h0 a1 nm4 "h" "I" (.int hm)) (F_F_a1_lowOut : Fld Z h0 a1 nm4 "lowOut" "[I" (.ref m1)) (F_F_a1_lowIn : Fld Z h0 a1 nm4 "lowIn" "[I" (.ref m2)) (F_F_a1_lowInLength : Fld Z h0 a1 nm4 "lowInLength" "[I" (.ref m3)) (F_F_a1_lowInLows : Fld Z h0 a1 nm4 "lowInLows" "[I" (.ref m4)) (F_F_a1_high : Fld Z h0 a1 nm4 "high" "[I" (.ref m5)) (F_F_a1_highLength : Fld Z h0 a1 nm4 "highLength" "[I" (.ref m6)) (F_F_a1_highLows : Fld Z h0 a1 nm4 "highLows" "[I" (.ref m7)) (F_A_m1 : IA Z h0 m1 .int [(.int (0 : Int32)), (.int (0 : Int32)), (.int (0 : Int32)), (.int (0 : Int32))]) (F_A_m2 : IA Z h0 m2 .int [(.int (0 : Int32)), (.int (0 : Int32)), (.int (0 : Int32)), (.int (0 : Int32))]) (F_A_m3 : IA Z h0 m3 .int [(.int (0 : Int32)), (.int (0 : Int32)), (.int (0 : Int32)), (.int (0 : Int32))]) (F_A_m4 : IA Z h0 m4 .int [(.int (0 : Int32)), (.int (0 : Int32)), (.int (0 : Int32)), (.int (0 : Int32))]) (F_A_m5 : IA Z h0 m5 .int [(.int (0 : Int32)), (.int (0 : Int32)), (.int (0 : Int32)), (.int (0 : Int32))]) (F_A_m6 : IA Z h0 m6 .int [(.int (0 : Int32)), (.int (0 : Int32)), (.int (0 : Int32)), (.int (0 : Int32))]) (F_A_m7 : IA Z h0 m7 .int [(.int (0 : Int32)), (.int (0 : Int32)), (.int (0 : Int32)), (.int (0 : Int32))]) (F_A_a2 : IA Z h0 a2 .boolean [(.int cl0), (.int cl1), (.int cl2), (.int cl3)]) (F_A_a3 : IA Z h0 a3 .boolean [(.int ch0), (.int ch1), (.int ch2), (.int ch3)]) (g_m1 : n0 ≤ m1) (g_m2 : n0 ≤ m2) (g_m3 : n0 ≤ m3) (g_m4 : n0 ≤ m4) (g_m5 : n0 ≤ m5) (g_m6 : n0 ≤ m6) (g_m7 : n0 ≤ m7) (ne_a1_m1 : a1 ≠ m1) (ne_a2_m1 : a2 ≠ m1) (ne_a3_m1 : a3 ≠ m1) (ne_a1_m2 : a1 ≠ m2) (ne_a2_m2 : a2 ≠ m2) (ne_a3_m2 : a3 ≠ m2) (ne_a1_m3 : a1 ≠ m3) (ne_a2_m3 : a2 ≠ m3) (ne_a3_m3 : a3 ≠ m3) (ne_a1_m4 : a1 ≠ m4) (ne_a2_m4 : a2 ≠ m4) (ne_a3_m4 : a3 ≠ m4) (ne_a1_m5 : a1 ≠ m5) (ne_a2_m5 : a2 ≠ m5) (ne_a3_m5 : a3 ≠ m5) (ne_a1_m6 : a1 ≠ m6) (ne_a2_m6 : a2 ≠ m6) (ne_a3_m6 : a3 ≠ m6) (ne_a1_m7 : a1 ≠ m7) (ne_a2_m7 : a2 ≠ m7) (ne_a3_m7 : a3 ≠ m7) (ne_m1_m2 : m1 ≠ m2) (ne_m1_m3 : m1 ≠ m3) (ne_m1_m4 : m1 ≠ m4) (ne_m1_m5 : m1 ≠ m5) (ne_m1_m6 : m1 ≠ m6) (ne_m1_m7 : m1 ≠ m7) (ne_m2_m3 : m2 ≠ m3) (ne_m2_m4 : m2 ≠ m4) (ne_m2_m5 : m2 ≠ m5) (ne_m2_m6 : m2 ≠ m6) (ne_m2_m7 : m2 ≠ m7) (ne_m3_m4 : m3 ≠ m4) (ne_m3_m5 : m3 ≠ m5) (ne_m3_m6 : m3 ≠ m6) (ne_m3_m7 : m3 ≠ m7) (ne_m4_m5 : m4 ≠ m5) (ne_m4_m6 : m4 ≠ m6) (ne_m4_m7 : m4 ≠ m7) (ne_m5_m6 : m5 ≠ m6) (ne_m5_m7 : m5 ≠ m7) (ne_m6_m7 : m6 ≠ m7) :
    Mt l Z mt11 (Jvm.Cond.code mt11 prog_3_method_2_code 6 (some .int) :: ws) rmR9 #[(.ref a1), (.ref a2), (.ref a3), (.int p4)] h0 (Q9 Z a1 a2 a3 p4 m1 m2 m3 m4 m5 m6 m7 hm cl0 cl1 cl2 cl3 ch0 ch1 ch2 ch3 h0 n0) := by
  refine Mt.of n0 (plainFor_of_name pn_com_example_tightfold_tightfold_FocusFiltering) ?_
  intro p e s m below meth c T0 X0 hx hZ hby hml hown hret hlk hnm hs0
  have hown : s.vm.findClass "com/example/tightfold/tightfold/FocusFiltering" = some m.cls := hown
  rw [ef_9]
  show Rt p e below s rmR9.cells rmR9.slots (Q9 Z a1 a2 a3 p4 m1 m2 m3 m4 m5 m6 m7 hm cl0 cl1 cl2 cl3 ch0 ch1 ch2 ch3 h0 n0) (T0.setTop (mkF m 0 #[.val (.ref a1), .val (.ref a2), .val (.ref a3), .val (.int p4), .unset, .unset] []))
  refine Rt.newO (pc' := 3) X0 hx hZ hown (own_g hw 57 rfl) (own_g hw 58 rfl) (own_g hw 59 rfl) (hb hby d9_0) (by decide) (by decide) rfl ?_
  intro T1 h1 b0 ha1 X1 E1 A1 D1
  have g2 : n0 ≤ b0 := by rw [ha1]; exact Z0
  have s3 : h0.size ≤ b0 := by rw [ha1]; exact (Keep.refl h0 [m1, m2, m3, m4, m5, m6, m7]).1
  have ne4 : a1 ≠ b0 := by rw [ha1]; exact Nat.ne_of_lt F_E_a1.lt
  have ne5 : m1 ≠ b0 := by rw [ha1]; exact Nat.ne_of_lt F_A_m1.lt
  have ne6 : m2 ≠ b0 := by rw [ha1]; exact Nat.ne_of_lt F_A_m2.lt
  have ne7 : m3 ≠ b0 := by rw [ha1]; exact Nat.ne_of_lt F_A_m3.lt
  have ne8 : m4 ≠ b0 := by rw [ha1]; exact Nat.ne_of_lt F_A_m4.lt
  have ne9 : m5 ≠ b0 := by rw [ha1]; exact Nat.ne_of_lt F_A_m5.lt
  have ne10 : m6 ≠ b0 := by rw [ha1]; exact Nat.ne_of_lt F_A_m6.lt
  have ne11 : m7 ≠ b0 := by rw [ha1]; exact Nat.ne_of_lt F_A_m7.lt
  have ne12 : a2 ≠ b0 := by rw [ha1]; exact Nat.ne_of_lt F_A_a2.lt
  have ne13 : a3 ≠ b0 := by rw [ha1]; exact Nat.ne_of_lt F_A_a3.lt
  have F14 := F_E_a1.ext E1
  have F15 := F_F_a1_impossible.ext E1
  have F16 := F_F_a1_h.ext E1
  have F17 := F_F_a1_lowOut.ext E1
  have F18 := F_F_a1_lowIn.ext E1
  have F19 := F_F_a1_lowInLength.ext E1
  have F20 := F_F_a1_lowInLows.ext E1
  have F21 := F_F_a1_high.ext E1
  have F22 := F_F_a1_highLength.ext E1
  have F23 := F_F_a1_highLows.ext E1
  have F24 := F_A_m1.ext E1
  have F25 := F_A_m2.ext E1
  have F26 := F_A_m3.ext E1
  have F27 := F_A_m4.ext E1
  have F28 := F_A_m5.ext E1
  have F29 := F_A_m6.ext E1
  have F30 := F_A_m7.ext E1
  have F31 := F_A_a2.ext E1
  have F32 := F_A_a3.ext E1
  have K33 := (Keep.refl h0 [m1, m2, m3, m4, m5, m6, m7]).ext E1
  have Z34 := Nat.le_trans Z0 E1.1
  have F35 : Fld Z h1 b0 nm2 "lowIn" nm3 .null := D1 (Or.inl (own_g hw 72 rfl)) (ty := (.object "com/example/tightfold/tightfold/FocusFiltering$Run")) (by decide)
  have F36 : Fld Z h1 b0 nm2 "high" nm3 .null := D1 (Or.inl (own_g hw 74 rfl)) (ty := (.object "com/example/tightfold/tightfold/FocusFiltering$Run")) (by decide)
  have F37 : Fld Z h1 b0 nm2 "nextLowIn" nm3 .null := D1 (Or.inl (own_g hw 76 rfl)) (ty := (.object "com/example/tightfold/tightfold/FocusFiltering$Run")) (by decide)
  have F38 : Fld Z h1 b0 nm2 "nextHigh" nm3 .null := D1 (Or.inl (own_g hw 78 rfl)) (ty := (.object "com/example/tightfold/tightfold/FocusFiltering$Run")) (by decide)
  have F39 : Fld Z h1 b0 nm2 "impossible" "I" (.int (0 : Int32)) := D1 (Or.inr (own_g hw 80 rfl)) (ty := .int) (by decide)
  have F40 : Fld Z h1 b0 nm2 "h" "I" (.int (0 : Int32)) := D1 (Or.inr (own_g hw 82 rfl)) (ty := .int) (by decide)
  have F41 : Fld Z h1 b0 nm2 "lowOut" "I" (.int (0 : Int32)) := D1 (Or.inl (own_g hw 84 rfl)) (ty := .int) (by decide)
  refine Rt.dup (pc' := 4) X1 hx (hb hby d9_3) rfl rfl ?_
  refine Rt.aloadN (pc' := 5) X1 hx (hb hby d9_4) rfl rfl rfl ?_
  refine Rt.getF (pc' := 8) (v := (.int (5 : Int32))) X1 hx hZ hown (host := "") (Or.inl (own_g hw 29 rfl)) F15 (hb hby d9_5) rfl ?_
  intro T42 X42
  refine Rt.aloadN (pc' := 9) X42 hx (hb hby d9_8) rfl rfl rfl ?_
  refine Rt.getF (pc' := 12) (v := (.int hm)) X42 hx hZ hown (host := "") (Or.inl (own_g hw 31 rfl)) F16 (hb hby d9_9) rfl ?_
  intro T43 X43
  refine Rt.callI (pc' := 15) X43 hx hZ (y := mt9) rfl hown (own_g hw 60 rfl) (own_g hw 61 rfl) (own_g hw 59 rfl) (own_g hw 62 rfl) (by decide) (rm10 l Z a0 hw [] b0 (5 : Int32) hm h1 n0 Z34 A1 F39 F40 F41 F35 F36 F37 F38 g2) (fun _ _ _ q => (by obtain ⟨_, _, _, _, _, _, _, _, _, _, _, _, _, _, _, q, _⟩ := q; exact q)) (W := 1) (by decide) (by decide) (by decide) (by decide) (argsL := [(.int (5 : Int32)), (.int hm)]) (rest := [(.ref b0)]) (by rw [hml]; rfl) (lenOf pd_6 rfl) rfl rfl (Nat.le_of_eq rfl) (hb hby d9_12) rfl ?_
  rintro _ T44 h44 L44 X44 ⟨b12nr1, b12nr2, b12nr3, b12nr4, sb12nr1, sb12nr2, sb12nr3, sb12nr4, ne69, ne70, ne71, ne72, ne73, ne74, rfl, N44, K44, F45, F46, F47, F48, F49, F50, F51, F52, F53, F54, F55, F56, F57, F58, F59, F60, F61, F62, F63, F64, F65, F66, F67, F68⟩
  have g75 : n0 ≤ b12nr1 := Nat.le_trans Z34 sb12nr1
  have s76 : h0.size ≤ b12nr1 := Nat.le_trans K33.1 sb12nr1
  have ne77 := Nat.ne_of_lt (Nat.lt_of_lt_of_le F14.lt sb12nr1)
  have ne78 := Nat.ne_of_lt (Nat.lt_of_lt_of_le F24.lt sb12nr1)
  have ne79 := Nat.ne_of_lt (Nat.lt_of_lt_of_le F25.lt sb12nr1)
  have ne80 := Nat.ne_of_lt (Nat.lt_of_lt_of_le F26.lt sb12nr1)
  have ne81 := Nat.ne_of_lt (Nat.lt_of_lt_of_le F27.lt sb12nr1)
  have ne82 := Nat.ne_of_lt (Nat.lt_of_lt_of_le F28.lt sb12nr1)
  have ne83 := Nat.ne_of_lt (Nat.lt_of_lt_of_le F29.lt sb12nr1)
  have ne84 := Nat.ne_of_lt (Nat.lt_of_lt_of_le F30.lt sb12nr1)
  have ne85 := Nat.ne_of_lt (Nat.lt_of_lt_of_le F31.lt sb12nr1)
  have ne86 := Nat.ne_of_lt (Nat.lt_of_lt_of_le F32.lt sb12nr1)
  have ne87 := Nat.ne_of_lt (Nat.lt_of_lt_of_le A1.lt sb12nr1)
  have g88 : n0 ≤ b12nr2 := Nat.le_trans Z34 sb12nr2
  have s89 : h0.size ≤ b12nr2 := Nat.le_trans K33.1 sb12nr2
  have ne90 := Nat.ne_of_lt (Nat.lt_of_lt_of_le F14.lt sb12nr2)
  have ne91 := Nat.ne_of_lt (Nat.lt_of_lt_of_le F24.lt sb12nr2)
  have ne92 := Nat.ne_of_lt (Nat.lt_of_lt_of_le F25.lt sb12nr2)
  have ne93 := Nat.ne_of_lt (Nat.lt_of_lt_of_le F26.lt sb12nr2)
  have ne94 := Nat.ne_of_lt (Nat.lt_of_lt_of_le F27.lt sb12nr2)
  have ne95 := Nat.ne_of_lt (Nat.lt_of_lt_of_le F28.lt sb12nr2)
  have ne96 := Nat.ne_of_lt (Nat.lt_of_lt_of_le F29.lt sb12nr2)
  have ne97 := Nat.ne_of_lt (Nat.lt_of_lt_of_le F30.lt sb12nr2)
  have ne98 := Nat.ne_of_lt (Nat.lt_of_lt_of_le F31.lt sb12nr2)
  have ne99 := Nat.ne_of_lt (Nat.lt_of_lt_of_le F32.lt sb12nr2)
  have ne100 := Nat.ne_of_lt (Nat.lt_of_lt_of_le A1.lt sb12nr2)
  have g101 : n0 ≤ b12nr3 := Nat.le_trans Z34 sb12nr3
  have s102 : h0.size ≤ b12nr3 := Nat.le_trans K33.1 sb12nr3
  have ne103 := Nat.ne_of_lt (Nat.lt_of_lt_of_le F14.lt sb12nr3)
  have ne104 := Nat.ne_of_lt (Nat.lt_of_lt_of_le F24.lt sb12nr3)
  have ne105 := Nat.ne_of_lt (Nat.lt_of_lt_of_le F25.lt sb12nr3)
  have ne106 := Nat.ne_of_lt (Nat.lt_of_lt_of_le F26.lt sb12nr3)
  have ne107 := Nat.ne_of_lt (Nat.lt_of_lt_of_le F27.lt sb12nr3)
  have ne108 := Nat.ne_of_lt (Nat.lt_of_lt_of_le F28.lt sb12nr3)
  have ne109 := Nat.ne_of_lt (Nat.lt_of_lt_of_le F29.lt sb12nr3)
  have ne110 := Nat.ne_of_lt (Nat.lt_of_lt_of_le F30.lt sb12nr3)
  have ne111 := Nat.ne_of_lt (Nat.lt_of_lt_of_le F31.lt sb12nr3)
  have ne112 := Nat.ne_of_lt (Nat.lt_of_lt_of_le F32.lt sb12nr3)
  have ne113 := Nat.ne_of_lt (Nat.lt_of_lt_of_le A1.lt sb12nr3)
  have g114 : n0 ≤ b12nr4 := Nat.le_trans Z34 sb12nr4
  have s115 : h0.size ≤ b12nr4 := Nat.le_trans K33.1 sb12nr4
  have ne116 := Nat.ne_of_lt (Nat.lt_of_lt_of_le F14.lt sb12nr4)
  have ne117 := Nat.ne_of_lt (Nat.lt_of_lt_of_le F24.lt sb12nr4)
  have ne118 := Nat.ne_of_lt (Nat.lt_of_lt_of_le F25.lt sb12nr4)
  have ne119 := Nat.ne_of_lt (Nat.lt_of_lt_of_le F26.lt sb12nr4)
  have ne120 := Nat.ne_of_lt (Nat.lt_of_lt_of_le F27.lt sb12nr4)
  have ne121 := Nat.ne_of_lt (Nat.lt_of_lt_of_le F28.lt sb12nr4)
  have ne122 := Nat.ne_of_lt (Nat.lt_of_lt_of_le F29.lt sb12nr4)
  have ne123 := Nat.ne_of_lt (Nat.lt_of_lt_of_le F30.lt sb12nr4)
  have ne124 := Nat.ne_of_lt (Nat.lt_of_lt_of_le F31.lt sb12nr4)
  have ne125 := Nat.ne_of_lt (Nat.lt_of_lt_of_le F32.lt sb12nr4)
  have ne126 := Nat.ne_of_lt (Nat.lt_of_lt_of_le A1.lt sb12nr4)
  have F127 := F14.keep K44
  have F128 := F15.keep K44 (ninS ne4 nin0)
  have F129 := F16.keep K44 (ninS ne4 nin0)
  have F130 := F17.keep K44 (ninS ne4 nin0)
  have F131 := F18.keep K44 (ninS ne4 nin0)
  have F132 := F19.keep K44 (ninS ne4 nin0)
  have F133 := F20.keep K44 (ninS ne4 nin0)
  have F134 := F21.keep K44 (ninS ne4 nin0)
  have F135 := F22.keep K44 (ninS ne4 nin0)
  have F136 := F23.keep K44 (ninS ne4 nin0)
  have F137 := F24.keep K44 (ninS ne5 nin0)
  have F138 := F25.keep K44 (ninS ne6 nin0)
  have F139 := F26.keep K44 (ninS ne7 nin0)
  have F140 := F27.keep K44 (ninS ne8 nin0)
  have F141 := F28.keep K44 (ninS ne9 nin0)
  have F142 := F29.keep K44 (ninS ne10 nin0)
  have F143 := F30.keep K44 (ninS ne11 nin0)
  have F144 := F31.keep K44 (ninS ne12 nin0)
  have F145 := F32.keep K44 (ninS ne13 nin0)
  have F146 := A1.keep K44
  have K147 := K33.trans K44 (allS (Or.inr s3) all0)
  have Z148 := Nat.le_trans Z34 K44.1
  show Rt _ _ _ _ _ _ _ (T44.setTop (mkF m 15 #[.val (.ref a1), .val (.ref a2), .val (.ref a3), .val (.int p4), .unset, .unset] [(.ref b0)]))
  refine Rt.astore (pc' := 17) (v := (.ref b0)) (l' := #[.val (.ref a1), .val (.ref a2), .val (.ref a3), .val (.int p4), .val (.ref b0), .unset]) X44 hx (hb hby d9_15) rfl rfl rfl ?_
  refine Rt.iconst (pc' := 18) (v := (0 : Int32)) X44 hx (hb hby d9_17) rfl rfl ?_
  refine Rt.istore (pc' := 20) (v := (0 : Int32)) (l' := #[.val (.ref a1), .val (.ref a2), .val (.ref a3), .val (.int p4), .val (.ref b0), .val (.int (0 : Int32))]) X44 hx (hb hby d9_18) rfl rfl ?_
  refine Rt.iload (pc' := 22) X44 hx (hb hby d9_20) rfl rfl ?_
  refine Rt.aloadN (pc' := 23) X44 hx (hb hby d9_22) rfl rfl rfl ?_
  refine Rt.getF (pc' := 26) (v := (.ref m1)) X44 hx hZ hown (host := "") (Or.inl (own_g hw 33 rfl)) F130 (hb hby d9_23) rfl ?_
  intro T149 X149
  refine Rt.arraylength (pc' := 27) X149 hx hZ F137 (v := (4 : Int32)) rfl (hb hby d9_26) rfl ?_
  refine Rt.icmpN (pc' := 30) X149 hx (hb hby d9_27) (tlt (by decide : (0 : Int32) < (4 : Int32))).2.1 rfl ?_
  refine Rt.aload (pc' := 32) X149 hx (hb hby d9_30) rfl rfl rfl ?_
  refine Rt.aloadN (pc' := 33) X149 hx (hb hby d9_32) rfl rfl rfl ?_
  refine Rt.iload (pc' := 35) X149 hx (hb hby d9_33) rfl rfl ?_
  refine Rt.zaload (pc' := 36) X149 hx hZ F144 (i := 0) (by decide) (by decide) (v := (.int cl0)) rfl (hb hby d9_35) rfl ?_
  refine Rt.aloadN (pc' := 37) X149 hx (hb hby d9_36) rfl rfl rfl ?_
  refine Rt.iload (pc' := 39) X149 hx (hb hby d9_37) rfl rfl ?_
  refine Rt.zaload (pc' := 40) X149 hx hZ F145 (i := 0) (by decide) (by decide) (v := (.int ch0)) rfl (hb hby d9_39) rfl ?_
  refine Rt.iloadN (pc' := 41) X149 hx (hb hby d9_40) rfl rfl ?_
  refine Rt.callV (pc' := 44) X149 hx hZ (y := mt8) (yz := mt8) hown (own_g hw 96 rfl) (own_g hw 97 rfl) (notFace_of_selects (args := #[]) (mvT hZ (own_g hw 99 rfl))) (own_g hw 99 rfl) (own_g hw 98 rfl) (own_g hw 59 rfl) (own_g hw 100 rfl) (by decide) F45 (rm13 l Z a0 hw [] b0 cl0 ch0 p4 (5 : Int32) hm (0 : Int32) b12nr1 b12nr2 b12nr3 b12nr4 (5 : Int32) (0 : Int32) (0 : Int32) (5 : Int32) (0 : Int32) (0 : Int32) (0 : Int32) (0 : Int32) (0 : Int32) (0 : Int32) (0 : Int32) (0 : Int32) h44 n0 Z148 F45 F46 F47 F48 F49 F50 F51 F52 F53 F63 F64 F65 F54 F66 F67 F68 F55 F56 F57 F58 F59 F60 F61 F62 g2 g101 g114 ne87 ne100 ne113 ne126 ne69 ne70 ne71 ne72 ne73 ne74) (fun _ _ _ q => q.2.1) (W := 0) (by decide) (by decide) (by decide) (by decide) (argsL := [(.int cl0), (.int ch0), (.int p4)]) (rest := []) (by rw [hml]; rfl) (lenOf pd_7 rfl) rfl rfl (Nat.le_of_eq rfl) (hb hby d9_41) rfl ?_
  rintro _ T150 h150 L150 X150 ⟨rfl, N150, K150, F151, F152, F153, F154, F155, F156, F157, F158, F159, F160, F161, F162, F163, F164, F165, F166⟩
  have F167 := F127.keep K150
  have F168 := F128.keep K150 (ninS ne4 (ninS ne103 (ninS ne116 nin0)))
  have F169 := F129.keep K150 (ninS ne4 (ninS ne103 (ninS ne116 nin0)))
  have F170 := F130.keep K150 (ninS ne4 (ninS ne103 (ninS ne116 nin0)))
  have F171 := F131.keep K150 (ninS ne4 (ninS ne103 (ninS ne116 nin0)))
  have F172 := F132.keep K150 (ninS ne4 (ninS ne103 (ninS ne116 nin0)))
  have F173 := F133.keep K150 (ninS ne4 (ninS ne103 (ninS ne116 nin0)))
  have F174 := F134.keep K150 (ninS ne4 (ninS ne103 (ninS ne116 nin0)))
  have F175 := F135.keep K150 (ninS ne4 (ninS ne103 (ninS ne116 nin0)))
  have F176 := F136.keep K150 (ninS ne4 (ninS ne103 (ninS ne116 nin0)))
  have F177 := F137.keep K150 (ninS ne5 (ninS ne104 (ninS ne117 nin0)))
  have F178 := F138.keep K150 (ninS ne6 (ninS ne105 (ninS ne118 nin0)))
  have F179 := F139.keep K150 (ninS ne7 (ninS ne106 (ninS ne119 nin0)))
  have F180 := F140.keep K150 (ninS ne8 (ninS ne107 (ninS ne120 nin0)))
  have F181 := F141.keep K150 (ninS ne9 (ninS ne108 (ninS ne121 nin0)))
  have F182 := F142.keep K150 (ninS ne10 (ninS ne109 (ninS ne122 nin0)))
  have F183 := F143.keep K150 (ninS ne11 (ninS ne110 (ninS ne123 nin0)))
  have F184 := F144.keep K150 (ninS ne12 (ninS ne111 (ninS ne124 nin0)))
  have F185 := F145.keep K150 (ninS ne13 (ninS ne112 (ninS ne125 nin0)))
  have F186 := F45.keep K150
  have F187 := F53.keep K150
  have F188 := F54.keep K150
  have F189 := F55.keep K150
  have F190 := F59.keep K150
  have F191 := F63.keep K150 (ninS (Ne.symm ne87) (ninS ne70 (ninS ne71 nin0)))
  have F192 := F64.keep K150 (ninS (Ne.symm ne87) (ninS ne70 (ninS ne71 nin0)))
  have F193 := F65.keep K150 (ninS (Ne.symm ne87) (ninS ne70 (ninS ne71 nin0)))
  have F194 := F66.keep K150 (ninS (Ne.symm ne100) (ninS ne72 (ninS ne73 nin0)))
  have F195 := F67.keep K150 (ninS (Ne.symm ne100) (ninS ne72 (ninS ne73 nin0)))
  have F196 := F68.keep K150 (ninS (Ne.symm ne100) (ninS ne72 (ninS ne73 nin0)))
  have K197 := K147.trans K150 (allS (Or.inr s3) (allS (Or.inr s102) (allS (Or.inr s115) all0)))
  have Z198 := Nat.le_trans Z148 K150.1
  have F199 : Fld Z h150 b0 nm2 "lowOut" "I" (.int (f9_c41_b0_lowOut0 cl0)) := F154
  have F200 : Fld Z h150 b12nr3 nm1 "runs" "I" (.int (f9_c41_b12nr3_runs0 p4 hm cl0)) := F161
  have F201 : Fld Z h150 b12nr3 nm1 "length" "I" (.int (f9_c41_b12nr3_length0 p4 hm cl0)) := F162
  have F202 : Fld Z h150 b12nr3 nm1 "lows" "I" (.int (f9_c41_b12nr3_lows0 p4 hm cl0)) := F163
  have F203 : Fld Z h150 b12nr4 nm1 "runs" "I" (.int (f9_c41_b12nr4_runs0 p4 hm ch0)) := F164
  have F204 : Fld Z h150 b12nr4 nm1 "length" "I" (.int (f9_c41_b12nr4_length0 p4 hm ch0)) := F165
  have F205 : Fld Z h150 b12nr4 nm1 "lows" "I" (.int (f9_c41_b12nr4_lows0 p4 hm ch0)) := F166
  show Rt _ _ _ _ _ _ _ (T150.setTop (mkF m 44 #[.val (.ref a1), .val (.ref a2), .val (.ref a3), .val (.int p4), .val (.ref b0), .val (.int (0 : Int32))] []))
  refine Rt.aloadN (pc' := 45) X150 hx (hb hby d9_44) rfl rfl rfl ?_
  refine Rt.getF (pc' := 48) (v := (.ref m1)) X150 hx hZ hown (host := "") (Or.inl (own_g hw 33 rfl)) F170 (hb hby d9_45) rfl ?_
  intro T206 X206
  refine Rt.iload (pc' := 50) X206 hx (hb hby d9_48) rfl rfl ?_
  refine Rt.aload (pc' := 52) X206 hx (hb hby d9_50) rfl rfl rfl ?_
  refine Rt.getFR (pc' := 55) (v := (.int (f9_c41_b0_lowOut0 cl0))) X206 hx hZ hown (own_g hw 112 rfl) F199 (hb hby d9_52) rfl ?_
  intro T207 X207
  refine Rt.iastore (pc' := 56) X207 hx hZ F177 (i := 0) (by decide) (by decide) (Nat.le_of_ble_eq_true rfl) (w := (.int (f9_c41_b0_lowOut0 cl0))) rfl g_m1 (hb hby d9_55) rfl ?_
  intro T208 h208 X208 W208 F208
  have F208 : IA Z h208 m1 .int [(.int (f9_c41_b0_lowOut0 cl0)), (.int (0 : Int32)), (.int (0 : Int32)), (.int (0 : Int32))] := F208
  have F209 := F167.wr W208
  have F210 := F168.other W208 (Or.inl ne_a1_m1)
  have F211 := F169.other W208 (Or.inl ne_a1_m1)
  have F212 := F170.other W208 (Or.inl ne_a1_m1)
  have F213 := F171.other W208 (Or.inl ne_a1_m1)
  have F214 := F172.other W208 (Or.inl ne_a1_m1)
  have F215 := F173.other W208 (Or.inl ne_a1_m1)
  have F216 := F174.other W208 (Or.inl ne_a1_m1)
  have F217 := F175.other W208 (Or.inl ne_a1_m1)
  have F218 := F176.other W208 (Or.inl ne_a1_m1)
  have F219 := F178.other W208 (Ne.symm ne_m1_m2)
  have F220 := F179.other W208 (Ne.symm ne_m1_m3)
  have F221 := F180.other W208 (Ne.symm ne_m1_m4)
  have F222 := F181.other W208 (Ne.symm ne_m1_m5)
  have F223 := F182.other W208 (Ne.symm ne_m1_m6)
  have F224 := F183.other W208 (Ne.symm ne_m1_m7)
  have F225 := F184.other W208 ne_a2_m1
  have F226 := F185.other W208 ne_a3_m1
  have F227 := F151.wr W208
  have F228 := F187.wr W208
  have F229 := F188.wr W208
  have F230 := F159.wr W208
  have F231 := F160.wr W208
  have F232 := F191.other W208 (Or.inl (Ne.symm ne78))
  have F233 := F192.other W208 (Or.inl (Ne.symm ne78))
  have F234 := F193.other W208 (Or.inl (Ne.symm ne78))
  have F235 := F194.other W208 (Or.inl (Ne.symm ne91))
  have F236 := F195.other W208 (Or.inl (Ne.symm ne91))
  have F237 := F196.other W208 (Or.inl (Ne.symm ne91))
  have F238 := F152.other W208 (Or.inl (Ne.symm ne5))
  have F239 := F153.other W208 (Or.inl (Ne.symm ne5))
  have F240 := F199.other W208 (Or.inl (Ne.symm ne5))
  have F241 := F155.other W208 (Or.inl (Ne.symm ne5))
  have F242 := F156.other W208 (Or.inl (Ne.symm ne5))
  have F243 := F157.other W208 (Or.inl (Ne.symm ne5))
  have F244 := F158.other W208 (Or.inl (Ne.symm ne5))
  have F245 := F200.other W208 (Or.inl (Ne.symm ne104))
  have F246 := F201.other W208 (Or.inl (Ne.symm ne104))
  have F247 := F202.other W208 (Or.inl (Ne.symm ne104))
  have F248 := F203.other W208 (Or.inl (Ne.symm ne117))
  have F249 := F204.other W208 (Or.inl (Ne.symm ne117))
  have F250 := F205.other W208 (Or.inl (Ne.symm ne117))
  have K251 := K197.wr W208 (Or.inl (List.mem_of_getElem? (i := 0) rfl))
  have Z252 := Nat.le_trans Z198 (Keep.of_wr W208).1
  refine Rt.aloadN (pc' := 57) X208 hx (hb hby d9_56) rfl rfl rfl ?_
  refine Rt.getF (pc' := 60) (v := (.ref m2)) X208 hx hZ hown (host := "") (Or.inl (own_g hw 35 rfl)) F213 (hb hby d9_57) rfl ?_
  intro T253 X253
  refine Rt.iload (pc' := 62) X253 hx (hb hby d9_60) rfl rfl ?_
  refine Rt.aload (pc' := 64) X253 hx (hb hby d9_62) rfl rfl rfl ?_
  refine Rt.getFR (pc' := 67) (v := (.ref b12nr3)) X253 hx hZ hown (own_g hw 113 rfl) F241 (hb hby d9_64) rfl ?_
  intro T254 X254
  refine Rt.getFR (pc' := 70) (v := (.int (f9_c41_b12nr3_runs0 p4 hm cl0))) X254 hx hZ hown (own_g hw 114 rfl) F245 (hb hby d9_67) rfl ?_
  intro T255 X255
  refine Rt.iastore (pc' := 71) X255 hx hZ F219 (i := 0) (by decide) (by decide) (Nat.le_of_ble_eq_true rfl) (w := (.int (f9_c41_b12nr3_runs0 p4 hm cl0))) rfl g_m2 (hb hby d9_70) rfl ?_
  intro T256 h256 X256 W256 F256
  have F256 : IA Z h256 m2 .int [(.int (f9_c41_b12nr3_runs0 p4 hm cl0)), (.int (0 : Int32)), (.int (0 : Int32)), (.int (0 : Int32))] := F256
  have F257 := F209.wr W256
  have F258 := F210.other W256 (Or.inl ne_a1_m2)
  have F259 := F211.other W256 (Or.inl ne_a1_m2)
  have F260 := F212.other W256 (Or.inl ne_a1_m2)
  have F261 := F213.other W256 (Or.inl ne_a1_m2)
  have F262 := F214.other W256 (Or.inl ne_a1_m2)
  have F263 := F215.other W256 (Or.inl ne_a1_m2)
  have F264 := F216.other W256 (Or.inl ne_a1_m2)
  have F265 := F217.other W256 (Or.inl ne_a1_m2)
  have F266 := F218.other W256 (Or.inl ne_a1_m2)
  have F267 := F208.other W256 ne_m1_m2
  have F268 := F220.other W256 (Ne.symm ne_m2_m3)
  have F269 := F221.other W256 (Ne.symm ne_m2_m4)
  have F270 := F222.other W256 (Ne.symm ne_m2_m5)
  have F271 := F223.other W256 (Ne.symm ne_m2_m6)
  have F272 := F224.other W256 (Ne.symm ne_m2_m7)
  have F273 := F225.other W256 ne_a2_m2
  have F274 := F226.other W256 ne_a3_m2
  have F275 := F227.wr W256
  have F276 := F228.wr W256
  have F277 := F229.wr W256
  have F278 := F230.wr W256
  have F279 := F231.wr W256
  have F280 := F232.other W256 (Or.inl (Ne.symm ne79))
  have F281 := F233.other W256 (Or.inl (Ne.symm ne79))
  have F282 := F234.other W256 (Or.inl (Ne.symm ne79))
  have F283 := F235.other W256 (Or.inl (Ne.symm ne92))
  have F284 := F236.other W256 (Or.inl (Ne.symm ne92))
  have F285 := F237.other W256 (Or.inl (Ne.symm ne92))
  have F286 := F238.other W256 (Or.inl (Ne.symm ne6))
  have F287 := F239.other W256 (Or.inl (Ne.symm ne6))
  have F288 := F240.other W256 (Or.inl (Ne.symm ne6))
  have F289 := F241.other W256 (Or.inl (Ne.symm ne6))
  have F290 := F242.other W256 (Or.inl (Ne.symm ne6))
  have F291 := F243.other W256 (Or.inl (Ne.symm ne6))
  have F292 := F244.other W256 (Or.inl (Ne.symm ne6))
  have F293 := F245.other W256 (Or.inl (Ne.symm ne105))
  have F294 := F246.other W256 (Or.inl (Ne.symm ne105))
  have F295 := F247.other W256 (Or.inl (Ne.symm ne105))
  have F296 := F248.other W256 (Or.inl (Ne.symm ne118))
  have F297 := F249.other W256 (Or.inl (Ne.symm ne118))
  have F298 := F250.other W256 (Or.inl (Ne.symm ne118))
  have K299 := K251.wr W256 (Or.inl (List.mem_of_getElem? (i := 1) rfl))
  have Z300 := Nat.le_trans Z252 (Keep.of_wr W256).1
  refine Rt.aloadN (pc' := 72) X256 hx (hb hby d9_71) rfl rfl rfl ?_
  refine Rt.getF (pc' := 75) (v := (.ref m3)) X256 hx hZ hown (host := "") (Or.inl (own_g hw 37 rfl)) F262 (hb hby d9_72) rfl ?_
  intro T301 X301
  refine Rt.iload (pc' := 77) X301 hx (hb hby d9_75) rfl rfl ?_
  refine Rt.aload (pc' := 79) X301 hx (hb hby d9_77) rfl rfl rfl ?_
  refine Rt.getFR (pc' := 82) (v := (.ref b12nr3)) X301 hx hZ hown (own_g hw 113 rfl) F289 (hb hby d9_79) rfl ?_
  intro T302 X302
  refine Rt.getFR (pc' := 85) (v := (.int (f9_c41_b12nr3_length0 p4 hm cl0))) X302 hx hZ hown (own_g hw 115 rfl) F294 (hb hby d9_82) rfl ?_
  intro T303 X303
  refine Rt.iastore (pc' := 86) X303 hx hZ F268 (i := 0) (by decide) (by decide) (Nat.le_of_ble_eq_true rfl) (w := (.int (f9_c41_b12nr3_length0 p4 hm cl0))) rfl g_m3 (hb hby d9_85) rfl ?_
  intro T304 h304 X304 W304 F304
  have F304 : IA Z h304 m3 .int [(.int (f9_c41_b12nr3_length0 p4 hm cl0)), (.int (0 : Int32)), (.int (0 : Int32)), (.int (0 : Int32))] := F304
  have F305 := F257.wr W304
  have F306 := F258.other W304 (Or.inl ne_a1_m3)
  have F307 := F259.other W304 (Or.inl ne_a1_m3)
  have F308 := F260.other W304 (Or.inl ne_a1_m3)
  have F309 := F261.other W304 (Or.inl ne_a1_m3)
  have F310 := F262.other W304 (Or.inl ne_a1_m3)
  have F311 := F263.other W304 (Or.inl ne_a1_m3)
  have F312 := F264.other W304 (Or.inl ne_a1_m3)
  have F313 := F265.other W304 (Or.inl ne_a1_m3)
  have F314 := F266.other W304 (Or.inl ne_a1_m3)
  have F315 := F267.other W304 ne_m1_m3
  have F316 := F256.other W304 ne_m2_m3
  have F317 := F269.other W304 (Ne.symm ne_m3_m4)
  have F318 := F270.other W304 (Ne.symm ne_m3_m5)
  have F319 := F271.other W304 (Ne.symm ne_m3_m6)
  have F320 := F272.other W304 (Ne.symm ne_m3_m7)
  have F321 := F273.other W304 ne_a2_m3
  have F322 := F274.other W304 ne_a3_m3
  have F323 := F275.wr W304
  have F324 := F276.wr W304
  have F325 := F277.wr W304
  have F326 := F278.wr W304
  have F327 := F279.wr W304
  have F328 := F280.other W304 (Or.inl (Ne.symm ne80))
  have F329 := F281.other W304 (Or.inl (Ne.symm ne80))
  have F330 := F282.other W304 (Or.inl (Ne.symm ne80))
  have F331 := F283.other W304 (Or.inl (Ne.symm ne93))
  have F332 := F284.other W304 (Or.inl (Ne.symm ne93))
  have F333 := F285.other W304 (Or.inl (Ne.symm ne93))
  have F334 := F286.other W304 (Or.inl (Ne.symm ne7))
  have F335 := F287.other W304 (Or.inl (Ne.symm ne7))
  have F336 := F288.other W304 (Or.inl (Ne.symm ne7))
  have F337 := F289.other W304 (Or.inl (Ne.symm ne7))
  have F338 := F290.other W304 (Or.inl (Ne.symm ne7))
  have F339 := F291.other W304 (Or.inl (Ne.symm ne7))
  have F340 := F292.other W304 (Or.inl (Ne.symm ne7))
  have F341 := F293.other W304 (Or.inl (Ne.symm ne106))
  have F342 := F294.other W304 (Or.inl (Ne.symm ne106))
  have F343 := F295.other W304 (Or.inl (Ne.symm ne106))
  have F344 := F296.other W304 (Or.inl (Ne.symm ne119))
  have F345 := F297.other W304 (Or.inl (Ne.symm ne119))
  have F346 := F298.other W304 (Or.inl (Ne.symm ne119))
  have K347 := K299.wr W304 (Or.inl (List.mem_of_getElem? (i := 2) rfl))
  have Z348 := Nat.le_trans Z300 (Keep.of_wr W304).1
  refine Rt.aloadN (pc' := 87) X304 hx (hb hby d9_86) rfl rfl rfl ?_
  refine Rt.getF (pc' := 90) (v := (.ref m4)) X304 hx hZ hown (host := "") (Or.inl (own_g hw 39 rfl)) F311 (hb hby d9_87) rfl ?_
  intro T349 X349
  refine Rt.iload (pc' := 92) X349 hx (hb hby d9_90) rfl rfl ?_
  refine Rt.aload (pc' := 94) X349 hx (hb hby d9_92) rfl rfl rfl ?_
  refine Rt.getFR (pc' := 97) (v := (.ref b12nr3)) X349 hx hZ hown (own_g hw 113 rfl) F337 (hb hby d9_94) rfl ?_
  intro T350 X350
  refine Rt.getFR (pc' := 100) (v := (.int (f9_c41_b12nr3_lows0 p4 hm cl0))) X350 hx hZ hown (own_g hw 116 rfl) F343 (hb hby d9_97) rfl ?_
  intro T351 X351
  refine Rt.iastore (pc' := 101) X351 hx hZ F317 (i := 0) (by decide) (by decide) (Nat.le_of_ble_eq_true rfl) (w := (.int (f9_c41_b12nr3_lows0 p4 hm cl0))) rfl g_m4 (hb hby d9_100) rfl ?_
  intro T352 h352 X352 W352 F352
  have F352 : IA Z h352 m4 .int [(.int (f9_c41_b12nr3_lows0 p4 hm cl0)), (.int (0 : Int32)), (.int (0 : Int32)), (.int (0 : Int32))] := F352
  have F353 := F305.wr W352
  have F354 := F306.other W352 (Or.inl ne_a1_m4)
  have F355 := F307.other W352 (Or.inl ne_a1_m4)
  have F356 := F308.other W352 (Or.inl ne_a1_m4)
  have F357 := F309.other W352 (Or.inl ne_a1_m4)
  have F358 := F310.other W352 (Or.inl ne_a1_m4)
  have F359 := F311.other W352 (Or.inl ne_a1_m4)
  have F360 := F312.other W352 (Or.inl ne_a1_m4)
  have F361 := F313.other W352 (Or.inl ne_a1_m4)
  have F362 := F314.other W352 (Or.inl ne_a1_m4)
  have F363 := F315.other W352 ne_m1_m4
  have F364 := F316.other W352 ne_m2_m4
  have F365 := F304.other W352 ne_m3_m4
  have F366 := F318.other W352 (Ne.symm ne_m4_m5)
  have F367 := F319.other W352 (Ne.symm ne_m4_m6)
  have F368 := F320.other W352 (Ne.symm ne_m4_m7)
  have F369 := F321.other W352 ne_a2_m4
  have F370 := F322.other W352 ne_a3_m4
  have F371 := F323.wr W352
  have F372 := F324.wr W352
  have F373 := F325.wr W352
  have F374 := F326.wr W352
  have F375 := F327.wr W352
  have F376 := F328.other W352 (Or.inl (Ne.symm ne81))
  have F377 := F329.other W352 (Or.inl (Ne.symm ne81))
  have F378 := F330.other W352 (Or.inl (Ne.symm ne81))
  have F379 := F331.other W352 (Or.inl (Ne.symm ne94))
  have F380 := F332.other W352 (Or.inl (Ne.symm ne94))
  have F381 := F333.other W352 (Or.inl (Ne.symm ne94))
  have F382 := F334.other W352 (Or.inl (Ne.symm ne8))
  have F383 := F335.other W352 (Or.inl (Ne.symm ne8))
  have F384 := F336.other W352 (Or.inl (Ne.symm ne8))
  have F385 := F337.other W352 (Or.inl (Ne.symm ne8))
  have F386 := F338.other W352 (Or.inl (Ne.symm ne8))
  have F387 := F339.other W352 (Or.inl (Ne.symm ne8))
  have F388 := F340.other W352 (Or.inl (Ne.symm ne8))
  have F389 := F341.other W352 (Or.inl (Ne.symm ne107))
  have F390 := F342.other W352 (Or.inl (Ne.symm ne107))
  have F391 := F343.other W352 (Or.inl (Ne.symm ne107))
  have F392 := F344.other W352 (Or.inl (Ne.symm ne120))
  have F393 := F345.other W352 (Or.inl (Ne.symm ne120))
  have F394 := F346.other W352 (Or.inl (Ne.symm ne120))
  have K395 := K347.wr W352 (Or.inl (List.mem_of_getElem? (i := 3) rfl))
  have Z396 := Nat.le_trans Z348 (Keep.of_wr W352).1
  refine Rt.aloadN (pc' := 102) X352 hx (hb hby d9_101) rfl rfl rfl ?_
  refine Rt.getF (pc' := 105) (v := (.ref m5)) X352 hx hZ hown (host := "") (Or.inl (own_g hw 41 rfl)) F360 (hb hby d9_102) rfl ?_
  intro T397 X397
  refine Rt.iload (pc' := 107) X397 hx (hb hby d9_105) rfl rfl ?_
  refine Rt.aload (pc' := 109) X397 hx (hb hby d9_107) rfl rfl rfl ?_
  refine Rt.getFR (pc' := 112) (v := (.ref b12nr4)) X397 hx hZ hown (own_g hw 117 rfl) F386 (hb hby d9_109) rfl ?_
  intro T398 X398
  refine Rt.getFR (pc' := 115) (v := (.int (f9_c41_b12nr4_runs0 p4 hm ch0))) X398 hx hZ hown (own_g hw 114 rfl) F392 (hb hby d9_112) rfl ?_
  intro T399 X399
  refine Rt.iastore (pc' := 116) X399 hx hZ F366 (i := 0) (by decide) (by decide) (Nat.le_of_ble_eq_true rfl) (w := (.int (f9_c41_b12nr4_runs0 p4 hm ch0))) rfl g_m5 (hb hby d9_115) rfl ?_
  intro T400 h400 X400 W400 F400
  have F400 : IA Z h400 m5 .int [(.int (f9_c41_b12nr4_runs0 p4 hm ch0)), (.int (0 : Int32)), (.int (0 : Int32)), (.int (0 : Int32))] := F400
  have F401 := F353.wr W400
  have F402 := F354.other W400 (Or.inl ne_a1_m5)
  have F403 := F355.other W400 (Or.inl ne_a1_m5)
  have F404 := F356.other W400 (Or.inl ne_a1_m5)
  have F405 := F357.other W400 (Or.inl ne_a1_m5)
  have F406 := F358.other W400 (Or.inl ne_a1_m5)
  have F407 := F359.other W400 (Or.inl ne_a1_m5)
  have F408 := F360.other W400 (Or.inl ne_a1_m5)
  have F409 := F361.other W400 (Or.inl ne_a1_m5)
  have F410 := F362.other W400 (Or.inl ne_a1_m5)
  have F411 := F363.other W400 ne_m1_m5
  have F412 := F364.other W400 ne_m2_m5
  have F413 := F365.other W400 ne_m3_m5
  have F414 := F352.other W400 ne_m4_m5
  have F415 := F367.other W400 (Ne.symm ne_m5_m6)
  have F416 := F368.other W400 (Ne.symm ne_m5_m7)
  have F417 := F369.other W400 ne_a2_m5
  have F418 := F370.other W400 ne_a3_m5
  have F419 := F371.wr W400
  have F420 := F372.wr W400
  have F421 := F373.wr W400
  have F422 := F374.wr W400
  have F423 := F375.wr W400
  have F424 := F376.other W400 (Or.inl (Ne.symm ne82))
  have F425 := F377.other W400 (Or.inl (Ne.symm ne82))
  have F426 := F378.other W400 (Or.inl (Ne.symm ne82))
  have F427 := F379.other W400 (Or.inl (Ne.symm ne95))
  have F428 := F380.other W400 (Or.inl (Ne.symm ne95))
  have F429 := F381.other W400 (Or.inl (Ne.symm ne95))
  have F430 := F382.other W400 (Or.inl (Ne.symm ne9))
  have F431 := F383.other W400 (Or.inl (Ne.symm ne9))
  have F432 := F384.other W400 (Or.inl (Ne.symm ne9))
  have F433 := F385.other W400 (Or.inl (Ne.symm ne9))
  have F434 := F386.other W400 (Or.inl (Ne.symm ne9))
  have F435 := F387.other W400 (Or.inl (Ne.symm ne9))
  have F436 := F388.other W400 (Or.inl (Ne.symm ne9))
  have F437 := F389.other W400 (Or.inl (Ne.symm ne108))
  have F438 := F390.other W400 (Or.inl (Ne.symm ne108))
  have F439 := F391.other W400 (Or.inl (Ne.symm ne108))
  have F440 := F392.other W400 (Or.inl (Ne.symm ne121))
  have F441 := F393.other W400 (Or.inl (Ne.symm ne121))
  have F442 := F394.other W400 (Or.inl (Ne.symm ne121))
  have K443 := K395.wr W400 (Or.inl (List.mem_of_getElem? (i := 4) rfl))
  have Z444 := Nat.le_trans Z396 (Keep.of_wr W400).1
  refine Rt.aloadN (pc' := 117) X400 hx (hb hby d9_116) rfl rfl rfl ?_
  refine Rt.getF (pc' := 120) (v := (.ref m6)) X400 hx hZ hown (host := "") (Or.inl (own_g hw 43 rfl)) F409 (hb hby d9_117) rfl ?_
  intro T445 X445
  refine Rt.iload (pc' := 122) X445 hx (hb hby d9_120) rfl rfl ?_
  refine Rt.aload (pc' := 124) X445 hx (hb hby d9_122) rfl rfl rfl ?_
  refine Rt.getFR (pc' := 127) (v := (.ref b12nr4)) X445 hx hZ hown (own_g hw 117 rfl) F434 (hb hby d9_124) rfl ?_
  intro T446 X446
  refine Rt.getFR (pc' := 130) (v := (.int (f9_c41_b12nr4_length0 p4 hm ch0))) X446 hx hZ hown (own_g hw 115 rfl) F441 (hb hby d9_127) rfl ?_
  intro T447 X447
  refine Rt.iastore (pc' := 131) X447 hx hZ F415 (i := 0) (by decide) (by decide) (Nat.le_of_ble_eq_true rfl) (w := (.int (f9_c41_b12nr4_length0 p4 hm ch0))) rfl g_m6 (hb hby d9_130) rfl ?_
  intro T448 h448 X448 W448 F448
  have F448 : IA Z h448 m6 .int [(.int (f9_c41_b12nr4_length0 p4 hm ch0)), (.int (0 : Int32)), (.int (0 : Int32)), (.int (0 : Int32))] := F448
  have F449 := F401.wr W448
  have F450 := F402.other W448 (Or.inl ne_a1_m6)
  have F451 := F403.other W448 (Or.inl ne_a1_m6)
  have F452 := F404.other W448 (Or.inl ne_a1_m6)
  have F453 := F405.other W448 (Or.inl ne_a1_m6)
  have F454 := F406.other W448 (Or.inl ne_a1_m6)
  have F455 := F407.other W448 (Or.inl ne_a1_m6)
  have F456 := F408.other W448 (Or.inl ne_a1_m6)
  have F457 := F409.other W448 (Or.inl ne_a1_m6)
  have F458 := F410.other W448 (Or.inl ne_a1_m6)
  have F459 := F411.other W448 ne_m1_m6
  have F460 := F412.other W448 ne_m2_m6
  have F461 := F413.other W448 ne_m3_m6
  have F462 := F414.other W448 ne_m4_m6
  have F463 := F400.other W448 ne_m5_m6
  have F464 := F416.other W448 (Ne.symm ne_m6_m7)
  have F465 := F417.other W448 ne_a2_m6
  have F466 := F418.other W448 ne_a3_m6
  have F467 := F419.wr W448
  have F468 := F420.wr W448
  have F469 := F421.wr W448
  have F470 := F422.wr W448
  have F471 := F423.wr W448
  have F472 := F424.other W448 (Or.inl (Ne.symm ne83))
  have F473 := F425.other W448 (Or.inl (Ne.symm ne83))
  have F474 := F426.other W448 (Or.inl (Ne.symm ne83))
  have F475 := F427.other W448 (Or.inl (Ne.symm ne96))
  have F476 := F428.other W448 (Or.inl (Ne.symm ne96))
  have F477 := F429.other W448 (Or.inl (Ne.symm ne96))
  have F478 := F430.other W448 (Or.inl (Ne.symm ne10))
  have F479 := F431.other W448 (Or.inl (Ne.symm ne10))
  have F480 := F432.other W448 (Or.inl (Ne.symm ne10))
  have F481 := F433.other W448 (Or.inl (Ne.symm ne10))
  have F482 := F434.other W448 (Or.inl (Ne.symm ne10))
  have F483 := F435.other W448 (Or.inl (Ne.symm ne10))
  have F484 := F436.other W448 (Or.inl (Ne.symm ne10))
  have F485 := F437.other W448 (Or.inl (Ne.symm ne109))
  have F486 := F438.other W448 (Or.inl (Ne.symm ne109))
  have F487 := F439.other W448 (Or.inl (Ne.symm ne109))
  have F488 := F440.other W448 (Or.inl (Ne.symm ne122))
  have F489 := F441.other W448 (Or.inl (Ne.symm ne122))
  have F490 := F442.other W448 (Or.inl (Ne.symm ne122))
  have K491 := K443.wr W448 (Or.inl (List.mem_of_getElem? (i := 5) rfl))
  have Z492 := Nat.le_trans Z444 (Keep.of_wr W448).1
  refine Rt.aloadN (pc' := 132) X448 hx (hb hby d9_131) rfl rfl rfl ?_
  refine Rt.getF (pc' := 135) (v := (.ref m7)) X448 hx hZ hown (host := "") (Or.inl (own_g hw 45 rfl)) F458 (hb hby d9_132) rfl ?_
  intro T493 X493
  refine Rt.iload (pc' := 137) X493 hx (hb hby d9_135) rfl rfl ?_
  refine Rt.aload (pc' := 139) X493 hx (hb hby d9_137) rfl rfl rfl ?_
  refine Rt.getFR (pc' := 142) (v := (.ref b12nr4)) X493 hx hZ hown (own_g hw 117 rfl) F482 (hb hby d9_139) rfl ?_
  intro T494 X494
  refine Rt.getFR (pc' := 145) (v := (.int (f9_c41_b12nr4_lows0 p4 hm ch0))) X494 hx hZ hown (own_g hw 116 rfl) F490 (hb hby d9_142) rfl ?_
  intro T495 X495
  refine Rt.iastore (pc' := 146) X495 hx hZ F464 (i := 0) (by decide) (by decide) (Nat.le_of_ble_eq_true rfl) (w := (.int (f9_c41_b12nr4_lows0 p4 hm ch0))) rfl g_m7 (hb hby d9_145) rfl ?_
  intro T496 h496 X496 W496 F496
  have F496 : IA Z h496 m7 .int [(.int (f9_c41_b12nr4_lows0 p4 hm ch0)), (.int (0 : Int32)), (.int (0 : Int32)), (.int (0 : Int32))] := F496
  have F497 := F449.wr W496
  have F498 := F450.other W496 (Or.inl ne_a1_m7)
  have F499 := F451.other W496 (Or.inl ne_a1_m7)
  have F500 := F452.other W496 (Or.inl ne_a1_m7)
  have F501 := F453.other W496 (Or.inl ne_a1_m7)
  have F502 := F454.other W496 (Or.inl ne_a1_m7)
  have F503 := F455.other W496 (Or.inl ne_a1_m7)
  have F504 := F456.other W496 (Or.inl ne_a1_m7)
  have F505 := F457.other W496 (Or.inl ne_a1_m7)
  have F506 := F458.other W496 (Or.inl ne_a1_m7)
  have F507 := F459.other W496 ne_m1_m7
  have F508 := F460.other W496 ne_m2_m7
  have F509 := F461.other W496 ne_m3_m7
  have F510 := F462.other W496 ne_m4_m7
  have F511 := F463.other W496 ne_m5_m7
  have F512 := F448.other W496 ne_m6_m7
  have F513 := F465.other W496 ne_a2_m7
  have F514 := F466.other W496 ne_a3_m7
  have F515 := F467.wr W496
  have F516 := F468.wr W496
  have F517 := F469.wr W496
  have F518 := F470.wr W496
  have F519 := F471.wr W496
  have F520 := F472.other W496 (Or.inl (Ne.symm ne84))
  have F521 := F473.other W496 (Or.inl (Ne.symm ne84))
  have F522 := F474.other W496 (Or.inl (Ne.symm ne84))
  have F523 := F475.other W496 (Or.inl (Ne.symm ne97))
  have F524 := F476.other W496 (Or.inl (Ne.symm ne97))
  have F525 := F477.other W496 (Or.inl (Ne.symm ne97))
  have F526 := F478.other W496 (Or.inl (Ne.symm ne11))
  have F527 := F479.other W496 (Or.inl (Ne.symm ne11))
  have F528 := F480.other W496 (Or.inl (Ne.symm ne11))
  have F529 := F481.other W496 (Or.inl (Ne.symm ne11))
  have F530 := F482.other W496 (Or.inl (Ne.symm ne11))
  have F531 := F483.other W496 (Or.inl (Ne.symm ne11))
  have F532 := F484.other W496 (Or.inl (Ne.symm ne11))
  have F533 := F485.other W496 (Or.inl (Ne.symm ne110))
  have F534 := F486.other W496 (Or.inl (Ne.symm ne110))
  have F535 := F487.other W496 (Or.inl (Ne.symm ne110))
  have F536 := F488.other W496 (Or.inl (Ne.symm ne123))
  have F537 := F489.other W496 (Or.inl (Ne.symm ne123))
  have F538 := F490.other W496 (Or.inl (Ne.symm ne123))
  have K539 := K491.wr W496 (Or.inl (List.mem_of_getElem? (i := 6) rfl))
  have Z540 := Nat.le_trans Z492 (Keep.of_wr W496).1
  refine Rt.iinc (pc' := 149) (r := (1 : Int32)) (l' := #[.val (.ref a1), .val (.ref a2), .val (.ref a3), .val (.int p4), .val (.ref b0), .val (.int (1 : Int32))]) X496 hx (hb hby d9_146) rfl (by decide) rfl rfl ?_
  refine Rt.goto (pc' := 20) X496 hx (hb hby d9_149) (by decide) (by decide) ?_
  refine Rt.iload (pc' := 22) X496 hx (hb hby d9_20) rfl rfl ?_
  refine Rt.aloadN (pc' := 23) X496 hx (hb hby d9_22) rfl rfl rfl ?_
  refine Rt.getF (pc' := 26) (v := (.ref m1)) X496 hx hZ hown (host := "") (Or.inl (own_g hw 33 rfl)) F500 (hb hby d9_23) rfl ?_
  intro T541 X541
  refine Rt.arraylength (pc' := 27) X541 hx hZ F507 (v := (4 : Int32)) rfl (hb hby d9_26) rfl ?_
  refine Rt.icmpN (pc' := 30) X541 hx (hb hby d9_27) (tlt (by decide : (1 : Int32) < (4 : Int32))).2.1 rfl ?_
  refine Rt.aload (pc' := 32) X541 hx (hb hby d9_30) rfl rfl rfl ?_
  refine Rt.aloadN (pc' := 33) X541 hx (hb hby d9_32) rfl rfl rfl ?_
  refine Rt.iload (pc' := 35) X541 hx (hb hby d9_33) rfl rfl ?_
  refine Rt.zaload (pc' := 36) X541 hx hZ F513 (i := 1) (by decide) (by decide) (v := (.int cl1)) rfl (hb hby d9_35) rfl ?_
  refine Rt.aloadN (pc' := 37) X541 hx (hb hby d9_36) rfl rfl rfl ?_
  refine Rt.iload (pc' := 39) X541 hx (hb hby d9_37) rfl rfl ?_
  refine Rt.zaload (pc' := 40) X541 hx hZ F514 (i := 1) (by decide) (by decide) (v := (.int ch1)) rfl (hb hby d9_39) rfl ?_
  refine Rt.iloadN (pc' := 41) X541 hx (hb hby d9_40) rfl rfl ?_
  refine Rt.callV (pc' := 44) X541 hx hZ (y := mt8) (yz := mt8) hown (own_g hw 96 rfl) (own_g hw 97 rfl) (notFace_of_selects (args := #[]) (mvT hZ (own_g hw 99 rfl))) (own_g hw 99 rfl) (own_g hw 98 rfl) (own_g hw 59 rfl) (own_g hw 100 rfl) (by decide) F515 (rm13 l Z a0 hw [] b0 cl1 ch1 p4 (5 : Int32) hm (f9_c41_b0_lowOut0 cl0) b12nr3 b12nr4 b12nr1 b12nr2 (f9_c41_b12nr3_runs0 p4 hm cl0) (f9_c41_b12nr3_length0 p4 hm cl0) (f9_c41_b12nr3_lows0 p4 hm cl0) (f9_c41_b12nr4_runs0 p4 hm ch0) (f9_c41_b12nr4_length0 p4 hm ch0) (f9_c41_b12nr4_lows0 p4 hm ch0) (5 : Int32) (0 : Int32) (0 : Int32) (5 : Int32) (0 : Int32) (0 : Int32) h496 n0 Z540 F515 F526 F527 F528 F529 F530 F531 F532 F518 F533 F534 F535 F519 F536 F537 F538 F516 F520 F521 F522 F517 F523 F524 F525 g2 g75 g88 ne113 ne126 ne87 ne100 ne74 (Ne.symm ne70) (Ne.symm ne72) (Ne.symm ne71) (Ne.symm ne73) ne69) (fun _ _ _ q => q.2.1) (W := 0) (by decide) (by decide) (by decide) (by decide) (argsL := [(.int cl1), (.int ch1), (.int p4)]) (rest := []) (by rw [hml]; rfl) (lenOf pd_7 rfl) rfl rfl (Nat.le_of_eq rfl) (hb hby d9_41) rfl ?_
  rintro _ T542 h542 L542 X542 ⟨rfl, N542, K542, F543, F544, F545, F546, F547, F548, F549, F550, F551, F552, F553, F554, F555, F556, F557, F558⟩
  have F559 := F497.keep K542
  have F560 := F498.keep K542 (ninS ne4 (ninS ne77 (ninS ne90 nin0)))
  have F561 := F499.keep K542 (ninS ne4 (ninS ne77 (ninS ne90 nin0)))
  have F562 := F500.keep K542 (ninS ne4 (ninS ne77 (ninS ne90 nin0)))
  have F563 := F501.keep K542 (ninS ne4 (ninS ne77 (ninS ne90 nin0)))
  have F564 := F502.keep K542 (ninS ne4 (ninS ne77 (ninS ne90 nin0)))
  have F565 := F503.keep K542 (ninS ne4 (ninS ne77 (ninS ne90 nin0)))
  have F566 := F504.keep K542 (ninS ne4 (ninS ne77 (ninS ne90 nin0)))
  have F567 := F505.keep K542 (ninS ne4 (ninS ne77 (ninS ne90 nin0)))
  have F568 := F506.keep K542 (ninS ne4 (ninS ne77 (ninS ne90 nin0)))
  have F569 := F507.keep K542 (ninS ne5 (ninS ne78 (ninS ne91 nin0)))
  have F570 := F508.keep K542 (ninS ne6 (ninS ne79 (ninS ne92 nin0)))
  have F571 := F509.keep K542 (ninS ne7 (ninS ne80 (ninS ne93 nin0)))
  have F572 := F510.keep K542 (ninS ne8 (ninS ne81 (ninS ne94 nin0)))
  have F573 := F511.keep K542 (ninS ne9 (ninS ne82 (ninS ne95 nin0)))
  have F574 := F512.keep K542 (ninS ne10 (ninS ne83 (ninS ne96 nin0)))
  have F575 := F496.keep K542 (ninS ne11 (ninS ne84 (ninS ne97 nin0)))
  have F576 := F513.keep K542 (ninS ne12 (ninS ne85 (ninS ne98 nin0)))
  have F577 := F514.keep K542 (ninS ne13 (ninS ne86 (ninS ne99 nin0)))
  have F578 := F515.keep K542
  have F579 := F516.keep K542
  have F580 := F517.keep K542
  have F581 := F518.keep K542
  have F582 := F519.keep K542
  have F583 := F533.keep K542 (ninS (Ne.symm ne113) (ninS (Ne.symm ne70) (ninS (Ne.symm ne72) nin0)))
  have F584 := F534.keep K542 (ninS (Ne.symm ne113) (ninS (Ne.symm ne70) (ninS (Ne.symm ne72) nin0)))
  have F585 := F535.keep K542 (ninS (Ne.symm ne113) (ninS (Ne.symm ne70) (ninS (Ne.symm ne72) nin0)))
  have F586 := F536.keep K542 (ninS (Ne.symm ne126) (ninS (Ne.symm ne71) (ninS (Ne.symm ne73) nin0)))
  have F587 := F537.keep K542 (ninS (Ne.symm ne126) (ninS (Ne.symm ne71) (ninS (Ne.symm ne73) nin0)))
  have F588 := F538.keep K542 (ninS (Ne.symm ne126) (ninS (Ne.symm ne71) (ninS (Ne.symm ne73) nin0)))
  have K589 := K539.trans K542 (allS (Or.inr s3) (allS (Or.inr s76) (allS (Or.inr s89) all0)))
  have Z590 := Nat.le_trans Z540 K542.1
  have F591 : Fld Z h542 b0 nm2 "lowOut" "I" (.int (f9_c41_b0_lowOut0_1 p4 hm cl0 cl1 ch0)) := F546
  have F592 : Fld Z h542 b12nr1 nm1 "runs" "I" (.int (f9_c41_b12nr1_runs0 p4 hm cl0 cl1 ch0)) := F553
  have F593 : Fld Z h542 b12nr1 nm1 "length" "I" (.int (f9_c41_b12nr1_length0 p4 hm cl0 cl1 ch0)) := F554
  have F594 : Fld Z h542 b12nr1 nm1 "lows" "I" (.int (f9_c41_b12nr1_lows0 p4 hm cl0 cl1 ch0)) := F555
  have F595 : Fld Z h542 b12nr2 nm1 "runs" "I" (.int (f9_c41_b12nr2_runs0 p4 hm cl0 ch0 ch1)) := F556
  have F596 : Fld Z h542 b12nr2 nm1 "length" "I" (.int (f9_c41_b12nr2_length0 p4 hm cl0 ch0 ch1)) := F557
  have F597 : Fld Z h542 b12nr2 nm1 "lows" "I" (.int (f9_c41_b12nr2_lows0 p4 hm cl0 ch0 ch1)) := F558
  show Rt _ _ _ _ _ _ _ (T542.setTop (mkF m 44 #[.val (.ref a1), .val (.ref a2), .val (.ref a3), .val (.int p4), .val (.ref b0), .val (.int (1 : Int32))] []))
  refine Rt.aloadN (pc' := 45) X542 hx (hb hby d9_44) rfl rfl rfl ?_
  refine Rt.getF (pc' := 48) (v := (.ref m1)) X542 hx hZ hown (host := "") (Or.inl (own_g hw 33 rfl)) F562 (hb hby d9_45) rfl ?_
  intro T598 X598
  refine Rt.iload (pc' := 50) X598 hx (hb hby d9_48) rfl rfl ?_
  refine Rt.aload (pc' := 52) X598 hx (hb hby d9_50) rfl rfl rfl ?_
  refine Rt.getFR (pc' := 55) (v := (.int (f9_c41_b0_lowOut0_1 p4 hm cl0 cl1 ch0))) X598 hx hZ hown (own_g hw 112 rfl) F591 (hb hby d9_52) rfl ?_
  intro T599 X599
  refine Rt.iastore (pc' := 56) X599 hx hZ F569 (i := 1) (by decide) (by decide) (Nat.le_of_ble_eq_true rfl) (w := (.int (f9_c41_b0_lowOut0_1 p4 hm cl0 cl1 ch0))) rfl g_m1 (hb hby d9_55) rfl ?_
  intro T600 h600 X600 W600 F600
  have F600 : IA Z h600 m1 .int [(.int (f9_c41_b0_lowOut0 cl0)), (.int (f9_c41_b0_lowOut0_1 p4 hm cl0 cl1 ch0)), (.int (0 : Int32)), (.int (0 : Int32))] := F600
  have F601 := F559.wr W600
  have F602 := F560.other W600 (Or.inl ne_a1_m1)
  have F603 := F561.other W600 (Or.inl ne_a1_m1)
  have F604 := F562.other W600 (Or.inl ne_a1_m1)
  have F605 := F563.other W600 (Or.inl ne_a1_m1)
  have F606 := F564.other W600 (Or.inl ne_a1_m1)
  have F607 := F565.other W600 (Or.inl ne_a1_m1)
  have F608 := F566.other W600 (Or.inl ne_a1_m1)
  have F609 := F567.other W600 (Or.inl ne_a1_m1)
  have F610 := F568.other W600 (Or.inl ne_a1_m1)
  have F611 := F570.other W600 (Ne.symm ne_m1_m2)
  have F612 := F571.other W600 (Ne.symm ne_m1_m3)
  have F613 := F572.other W600 (Ne.symm ne_m1_m4)
  have F614 := F573.other W600 (Ne.symm ne_m1_m5)
  have F615 := F574.other W600 (Ne.symm ne_m1_m6)
  have F616 := F575.other W600 (Ne.symm ne_m1_m7)
  have F617 := F576.other W600 ne_a2_m1
  have F618 := F577.other W600 ne_a3_m1
  have F619 := F543.wr W600
  have F620 := F551.wr W600
  have F621 := F552.wr W600
  have F622 := F581.wr W600
  have F623 := F582.wr W600
  have F624 := F583.other W600 (Or.inl (Ne.symm ne104))
  have F625 := F584.other W600 (Or.inl (Ne.symm ne104))
  have F626 := F585.other W600 (Or.inl (Ne.symm ne104))
  have F627 := F586.other W600 (Or.inl (Ne.symm ne117))
  have F628 := F587.other W600 (Or.inl (Ne.symm ne117))
  have F629 := F588.other W600 (Or.inl (Ne.symm ne117))
  have F630 := F544.other W600 (Or.inl (Ne.symm ne5))
  have F631 := F545.other W600 (Or.inl (Ne.symm ne5))
  have F632 := F591.other W600 (Or.inl (Ne.symm ne5))
  have F633 := F547.other W600 (Or.inl (Ne.symm ne5))
  have F634 := F548.other W600 (Or.inl (Ne.symm ne5))
  have F635 := F549.other W600 (Or.inl (Ne.symm ne5))
  have F636 := F550.other W600 (Or.inl (Ne.symm ne5))
  have F637 := F592.other W600 (Or.inl (Ne.symm ne78))
  have F638 := F593.other W600 (Or.inl (Ne.symm ne78))
  have F639 := F594.other W600 (Or.inl (Ne.symm ne78))
  have F640 := F595.other W600 (Or.inl (Ne.symm ne91))
  have F641 := F596.other W600 (Or.inl (Ne.symm ne91))
  have F642 := F597.other W600 (Or.inl (Ne.symm ne91))
  have K643 := K589.wr W600 (Or.inl (List.mem_of_getElem? (i := 0) rfl))
  have Z644 := Nat.le_trans Z590 (Keep.of_wr W600).1
  refine Rt.aloadN (pc' := 57) X600 hx (hb hby d9_56) rfl rfl rfl ?_
  refine Rt.getF (pc' := 60) (v := (.ref m2)) X600 hx hZ hown (host := "") (Or.inl (own_g hw 35 rfl)) F605 (hb hby d9_57) rfl ?_
  intro T645 X645
  refine Rt.iload (pc' := 62) X645 hx (hb hby d9_60) rfl rfl ?_
  refine Rt.aload (pc' := 64) X645 hx (hb hby d9_62) rfl rfl rfl ?_
  refine Rt.getFR (pc' := 67) (v := (.ref b12nr1)) X645 hx hZ hown (own_g hw 113 rfl) F633 (hb hby d9_64) rfl ?_
  intro T646 X646
  refine Rt.getFR (pc' := 70) (v := (.int (f9_c41_b12nr1_runs0 p4 hm cl0 cl1 ch0))) X646 hx hZ hown (own_g hw 114 rfl) F637 (hb hby d9_67) rfl ?_
  intro T647 X647
  refine Rt.iastore (pc' := 71) X647 hx hZ F611 (i := 1) (by decide) (by decide) (Nat.le_of_ble_eq_true rfl) (w := (.int (f9_c41_b12nr1_runs0 p4 hm cl0 cl1 ch0))) rfl g_m2 (hb hby d9_70) rfl ?_
  intro T648 h648 X648 W648 F648
  have F648 : IA Z h648 m2 .int [(.int (f9_c41_b12nr3_runs0 p4 hm cl0)), (.int (f9_c41_b12nr1_runs0 p4 hm cl0 cl1 ch0)), (.int (0 : Int32)), (.int (0 : Int32))] := F648
  have F649 := F601.wr W648
  have F650 := F602.other W648 (Or.inl ne_a1_m2)
  have F651 := F603.other W648 (Or.inl ne_a1_m2)
  have F652 := F604.other W648 (Or.inl ne_a1_m2)
  have F653 := F605.other W648 (Or.inl ne_a1_m2)
  have F654 := F606.other W648 (Or.inl ne_a1_m2)
  have F655 := F607.other W648 (Or.inl ne_a1_m2)
  have F656 := F608.other W648 (Or.inl ne_a1_m2)
  have F657 := F609.other W648 (Or.inl ne_a1_m2)
  have F658 := F610.other W648 (Or.inl ne_a1_m2)
  have F659 := F600.other W648 ne_m1_m2
  have F660 := F612.other W648 (Ne.symm ne_m2_m3)
  have F661 := F613.other W648 (Ne.symm ne_m2_m4)
  have F662 := F614.other W648 (Ne.symm ne_m2_m5)
  have F663 := F615.other W648 (Ne.symm ne_m2_m6)
  have F664 := F616.other W648 (Ne.symm ne_m2_m7)
  have F665 := F617.other W648 ne_a2_m2
  have F666 := F618.other W648 ne_a3_m2
  have F667 := F619.wr W648
  have F668 := F620.wr W648
  have F669 := F621.wr W648
  have F670 := F622.wr W648
  have F671 := F623.wr W648
  have F672 := F624.other W648 (Or.inl (Ne.symm ne105))
  have F673 := F625.other W648 (Or.inl (Ne.symm ne105))
  have F674 := F626.other W648 (Or.inl (Ne.symm ne105))
  have F675 := F627.other W648 (Or.inl (Ne.symm ne118))
  have F676 := F628.other W648 (Or.inl (Ne.symm ne118))
  have F677 := F629.other W648 (Or.inl (Ne.symm ne118))
  have F678 := F630.other W648 (Or.inl (Ne.symm ne6))
  have F679 := F631.other W648 (Or.inl (Ne.symm ne6))
  have F680 := F632.other W648 (Or.inl (Ne.symm ne6))
  have F681 := F633.other W648 (Or.inl (Ne.symm ne6))
  have F682 := F634.other W648 (Or.inl (Ne.symm ne6))
  have F683 := F635.other W648 (Or.inl (Ne.symm ne6))
  have F684 := F636.other W648 (Or.inl (Ne.symm ne6))
  have F685 := F637.other W648 (Or.inl (Ne.symm ne79))
  have F686 := F638.other W648 (Or.inl (Ne.symm ne79))
  have F687 := F639.other W648 (Or.inl (Ne.symm ne79))
  have F688 := F640.other W648 (Or.inl (Ne.symm ne92))
  have F689 := F641.other W648 (Or.inl (Ne.symm ne92))
  have F690 := F642.other W648 (Or.inl (Ne.symm ne92))
  have K691 := K643.wr W648 (Or.inl (List.mem_of_getElem? (i := 1) rfl))
  have Z692 := Nat.le_trans Z644 (Keep.of_wr W648).1
  refine Rt.aloadN (pc' := 72) X648 hx (hb hby d9_71) rfl rfl rfl ?_
  refine Rt.getF (pc' := 75) (v := (.ref m3)) X648 hx hZ hown (host := "") (Or.inl (own_g hw 37 rfl)) F654 (hb hby d9_72) rfl ?_
  intro T693 X693
  refine Rt.iload (pc' := 77) X693 hx (hb hby d9_75) rfl rfl ?_
  refine Rt.aload (pc' := 79) X693 hx (hb hby d9_77) rfl rfl rfl ?_
  refine Rt.getFR (pc' := 82) (v := (.ref b12nr1)) X693 hx hZ hown (own_g hw 113 rfl) F681 (hb hby d9_79) rfl ?_
  intro T694 X694
  refine Rt.getFR (pc' := 85) (v := (.int (f9_c41_b12nr1_length0 p4 hm cl0 cl1 ch0))) X694 hx hZ hown (own_g hw 115 rfl) F686 (hb hby d9_82) rfl ?_
  intro T695 X695
  refine Rt.iastore (pc' := 86) X695 hx hZ F660 (i := 1) (by decide) (by decide) (Nat.le_of_ble_eq_true rfl) (w := (.int (f9_c41_b12nr1_length0 p4 hm cl0 cl1 ch0))) rfl g_m3 (hb hby d9_85) rfl ?_
  intro T696 h696 X696 W696 F696
  have F696 : IA Z h696 m3 .int [(.int (f9_c41_b12nr3_length0 p4 hm cl0)), (.int (f9_c41_b12nr1_length0 p4 hm cl0 cl1 ch0)), (.int (0 : Int32)), (.int (0 : Int32))] := F696
  have F697 := F649.wr W696
  have F698 := F650.other W696 (Or.inl ne_a1_m3)
  have F699 := F651.other W696 (Or.inl ne_a1_m3)
  have F700 := F652.other W696 (Or.inl ne_a1_m3)
  have F701 := F653.other W696 (Or.inl ne_a1_m3)
  have F702 := F654.other W696 (Or.inl ne_a1_m3)
  have F703 := F655.other W696 (Or.inl ne_a1_m3)
  have F704 := F656.other W696 (Or.inl ne_a1_m3)
  have F705 := F657.other W696 (Or.inl ne_a1_m3)
  have F706 := F658.other W696 (Or.inl ne_a1_m3)
  have F707 := F659.other W696 ne_m1_m3
  have F708 := F648.other W696 ne_m2_m3
  have F709 := F661.other W696 (Ne.symm ne_m3_m4)
  have F710 := F662.other W696 (Ne.symm ne_m3_m5)
  have F711 := F663.other W696 (Ne.symm ne_m3_m6)
  have F712 := F664.other W696 (Ne.symm ne_m3_m7)
  have F713 := F665.other W696 ne_a2_m3
  have F714 := F666.other W696 ne_a3_m3
  have F715 := F667.wr W696
  have F716 := F668.wr W696
  have F717 := F669.wr W696
  have F718 := F670.wr W696
  have F719 := F671.wr W696
  have F720 := F672.other W696 (Or.inl (Ne.symm ne106))
  have F721 := F673.other W696 (Or.inl (Ne.symm ne106))
  have F722 := F674.other W696 (Or.inl (Ne.symm ne106))
  have F723 := F675.other W696 (Or.inl (Ne.symm ne119))
  have F724 := F676.other W696 (Or.inl (Ne.symm ne119))
  have F725 := F677.other W696 (Or.inl (Ne.symm ne119))
  have F726 := F678.other W696 (Or.inl (Ne.symm ne7))
  have F727 := F679.other W696 (Or.inl (Ne.symm ne7))
  have F728 := F680.other W696 (Or.inl (Ne.symm ne7))
  have F729 := F681.other W696 (Or.inl (Ne.symm ne7))
  have F730 := F682.other W696 (Or.inl (Ne.symm ne7))
  have F731 := F683.other W696 (Or.inl (Ne.symm ne7))
  have F732 := F684.other W696 (Or.inl (Ne.symm ne7))
  have F733 := F685.other W696 (Or.inl (Ne.symm ne80))
  have F734 := F686.other W696 (Or.inl (Ne.symm ne80))
  have F735 := F687.other W696 (Or.inl (Ne.symm ne80))
  have F736 := F688.other W696 (Or.inl (Ne.symm ne93))
  have F737 := F689.other W696 (Or.inl (Ne.symm ne93))
  have F738 := F690.other W696 (Or.inl (Ne.symm ne93))
  have K739 := K691.wr W696 (Or.inl (List.mem_of_getElem? (i := 2) rfl))
  have Z740 := Nat.le_trans Z692 (Keep.of_wr W696).1
  refine Rt.aloadN (pc' := 87) X696 hx (hb hby d9_86) rfl rfl rfl ?_
  refine Rt.getF (pc' := 90) (v := (.ref m4)) X696 hx hZ hown (host := "") (Or.inl (own_g hw 39 rfl)) F703 (hb hby d9_87) rfl ?_
  intro T741 X741
  refine Rt.iload (pc' := 92) X741 hx (hb hby d9_90) rfl rfl ?_
  refine Rt.aload (pc' := 94) X741 hx (hb hby d9_92) rfl rfl rfl ?_
  refine Rt.getFR (pc' := 97) (v := (.ref b12nr1)) X741 hx hZ hown (own_g hw 113 rfl) F729 (hb hby d9_94) rfl ?_
  intro T742 X742
  refine Rt.getFR (pc' := 100) (v := (.int (f9_c41_b12nr1_lows0 p4 hm cl0 cl1 ch0))) X742 hx hZ hown (own_g hw 116 rfl) F735 (hb hby d9_97) rfl ?_
  intro T743 X743
  refine Rt.iastore (pc' := 101) X743 hx hZ F709 (i := 1) (by decide) (by decide) (Nat.le_of_ble_eq_true rfl) (w := (.int (f9_c41_b12nr1_lows0 p4 hm cl0 cl1 ch0))) rfl g_m4 (hb hby d9_100) rfl ?_
  intro T744 h744 X744 W744 F744
  have F744 : IA Z h744 m4 .int [(.int (f9_c41_b12nr3_lows0 p4 hm cl0)), (.int (f9_c41_b12nr1_lows0 p4 hm cl0 cl1 ch0)), (.int (0 : Int32)), (.int (0 : Int32))] := F744
  have F745 := F697.wr W744
  have F746 := F698.other W744 (Or.inl ne_a1_m4)
  have F747 := F699.other W744 (Or.inl ne_a1_m4)
  have F748 := F700.other W744 (Or.inl ne_a1_m4)
  have F749 := F701.other W744 (Or.inl ne_a1_m4)
  have F750 := F702.other W744 (Or.inl ne_a1_m4)
  have F751 := F703.other W744 (Or.inl ne_a1_m4)
  have F752 := F704.other W744 (Or.inl ne_a1_m4)
  have F753 := F705.other W744 (Or.inl ne_a1_m4)
  have F754 := F706.other W744 (Or.inl ne_a1_m4)
  have F755 := F707.other W744 ne_m1_m4
  have F756 := F708.other W744 ne_m2_m4
  have F757 := F696.other W744 ne_m3_m4
  have F758 := F710.other W744 (Ne.symm ne_m4_m5)
  have F759 := F711.other W744 (Ne.symm ne_m4_m6)
  have F760 := F712.other W744 (Ne.symm ne_m4_m7)
  have F761 := F713.other W744 ne_a2_m4
  have F762 := F714.other W744 ne_a3_m4
  have F763 := F715.wr W744
  have F764 := F716.wr W744
  have F765 := F717.wr W744
  have F766 := F718.wr W744
  have F767 := F719.wr W744
  have F768 := F720.other W744 (Or.inl (Ne.symm ne107))
  have F769 := F721.other W744 (Or.inl (Ne.symm ne107))
  have F770 := F722.other W744 (Or.inl (Ne.symm ne107))
  have F771 := F723.other W744 (Or.inl (Ne.symm ne120))
  have F772 := F724.other W744 (Or.inl (Ne.symm ne120))
  have F773 := F725.other W744 (Or.inl (Ne.symm ne120))
  have F774 := F726.other W744 (Or.inl (Ne.symm ne8))
  have F775 := F727.other W744 (Or.inl (Ne.symm ne8))
  have F776 := F728.other W744 (Or.inl (Ne.symm ne8))
  have F777 := F729.other W744 (Or.inl (Ne.symm ne8))
  have F778 := F730.other W744 (Or.inl (Ne.symm ne8))
  have F779 := F731.other W744 (Or.inl (Ne.symm ne8))
  have F780 := F732.other W744 (Or.inl (Ne.symm ne8))
  have F781 := F733.other W744 (Or.inl (Ne.symm ne81))
  have F782 := F734.other W744 (Or.inl (Ne.symm ne81))
  have F783 := F735.other W744 (Or.inl (Ne.symm ne81))
  have F784 := F736.other W744 (Or.inl (Ne.symm ne94))
  have F785 := F737.other W744 (Or.inl (Ne.symm ne94))
  have F786 := F738.other W744 (Or.inl (Ne.symm ne94))
  have K787 := K739.wr W744 (Or.inl (List.mem_of_getElem? (i := 3) rfl))
  have Z788 := Nat.le_trans Z740 (Keep.of_wr W744).1
  refine Rt.aloadN (pc' := 102) X744 hx (hb hby d9_101) rfl rfl rfl ?_
  refine Rt.getF (pc' := 105) (v := (.ref m5)) X744 hx hZ hown (host := "") (Or.inl (own_g hw 41 rfl)) F752 (hb hby d9_102) rfl ?_
  intro T789 X789
  refine Rt.iload (pc' := 107) X789 hx (hb hby d9_105) rfl rfl ?_
  refine Rt.aload (pc' := 109) X789 hx (hb hby d9_107) rfl rfl rfl ?_
  refine Rt.getFR (pc' := 112) (v := (.ref b12nr2)) X789 hx hZ hown (own_g hw 117 rfl) F778 (hb hby d9_109) rfl ?_
  intro T790 X790
  refine Rt.getFR (pc' := 115) (v := (.int (f9_c41_b12nr2_runs0 p4 hm cl0 ch0 ch1))) X790 hx hZ hown (own_g hw 114 rfl) F784 (hb hby d9_112) rfl ?_
  intro T791 X791
  refine Rt.iastore (pc' := 116) X791 hx hZ F758 (i := 1) (by decide) (by decide) (Nat.le_of_ble_eq_true rfl) (w := (.int (f9_c41_b12nr2_runs0 p4 hm cl0 ch0 ch1))) rfl g_m5 (hb hby d9_115) rfl ?_
  intro T792 h792 X792 W792 F792
  have F792 : IA Z h792 m5 .int [(.int (f9_c41_b12nr4_runs0 p4 hm ch0)), (.int (f9_c41_b12nr2_runs0 p4 hm cl0 ch0 ch1)), (.int (0 : Int32)), (.int (0 : Int32))] := F792
  have F793 := F745.wr W792
  have F794 := F746.other W792 (Or.inl ne_a1_m5)
  have F795 := F747.other W792 (Or.inl ne_a1_m5)
  have F796 := F748.other W792 (Or.inl ne_a1_m5)
  have F797 := F749.other W792 (Or.inl ne_a1_m5)
  have F798 := F750.other W792 (Or.inl ne_a1_m5)
  have F799 := F751.other W792 (Or.inl ne_a1_m5)
  have F800 := F752.other W792 (Or.inl ne_a1_m5)
  have F801 := F753.other W792 (Or.inl ne_a1_m5)
  have F802 := F754.other W792 (Or.inl ne_a1_m5)
  have F803 := F755.other W792 ne_m1_m5
  have F804 := F756.other W792 ne_m2_m5
  have F805 := F757.other W792 ne_m3_m5
  have F806 := F744.other W792 ne_m4_m5
  have F807 := F759.other W792 (Ne.symm ne_m5_m6)
  have F808 := F760.other W792 (Ne.symm ne_m5_m7)
  have F809 := F761.other W792 ne_a2_m5
  have F810 := F762.other W792 ne_a3_m5
  have F811 := F763.wr W792
  have F812 := F764.wr W792
  have F813 := F765.wr W792
  have F814 := F766.wr W792
  have F815 := F767.wr W792
  have F816 := F768.other W792 (Or.inl (Ne.symm ne108))
  have F817 := F769.other W792 (Or.inl (Ne.symm ne108))
  have F818 := F770.other W792 (Or.inl (Ne.symm ne108))
  have F819 := F771.other W792 (Or.inl (Ne.symm ne121))
  have F820 := F772.other W792 (Or.inl (Ne.symm ne121))
  have F821 := F773.other W792 (Or.inl (Ne.symm ne121))
  have F822 := F774.other W792 (Or.inl (Ne.symm ne9))
  have F823 := F775.other W792 (Or.inl (Ne.symm ne9))
  have F824 := F776.other W792 (Or.inl (Ne.symm ne9))
  have F825 := F777.other W792 (Or.inl (Ne.symm ne9))
  have F826 := F778.other W792 (Or.inl (Ne.symm ne9))
  have F827 := F779.other W792 (Or.inl (Ne.symm ne9))
  have F828 := F780.other W792 (Or.inl (Ne.symm ne9))
  have F829 := F781.other W792 (Or.inl (Ne.symm ne82))
  have F830 := F782.other W792 (Or.inl (Ne.symm ne82))
  have F831 := F783.other W792 (Or.inl (Ne.symm ne82))
  have F832 := F784.other W792 (Or.inl (Ne.symm ne95))
  have F833 := F785.other W792 (Or.inl (Ne.symm ne95))
  have F834 := F786.other W792 (Or.inl (Ne.symm ne95))
  have K835 := K787.wr W792 (Or.inl (List.mem_of_getElem? (i := 4) rfl))
  have Z836 := Nat.le_trans Z788 (Keep.of_wr W792).1
  refine Rt.aloadN (pc' := 117) X792 hx (hb hby d9_116) rfl rfl rfl ?_
  refine Rt.getF (pc' := 120) (v := (.ref m6)) X792 hx hZ hown (host := "") (Or.inl (own_g hw 43 rfl)) F801 (hb hby d9_117) rfl ?_
  intro T837 X837
  refine Rt.iload (pc' := 122) X837 hx (hb hby d9_120) rfl rfl ?_
  refine Rt.aload (pc' := 124) X837 hx (hb hby d9_122) rfl rfl rfl ?_
  refine Rt.getFR (pc' := 127) (v := (.ref b12nr2)) X837 hx hZ hown (own_g hw 117 rfl) F826 (hb hby d9_124) rfl ?_
  intro T838 X838
  refine Rt.getFR (pc' := 130) (v := (.int (f9_c41_b12nr2_length0 p4 hm cl0 ch0 ch1))) X838 hx hZ hown (own_g hw 115 rfl) F833 (hb hby d9_127) rfl ?_
  intro T839 X839
  refine Rt.iastore (pc' := 131) X839 hx hZ F807 (i := 1) (by decide) (by decide) (Nat.le_of_ble_eq_true rfl) (w := (.int (f9_c41_b12nr2_length0 p4 hm cl0 ch0 ch1))) rfl g_m6 (hb hby d9_130) rfl ?_
  intro T840 h840 X840 W840 F840
  have F840 : IA Z h840 m6 .int [(.int (f9_c41_b12nr4_length0 p4 hm ch0)), (.int (f9_c41_b12nr2_length0 p4 hm cl0 ch0 ch1)), (.int (0 : Int32)), (.int (0 : Int32))] := F840
  have F841 := F793.wr W840
  have F842 := F794.other W840 (Or.inl ne_a1_m6)
  have F843 := F795.other W840 (Or.inl ne_a1_m6)
  have F844 := F796.other W840 (Or.inl ne_a1_m6)
  have F845 := F797.other W840 (Or.inl ne_a1_m6)
  have F846 := F798.other W840 (Or.inl ne_a1_m6)
  have F847 := F799.other W840 (Or.inl ne_a1_m6)
  have F848 := F800.other W840 (Or.inl ne_a1_m6)
  have F849 := F801.other W840 (Or.inl ne_a1_m6)
  have F850 := F802.other W840 (Or.inl ne_a1_m6)
  have F851 := F803.other W840 ne_m1_m6
  have F852 := F804.other W840 ne_m2_m6
  have F853 := F805.other W840 ne_m3_m6
  have F854 := F806.other W840 ne_m4_m6
  have F855 := F792.other W840 ne_m5_m6
  have F856 := F808.other W840 (Ne.symm ne_m6_m7)
  have F857 := F809.other W840 ne_a2_m6
  have F858 := F810.other W840 ne_a3_m6
  have F859 := F811.wr W840
  have F860 := F812.wr W840
  have F861 := F813.wr W840
  have F862 := F814.wr W840
  have F863 := F815.wr W840
  have F864 := F816.other W840 (Or.inl (Ne.symm ne109))
  have F865 := F817.other W840 (Or.inl (Ne.symm ne109))
  have F866 := F818.other W840 (Or.inl (Ne.symm ne109))
  have F867 := F819.other W840 (Or.inl (Ne.symm ne122))
  have F868 := F820.other W840 (Or.inl (Ne.symm ne122))
  have F869 := F821.other W840 (Or.inl (Ne.symm ne122))
  have F870 := F822.other W840 (Or.inl (Ne.symm ne10))
  have F871 := F823.other W840 (Or.inl (Ne.symm ne10))
  have F872 := F824.other W840 (Or.inl (Ne.symm ne10))
  have F873 := F825.other W840 (Or.inl (Ne.symm ne10))
  have F874 := F826.other W840 (Or.inl (Ne.symm ne10))
  have F875 := F827.other W840 (Or.inl (Ne.symm ne10))
  have F876 := F828.other W840 (Or.inl (Ne.symm ne10))
  have F877 := F829.other W840 (Or.inl (Ne.symm ne83))
  have F878 := F830.other W840 (Or.inl (Ne.symm ne83))
  have F879 := F831.other W840 (Or.inl (Ne.symm ne83))
  have F880 := F832.other W840 (Or.inl (Ne.symm ne96))
  have F881 := F833.other W840 (Or.inl (Ne.symm ne96))
  have F882 := F834.other W840 (Or.inl (Ne.symm ne96))
  have K883 := K835.wr W840 (Or.inl (List.mem_of_getElem? (i := 5) rfl))
  have Z884 := Nat.le_trans Z836 (Keep.of_wr W840).1
  refine Rt.aloadN (pc' := 132) X840 hx (hb hby d9_131) rfl rfl rfl ?_
  refine Rt.getF (pc' := 135) (v := (.ref m7)) X840 hx hZ hown (host := "") (Or.inl (own_g hw 45 rfl)) F850 (hb hby d9_132) rfl ?_
  intro T885 X885
  refine Rt.iload (pc' := 137) X885 hx (hb hby d9_135) rfl rfl ?_
  refine Rt.aload (pc' := 139) X885 hx (hb hby d9_137) rfl rfl rfl ?_
  refine Rt.getFR (pc' := 142) (v := (.ref b12nr2)) X885 hx hZ hown (own_g hw 117 rfl) F874 (hb hby d9_139) rfl ?_
  intro T886 X886
  refine Rt.getFR (pc' := 145) (v := (.int (f9_c41_b12nr2_lows0 p4 hm cl0 ch0 ch1))) X886 hx hZ hown (own_g hw 116 rfl) F882 (hb hby d9_142) rfl ?_
  intro T887 X887
  refine Rt.iastore (pc' := 146) X887 hx hZ F856 (i := 1) (by decide) (by decide) (Nat.le_of_ble_eq_true rfl) (w := (.int (f9_c41_b12nr2_lows0 p4 hm cl0 ch0 ch1))) rfl g_m7 (hb hby d9_145) rfl ?_
  intro T888 h888 X888 W888 F888
  have F888 : IA Z h888 m7 .int [(.int (f9_c41_b12nr4_lows0 p4 hm ch0)), (.int (f9_c41_b12nr2_lows0 p4 hm cl0 ch0 ch1)), (.int (0 : Int32)), (.int (0 : Int32))] := F888
  have F889 := F841.wr W888
  have F890 := F842.other W888 (Or.inl ne_a1_m7)
  have F891 := F843.other W888 (Or.inl ne_a1_m7)
  have F892 := F844.other W888 (Or.inl ne_a1_m7)
  have F893 := F845.other W888 (Or.inl ne_a1_m7)
  have F894 := F846.other W888 (Or.inl ne_a1_m7)
  have F895 := F847.other W888 (Or.inl ne_a1_m7)
  have F896 := F848.other W888 (Or.inl ne_a1_m7)
  have F897 := F849.other W888 (Or.inl ne_a1_m7)
  have F898 := F850.other W888 (Or.inl ne_a1_m7)
  have F899 := F851.other W888 ne_m1_m7
  have F900 := F852.other W888 ne_m2_m7
  have F901 := F853.other W888 ne_m3_m7
  have F902 := F854.other W888 ne_m4_m7
  have F903 := F855.other W888 ne_m5_m7
  have F904 := F840.other W888 ne_m6_m7
  have F905 := F857.other W888 ne_a2_m7
  have F906 := F858.other W888 ne_a3_m7
  have F907 := F859.wr W888
  have F908 := F860.wr W888
  have F909 := F861.wr W888
  have F910 := F862.wr W888
  have F911 := F863.wr W888
  have F912 := F864.other W888 (Or.inl (Ne.symm ne110))
  have F913 := F865.other W888 (Or.inl (Ne.symm ne110))
  have F914 := F866.other W888 (Or.inl (Ne.symm ne110))
  have F915 := F867.other W888 (Or.inl (Ne.symm ne123))
  have F916 := F868.other W888 (Or.inl (Ne.symm ne123))
  have F917 := F869.other W888 (Or.inl (Ne.symm ne123))
  have F918 := F870.other W888 (Or.inl (Ne.symm ne11))
  have F919 := F871.other W888 (Or.inl (Ne.symm ne11))
  have F920 := F872.other W888 (Or.inl (Ne.symm ne11))
  have F921 := F873.other W888 (Or.inl (Ne.symm ne11))
  have F922 := F874.other W888 (Or.inl (Ne.symm ne11))
  have F923 := F875.other W888 (Or.inl (Ne.symm ne11))
  have F924 := F876.other W888 (Or.inl (Ne.symm ne11))
  have F925 := F877.other W888 (Or.inl (Ne.symm ne84))
  have F926 := F878.other W888 (Or.inl (Ne.symm ne84))
  have F927 := F879.other W888 (Or.inl (Ne.symm ne84))
  have F928 := F880.other W888 (Or.inl (Ne.symm ne97))
  have F929 := F881.other W888 (Or.inl (Ne.symm ne97))
  have F930 := F882.other W888 (Or.inl (Ne.symm ne97))
  have K931 := K883.wr W888 (Or.inl (List.mem_of_getElem? (i := 6) rfl))
  have Z932 := Nat.le_trans Z884 (Keep.of_wr W888).1
  refine Rt.iinc (pc' := 149) (r := (2 : Int32)) (l' := #[.val (.ref a1), .val (.ref a2), .val (.ref a3), .val (.int p4), .val (.ref b0), .val (.int (2 : Int32))]) X888 hx (hb hby d9_146) rfl (by decide) rfl rfl ?_
  refine Rt.goto (pc' := 20) X888 hx (hb hby d9_149) (by decide) (by decide) ?_
  refine Rt.iload (pc' := 22) X888 hx (hb hby d9_20) rfl rfl ?_
  refine Rt.aloadN (pc' := 23) X888 hx (hb hby d9_22) rfl rfl rfl ?_
  refine Rt.getF (pc' := 26) (v := (.ref m1)) X888 hx hZ hown (host := "") (Or.inl (own_g hw 33 rfl)) F892 (hb hby d9_23) rfl ?_
  intro T933 X933
  refine Rt.arraylength (pc' := 27) X933 hx hZ F899 (v := (4 : Int32)) rfl (hb hby d9_26) rfl ?_
  refine Rt.icmpN (pc' := 30) X933 hx (hb hby d9_27) (tlt (by decide : (2 : Int32) < (4 : Int32))).2.1 rfl ?_
  refine Rt.aload (pc' := 32) X933 hx (hb hby d9_30) rfl rfl rfl ?_
  refine Rt.aloadN (pc' := 33) X933 hx (hb hby d9_32) rfl rfl rfl ?_
  refine Rt.iload (pc' := 35) X933 hx (hb hby d9_33) rfl rfl ?_
  refine Rt.zaload (pc' := 36) X933 hx hZ F905 (i := 2) (by decide) (by decide) (v := (.int cl2)) rfl (hb hby d9_35) rfl ?_
  refine Rt.aloadN (pc' := 37) X933 hx (hb hby d9_36) rfl rfl rfl ?_
  refine Rt.iload (pc' := 39) X933 hx (hb hby d9_37) rfl rfl ?_
  refine Rt.zaload (pc' := 40) X933 hx hZ F906 (i := 2) (by decide) (by decide) (v := (.int ch2)) rfl (hb hby d9_39) rfl ?_
  refine Rt.iloadN (pc' := 41) X933 hx (hb hby d9_40) rfl rfl ?_
  refine Rt.callV (pc' := 44) X933 hx hZ (y := mt8) (yz := mt8) hown (own_g hw 96 rfl) (own_g hw 97 rfl) (notFace_of_selects (args := #[]) (mvT hZ (own_g hw 99 rfl))) (own_g hw 99 rfl) (own_g hw 98 rfl) (own_g hw 59 rfl) (own_g hw 100 rfl) (by decide) F907 (rm13 l Z a0 hw [] b0 cl2 ch2 p4 (5 : Int32) hm (f9_c41_b0_lowOut0_1 p4 hm cl0 cl1 ch0) b12nr1 b12nr2 b12nr3 b12nr4 (f9_c41_b12nr1_runs0 p4 hm cl0 cl1 ch0) (f9_c41_b12nr1_length0 p4 hm cl0 cl1 ch0) (f9_c41_b12nr1_lows0 p4 hm cl0 cl1 ch0) (f9_c41_b12nr2_runs0 p4 hm cl0 ch0 ch1) (f9_c41_b12nr2_length0 p4 hm cl0 ch0 ch1) (f9_c41_b12nr2_lows0 p4 hm cl0 ch0 ch1) (f9_c41_b12nr3_runs0 p4 hm cl0) (f9_c41_b12nr3_length0 p4 hm cl0) (f9_c41_b12nr3_lows0 p4 hm cl0) (f9_c41_b12nr4_runs0 p4 hm ch0) (f9_c41_b12nr4_length0 p4 hm ch0) (f9_c41_b12nr4_lows0 p4 hm ch0) h888 n0 Z932 F907 F918 F919 F920 F921 F922 F923 F924 F908 F925 F926 F927 F909 F928 F929 F930 F910 F912 F913 F914 F911 F915 F916 F917 g2 g101 g114 ne87 ne100 ne113 ne126 ne69 ne70 ne71 ne72 ne73 ne74) (fun _ _ _ q => q.2.1) (W := 0) (by decide) (by decide) (by decide) (by decide) (argsL := [(.int cl2), (.int ch2), (.int p4)]) (rest := []) (by rw [hml]; rfl) (lenOf pd_7 rfl) rfl rfl (Nat.le_of_eq rfl) (hb hby d9_41) rfl ?_
  rintro _ T934 h934 L934 X934 ⟨rfl, N934, K934, F935, F936, F937, F938, F939, F940, F941, F942, F943, F944, F945, F946, F947, F948, F949, F950⟩
  have F951 := F889.keep K934
  have F952 := F890.keep K934 (ninS ne4 (ninS ne103 (ninS ne116 nin0)))
  have F953 := F891.keep K934 (ninS ne4 (ninS ne103 (ninS ne116 nin0)))
  have F954 := F892.keep K934 (ninS ne4 (ninS ne103 (ninS ne116 nin0)))
  have F955 := F893.keep K934 (ninS ne4 (ninS ne103 (ninS ne116 nin0)))
  have F956 := F894.keep K934 (ninS ne4 (ninS ne103 (ninS ne116 nin0)))
  have F957 := F895.keep K934 (ninS ne4 (ninS ne103 (ninS ne116 nin0)))
  have F958 := F896.keep K934 (ninS ne4 (ninS ne103 (ninS ne116 nin0)))
  have F959 := F897.keep K934 (ninS ne4 (ninS ne103 (ninS ne116 nin0)))
  have F960 := F898.keep K934 (ninS ne4 (ninS ne103 (ninS ne116 nin0)))
  have F961 := F899.keep K934 (ninS ne5 (ninS ne104 (ninS ne117 nin0)))
  have F962 := F900.keep K934 (ninS ne6 (ninS ne105 (ninS ne118 nin0)))
  have F963 := F901.keep K934 (ninS ne7 (ninS ne106 (ninS ne119 nin0)))
  have F964 := F902.keep K934 (ninS ne8 (ninS ne107 (ninS ne120 nin0)))
  have F965 := F903.keep K934 (ninS ne9 (ninS ne108 (ninS ne121 nin0)))
  have F966 := F904.keep K934 (ninS ne10 (ninS ne109 (ninS ne122 nin0)))
  have F967 := F888.keep K934 (ninS ne11 (ninS ne110 (ninS ne123 nin0)))
  have F968 := F905.keep K934 (ninS ne12 (ninS ne111 (ninS ne124 nin0)))
  have F969 := F906.keep K934 (ninS ne13 (ninS ne112 (ninS ne125 nin0)))
  have F970 := F907.keep K934
  have F971 := F908.keep K934
  have F972 := F909.keep K934
  have F973 := F910.keep K934
  have F974 := F911.keep K934
  have F975 := F925.keep K934 (ninS (Ne.symm ne87) (ninS ne70 (ninS ne71 nin0)))
  have F976 := F926.keep K934 (ninS (Ne.symm ne87) (ninS ne70 (ninS ne71 nin0)))
  have F977 := F927.keep K934 (ninS (Ne.symm ne87) (ninS ne70 (ninS ne71 nin0)))
  have F978 := F928.keep K934 (ninS (Ne.symm ne100) (ninS ne72 (ninS ne73 nin0)))
  have F979 := F929.keep K934 (ninS (Ne.symm ne100) (ninS ne72 (ninS ne73 nin0)))
  have F980 := F930.keep K934 (ninS (Ne.symm ne100) (ninS ne72 (ninS ne73 nin0)))
  have K981 := K931.trans K934 (allS (Or.inr s3) (allS (Or.inr s102) (allS (Or.inr s115) all0)))
  have Z982 := Nat.le_trans Z932 K934.1
  have F983 : Fld Z h934 b0 nm2 "lowOut" "I" (.int (f9_c41_b0_lowOut0_2 p4 hm cl0 cl1 cl2 ch0 ch1)) := F938
  have F984 : Fld Z h934 b12nr3 nm1 "runs" "I" (.int (f9_c41_b12nr3_runs0_1 p4 hm cl0 cl1 cl2 ch0 ch1)) := F945
  have F985 : Fld Z h934 b12nr3 nm1 "length" "I" (.int (f9_c41_b12nr3_length0_1 p4 hm cl0 cl1 cl2 ch0 ch1)) := F946
  have F986 : Fld Z h934 b12nr3 nm1 "lows" "I" (.int (f9_c41_b12nr3_lows0_1 p4 hm cl0 cl1 cl2 ch0 ch1)) := F947
  have F987 : Fld Z h934 b12nr4 nm1 "runs" "I" (.int (f9_c41_b12nr4_runs0_1 p4 hm cl0 cl1 ch0 ch1 ch2)) := F948
  have F988 : Fld Z h934 b12nr4 nm1 "length" "I" (.int (f9_c41_b12nr4_length0_1 p4 hm cl0 cl1 ch0 ch1 ch2)) := F949
  have F989 : Fld Z h934 b12nr4 nm1 "lows" "I" (.int (f9_c41_b12nr4_lows0_1 p4 hm cl0 cl1 ch0 ch1 ch2)) := F950
  show Rt _ _ _ _ _ _ _ (T934.setTop (mkF m 44 #[.val (.ref a1), .val (.ref a2), .val (.ref a3), .val (.int p4), .val (.ref b0), .val (.int (2 : Int32))] []))
  refine Rt.aloadN (pc' := 45) X934 hx (hb hby d9_44) rfl rfl rfl ?_
  refine Rt.getF (pc' := 48) (v := (.ref m1)) X934 hx hZ hown (host := "") (Or.inl (own_g hw 33 rfl)) F954 (hb hby d9_45) rfl ?_
  intro T990 X990
  refine Rt.iload (pc' := 50) X990 hx (hb hby d9_48) rfl rfl ?_
  refine Rt.aload (pc' := 52) X990 hx (hb hby d9_50) rfl rfl rfl ?_
  refine Rt.getFR (pc' := 55) (v := (.int (f9_c41_b0_lowOut0_2 p4 hm cl0 cl1 cl2 ch0 ch1))) X990 hx hZ hown (own_g hw 112 rfl) F983 (hb hby d9_52) rfl ?_
  intro T991 X991
  refine Rt.iastore (pc' := 56) X991 hx hZ F961 (i := 2) (by decide) (by decide) (Nat.le_of_ble_eq_true rfl) (w := (.int (f9_c41_b0_lowOut0_2 p4 hm cl0 cl1 cl2 ch0 ch1))) rfl g_m1 (hb hby d9_55) rfl ?_
  intro T992 h992 X992 W992 F992
  have F992 : IA Z h992 m1 .int [(.int (f9_c41_b0_lowOut0 cl0)), (.int (f9_c41_b0_lowOut0_1 p4 hm cl0 cl1 ch0)), (.int (f9_c41_b0_lowOut0_2 p4 hm cl0 cl1 cl2 ch0 ch1)), (.int (0 : Int32))] := F992
  have F993 := F951.wr W992
  have F994 := F952.other W992 (Or.inl ne_a1_m1)
  have F995 := F953.other W992 (Or.inl ne_a1_m1)
  have F996 := F954.other W992 (Or.inl ne_a1_m1)
  have F997 := F955.other W992 (Or.inl ne_a1_m1)
  have F998 := F956.other W992 (Or.inl ne_a1_m1)
  have F999 := F957.other W992 (Or.inl ne_a1_m1)
  have F1000 := F958.other W992 (Or.inl ne_a1_m1)
  have F1001 := F959.other W992 (Or.inl ne_a1_m1)
  have F1002 := F960.other W992 (Or.inl ne_a1_m1)
  have F1003 := F962.other W992 (Ne.symm ne_m1_m2)
  have F1004 := F963.other W992 (Ne.symm ne_m1_m3)
  have F1005 := F964.other W992 (Ne.symm ne_m1_m4)
  have F1006 := F965.other W992 (Ne.symm ne_m1_m5)
  have F1007 := F966.other W992 (Ne.symm ne_m1_m6)
  have F1008 := F967.other W992 (Ne.symm ne_m1_m7)
  have F1009 := F968.other W992 ne_a2_m1
  have F1010 := F969.other W992 ne_a3_m1
  have F1011 := F935.wr W992
  have F1012 := F971.wr W992
  have F1013 := F972.wr W992
  have F1014 := F943.wr W992
  have F1015 := F944.wr W992
  have F1016 := F975.other W992 (Or.inl (Ne.symm ne78))
  have F1017 := F976.other W992 (Or.inl (Ne.symm ne78))
  have F1018 := F977.other W992 (Or.inl (Ne.symm ne78))
  have F1019 := F978.other W992 (Or.inl (Ne.symm ne91))
  have F1020 := F979.other W992 (Or.inl (Ne.symm ne91))
  have F1021 := F980.other W992 (Or.inl (Ne.symm ne91))
  have F1022 := F936.other W992 (Or.inl (Ne.symm ne5))
  have F1023 := F937.other W992 (Or.inl (Ne.symm ne5))
  have F1024 := F983.other W992 (Or.inl (Ne.symm ne5))
  have F1025 := F939.other W992 (Or.inl (Ne.symm ne5))
  have F1026 := F940.other W992 (Or.inl (Ne.symm ne5))
  have F1027 := F941.other W992 (Or.inl (Ne.symm ne5))
  have F1028 := F942.other W992 (Or.inl (Ne.symm ne5))
  have F1029 := F984.other W992 (Or.inl (Ne.symm ne104))
  have F1030 := F985.other W992 (Or.inl (Ne.symm ne104))
  have F1031 := F986.other W992 (Or.inl (Ne.symm ne104))
  have F1032 := F987.other W992 (Or.inl (Ne.symm ne117))
  have F1033 := F988.other W992 (Or.inl (Ne.symm ne117))
  have F1034 := F989.other W992 (Or.inl (Ne.symm ne117))
  have K1035 := K981.wr W992 (Or.inl (List.mem_of_getElem? (i := 0) rfl))
  have Z1036 := Nat.le_trans Z982 (Keep.of_wr W992).1
  refine Rt.aloadN (pc' := 57) X992 hx (hb hby d9_56) rfl rfl rfl ?_
  refine Rt.getF (pc' := 60) (v := (.ref m2)) X992 hx hZ hown (host := "") (Or.inl (own_g hw 35 rfl)) F997 (hb hby d9_57) rfl ?_
  intro T1037 X1037
  refine Rt.iload (pc' := 62) X1037 hx (hb hby d9_60) rfl rfl ?_
  refine Rt.aload (pc' := 64) X1037 hx (hb hby d9_62) rfl rfl rfl ?_
  refine Rt.getFR (pc' := 67) (v := (.ref b12nr3)) X1037 hx hZ hown (own_g hw 113 rfl) F1025 (hb hby d9_64) rfl ?_
  intro T1038 X1038
  refine Rt.getFR (pc' := 70) (v := (.int (f9_c41_b12nr3_runs0_1 p4 hm cl0 cl1 cl2 ch0 ch1))) X1038 hx hZ hown (own_g hw 114 rfl) F1029 (hb hby d9_67) rfl ?_
  intro T1039 X1039
  refine Rt.iastore (pc' := 71) X1039 hx hZ F1003 (i := 2) (by decide) (by decide) (Nat.le_of_ble_eq_true rfl) (w := (.int (f9_c41_b12nr3_runs0_1 p4 hm cl0 cl1 cl2 ch0 ch1))) rfl g_m2 (hb hby d9_70) rfl ?_
  intro T1040 h1040 X1040 W1040 F1040
  have F1040 : IA Z h1040 m2 .int [(.int (f9_c41_b12nr3_runs0 p4 hm cl0)), (.int (f9_c41_b12nr1_runs0 p4 hm cl0 cl1 ch0)), (.int (f9_c41_b12nr3_runs0_1 p4 hm cl0 cl1 cl2 ch0 ch1)), (.int (0 : Int32))] := F1040
  have F1041 := F993.wr W1040
  have F1042 := F994.other W1040 (Or.inl ne_a1_m2)
  have F1043 := F995.other W1040 (Or.inl ne_a1_m2)
  have F1044 := F996.other W1040 (Or.inl ne_a1_m2)
  have F1045 := F997.other W1040 (Or.inl ne_a1_m2)
  have F1046 := F998.other W1040 (Or.inl ne_a1_m2)
  have F1047 := F999.other W1040 (Or.inl ne_a1_m2)
  have F1048 := F1000.other W1040 (Or.inl ne_a1_m2)
  have F1049 := F1001.other W1040 (Or.inl ne_a1_m2)
  have F1050 := F1002.other W1040 (Or.inl ne_a1_m2)
  have F1051 := F992.other W1040 ne_m1_m2
  have F1052 := F1004.other W1040 (Ne.symm ne_m2_m3)
  have F1053 := F1005.other W1040 (Ne.symm ne_m2_m4)
  have F1054 := F1006.other W1040 (Ne.symm ne_m2_m5)
  have F1055 := F1007.other W1040 (Ne.symm ne_m2_m6)
  have F1056 := F1008.other W1040 (Ne.symm ne_m2_m7)
  have F1057 := F1009.other W1040 ne_a2_m2
  have F1058 := F1010.other W1040 ne_a3_m2
  have F1059 := F1011.wr W1040
  have F1060 := F1012.wr W1040
  have F1061 := F1013.wr W1040
  have F1062 := F1014.wr W1040
  have F1063 := F1015.wr W1040
  have F1064 := F1016.other W1040 (Or.inl (Ne.symm ne79))
  have F1065 := F1017.other W1040 (Or.inl (Ne.symm ne79))
  have F1066 := F1018.other W1040 (Or.inl (Ne.symm ne79))
  have F1067 := F1019.other W1040 (Or.inl (Ne.symm ne92))
  have F1068 := F1020.other W1040 (Or.inl (Ne.symm ne92))
  have F1069 := F1021.other W1040 (Or.inl (Ne.symm ne92))
  have F1070 := F1022.other W1040 (Or.inl (Ne.symm ne6))
  have F1071 := F1023.other W1040 (Or.inl (Ne.symm ne6))
  have F1072 := F1024.other W1040 (Or.inl (Ne.symm ne6))
  have F1073 := F1025.other W1040 (Or.inl (Ne.symm ne6))
  have F1074 := F1026.other W1040 (Or.inl (Ne.symm ne6))
  have F1075 := F1027.other W1040 (Or.inl (Ne.symm ne6))
  have F1076 := F1028.other W1040 (Or.inl (Ne.symm ne6))
  have F1077 := F1029.other W1040 (Or.inl (Ne.symm ne105))
  have F1078 := F1030.other W1040 (Or.inl (Ne.symm ne105))
  have F1079 := F1031.other W1040 (Or.inl (Ne.symm ne105))
  have F1080 := F1032.other W1040 (Or.inl (Ne.symm ne118))
  have F1081 := F1033.other W1040 (Or.inl (Ne.symm ne118))
  have F1082 := F1034.other W1040 (Or.inl (Ne.symm ne118))
  have K1083 := K1035.wr W1040 (Or.inl (List.mem_of_getElem? (i := 1) rfl))
  have Z1084 := Nat.le_trans Z1036 (Keep.of_wr W1040).1
  refine Rt.aloadN (pc' := 72) X1040 hx (hb hby d9_71) rfl rfl rfl ?_
  refine Rt.getF (pc' := 75) (v := (.ref m3)) X1040 hx hZ hown (host := "") (Or.inl (own_g hw 37 rfl)) F1046 (hb hby d9_72) rfl ?_
  intro T1085 X1085
  refine Rt.iload (pc' := 77) X1085 hx (hb hby d9_75) rfl rfl ?_
  refine Rt.aload (pc' := 79) X1085 hx (hb hby d9_77) rfl rfl rfl ?_
  refine Rt.getFR (pc' := 82) (v := (.ref b12nr3)) X1085 hx hZ hown (own_g hw 113 rfl) F1073 (hb hby d9_79) rfl ?_
  intro T1086 X1086
  refine Rt.getFR (pc' := 85) (v := (.int (f9_c41_b12nr3_length0_1 p4 hm cl0 cl1 cl2 ch0 ch1))) X1086 hx hZ hown (own_g hw 115 rfl) F1078 (hb hby d9_82) rfl ?_
  intro T1087 X1087
  refine Rt.iastore (pc' := 86) X1087 hx hZ F1052 (i := 2) (by decide) (by decide) (Nat.le_of_ble_eq_true rfl) (w := (.int (f9_c41_b12nr3_length0_1 p4 hm cl0 cl1 cl2 ch0 ch1))) rfl g_m3 (hb hby d9_85) rfl ?_
  intro T1088 h1088 X1088 W1088 F1088
  have F1088 : IA Z h1088 m3 .int [(.int (f9_c41_b12nr3_length0 p4 hm cl0)), (.int (f9_c41_b12nr1_length0 p4 hm cl0 cl1 ch0)), (.int (f9_c41_b12nr3_length0_1 p4 hm cl0 cl1 cl2 ch0 ch1)), (.int (0 : Int32))] := F1088
  have F1089 := F1041.wr W1088
  have F1090 := F1042.other W1088 (Or.inl ne_a1_m3)
  have F1091 := F1043.other W1088 (Or.inl ne_a1_m3)
  have F1092 := F1044.other W1088 (Or.inl ne_a1_m3)
  have F1093 := F1045.other W1088 (Or.inl ne_a1_m3)
  have F1094 := F1046.other W1088 (Or.inl ne_a1_m3)
  have F1095 := F1047.other W1088 (Or.inl ne_a1_m3)
  have F1096 := F1048.other W1088 (Or.inl ne_a1_m3)
  have F1097 := F1049.other W1088 (Or.inl ne_a1_m3)
  have F1098 := F1050.other W1088 (Or.inl ne_a1_m3)
  have F1099 := F1051.other W1088 ne_m1_m3
  have F1100 := F1040.other W1088 ne_m2_m3
  have F1101 := F1053.other W1088 (Ne.symm ne_m3_m4)
  have F1102 := F1054.other W1088 (Ne.symm ne_m3_m5)
  have F1103 := F1055.other W1088 (Ne.symm ne_m3_m6)
  have F1104 := F1056.other W1088 (Ne.symm ne_m3_m7)
  have F1105 := F1057.other W1088 ne_a2_m3
  have F1106 := F1058.other W1088 ne_a3_m3
  have F1107 := F1059.wr W1088
  have F1108 := F1060.wr W1088
  have F1109 := F1061.wr W1088
  have F1110 := F1062.wr W1088
  have F1111 := F1063.wr W1088
  have F1112 := F1064.other W1088 (Or.inl (Ne.symm ne80))
  have F1113 := F1065.other W1088 (Or.inl (Ne.symm ne80))
  have F1114 := F1066.other W1088 (Or.inl (Ne.symm ne80))
  have F1115 := F1067.other W1088 (Or.inl (Ne.symm ne93))
  have F1116 := F1068.other W1088 (Or.inl (Ne.symm ne93))
  have F1117 := F1069.other W1088 (Or.inl (Ne.symm ne93))
  have F1118 := F1070.other W1088 (Or.inl (Ne.symm ne7))
  have F1119 := F1071.other W1088 (Or.inl (Ne.symm ne7))
  have F1120 := F1072.other W1088 (Or.inl (Ne.symm ne7))
  have F1121 := F1073.other W1088 (Or.inl (Ne.symm ne7))
  have F1122 := F1074.other W1088 (Or.inl (Ne.symm ne7))
  have F1123 := F1075.other W1088 (Or.inl (Ne.symm ne7))
  have F1124 := F1076.other W1088 (Or.inl (Ne.symm ne7))
  have F1125 := F1077.other W1088 (Or.inl (Ne.symm ne106))
  have F1126 := F1078.other W1088 (Or.inl (Ne.symm ne106))
  have F1127 := F1079.other W1088 (Or.inl (Ne.symm ne106))
  have F1128 := F1080.other W1088 (Or.inl (Ne.symm ne119))
  have F1129 := F1081.other W1088 (Or.inl (Ne.symm ne119))
  have F1130 := F1082.other W1088 (Or.inl (Ne.symm ne119))
  have K1131 := K1083.wr W1088 (Or.inl (List.mem_of_getElem? (i := 2) rfl))
  have Z1132 := Nat.le_trans Z1084 (Keep.of_wr W1088).1
  refine Rt.aloadN (pc' := 87) X1088 hx (hb hby d9_86) rfl rfl rfl ?_
  refine Rt.getF (pc' := 90) (v := (.ref m4)) X1088 hx hZ hown (host := "") (Or.inl (own_g hw 39 rfl)) F1095 (hb hby d9_87) rfl ?_
  intro T1133 X1133
  refine Rt.iload (pc' := 92) X1133 hx (hb hby d9_90) rfl rfl ?_
  refine Rt.aload (pc' := 94) X1133 hx (hb hby d9_92) rfl rfl rfl ?_
  refine Rt.getFR (pc' := 97) (v := (.ref b12nr3)) X1133 hx hZ hown (own_g hw 113 rfl) F1121 (hb hby d9_94) rfl ?_
  intro T1134 X1134
  refine Rt.getFR (pc' := 100) (v := (.int (f9_c41_b12nr3_lows0_1 p4 hm cl0 cl1 cl2 ch0 ch1))) X1134 hx hZ hown (own_g hw 116 rfl) F1127 (hb hby d9_97) rfl ?_
  intro T1135 X1135
  refine Rt.iastore (pc' := 101) X1135 hx hZ F1101 (i := 2) (by decide) (by decide) (Nat.le_of_ble_eq_true rfl) (w := (.int (f9_c41_b12nr3_lows0_1 p4 hm cl0 cl1 cl2 ch0 ch1))) rfl g_m4 (hb hby d9_100) rfl ?_
  intro T1136 h1136 X1136 W1136 F1136
  have F1136 : IA Z h1136 m4 .int [(.int (f9_c41_b12nr3_lows0 p4 hm cl0)), (.int (f9_c41_b12nr1_lows0 p4 hm cl0 cl1 ch0)), (.int (f9_c41_b12nr3_lows0_1 p4 hm cl0 cl1 cl2 ch0 ch1)), (.int (0 : Int32))] := F1136
  have F1137 := F1089.wr W1136
  have F1138 := F1090.other W1136 (Or.inl ne_a1_m4)
  have F1139 := F1091.other W1136 (Or.inl ne_a1_m4)
  have F1140 := F1092.other W1136 (Or.inl ne_a1_m4)
  have F1141 := F1093.other W1136 (Or.inl ne_a1_m4)
  have F1142 := F1094.other W1136 (Or.inl ne_a1_m4)
  have F1143 := F1095.other W1136 (Or.inl ne_a1_m4)
  have F1144 := F1096.other W1136 (Or.inl ne_a1_m4)
  have F1145 := F1097.other W1136 (Or.inl ne_a1_m4)
  have F1146 := F1098.other W1136 (Or.inl ne_a1_m4)
  have F1147 := F1099.other W1136 ne_m1_m4
  have F1148 := F1100.other W1136 ne_m2_m4
  have F1149 := F1088.other W1136 ne_m3_m4
  have F1150 := F1102.other W1136 (Ne.symm ne_m4_m5)
  have F1151 := F1103.other W1136 (Ne.symm ne_m4_m6)
  have F1152 := F1104.other W1136 (Ne.symm ne_m4_m7)
  have F1153 := F1105.other W1136 ne_a2_m4
  have F1154 := F1106.other W1136 ne_a3_m4
  have F1155 := F1107.wr W1136
  have F1156 := F1108.wr W1136
  have F1157 := F1109.wr W1136
  have F1158 := F1110.wr W1136
  have F1159 := F1111.wr W1136
  have F1160 := F1112.other W1136 (Or.inl (Ne.symm ne81))
  have F1161 := F1113.other W1136 (Or.inl (Ne.symm ne81))
  have F1162 := F1114.other W1136 (Or.inl (Ne.symm ne81))
  have F1163 := F1115.other W1136 (Or.inl (Ne.symm ne94))
  have F1164 := F1116.other W1136 (Or.inl (Ne.symm ne94))
  have F1165 := F1117.other W1136 (Or.inl (Ne.symm ne94))
  have F1166 := F1118.other W1136 (Or.inl (Ne.symm ne8))
  have F1167 := F1119.other W1136 (Or.inl (Ne.symm ne8))
  have F1168 := F1120.other W1136 (Or.inl (Ne.symm ne8))
  have F1169 := F1121.other W1136 (Or.inl (Ne.symm ne8))
  have F1170 := F1122.other W1136 (Or.inl (Ne.symm ne8))
  have F1171 := F1123.other W1136 (Or.inl (Ne.symm ne8))
  have F1172 := F1124.other W1136 (Or.inl (Ne.symm ne8))
  have F1173 := F1125.other W1136 (Or.inl (Ne.symm ne107))
  have F1174 := F1126.other W1136 (Or.inl (Ne.symm ne107))
  have F1175 := F1127.other W1136 (Or.inl (Ne.symm ne107))
  have F1176 := F1128.other W1136 (Or.inl (Ne.symm ne120))
  have F1177 := F1129.other W1136 (Or.inl (Ne.symm ne120))
  have F1178 := F1130.other W1136 (Or.inl (Ne.symm ne120))
  have K1179 := K1131.wr W1136 (Or.inl (List.mem_of_getElem? (i := 3) rfl))
  have Z1180 := Nat.le_trans Z1132 (Keep.of_wr W1136).1
  refine Rt.aloadN (pc' := 102) X1136 hx (hb hby d9_101) rfl rfl rfl ?_
  refine Rt.getF (pc' := 105) (v := (.ref m5)) X1136 hx hZ hown (host := "") (Or.inl (own_g hw 41 rfl)) F1144 (hb hby d9_102) rfl ?_
  intro T1181 X1181
  refine Rt.iload (pc' := 107) X1181 hx (hb hby d9_105) rfl rfl ?_
  refine Rt.aload (pc' := 109) X1181 hx (hb hby d9_107) rfl rfl rfl ?_
  refine Rt.getFR (pc' := 112) (v := (.ref b12nr4)) X1181 hx hZ hown (own_g hw 117 rfl) F1170 (hb hby d9_109) rfl ?_
  intro T1182 X1182
  refine Rt.getFR (pc' := 115) (v := (.int (f9_c41_b12nr4_runs0_1 p4 hm cl0 cl1 ch0 ch1 ch2))) X1182 hx hZ hown (own_g hw 114 rfl) F1176 (hb hby d9_112) rfl ?_
  intro T1183 X1183
  refine Rt.iastore (pc' := 116) X1183 hx hZ F1150 (i := 2) (by decide) (by decide) (Nat.le_of_ble_eq_true rfl) (w := (.int (f9_c41_b12nr4_runs0_1 p4 hm cl0 cl1 ch0 ch1 ch2))) rfl g_m5 (hb hby d9_115) rfl ?_
  intro T1184 h1184 X1184 W1184 F1184
  have F1184 : IA Z h1184 m5 .int [(.int (f9_c41_b12nr4_runs0 p4 hm ch0)), (.int (f9_c41_b12nr2_runs0 p4 hm cl0 ch0 ch1)), (.int (f9_c41_b12nr4_runs0_1 p4 hm cl0 cl1 ch0 ch1 ch2)), (.int (0 : Int32))] := F1184
  have F1185 := F1137.wr W1184
  have F1186 := F1138.other W1184 (Or.inl ne_a1_m5)
  have F1187 := F1139.other W1184 (Or.inl ne_a1_m5)
  have F1188 := F1140.other W1184 (Or.inl ne_a1_m5)
  have F1189 := F1141.other W1184 (Or.inl ne_a1_m5)
  have F1190 := F1142.other W1184 (Or.inl ne_a1_m5)
  have F1191 := F1143.other W1184 (Or.inl ne_a1_m5)
  have F1192 := F1144.other W1184 (Or.inl ne_a1_m5)
  have F1193 := F1145.other W1184 (Or.inl ne_a1_m5)
  have F1194 := F1146.other W1184 (Or.inl ne_a1_m5)
  have F1195 := F1147.other W1184 ne_m1_m5
  have F1196 := F1148.other W1184 ne_m2_m5
  have F1197 := F1149.other W1184 ne_m3_m5
  have F1198 := F1136.other W1184 ne_m4_m5
  have F1199 := F1151.other W1184 (Ne.symm ne_m5_m6)
  have F1200 := F1152.other W1184 (Ne.symm ne_m5_m7)
  have F1201 := F1153.other W1184 ne_a2_m5
  have F1202 := F1154.other W1184 ne_a3_m5
  have F1203 := F1155.wr W1184
  have F1204 := F1156.wr W1184
  have F1205 := F1157.wr W1184
  have F1206 := F1158.wr W1184
  have F1207 := F1159.wr W1184
  have F1208 := F1160.other W1184 (Or.inl (Ne.symm ne82))
  have F1209 := F1161.other W1184 (Or.inl (Ne.symm ne82))
  have F1210 := F1162.other W1184 (Or.inl (Ne.symm ne82))
  have F1211 := F1163.other W1184 (Or.inl (Ne.symm ne95))
  have F1212 := F1164.other W1184 (Or.inl (Ne.symm ne95))
  have F1213 := F1165.other W1184 (Or.inl (Ne.symm ne95))
  have F1214 := F1166.other W1184 (Or.inl (Ne.symm ne9))
  have F1215 := F1167.other W1184 (Or.inl (Ne.symm ne9))
  have F1216 := F1168.other W1184 (Or.inl (Ne.symm ne9))
  have F1217 := F1169.other W1184 (Or.inl (Ne.symm ne9))
  have F1218 := F1170.other W1184 (Or.inl (Ne.symm ne9))
  have F1219 := F1171.other W1184 (Or.inl (Ne.symm ne9))
  have F1220 := F1172.other W1184 (Or.inl (Ne.symm ne9))
  have F1221 := F1173.other W1184 (Or.inl (Ne.symm ne108))
  have F1222 := F1174.other W1184 (Or.inl (Ne.symm ne108))
  have F1223 := F1175.other W1184 (Or.inl (Ne.symm ne108))
  have F1224 := F1176.other W1184 (Or.inl (Ne.symm ne121))
  have F1225 := F1177.other W1184 (Or.inl (Ne.symm ne121))
  have F1226 := F1178.other W1184 (Or.inl (Ne.symm ne121))
  have K1227 := K1179.wr W1184 (Or.inl (List.mem_of_getElem? (i := 4) rfl))
  have Z1228 := Nat.le_trans Z1180 (Keep.of_wr W1184).1
  refine Rt.aloadN (pc' := 117) X1184 hx (hb hby d9_116) rfl rfl rfl ?_
  refine Rt.getF (pc' := 120) (v := (.ref m6)) X1184 hx hZ hown (host := "") (Or.inl (own_g hw 43 rfl)) F1193 (hb hby d9_117) rfl ?_
  intro T1229 X1229
  refine Rt.iload (pc' := 122) X1229 hx (hb hby d9_120) rfl rfl ?_
  refine Rt.aload (pc' := 124) X1229 hx (hb hby d9_122) rfl rfl rfl ?_
  refine Rt.getFR (pc' := 127) (v := (.ref b12nr4)) X1229 hx hZ hown (own_g hw 117 rfl) F1218 (hb hby d9_124) rfl ?_
  intro T1230 X1230
  refine Rt.getFR (pc' := 130) (v := (.int (f9_c41_b12nr4_length0_1 p4 hm cl0 cl1 ch0 ch1 ch2))) X1230 hx hZ hown (own_g hw 115 rfl) F1225 (hb hby d9_127) rfl ?_
  intro T1231 X1231
  refine Rt.iastore (pc' := 131) X1231 hx hZ F1199 (i := 2) (by decide) (by decide) (Nat.le_of_ble_eq_true rfl) (w := (.int (f9_c41_b12nr4_length0_1 p4 hm cl0 cl1 ch0 ch1 ch2))) rfl g_m6 (hb hby d9_130) rfl ?_
  intro T1232 h1232 X1232 W1232 F1232
  have F1232 : IA Z h1232 m6 .int [(.int (f9_c41_b12nr4_length0 p4 hm ch0)), (.int (f9_c41_b12nr2_length0 p4 hm cl0 ch0 ch1)), (.int (f9_c41_b12nr4_length0_1 p4 hm cl0 cl1 ch0 ch1 ch2)), (.int (0 : Int32))] := F1232
  have F1233 := F1185.wr W1232
  have F1234 := F1186.other W1232 (Or.inl ne_a1_m6)
  have F1235 := F1187.other W1232 (Or.inl ne_a1_m6)
  have F1236 := F1188.other W1232 (Or.inl ne_a1_m6)
  have F1237 := F1189.other W1232 (Or.inl ne_a1_m6)
  have F1238 := F1190.other W1232 (Or.inl ne_a1_m6)
  have F1239 := F1191.other W1232 (Or.inl ne_a1_m6)
  have F1240 := F1192.other W1232 (Or.inl ne_a1_m6)
  have F1241 := F1193.other W1232 (Or.inl ne_a1_m6)
  have F1242 := F1194.other W1232 (Or.inl ne_a1_m6)
  have F1243 := F1195.other W1232 ne_m1_m6
  have F1244 := F1196.other W1232 ne_m2_m6
  have F1245 := F1197.other W1232 ne_m3_m6
  have F1246 := F1198.other W1232 ne_m4_m6
  have F1247 := F1184.other W1232 ne_m5_m6
  have F1248 := F1200.other W1232 (Ne.symm ne_m6_m7)
  have F1249 := F1201.other W1232 ne_a2_m6
  have F1250 := F1202.other W1232 ne_a3_m6
  have F1251 := F1203.wr W1232
  have F1252 := F1204.wr W1232
  have F1253 := F1205.wr W1232
  have F1254 := F1206.wr W1232
  have F1255 := F1207.wr W1232
  have F1256 := F1208.other W1232 (Or.inl (Ne.symm ne83))
  have F1257 := F1209.other W1232 (Or.inl (Ne.symm ne83))
  have F1258 := F1210.other W1232 (Or.inl (Ne.symm ne83))
  have F1259 := F1211.other W1232 (Or.inl (Ne.symm ne96))
  have F1260 := F1212.other W1232 (Or.inl (Ne.symm ne96))
  have F1261 := F1213.other W1232 (Or.inl (Ne.symm ne96))
  have F1262 := F1214.other W1232 (Or.inl (Ne.symm ne10))
  have F1263 := F1215.other W1232 (Or.inl (Ne.symm ne10))
  have F1264 := F1216.other W1232 (Or.inl (Ne.symm ne10))
  have F1265 := F1217.other W1232 (Or.inl (Ne.symm ne10))
  have F1266 := F1218.other W1232 (Or.inl (Ne.symm ne10))
  have F1267 := F1219.other W1232 (Or.inl (Ne.symm ne10))
  have F1268 := F1220.other W1232 (Or.inl (Ne.symm ne10))
  have F1269 := F1221.other W1232 (Or.inl (Ne.symm ne109))
  have F1270 := F1222.other W1232 (Or.inl (Ne.symm ne109))
  have F1271 := F1223.other W1232 (Or.inl (Ne.symm ne109))
  have F1272 := F1224.other W1232 (Or.inl (Ne.symm ne122))
  have F1273 := F1225.other W1232 (Or.inl (Ne.symm ne122))
  have F1274 := F1226.other W1232 (Or.inl (Ne.symm ne122))
  have K1275 := K1227.wr W1232 (Or.inl (List.mem_of_getElem? (i := 5) rfl))
  have Z1276 := Nat.le_trans Z1228 (Keep.of_wr W1232).1
  refine Rt.aloadN (pc' := 132) X1232 hx (hb hby d9_131) rfl rfl rfl ?_
  refine Rt.getF (pc' := 135) (v := (.ref m7)) X1232 hx hZ hown (host := "") (Or.inl (own_g hw 45 rfl)) F1242 (hb hby d9_132) rfl ?_
  intro T1277 X1277
  refine Rt.iload (pc' := 137) X1277 hx (hb hby d9_135) rfl rfl ?_
  refine Rt.aload (pc' := 139) X1277 hx (hb hby d9_137) rfl rfl rfl ?_
  refine Rt.getFR (pc' := 142) (v := (.ref b12nr4)) X1277 hx hZ hown (own_g hw 117 rfl) F1266 (hb hby d9_139) rfl ?_
  intro T1278 X1278
  refine Rt.getFR (pc' := 145) (v := (.int (f9_c41_b12nr4_lows0_1 p4 hm cl0 cl1 ch0 ch1 ch2))) X1278 hx hZ hown (own_g hw 116 rfl) F1274 (hb hby d9_142) rfl ?_
  intro T1279 X1279
  refine Rt.iastore (pc' := 146) X1279 hx hZ F1248 (i := 2) (by decide) (by decide) (Nat.le_of_ble_eq_true rfl) (w := (.int (f9_c41_b12nr4_lows0_1 p4 hm cl0 cl1 ch0 ch1 ch2))) rfl g_m7 (hb hby d9_145) rfl ?_
  intro T1280 h1280 X1280 W1280 F1280
  have F1280 : IA Z h1280 m7 .int [(.int (f9_c41_b12nr4_lows0 p4 hm ch0)), (.int (f9_c41_b12nr2_lows0 p4 hm cl0 ch0 ch1)), (.int (f9_c41_b12nr4_lows0_1 p4 hm cl0 cl1 ch0 ch1 ch2)), (.int (0 : Int32))] := F1280
  have F1281 := F1233.wr W1280
  have F1282 := F1234.other W1280 (Or.inl ne_a1_m7)
  have F1283 := F1235.other W1280 (Or.inl ne_a1_m7)
  have F1284 := F1236.other W1280 (Or.inl ne_a1_m7)
  have F1285 := F1237.other W1280 (Or.inl ne_a1_m7)
  have F1286 := F1238.other W1280 (Or.inl ne_a1_m7)
  have F1287 := F1239.other W1280 (Or.inl ne_a1_m7)
  have F1288 := F1240.other W1280 (Or.inl ne_a1_m7)
  have F1289 := F1241.other W1280 (Or.inl ne_a1_m7)
  have F1290 := F1242.other W1280 (Or.inl ne_a1_m7)
  have F1291 := F1243.other W1280 ne_m1_m7
  have F1292 := F1244.other W1280 ne_m2_m7
  have F1293 := F1245.other W1280 ne_m3_m7
  have F1294 := F1246.other W1280 ne_m4_m7
  have F1295 := F1247.other W1280 ne_m5_m7
  have F1296 := F1232.other W1280 ne_m6_m7
  have F1297 := F1249.other W1280 ne_a2_m7
  have F1298 := F1250.other W1280 ne_a3_m7
  have F1299 := F1251.wr W1280
  have F1300 := F1252.wr W1280
  have F1301 := F1253.wr W1280
  have F1302 := F1254.wr W1280
  have F1303 := F1255.wr W1280
  have F1304 := F1256.other W1280 (Or.inl (Ne.symm ne84))
  have F1305 := F1257.other W1280 (Or.inl (Ne.symm ne84))
  have F1306 := F1258.other W1280 (Or.inl (Ne.symm ne84))
  have F1307 := F1259.other W1280 (Or.inl (Ne.symm ne97))
  have F1308 := F1260.other W1280 (Or.inl (Ne.symm ne97))
  have F1309 := F1261.other W1280 (Or.inl (Ne.symm ne97))
  have F1310 := F1262.other W1280 (Or.inl (Ne.symm ne11))
  have F1311 := F1263.other W1280 (Or.inl (Ne.symm ne11))
  have F1312 := F1264.other W1280 (Or.inl (Ne.symm ne11))
  have F1313 := F1265.other W1280 (Or.inl (Ne.symm ne11))
  have F1314 := F1266.other W1280 (Or.inl (Ne.symm ne11))
  have F1315 := F1267.other W1280 (Or.inl (Ne.symm ne11))
  have F1316 := F1268.other W1280 (Or.inl (Ne.symm ne11))
  have F1317 := F1269.other W1280 (Or.inl (Ne.symm ne110))
  have F1318 := F1270.other W1280 (Or.inl (Ne.symm ne110))
  have F1319 := F1271.other W1280 (Or.inl (Ne.symm ne110))
  have F1320 := F1272.other W1280 (Or.inl (Ne.symm ne123))
  have F1321 := F1273.other W1280 (Or.inl (Ne.symm ne123))
  have F1322 := F1274.other W1280 (Or.inl (Ne.symm ne123))
  have K1323 := K1275.wr W1280 (Or.inl (List.mem_of_getElem? (i := 6) rfl))
  have Z1324 := Nat.le_trans Z1276 (Keep.of_wr W1280).1
  refine Rt.iinc (pc' := 149) (r := (3 : Int32)) (l' := #[.val (.ref a1), .val (.ref a2), .val (.ref a3), .val (.int p4), .val (.ref b0), .val (.int (3 : Int32))]) X1280 hx (hb hby d9_146) rfl (by decide) rfl rfl ?_
  refine Rt.goto (pc' := 20) X1280 hx (hb hby d9_149) (by decide) (by decide) ?_
  refine Rt.iload (pc' := 22) X1280 hx (hb hby d9_20) rfl rfl ?_
  refine Rt.aloadN (pc' := 23) X1280 hx (hb hby d9_22) rfl rfl rfl ?_
  refine Rt.getF (pc' := 26) (v := (.ref m1)) X1280 hx hZ hown (host := "") (Or.inl (own_g hw 33 rfl)) F1284 (hb hby d9_23) rfl ?_
  intro T1325 X1325
  refine Rt.arraylength (pc' := 27) X1325 hx hZ F1291 (v := (4 : Int32)) rfl (hb hby d9_26) rfl ?_
  refine Rt.icmpN (pc' := 30) X1325 hx (hb hby d9_27) (tlt (by decide : (3 : Int32) < (4 : Int32))).2.1 rfl ?_
  refine Rt.aload (pc' := 32) X1325 hx (hb hby d9_30) rfl rfl rfl ?_
  refine Rt.aloadN (pc' := 33) X1325 hx (hb hby d9_32) rfl rfl rfl ?_
  refine Rt.iload (pc' := 35) X1325 hx (hb hby d9_33) rfl rfl ?_
  refine Rt.zaload (pc' := 36) X1325 hx hZ F1297 (i := 3) (by decide) (by decide) (v := (.int cl3)) rfl (hb hby d9_35) rfl ?_
  refine Rt.aloadN (pc' := 37) X1325 hx (hb hby d9_36) rfl rfl rfl ?_
  refine Rt.iload (pc' := 39) X1325 hx (hb hby d9_37) rfl rfl ?_
  refine Rt.zaload (pc' := 40) X1325 hx hZ F1298 (i := 3) (by decide) (by decide) (v := (.int ch3)) rfl (hb hby d9_39) rfl ?_
  refine Rt.iloadN (pc' := 41) X1325 hx (hb hby d9_40) rfl rfl ?_
  refine Rt.callV (pc' := 44) X1325 hx hZ (y := mt8) (yz := mt8) hown (own_g hw 96 rfl) (own_g hw 97 rfl) (notFace_of_selects (args := #[]) (mvT hZ (own_g hw 99 rfl))) (own_g hw 99 rfl) (own_g hw 98 rfl) (own_g hw 59 rfl) (own_g hw 100 rfl) (by decide) F1299 (rm13 l Z a0 hw [] b0 cl3 ch3 p4 (5 : Int32) hm (f9_c41_b0_lowOut0_2 p4 hm cl0 cl1 cl2 ch0 ch1) b12nr3 b12nr4 b12nr1 b12nr2 (f9_c41_b12nr3_runs0_1 p4 hm cl0 cl1 cl2 ch0 ch1) (f9_c41_b12nr3_length0_1 p4 hm cl0 cl1 cl2 ch0 ch1) (f9_c41_b12nr3_lows0_1 p4 hm cl0 cl1 cl2 ch0 ch1) (f9_c41_b12nr4_runs0_1 p4 hm cl0 cl1 ch0 ch1 ch2) (f9_c41_b12nr4_length0_1 p4 hm cl0 cl1 ch0 ch1 ch2) (f9_c41_b12nr4_lows0_1 p4 hm cl0 cl1 ch0 ch1 ch2) (f9_c41_b12nr1_runs0 p4 hm cl0 cl1 ch0) (f9_c41_b12nr1_length0 p4 hm cl0 cl1 ch0) (f9_c41_b12nr1_lows0 p4 hm cl0 cl1 ch0) (f9_c41_b12nr2_runs0 p4 hm cl0 ch0 ch1) (f9_c41_b12nr2_length0 p4 hm cl0 ch0 ch1) (f9_c41_b12nr2_lows0 p4 hm cl0 ch0 ch1) h1280 n0 Z1324 F1299 F1310 F1311 F1312 F1313 F1314 F1315 F1316 F1302 F1317 F1318 F1319 F1303 F1320 F1321 F1322 F1300 F1304 F1305 F1306 F1301 F1307 F1308 F1309 g2 g75 g88 ne113 ne126 ne87 ne100 ne74 (Ne.symm ne70) (Ne.symm ne72) (Ne.symm ne71) (Ne.symm ne73) ne69) (fun _ _ _ q => q.2.1) (W := 0) (by decide) (by decide) (by decide) (by decide) (argsL := [(.int cl3), (.int ch3), (.int p4)]) (rest := []) (by rw [hml]; rfl) (lenOf pd_7 rfl) rfl rfl (Nat.le_of_eq rfl) (hb hby d9_41) rfl ?_
  rintro _ T1326 h1326 L1326 X1326 ⟨rfl, N1326, K1326, F1327, F1328, F1329, F1330, F1331, F1332, F1333, F1334, F1335, F1336, F1337, F1338, F1339, F1340, F1341, F1342⟩
  have F1343 := F1281.keep K1326
  have F1344 := F1282.keep K1326 (ninS ne4 (ninS ne77 (ninS ne90 nin0)))
  have F1345 := F1283.keep K1326 (ninS ne4 (ninS ne77 (ninS ne90 nin0)))
  have F1346 := F1284.keep K1326 (ninS ne4 (ninS ne77 (ninS ne90 nin0)))
  have F1347 := F1285.keep K1326 (ninS ne4 (ninS ne77 (ninS ne90 nin0)))
  have F1348 := F1286.keep K1326 (ninS ne4 (ninS ne77 (ninS ne90 nin0)))
  have F1349 := F1287.keep K1326 (ninS ne4 (ninS ne77 (ninS ne90 nin0)))
  have F1350 := F1288.keep K1326 (ninS ne4 (ninS ne77 (ninS ne90 nin0)))
  have F1351 := F1289.keep K1326 (ninS ne4 (ninS ne77 (ninS ne90 nin0)))
  have F1352 := F1290.keep K1326 (ninS ne4 (ninS ne77 (ninS ne90 nin0)))
  have F1353 := F1291.keep K1326 (ninS ne5 (ninS ne78 (ninS ne91 nin0)))
  have F1354 := F1292.keep K1326 (ninS ne6 (ninS ne79 (ninS ne92 nin0)))
  have F1355 := F1293.keep K1326 (ninS ne7 (ninS ne80 (ninS ne93 nin0)))
  have F1356 := F1294.keep K1326 (ninS ne8 (ninS ne81 (ninS ne94 nin0)))
  have F1357 := F1295.keep K1326 (ninS ne9 (ninS ne82 (ninS ne95 nin0)))
  have F1358 := F1296.keep K1326 (ninS ne10 (ninS ne83 (ninS ne96 nin0)))
  have F1359 := F1280.keep K1326 (ninS ne11 (ninS ne84 (ninS ne97 nin0)))
  have F1360 := F1297.keep K1326 (ninS ne12 (ninS ne85 (ninS ne98 nin0)))
  have F1361 := F1298.keep K1326 (ninS ne13 (ninS ne86 (ninS ne99 nin0)))
  have F1362 := F1299.keep K1326
  have F1363 := F1300.keep K1326
  have F1364 := F1301.keep K1326
  have F1365 := F1302.keep K1326
  have F1366 := F1303.keep K1326
  have F1367 := F1317.keep K1326 (ninS (Ne.symm ne113) (ninS (Ne.symm ne70) (ninS (Ne.symm ne72) nin0)))
  have F1368 := F1318.keep K1326 (ninS (Ne.symm ne113) (ninS (Ne.symm ne70) (ninS (Ne.symm ne72) nin0)))
  have F1369 := F1319.keep K1326 (ninS (Ne.symm ne113) (ninS (Ne.symm ne70) (ninS (Ne.symm ne72) nin0)))
  have F1370 := F1320.keep K1326 (ninS (Ne.symm ne126) (ninS (Ne.symm ne71) (ninS (Ne.symm ne73) nin0)))
  have F1371 := F1321.keep K1326 (ninS (Ne.symm ne126) (ninS (Ne.symm ne71) (ninS (Ne.symm ne73) nin0)))
  have F1372 := F1322.keep K1326 (ninS (Ne.symm ne126) (ninS (Ne.symm ne71) (ninS (Ne.symm ne73) nin0)))
  have K1373 := K1323.trans K1326 (allS (Or.inr s3) (allS (Or.inr s76) (allS (Or.inr s89) all0)))
  have Z1374 := Nat.le_trans Z1324 K1326.1
  have F1375 : Fld Z h1326 b0 nm2 "lowOut" "I" (.int (f9_c41_b0_lowOut0_3 p4 hm cl0 cl1 cl2 cl3 ch0 ch1 ch2)) := F1330
  have F1376 : Fld Z h1326 b12nr1 nm1 "runs" "I" (.int (f9_c41_b12nr1_runs0_1 p4 hm cl0 cl1 cl2 cl3 ch0 ch1 ch2)) := F1337
  have F1377 : Fld Z h1326 b12nr1 nm1 "length" "I" (.int (f9_c41_b12nr1_length0_1 p4 hm cl0 cl1 cl2 cl3 ch0 ch1 ch2)) := F1338
  have F1378 : Fld Z h1326 b12nr1 nm1 "lows" "I" (.int (f9_c41_b12nr1_lows0_1 p4 hm cl0 cl1 cl2 cl3 ch0 ch1 ch2)) := F1339
  have F1379 : Fld Z h1326 b12nr2 nm1 "runs" "I" (.int (f9_c41_b12nr2_runs0_1 p4 hm cl0 cl1 cl2 ch0 ch1 ch2 ch3)) := F1340
  have F1380 : Fld Z h1326 b12nr2 nm1 "length" "I" (.int (f9_c41_b12nr2_length0_1 p4 hm cl0 cl1 cl2 ch0 ch1 ch2 ch3)) := F1341
  have F1381 : Fld Z h1326 b12nr2 nm1 "lows" "I" (.int (f9_c41_b12nr2_lows0_1 p4 hm cl0 cl1 cl2 ch0 ch1 ch2 ch3)) := F1342
  show Rt _ _ _ _ _ _ _ (T1326.setTop (mkF m 44 #[.val (.ref a1), .val (.ref a2), .val (.ref a3), .val (.int p4), .val (.ref b0), .val (.int (3 : Int32))] []))
  refine Rt.aloadN (pc' := 45) X1326 hx (hb hby d9_44) rfl rfl rfl ?_
  refine Rt.getF (pc' := 48) (v := (.ref m1)) X1326 hx hZ hown (host := "") (Or.inl (own_g hw 33 rfl)) F1346 (hb hby d9_45) rfl ?_
  intro T1382 X1382
  refine Rt.iload (pc' := 50) X1382 hx (hb hby d9_48) rfl rfl ?_
  refine Rt.aload (pc' := 52) X1382 hx (hb hby d9_50) rfl rfl rfl ?_
  refine Rt.getFR (pc' := 55) (v := (.int (f9_c41_b0_lowOut0_3 p4 hm cl0 cl1 cl2 cl3 ch0 ch1 ch2))) X1382 hx hZ hown (own_g hw 112 rfl) F1375 (hb hby d9_52) rfl ?_
  intro T1383 X1383
  refine Rt.iastore (pc' := 56) X1383 hx hZ F1353 (i := 3) (by decide) (by decide) (Nat.le_of_ble_eq_true rfl) (w := (.int (f9_c41_b0_lowOut0_3 p4 hm cl0 cl1 cl2 cl3 ch0 ch1 ch2))) rfl g_m1 (hb hby d9_55) rfl ?_
  intro T1384 h1384 X1384 W1384 F1384
  have F1384 : IA Z h1384 m1 .int [(.int (f9_c41_b0_lowOut0 cl0)), (.int (f9_c41_b0_lowOut0_1 p4 hm cl0 cl1 ch0)), (.int (f9_c41_b0_lowOut0_2 p4 hm cl0 cl1 cl2 ch0 ch1)), (.int (f9_c41_b0_lowOut0_3 p4 hm cl0 cl1 cl2 cl3 ch0 ch1 ch2))] := F1384
  have F1385 := F1343.wr W1384
  have F1386 := F1344.other W1384 (Or.inl ne_a1_m1)
  have F1387 := F1345.other W1384 (Or.inl ne_a1_m1)
  have F1388 := F1346.other W1384 (Or.inl ne_a1_m1)
  have F1389 := F1347.other W1384 (Or.inl ne_a1_m1)
  have F1390 := F1348.other W1384 (Or.inl ne_a1_m1)
  have F1391 := F1349.other W1384 (Or.inl ne_a1_m1)
  have F1392 := F1350.other W1384 (Or.inl ne_a1_m1)
  have F1393 := F1351.other W1384 (Or.inl ne_a1_m1)
  have F1394 := F1352.other W1384 (Or.inl ne_a1_m1)
  have F1395 := F1354.other W1384 (Ne.symm ne_m1_m2)
  have F1396 := F1355.other W1384 (Ne.symm ne_m1_m3)
  have F1397 := F1356.other W1384 (Ne.symm ne_m1_m4)
  have F1398 := F1357.other W1384 (Ne.symm ne_m1_m5)
  have F1399 := F1358.other W1384 (Ne.symm ne_m1_m6)
  have F1400 := F1359.other W1384 (Ne.symm ne_m1_m7)
  have F1401 := F1360.other W1384 ne_a2_m1
  have F1402 := F1361.other W1384 ne_a3_m1
  have F1403 := F1327.wr W1384
  have F1404 := F1335.wr W1384
  have F1405 := F1336.wr W1384
  have F1406 := F1365.wr W1384
  have F1407 := F1366.wr W1384
  have F1408 := F1367.other W1384 (Or.inl (Ne.symm ne104))
  have F1409 := F1368.other W1384 (Or.inl (Ne.symm ne104))
  have F1410 := F1369.other W1384 (Or.inl (Ne.symm ne104))
  have F1411 := F1370.other W1384 (Or.inl (Ne.symm ne117))
  have F1412 := F1371.other W1384 (Or.inl (Ne.symm ne117))
  have F1413 := F1372.other W1384 (Or.inl (Ne.symm ne117))
  have F1414 := F1328.other W1384 (Or.inl (Ne.symm ne5))
  have F1415 := F1329.other W1384 (Or.inl (Ne.symm ne5))
  have F1416 := F1375.other W1384 (Or.inl (Ne.symm ne5))
  have F1417 := F1331.other W1384 (Or.inl (Ne.symm ne5))
  have F1418 := F1332.other W1384 (Or.inl (Ne.symm ne5))
  have F1419 := F1333.other W1384 (Or.inl (Ne.symm ne5))
  have F1420 := F1334.other W1384 (Or.inl (Ne.symm ne5))
  have F1421 := F1376.other W1384 (Or.inl (Ne.symm ne78))
  have F1422 := F1377.other W1384 (Or.inl (Ne.symm ne78))
  have F1423 := F1378.other W1384 (Or.inl (Ne.symm ne78))
  have F1424 := F1379.other W1384 (Or.inl (Ne.symm ne91))
  have F1425 := F1380.other W1384 (Or.inl (Ne.symm ne91))
  have F1426 := F1381.other W1384 (Or.inl (Ne.symm ne91))
  have K1427 := K1373.wr W1384 (Or.inl (List.mem_of_getElem? (i := 0) rfl))
  have Z1428 := Nat.le_trans Z1374 (Keep.of_wr W1384).1
  refine Rt.aloadN (pc' := 57) X1384 hx (hb hby d9_56) rfl rfl rfl ?_
  refine Rt.getF (pc' := 60) (v := (.ref m2)) X1384 hx hZ hown (host := "") (Or.inl (own_g hw 35 rfl)) F1389 (hb hby d9_57) rfl ?_
  intro T1429 X1429
  refine Rt.iload (pc' := 62) X1429 hx (hb hby d9_60) rfl rfl ?_
  refine Rt.aload (pc' := 64) X1429 hx (hb hby d9_62) rfl rfl rfl ?_
  refine Rt.getFR (pc' := 67) (v := (.ref b12nr1)) X1429 hx hZ hown (own_g hw 113 rfl) F1417 (hb hby d9_64) rfl ?_
  intro T1430 X1430
  refine Rt.getFR (pc' := 70) (v := (.int (f9_c41_b12nr1_runs0_1 p4 hm cl0 cl1 cl2 cl3 ch0 ch1 ch2))) X1430 hx hZ hown (own_g hw 114 rfl) F1421 (hb hby d9_67) rfl ?_
  intro T1431 X1431
  refine Rt.iastore (pc' := 71) X1431 hx hZ F1395 (i := 3) (by decide) (by decide) (Nat.le_of_ble_eq_true rfl) (w := (.int (f9_c41_b12nr1_runs0_1 p4 hm cl0 cl1 cl2 cl3 ch0 ch1 ch2))) rfl g_m2 (hb hby d9_70) rfl ?_
  intro T1432 h1432 X1432 W1432 F1432
  have F1432 : IA Z h1432 m2 .int [(.int (f9_c41_b12nr3_runs0 p4 hm cl0)), (.int (f9_c41_b12nr1_runs0 p4 hm cl0 cl1 ch0)), (.int (f9_c41_b12nr3_runs0_1 p4 hm cl0 cl1 cl2 ch0 ch1)), (.int (f9_c41_b12nr1_runs0_1 p4 hm cl0 cl1 cl2 cl3 ch0 ch1 ch2))] := F1432
  have F1433 := F1385.wr W1432
  have F1434 := F1386.other W1432 (Or.inl ne_a1_m2)
  have F1435 := F1387.other W1432 (Or.inl ne_a1_m2)
  have F1436 := F1388.other W1432 (Or.inl ne_a1_m2)
  have F1437 := F1389.other W1432 (Or.inl ne_a1_m2)
  have F1438 := F1390.other W1432 (Or.inl ne_a1_m2)
  have F1439 := F1391.other W1432 (Or.inl ne_a1_m2)
  have F1440 := F1392.other W1432 (Or.inl ne_a1_m2)
  have F1441 := F1393.other W1432 (Or.inl ne_a1_m2)
  have F1442 := F1394.other W1432 (Or.inl ne_a1_m2)
  have F1443 := F1384.other W1432 ne_m1_m2
  have F1444 := F1396.other W1432 (Ne.symm ne_m2_m3)
  have F1445 := F1397.other W1432 (Ne.symm ne_m2_m4)
  have F1446 := F1398.other W1432 (Ne.symm ne_m2_m5)
  have F1447 := F1399.other W1432 (Ne.symm ne_m2_m6)
  have F1448 := F1400.other W1432 (Ne.symm ne_m2_m7)
  have F1449 := F1401.other W1432 ne_a2_m2
  have F1450 := F1402.other W1432 ne_a3_m2
  have F1451 := F1403.wr W1432
  have F1452 := F1404.wr W1432
  have F1453 := F1405.wr W1432
  have F1454 := F1406.wr W1432
  have F1455 := F1407.wr W1432
  have F1456 := F1408.other W1432 (Or.inl (Ne.symm ne105))
  have F1457 := F1409.other W1432 (Or.inl (Ne.symm ne105))
  have F1458 := F1410.other W1432 (Or.inl (Ne.symm ne105))
  have F1459 := F1411.other W1432 (Or.inl (Ne.symm ne118))
  have F1460 := F1412.other W1432 (Or.inl (Ne.symm ne118))
  have F1461 := F1413.other W1432 (Or.inl (Ne.symm ne118))
  have F1462 := F1414.other W1432 (Or.inl (Ne.symm ne6))
  have F1463 := F1415.other W1432 (Or.inl (Ne.symm ne6))
  have F1464 := F1416.other W1432 (Or.inl (Ne.symm ne6))
  have F1465 := F1417.other W1432 (Or.inl (Ne.symm ne6))
  have F1466 := F1418.other W1432 (Or.inl (Ne.symm ne6))
  have F1467 := F1419.other W1432 (Or.inl (Ne.symm ne6))
  have F1468 := F1420.other W1432 (Or.inl (Ne.symm ne6))
  have F1469 := F1421.other W1432 (Or.inl (Ne.symm ne79))
  have F1470 := F1422.other W1432 (Or.inl (Ne.symm ne79))
  have F1471 := F1423.other W1432 (Or.inl (Ne.symm ne79))
  have F1472 := F1424.other W1432 (Or.inl (Ne.symm ne92))
  have F1473 := F1425.other W1432 (Or.inl (Ne.symm ne92))
  have F1474 := F1426.other W1432 (Or.inl (Ne.symm ne92))
  have K1475 := K1427.wr W1432 (Or.inl (List.mem_of_getElem? (i := 1) rfl))
  have Z1476 := Nat.le_trans Z1428 (Keep.of_wr W1432).1
  refine Rt.aloadN (pc' := 72) X1432 hx (hb hby d9_71) rfl rfl rfl ?_
  refine Rt.getF (pc' := 75) (v := (.ref m3)) X1432 hx hZ hown (host := "") (Or.inl (own_g hw 37 rfl)) F1438 (hb hby d9_72) rfl ?_
  intro T1477 X1477
  refine Rt.iload (pc' := 77) X1477 hx (hb hby d9_75) rfl rfl ?_
  refine Rt.aload (pc' := 79) X1477 hx (hb hby d9_77) rfl rfl rfl ?_
  refine Rt.getFR (pc' := 82) (v := (.ref b12nr1)) X1477 hx hZ hown (own_g hw 113 rfl) F1465 (hb hby d9_79) rfl ?_
  intro T1478 X1478
  refine Rt.getFR (pc' := 85) (v := (.int (f9_c41_b12nr1_length0_1 p4 hm cl0 cl1 cl2 cl3 ch0 ch1 ch2))) X1478 hx hZ hown (own_g hw 115 rfl) F1470 (hb hby d9_82) rfl ?_
  intro T1479 X1479
  refine Rt.iastore (pc' := 86) X1479 hx hZ F1444 (i := 3) (by decide) (by decide) (Nat.le_of_ble_eq_true rfl) (w := (.int (f9_c41_b12nr1_length0_1 p4 hm cl0 cl1 cl2 cl3 ch0 ch1 ch2))) rfl g_m3 (hb hby d9_85) rfl ?_
  intro T1480 h1480 X1480 W1480 F1480
  have F1480 : IA Z h1480 m3 .int [(.int (f9_c41_b12nr3_length0 p4 hm cl0)), (.int (f9_c41_b12nr1_length0 p4 hm cl0 cl1 ch0)), (.int (f9_c41_b12nr3_length0_1 p4 hm cl0 cl1 cl2 ch0 ch1)), (.int (f9_c41_b12nr1_length0_1 p4 hm cl0 cl1 cl2 cl3 ch0 ch1 ch2))] := F1480
  have F1481 := F1433.wr W1480
  have F1482 := F1434.other W1480 (Or.inl ne_a1_m3)
  have F1483 := F1435.other W1480 (Or.inl ne_a1_m3)
  have F1484 := F1436.other W1480 (Or.inl ne_a1_m3)
  have F1485 := F1437.other W1480 (Or.inl ne_a1_m3)
  have F1486 := F1438.other W1480 (Or.inl ne_a1_m3)
  have F1487 := F1439.other W1480 (Or.inl ne_a1_m3)
  have F1488 := F1440.other W1480 (Or.inl ne_a1_m3)
  have F1489 := F1441.other W1480 (Or.inl ne_a1_m3)
  have F1490 := F1442.other W1480 (Or.inl ne_a1_m3)
  have F1491 := F1443.other W1480 ne_m1_m3
  have F1492 := F1432.other W1480 ne_m2_m3
  have F1493 := F1445.other W1480 (Ne.symm ne_m3_m4)
  have F1494 := F1446.other W1480 (Ne.symm ne_m3_m5)
  have F1495 := F1447.other W1480 (Ne.symm ne_m3_m6)
  have F1496 := F1448.other W1480 (Ne.symm ne_m3_m7)
  have F1497 := F1449.other W1480 ne_a2_m3
  have F1498 := F1450.other W1480 ne_a3_m3
  have F1499 := F1451.wr W1480
  have F1500 := F1452.wr W1480
  have F1501 := F1453.wr W1480
  have F1502 := F1454.wr W1480
  have F1503 := F1455.wr W1480
  have F1504 := F1456.other W1480 (Or.inl (Ne.symm ne106))
  have F1505 := F1457.other W1480 (Or.inl (Ne.symm ne106))
  have F1506 := F1458.other W1480 (Or.inl (Ne.symm ne106))
  have F1507 := F1459.other W1480 (Or.inl (Ne.symm ne119))
  have F1508 := F1460.other W1480 (Or.inl (Ne.symm ne119))
  have F1509 := F1461.other W1480 (Or.inl (Ne.symm ne119))
  have F1510 := F1462.other W1480 (Or.inl (Ne.symm ne7))
  have F1511 := F1463.other W1480 (Or.inl (Ne.symm ne7))
  have F1512 := F1464.other W1480 (Or.inl (Ne.symm ne7))
  have F1513 := F1465.other W1480 (Or.inl (Ne.symm ne7))
  have F1514 := F1466.other W1480 (Or.inl (Ne.symm ne7))
  have F1515 := F1467.other W1480 (Or.inl (Ne.symm ne7))
  have F1516 := F1468.other W1480 (Or.inl (Ne.symm ne7))
  have F1517 := F1469.other W1480 (Or.inl (Ne.symm ne80))
  have F1518 := F1470.other W1480 (Or.inl (Ne.symm ne80))
  have F1519 := F1471.other W1480 (Or.inl (Ne.symm ne80))
  have F1520 := F1472.other W1480 (Or.inl (Ne.symm ne93))
  have F1521 := F1473.other W1480 (Or.inl (Ne.symm ne93))
  have F1522 := F1474.other W1480 (Or.inl (Ne.symm ne93))
  have K1523 := K1475.wr W1480 (Or.inl (List.mem_of_getElem? (i := 2) rfl))
  have Z1524 := Nat.le_trans Z1476 (Keep.of_wr W1480).1
  refine Rt.aloadN (pc' := 87) X1480 hx (hb hby d9_86) rfl rfl rfl ?_
  refine Rt.getF (pc' := 90) (v := (.ref m4)) X1480 hx hZ hown (host := "") (Or.inl (own_g hw 39 rfl)) F1487 (hb hby d9_87) rfl ?_
  intro T1525 X1525
  refine Rt.iload (pc' := 92) X1525 hx (hb hby d9_90) rfl rfl ?_
  refine Rt.aload (pc' := 94) X1525 hx (hb hby d9_92) rfl rfl rfl ?_
  refine Rt.getFR (pc' := 97) (v := (.ref b12nr1)) X1525 hx hZ hown (own_g hw 113 rfl) F1513 (hb hby d9_94) rfl ?_
  intro T1526 X1526
  refine Rt.getFR (pc' := 100) (v := (.int (f9_c41_b12nr1_lows0_1 p4 hm cl0 cl1 cl2 cl3 ch0 ch1 ch2))) X1526 hx hZ hown (own_g hw 116 rfl) F1519 (hb hby d9_97) rfl ?_
  intro T1527 X1527
  refine Rt.iastore (pc' := 101) X1527 hx hZ F1493 (i := 3) (by decide) (by decide) (Nat.le_of_ble_eq_true rfl) (w := (.int (f9_c41_b12nr1_lows0_1 p4 hm cl0 cl1 cl2 cl3 ch0 ch1 ch2))) rfl g_m4 (hb hby d9_100) rfl ?_
  intro T1528 h1528 X1528 W1528 F1528
  have F1528 : IA Z h1528 m4 .int [(.int (f9_c41_b12nr3_lows0 p4 hm cl0)), (.int (f9_c41_b12nr1_lows0 p4 hm cl0 cl1 ch0)), (.int (f9_c41_b12nr3_lows0_1 p4 hm cl0 cl1 cl2 ch0 ch1)), (.int (f9_c41_b12nr1_lows0_1 p4 hm cl0 cl1 cl2 cl3 ch0 ch1 ch2))] := F1528
  have F1529 := F1481.wr W1528
  have F1530 := F1482.other W1528 (Or.inl ne_a1_m4)
  have F1531 := F1483.other W1528 (Or.inl ne_a1_m4)
  have F1532 := F1484.other W1528 (Or.inl ne_a1_m4)
  have F1533 := F1485.other W1528 (Or.inl ne_a1_m4)
  have F1534 := F1486.other W1528 (Or.inl ne_a1_m4)
  have F1535 := F1487.other W1528 (Or.inl ne_a1_m4)
  have F1536 := F1488.other W1528 (Or.inl ne_a1_m4)
  have F1537 := F1489.other W1528 (Or.inl ne_a1_m4)
  have F1538 := F1490.other W1528 (Or.inl ne_a1_m4)
  have F1539 := F1491.other W1528 ne_m1_m4
  have F1540 := F1492.other W1528 ne_m2_m4
  have F1541 := F1480.other W1528 ne_m3_m4
  have F1542 := F1494.other W1528 (Ne.symm ne_m4_m5)
  have F1543 := F1495.other W1528 (Ne.symm ne_m4_m6)
  have F1544 := F1496.other W1528 (Ne.symm ne_m4_m7)
  have F1545 := F1497.other W1528 ne_a2_m4
  have F1546 := F1498.other W1528 ne_a3_m4
  have F1547 := F1499.wr W1528
  have F1548 := F1500.wr W1528
  have F1549 := F1501.wr W1528
  have F1550 := F1502.wr W1528
  have F1551 := F1503.wr W1528
  have F1552 := F1504.other W1528 (Or.inl (Ne.symm ne107))
  have F1553 := F1505.other W1528 (Or.inl (Ne.symm ne107))
  have F1554 := F1506.other W1528 (Or.inl (Ne.symm ne107))
  have F1555 := F1507.other W1528 (Or.inl (Ne.symm ne120))
  have F1556 := F1508.other W1528 (Or.inl (Ne.symm ne120))
  have F1557 := F1509.other W1528 (Or.inl (Ne.symm ne120))
  have F1558 := F1510.other W1528 (Or.inl (Ne.symm ne8))
  have F1559 := F1511.other W1528 (Or.inl (Ne.symm ne8))
  have F1560 := F1512.other W1528 (Or.inl (Ne.symm ne8))
  have F1561 := F1513.other W1528 (Or.inl (Ne.symm ne8))
  have F1562 := F1514.other W1528 (Or.inl (Ne.symm ne8))
  have F1563 := F1515.other W1528 (Or.inl (Ne.symm ne8))
  have F1564 := F1516.other W1528 (Or.inl (Ne.symm ne8))
  have F1565 := F1517.other W1528 (Or.inl (Ne.symm ne81))
  have F1566 := F1518.other W1528 (Or.inl (Ne.symm ne81))
  have F1567 := F1519.other W1528 (Or.inl (Ne.symm ne81))
  have F1568 := F1520.other W1528 (Or.inl (Ne.symm ne94))
  have F1569 := F1521.other W1528 (Or.inl (Ne.symm ne94))
  have F1570 := F1522.other W1528 (Or.inl (Ne.symm ne94))
  have K1571 := K1523.wr W1528 (Or.inl (List.mem_of_getElem? (i := 3) rfl))
  have Z1572 := Nat.le_trans Z1524 (Keep.of_wr W1528).1
  refine Rt.aloadN (pc' := 102) X1528 hx (hb hby d9_101) rfl rfl rfl ?_
  refine Rt.getF (pc' := 105) (v := (.ref m5)) X1528 hx hZ hown (host := "") (Or.inl (own_g hw 41 rfl)) F1536 (hb hby d9_102) rfl ?_
  intro T1573 X1573
  refine Rt.iload (pc' := 107) X1573 hx (hb hby d9_105) rfl rfl ?_
  refine Rt.aload (pc' := 109) X1573 hx (hb hby d9_107) rfl rfl rfl ?_
  refine Rt.getFR (pc' := 112) (v := (.ref b12nr2)) X1573 hx hZ hown (own_g hw 117 rfl) F1562 (hb hby d9_109) rfl ?_
  intro T1574 X1574
  refine Rt.getFR (pc' := 115) (v := (.int (f9_c41_b12nr2_runs0_1 p4 hm cl0 cl1 cl2 ch0 ch1 ch2 ch3))) X1574 hx hZ hown (own_g hw 114 rfl) F1568 (hb hby d9_112) rfl ?_
  intro T1575 X1575
  refine Rt.iastore (pc' := 116) X1575 hx hZ F1542 (i := 3) (by decide) (by decide) (Nat.le_of_ble_eq_true rfl) (w := (.int (f9_c41_b12nr2_runs0_1 p4 hm cl0 cl1 cl2 ch0 ch1 ch2 ch3))) rfl g_m5 (hb hby d9_115) rfl ?_
  intro T1576 h1576 X1576 W1576 F1576
  have F1576 : IA Z h1576 m5 .int [(.int (f9_c41_b12nr4_runs0 p4 hm ch0)), (.int (f9_c41_b12nr2_runs0 p4 hm cl0 ch0 ch1)), (.int (f9_c41_b12nr4_runs0_1 p4 hm cl0 cl1 ch0 ch1 ch2)), (.int (f9_c41_b12nr2_runs0_1 p4 hm cl0 cl1 cl2 ch0 ch1 ch2 ch3))] := F1576
  have F1577 := F1529.wr W1576
  have F1578 := F1530.other W1576 (Or.inl ne_a1_m5)
  have F1579 := F1531.other W1576 (Or.inl ne_a1_m5)
  have F1580 := F1532.other W1576 (Or.inl ne_a1_m5)
  have F1581 := F1533.other W1576 (Or.inl ne_a1_m5)
  have F1582 := F1534.other W1576 (Or.inl ne_a1_m5)
  have F1583 := F1535.other W1576 (Or.inl ne_a1_m5)
  have F1584 := F1536.other W1576 (Or.inl ne_a1_m5)
  have F1585 := F1537.other W1576 (Or.inl ne_a1_m5)
  have F1586 := F1538.other W1576 (Or.inl ne_a1_m5)
  have F1587 := F1539.other W1576 ne_m1_m5
  have F1588 := F1540.other W1576 ne_m2_m5
  have F1589 := F1541.other W1576 ne_m3_m5
  have F1590 := F1528.other W1576 ne_m4_m5
  have F1591 := F1543.other W1576 (Ne.symm ne_m5_m6)
  have F1592 := F1544.other W1576 (Ne.symm ne_m5_m7)
  have F1593 := F1545.other W1576 ne_a2_m5
  have F1594 := F1546.other W1576 ne_a3_m5
  have F1595 := F1547.wr W1576
  have F1596 := F1548.wr W1576
  have F1597 := F1549.wr W1576
  have F1598 := F1550.wr W1576
  have F1599 := F1551.wr W1576
  have F1600 := F1552.other W1576 (Or.inl (Ne.symm ne108))
  have F1601 := F1553.other W1576 (Or.inl (Ne.symm ne108))
  have F1602 := F1554.other W1576 (Or.inl (Ne.symm ne108))
  have F1603 := F1555.other W1576 (Or.inl (Ne.symm ne121))
  have F1604 := F1556.other W1576 (Or.inl (Ne.symm ne121))
  have F1605 := F1557.other W1576 (Or.inl (Ne.symm ne121))
  have F1606 := F1558.other W1576 (Or.inl (Ne.symm ne9))
  have F1607 := F1559.other W1576 (Or.inl (Ne.symm ne9))
  have F1608 := F1560.other W1576 (Or.inl (Ne.symm ne9))
  have F1609 := F1561.other W1576 (Or.inl (Ne.symm ne9))
  have F1610 := F1562.other W1576 (Or.inl (Ne.symm ne9))
  have F1611 := F1563.other W1576 (Or.inl (Ne.symm ne9))
  have F1612 := F1564.other W1576 (Or.inl (Ne.symm ne9))
  have F1613 := F1565.other W1576 (Or.inl (Ne.symm ne82))
  have F1614 := F1566.other W1576 (Or.inl (Ne.symm ne82))
  have F1615 := F1567.other W1576 (Or.inl (Ne.symm ne82))
  have F1616 := F1568.other W1576 (Or.inl (Ne.symm ne95))
  have F1617 := F1569.other W1576 (Or.inl (Ne.symm ne95))
  have F1618 := F1570.other W1576 (Or.inl (Ne.symm ne95))
  have K1619 := K1571.wr W1576 (Or.inl (List.mem_of_getElem? (i := 4) rfl))
  have Z1620 := Nat.le_trans Z1572 (Keep.of_wr W1576).1
  refine Rt.aloadN (pc' := 117) X1576 hx (hb hby d9_116) rfl rfl rfl ?_
  refine Rt.getF (pc' := 120) (v := (.ref m6)) X1576 hx hZ hown (host := "") (Or.inl (own_g hw 43 rfl)) F1585 (hb hby d9_117) rfl ?_
  intro T1621 X1621
  refine Rt.iload (pc' := 122) X1621 hx (hb hby d9_120) rfl rfl ?_
  refine Rt.aload (pc' := 124) X1621 hx (hb hby d9_122) rfl rfl rfl ?_
  refine Rt.getFR (pc' := 127) (v := (.ref b12nr2)) X1621 hx hZ hown (own_g hw 117 rfl) F1610 (hb hby d9_124) rfl ?_
  intro T1622 X1622
  refine Rt.getFR (pc' := 130) (v := (.int (f9_c41_b12nr2_length0_1 p4 hm cl0 cl1 cl2 ch0 ch1 ch2 ch3))) X1622 hx hZ hown (own_g hw 115 rfl) F1617 (hb hby d9_127) rfl ?_
  intro T1623 X1623
  refine Rt.iastore (pc' := 131) X1623 hx hZ F1591 (i := 3) (by decide) (by decide) (Nat.le_of_ble_eq_true rfl) (w := (.int (f9_c41_b12nr2_length0_1 p4 hm cl0 cl1 cl2 ch0 ch1 ch2 ch3))) rfl g_m6 (hb hby d9_130) rfl ?_
  intro T1624 h1624 X1624 W1624 F1624
  have F1624 : IA Z h1624 m6 .int [(.int (f9_c41_b12nr4_length0 p4 hm ch0)), (.int (f9_c41_b12nr2_length0 p4 hm cl0 ch0 ch1)), (.int (f9_c41_b12nr4_length0_1 p4 hm cl0 cl1 ch0 ch1 ch2)), (.int (f9_c41_b12nr2_length0_1 p4 hm cl0 cl1 cl2 ch0 ch1 ch2 ch3))] := F1624
  have F1625 := F1577.wr W1624
  have F1626 := F1578.other W1624 (Or.inl ne_a1_m6)
  have F1627 := F1579.other W1624 (Or.inl ne_a1_m6)
  have F1628 := F1580.other W1624 (Or.inl ne_a1_m6)
  have F1629 := F1581.other W1624 (Or.inl ne_a1_m6)
  have F1630 := F1582.other W1624 (Or.inl ne_a1_m6)
  have F1631 := F1583.other W1624 (Or.inl ne_a1_m6)
  have F1632 := F1584.other W1624 (Or.inl ne_a1_m6)
  have F1633 := F1585.other W1624 (Or.inl ne_a1_m6)
  have F1634 := F1586.other W1624 (Or.inl ne_a1_m6)
  have F1635 := F1587.other W1624 ne_m1_m6
  have F1636 := F1588.other W1624 ne_m2_m6
  have F1637 := F1589.other W1624 ne_m3_m6
  have F1638 := F1590.other W1624 ne_m4_m6
  have F1639 := F1576.other W1624 ne_m5_m6
  have F1640 := F1592.other W1624 (Ne.symm ne_m6_m7)
  have F1641 := F1593.other W1624 ne_a2_m6
  have F1642 := F1594.other W1624 ne_a3_m6
  have F1643 := F1595.wr W1624
  have F1644 := F1596.wr W1624
  have F1645 := F1597.wr W1624
  have F1646 := F1598.wr W1624
  have F1647 := F1599.wr W1624
  have F1648 := F1600.other W1624 (Or.inl (Ne.symm ne109))
  have F1649 := F1601.other W1624 (Or.inl (Ne.symm ne109))
  have F1650 := F1602.other W1624 (Or.inl (Ne.symm ne109))
  have F1651 := F1603.other W1624 (Or.inl (Ne.symm ne122))
  have F1652 := F1604.other W1624 (Or.inl (Ne.symm ne122))
  have F1653 := F1605.other W1624 (Or.inl (Ne.symm ne122))
  have F1654 := F1606.other W1624 (Or.inl (Ne.symm ne10))
  have F1655 := F1607.other W1624 (Or.inl (Ne.symm ne10))
  have F1656 := F1608.other W1624 (Or.inl (Ne.symm ne10))
  have F1657 := F1609.other W1624 (Or.inl (Ne.symm ne10))
  have F1658 := F1610.other W1624 (Or.inl (Ne.symm ne10))
  have F1659 := F1611.other W1624 (Or.inl (Ne.symm ne10))
  have F1660 := F1612.other W1624 (Or.inl (Ne.symm ne10))
  have F1661 := F1613.other W1624 (Or.inl (Ne.symm ne83))
  have F1662 := F1614.other W1624 (Or.inl (Ne.symm ne83))
  have F1663 := F1615.other W1624 (Or.inl (Ne.symm ne83))
  have F1664 := F1616.other W1624 (Or.inl (Ne.symm ne96))
  have F1665 := F1617.other W1624 (Or.inl (Ne.symm ne96))
  have F1666 := F1618.other W1624 (Or.inl (Ne.symm ne96))
  have K1667 := K1619.wr W1624 (Or.inl (List.mem_of_getElem? (i := 5) rfl))
  have Z1668 := Nat.le_trans Z1620 (Keep.of_wr W1624).1
  refine Rt.aloadN (pc' := 132) X1624 hx (hb hby d9_131) rfl rfl rfl ?_
  refine Rt.getF (pc' := 135) (v := (.ref m7)) X1624 hx hZ hown (host := "") (Or.inl (own_g hw 45 rfl)) F1634 (hb hby d9_132) rfl ?_
  intro T1669 X1669
  refine Rt.iload (pc' := 137) X1669 hx (hb hby d9_135) rfl rfl ?_
  refine Rt.aload (pc' := 139) X1669 hx (hb hby d9_137) rfl rfl rfl ?_
  refine Rt.getFR (pc' := 142) (v := (.ref b12nr2)) X1669 hx hZ hown (own_g hw 117 rfl) F1658 (hb hby d9_139) rfl ?_
  intro T1670 X1670
  refine Rt.getFR (pc' := 145) (v := (.int (f9_c41_b12nr2_lows0_1 p4 hm cl0 cl1 cl2 ch0 ch1 ch2 ch3))) X1670 hx hZ hown (own_g hw 116 rfl) F1666 (hb hby d9_142) rfl ?_
  intro T1671 X1671
  refine Rt.iastore (pc' := 146) X1671 hx hZ F1640 (i := 3) (by decide) (by decide) (Nat.le_of_ble_eq_true rfl) (w := (.int (f9_c41_b12nr2_lows0_1 p4 hm cl0 cl1 cl2 ch0 ch1 ch2 ch3))) rfl g_m7 (hb hby d9_145) rfl ?_
  intro T1672 h1672 X1672 W1672 F1672
  have F1672 : IA Z h1672 m7 .int [(.int (f9_c41_b12nr4_lows0 p4 hm ch0)), (.int (f9_c41_b12nr2_lows0 p4 hm cl0 ch0 ch1)), (.int (f9_c41_b12nr4_lows0_1 p4 hm cl0 cl1 ch0 ch1 ch2)), (.int (f9_c41_b12nr2_lows0_1 p4 hm cl0 cl1 cl2 ch0 ch1 ch2 ch3))] := F1672
  have F1673 := F1625.wr W1672
  have F1674 := F1626.other W1672 (Or.inl ne_a1_m7)
  have F1675 := F1627.other W1672 (Or.inl ne_a1_m7)
  have F1676 := F1628.other W1672 (Or.inl ne_a1_m7)
  have F1677 := F1629.other W1672 (Or.inl ne_a1_m7)
  have F1678 := F1630.other W1672 (Or.inl ne_a1_m7)
  have F1679 := F1631.other W1672 (Or.inl ne_a1_m7)
  have F1680 := F1632.other W1672 (Or.inl ne_a1_m7)
  have F1681 := F1633.other W1672 (Or.inl ne_a1_m7)
  have F1682 := F1634.other W1672 (Or.inl ne_a1_m7)
  have F1683 := F1635.other W1672 ne_m1_m7
  have F1684 := F1636.other W1672 ne_m2_m7
  have F1685 := F1637.other W1672 ne_m3_m7
  have F1686 := F1638.other W1672 ne_m4_m7
  have F1687 := F1639.other W1672 ne_m5_m7
  have F1688 := F1624.other W1672 ne_m6_m7
  have F1689 := F1641.other W1672 ne_a2_m7
  have F1690 := F1642.other W1672 ne_a3_m7
  have F1691 := F1643.wr W1672
  have F1692 := F1644.wr W1672
  have F1693 := F1645.wr W1672
  have F1694 := F1646.wr W1672
  have F1695 := F1647.wr W1672
  have F1696 := F1648.other W1672 (Or.inl (Ne.symm ne110))
  have F1697 := F1649.other W1672 (Or.inl (Ne.symm ne110))
  have F1698 := F1650.other W1672 (Or.inl (Ne.symm ne110))
  have F1699 := F1651.other W1672 (Or.inl (Ne.symm ne123))
  have F1700 := F1652.other W1672 (Or.inl (Ne.symm ne123))
  have F1701 := F1653.other W1672 (Or.inl (Ne.symm ne123))
  have F1702 := F1654.other W1672 (Or.inl (Ne.symm ne11))
  have F1703 := F1655.other W1672 (Or.inl (Ne.symm ne11))
  have F1704 := F1656.other W1672 (Or.inl (Ne.symm ne11))
  have F1705 := F1657.other W1672 (Or.inl (Ne.symm ne11))
  have F1706 := F1658.other W1672 (Or.inl (Ne.symm ne11))
  have F1707 := F1659.other W1672 (Or.inl (Ne.symm ne11))
  have F1708 := F1660.other W1672 (Or.inl (Ne.symm ne11))
  have F1709 := F1661.other W1672 (Or.inl (Ne.symm ne84))
  have F1710 := F1662.other W1672 (Or.inl (Ne.symm ne84))
  have F1711 := F1663.other W1672 (Or.inl (Ne.symm ne84))
  have F1712 := F1664.other W1672 (Or.inl (Ne.symm ne97))
  have F1713 := F1665.other W1672 (Or.inl (Ne.symm ne97))
  have F1714 := F1666.other W1672 (Or.inl (Ne.symm ne97))
  have K1715 := K1667.wr W1672 (Or.inl (List.mem_of_getElem? (i := 6) rfl))
  have Z1716 := Nat.le_trans Z1668 (Keep.of_wr W1672).1
  refine Rt.iinc (pc' := 149) (r := (4 : Int32)) (l' := #[.val (.ref a1), .val (.ref a2), .val (.ref a3), .val (.int p4), .val (.ref b0), .val (.int (4 : Int32))]) X1672 hx (hb hby d9_146) rfl (by decide) rfl rfl ?_
  refine Rt.goto (pc' := 20) X1672 hx (hb hby d9_149) (by decide) (by decide) ?_
  refine Rt.iload (pc' := 22) X1672 hx (hb hby d9_20) rfl rfl ?_
  refine Rt.aloadN (pc' := 23) X1672 hx (hb hby d9_22) rfl rfl rfl ?_
  refine Rt.getF (pc' := 26) (v := (.ref m1)) X1672 hx hZ hown (host := "") (Or.inl (own_g hw 33 rfl)) F1676 (hb hby d9_23) rfl ?_
  intro T1717 X1717
  refine Rt.arraylength (pc' := 27) X1717 hx hZ F1683 (v := (4 : Int32)) rfl (hb hby d9_26) rfl ?_
  refine Rt.icmpY (pc' := 152) X1717 hx (hb hby d9_27) (flt (by decide : ¬ ((4 : Int32) < (4 : Int32)))).2.1 (by decide) (by decide) ?_
  refine Rt.aload (pc' := 154) X1717 hx (hb hby d9_152) rfl rfl rfl ?_
  refine Rt.callV (pc' := 157) X1717 hx hZ (y := mt6) (yz := mt6) hown (own_g hw 118 rfl) (own_g hw 102 rfl) (notFace_of_selects (args := #[]) (mvT hZ (own_g hw 104 rfl))) (own_g hw 104 rfl) (own_g hw 103 rfl) (own_g hw 59 rfl) (own_g hw 105 rfl) (by decide) F1691 (rm14 l Z a0 hw [] b0 (f9_c41_b0_lowOut0_3 p4 hm cl0 cl1 cl2 cl3 ch0 ch1 ch2) b12nr2 (f9_c41_b12nr2_runs0_1 p4 hm cl0 cl1 cl2 ch0 ch1 ch2 ch3) h1672 n0 F1704 F1706 F1712) (fun _ _ _ q => q.2.1) (W := 0) (by decide) (by decide) (by decide) (by decide) (argsL := []) (rest := []) (by rw [hml]; rfl) (lenOf pd_2 rfl) rfl rfl (Nat.le_of_eq rfl) (hb hby d9_154) rfl ?_
  rintro _ T1718 h1718 L1718 X1718 ⟨rfl, N1718, e1718⟩
  rw [e1718] at X1718
  show Rt _ _ _ _ _ _ _ (T1718.setTop (mkF m 157 #[.val (.ref a1), .val (.ref a2), .val (.ref a3), .val (.int p4), .val (.ref b0), .val (.int (4 : Int32))] [(.int (f14 (f9_c41_b0_lowOut0_3 p4 hm cl0 cl1 cl2 cl3 ch0 ch1 ch2) (f9_c41_b12nr2_runs0_1 p4 hm cl0 cl1 cl2 ch0 ch1 ch2 ch3)))]))
  exact Rt.retI X1718 hx hlk hret (hb hby d9_157) (by decide) (by decide) (fun L N => ⟨congrArg some (congrArg Value.int (by rw [f9])), N, K1715, F1683, F1684, F1685, F1686, F1687, F1688, F1672⟩)
theorem d18_0 : decode prog_3_method_4_code 0 = .ok (.aload_n 0, 1) := by decide +kernel
theorem d18_1 : decode prog_3_method_4_code 1 = .ok (.getfield 20, 3) := by decide +kernel
theorem d18_4 : decode prog_3_method_4_code 4 = .ok (.iload_n 1, 1) := by decide +kernel
theorem d18_5 : decode prog_3_method_4_code 5 = .ok (.iaload, 1) := by decide +kernel
theorem d18_6 : decode prog_3_method_4_code 6 = .ok (.aload_n 2, 1) := by decide +kernel
theorem d18_7 : decode prog_3_method_4_code 7 = .ok (.getfield 52, 3) := by decide +kernel
theorem d18_10 : decode prog_3_method_4_code 10 = .ok (.iadd, 1) := by decide +kernel
theorem d18_11 : decode prog_3_method_4_code 11 = .ok (.iconst 1, 1) := by decide +kernel
theorem d18_12 : decode prog_3_method_4_code 12 = .ok (.isub, 1) := by decide +kernel
theorem d18_13 : decode prog_3_method_4_code 13 = .ok (.iload 4, 2) := by decide +kernel
theorem d18_15 : decode prog_3_method_4_code 15 = .ok (.if_icmp .gt 44, 3) := by decide +kernel
theorem d18_59 : decode prog_3_method_4_code 59 = .ok (.iconst 0, 1) := by decide +kernel
theorem d18_60 : decode prog_3_method_4_code 60 = .ok (.ireturn, 1) := by decide +kernel
theorem d18_18 : decode prog_3_method_4_code 18 = .ok (.aload_n 0, 1) := by decide +kernel
theorem d18_19 : decode prog_3_method_4_code 19 = .ok (.getfield 23, 3) := by decide +kernel
theorem d18_22 : decode prog_3_method_4_code 22 = .ok (.iload_n 1, 1) := by decide +kernel
theorem d18_23 : decode prog_3_method_4_code 23 = .ok (.iaload, 1) := by decide +kernel
theorem d18_24 : decode prog_3_method_4_code 24 = .ok (.iconst 1, 1) := by decide +kernel
theorem d18_25 : decode prog_3_method_4_code 25 = .ok (.isub, 1) := by decide +kernel
theorem d18_26 : decode prog_3_method_4_code 26 = .ok (.iload_n 3, 1) := by decide +kernel
theorem d18_27 : decode prog_3_method_4_code 27 = .ok (.aload_n 2, 1) := by decide +kernel
theorem d18_28 : decode prog_3_method_4_code 28 = .ok (.getfield 57, 3) := by decide +kernel
theorem d18_31 : decode prog_3_method_4_code 31 = .ok (.isub, 1) := by decide +kernel
theorem d18_32 : decode prog_3_method_4_code 32 = .ok (.if_icmp .gt 27, 3) := by decide +kernel
theorem d18_35 : decode prog_3_method_4_code 35 = .ok (.aload_n 0, 1) := by decide +kernel
theorem d18_36 : decode prog_3_method_4_code 36 = .ok (.getfield 26, 3) := by decide +kernel
theorem d18_39 : decode prog_3_method_4_code 39 = .ok (.iload_n 1, 1) := by decide +kernel
theorem d18_40 : decode prog_3_method_4_code 40 = .ok (.iaload, 1) := by decide +kernel
theorem d18_41 : decode prog_3_method_4_code 41 = .ok (.aload_n 2, 1) := by decide +kernel
theorem d18_42 : decode prog_3_method_4_code 42 = .ok (.getfield 60, 3) := by decide +kernel
theorem d18_45 : decode prog_3_method_4_code 45 = .ok (.iadd, 1) := by decide +kernel
theorem d18_46 : decode prog_3_method_4_code 46 = .ok (.iconst 1, 1) := by decide +kernel
theorem d18_47 : decode prog_3_method_4_code 47 = .ok (.isub, 1) := by decide +kernel
theorem d18_48 : decode prog_3_method_4_code 48 = .ok (.aload_n 0, 1) := by decide +kernel
theorem d18_49 : decode prog_3_method_4_code 49 = .ok (.getfield 13, 3) := by decide +kernel
theorem d18_52 : decode prog_3_method_4_code 52 = .ok (.if_icmp .gt 7, 3) := by decide +kernel
theorem d18_55 : decode prog_3_method_4_code 55 = .ok (.iconst 1, 1) := by decide +kernel
theorem d18_56 : decode prog_3_method_4_code 56 = .ok (.goto 4, 3) := by decide +kernel
def f18_0 (p4 : Int32) (p5 : Int32) (hm : Int32) (x3 : Int32) (y3 : Int32) (z3 : Int32) (u0 : Int32) (v0 : Int32) (w0 : Int32) : Int32 := (if p5 < ((u0 + x3) - (1 : Int32)) then (0 : Int32) else (if (p4 - y3) < (v0 - (1 : Int32)) then (0 : Int32) else (if hm < ((w0 + z3) - (1 : Int32)) then (0 : Int32) else (1 : Int32))))
def Q18_0 (a1 : Addr) (a3 : Addr) (p4 : Int32) (p5 : Int32) (m2 : Addr) (m3 : Addr) (m4 : Addr) (hm : Int32) (x3 : Int32) (y3 : Int32) (z3 : Int32) (u0 : Int32) (u1 : Int32) (u2 : Int32) (u3 : Int32) (v0 : Int32) (v1 : Int32) (v2 : Int32) (v3 : Int32) (w0 : Int32) (w1 : Int32) (w2 : Int32) (w3 : Int32) (h0 : Heap) (n0 : Nat) (v : Option Value) (h : Heap) (L : List Loc) : Prop := v = some (.int (f18_0 p4 p5 hm x3 y3 z3 u0 v0 w0)) ∧ Fr n0 L ∧ h = h0
def rmR18_0 : Room := { frames := 0, cells := 0, slots := 0, locals := 0 }
theorem ef_18_0 (m : MethodId) (a1 : Addr) (a3 : Addr) (p4 : Int32) (p5 : Int32) : entryFrame m #[(.ref a1), (.int (0 : Int32)), (.ref a3), (.int p4), (.int p5)] 5 = mkF m 0 #[.val (.ref a1), .val (.int (0 : Int32)), .val (.ref a3), .val (.int p4), .val (.int p5)] [] := by first | (simp [entryFrame, mkF, argsToLocals, Value.category]; done) | rfl
set_option maxRecDepth 65536 in
set_option maxHeartbeats 40000000 in
theorem rm18_0 (l : Launch) (Z : State) (a0 : Array Value) (hw : ∀ d ∈ tables_1, d.before a0 Z = true) (ws : List Jvm.Cond) (a1 : Addr) (a3 : Addr) (p4 : Int32) (p5 : Int32) (m2 : Addr) (m3 : Addr) (m4 : Addr) (hm : Int32) (x3 : Int32) (y3 : Int32) (z3 : Int32) (u0 : Int32) (u1 : Int32) (u2 : Int32) (u3 : Int32) (v0 : Int32) (v1 : Int32) (v2 : Int32) (v3 : Int32) (w0 : Int32) (w1 : Int32) (w2 : Int32) (w3 : Int32) (h0 : Heap) (n0 : Nat) (F_F_a1_h : Fld Z h0 a1 nm4 "h" "I" (.int hm)) (F_F_a1_lowIn : Fld Z h0 a1 nm4 "lowIn" "[I" (.ref m2)) (F_F_a1_lowInLength : Fld Z h0 a1 nm4 "lowInLength" "[I" (.ref m3)) (F_F_a1_lowInLows : Fld Z h0 a1 nm4 "lowInLows" "[I" (.ref m4)) (F_A_m2 : IA Z h0 m2 .int [(.int u0), (.int u1), (.int u2), (.int u3)]) (F_A_m3 : IA Z h0 m3 .int [(.int v0), (.int v1), (.int v2), (.int v3)]) (F_A_m4 : IA Z h0 m4 .int [(.int w0), (.int w1), (.int w2), (.int w3)]) (F_F_a3_runs : Fld Z h0 a3 nm1 "runs" "I" (.int x3)) (F_F_a3_length : Fld Z h0 a3 nm1 "length" "I" (.int y3)) (F_F_a3_lows : Fld Z h0 a3 nm1 "lows" "I" (.int z3)) :
    Mt l Z mt12 (Jvm.Cond.code mt12 prog_3_method_4_code 5 (some .boolean) :: ws) rmR18_0 #[(.ref a1), (.int (0 : Int32)), (.ref a3), (.int p4), (.int p5)] h0 (Q18_0 a1 a3 p4 p5 m2 m3 m4 hm x3 y3 z3 u0 u1 u2 u3 v0 v1 v2 v3 w0 w1 w2 w3 h0 n0) := by
  refine Mt.of n0 (plainFor_of_name pn_com_example_tightfold_tightfold_FocusFiltering) ?_
  intro p e s m below meth c T0 X0 hx hZ hby hml hown hret hlk hnm hs0
  have hown : s.vm.findClass "com/example/tightfold/tightfold/FocusFiltering" = some m.cls := hown
  rw [ef_18_0]
  show Rt p e below s rmR18_0.cells rmR18_0.slots (Q18_0 a1 a3 p4 p5 m2 m3 m4 hm x3 y3 z3 u0 u1 u2 u3 v0 v1 v2 v3 w0 w1 w2 w3 h0 n0) (T0.setTop (mkF m 0 #[.val (.ref a1), .val (.int (0 : Int32)), .val (.ref a3), .val (.int p4), .val (.int p5)] []))
  refine Rt.aloadN (pc' := 1) X0 hx (hb hby d18_0) rfl rfl rfl ?_
  refine Rt.getF (pc' := 4) (v := (.ref m2)) X0 hx hZ hown (host := "") (Or.inl (own_g hw 35 rfl)) F_F_a1_lowIn (hb hby d18_1) rfl ?_
  intro T1 X1
  refine Rt.iloadN (pc' := 5) X1 hx (hb hby d18_4) rfl rfl ?_
  refine Rt.iaload (pc' := 6) X1 hx hZ F_A_m2 (i := 0) (by decide) (by decide) (v := (.int u0)) rfl (hb hby d18_5) rfl ?_
  refine Rt.aloadN (pc' := 7) X1 hx (hb hby d18_6) rfl rfl rfl ?_
  refine Rt.getFR (pc' := 10) (v := (.int x3)) X1 hx hZ hown (own_g hw 114 rfl) F_F_a3_runs (hb hby d18_7) rfl ?_
  intro T2 X2
  refine Rt.iadd (pc' := 11) (r := (u0 + x3)) X2 hx (hb hby d18_10) rfl rfl ?_
  refine Rt.iconst (pc' := 12) (v := (1 : Int32)) X2 hx (hb hby d18_11) rfl rfl ?_
  refine Rt.isub (pc' := 13) (r := ((u0 + x3) - (1 : Int32))) X2 hx (hb hby d18_12) rfl rfl ?_
  refine Rt.iload (pc' := 15) X2 hx (hb hby d18_13) rfl rfl ?_
  by_cases hc15_3 : p5 < ((u0 + x3) - (1 : Int32))
  · refine Rt.icmpY (pc' := 59) X2 hx (hb hby d18_15) (tlt hc15_3).2.2.1 (by decide) (by decide) ?_
    refine Rt.iconst (pc' := 60) (v := (0 : Int32)) X2 hx (hb hby d18_59) rfl rfl ?_
    exact Rt.retZ (w := (0 : Int32)) X2 hx hlk hret (by simp) (hb hby d18_60) (by decide) (by decide) (by decide) (fun L N => ⟨congrArg some (congrArg Value.int (by rw [f18_0, if_pos hc15_3])), N, rfl⟩)
  · refine Rt.icmpN (pc' := 18) X2 hx (hb hby d18_15) (flt hc15_3).2.2.1 rfl ?_
    refine Rt.aloadN (pc' := 19) X2 hx (hb hby d18_18) rfl rfl rfl ?_
    refine Rt.getF (pc' := 22) (v := (.ref m3)) X2 hx hZ hown (host := "") (Or.inl (own_g hw 37 rfl)) F_F_a1_lowInLength (hb hby d18_19) rfl ?_
    intro T4 X4
    refine Rt.iloadN (pc' := 23) X4 hx (hb hby d18_22) rfl rfl ?_
    refine Rt.iaload (pc' := 24) X4 hx hZ F_A_m3 (i := 0) (by decide) (by decide) (v := (.int v0)) rfl (hb hby d18_23) rfl ?_
    refine Rt.iconst (pc' := 25) (v := (1 : Int32)) X4 hx (hb hby d18_24) rfl rfl ?_
    refine Rt.isub (pc' := 26) (r := (v0 - (1 : Int32))) X4 hx (hb hby d18_25) rfl rfl ?_
    refine Rt.iloadN (pc' := 27) X4 hx (hb hby d18_26) rfl rfl ?_
    refine Rt.aloadN (pc' := 28) X4 hx (hb hby d18_27) rfl rfl rfl ?_
    refine Rt.getFR (pc' := 31) (v := (.int y3)) X4 hx hZ hown (own_g hw 115 rfl) F_F_a3_length (hb hby d18_28) rfl ?_
    intro T5 X5
    refine Rt.isub (pc' := 32) (r := (p4 - y3)) X5 hx (hb hby d18_31) rfl rfl ?_
    by_cases hc32_6 : (p4 - y3) < (v0 - (1 : Int32))
    · refine Rt.icmpY (pc' := 59) X5 hx (hb hby d18_32) (tlt hc32_6).2.2.1 (by decide) (by decide) ?_
      refine Rt.iconst (pc' := 60) (v := (0 : Int32)) X5 hx (hb hby d18_59) rfl rfl ?_
      exact Rt.retZ (w := (0 : Int32)) X5 hx hlk hret (by simp) (hb hby d18_60) (by decide) (by decide) (by decide) (fun L N => ⟨congrArg some (congrArg Value.int (by rw [f18_0, if_neg hc15_3, if_pos hc32_6])), N, rfl⟩)
    · refine Rt.icmpN (pc' := 35) X5 hx (hb hby d18_32) (flt hc32_6).2.2.1 rfl ?_
      refine Rt.aloadN (pc' := 36) X5 hx (hb hby d18_35) rfl rfl rfl ?_
      refine Rt.getF (pc' := 39) (v := (.ref m4)) X5 hx hZ hown (host := "") (Or.inl (own_g hw 39 rfl)) F_F_a1_lowInLows (hb hby d18_36) rfl ?_
      intro T7 X7
      refine Rt.iloadN (pc' := 40) X7 hx (hb hby d18_39) rfl rfl ?_
      refine Rt.iaload (pc' := 41) X7 hx hZ F_A_m4 (i := 0) (by decide) (by decide) (v := (.int w0)) rfl (hb hby d18_40) rfl ?_
      refine Rt.aloadN (pc' := 42) X7 hx (hb hby d18_41) rfl rfl rfl ?_
      refine Rt.getFR (pc' := 45) (v := (.int z3)) X7 hx hZ hown (own_g hw 116 rfl) F_F_a3_lows (hb hby d18_42) rfl ?_
      intro T8 X8
      refine Rt.iadd (pc' := 46) (r := (w0 + z3)) X8 hx (hb hby d18_45) rfl rfl ?_
      refine Rt.iconst (pc' := 47) (v := (1 : Int32)) X8 hx (hb hby d18_46) rfl rfl ?_
      refine Rt.isub (pc' := 48) (r := ((w0 + z3) - (1 : Int32))) X8 hx (hb hby d18_47) rfl rfl ?_
      refine Rt.aloadN (pc' := 49) X8 hx (hb hby d18_48) rfl rfl rfl ?_
      refine Rt.getF (pc' := 52) (v := (.int hm)) X8 hx hZ hown (host := "") (Or.inl (own_g hw 31 rfl)) F_F_a1_h (hb hby d18_49) rfl ?_
      intro T9 X9
      by_cases hc52_10 : hm < ((w0 + z3) - (1 : Int32))
      · refine Rt.icmpY (pc' := 59) X9 hx (hb hby d18_52) (tlt hc52_10).2.2.1 (by decide) (by decide) ?_
        refine Rt.iconst (pc' := 60) (v := (0 : Int32)) X9 hx (hb hby d18_59) rfl rfl ?_
        exact Rt.retZ (w := (0 : Int32)) X9 hx hlk hret (by simp) (hb hby d18_60) (by decide) (by decide) (by decide) (fun L N => ⟨congrArg some (congrArg Value.int (by rw [f18_0, if_neg hc15_3, if_neg hc32_6, if_pos hc52_10])), N, rfl⟩)
      · refine Rt.icmpN (pc' := 55) X9 hx (hb hby d18_52) (flt hc52_10).2.2.1 rfl ?_
        refine Rt.iconst (pc' := 56) (v := (1 : Int32)) X9 hx (hb hby d18_55) rfl rfl ?_
        refine Rt.goto (pc' := 60) X9 hx (hb hby d18_56) (by decide) (by decide) ?_
        exact Rt.retZ (w := (1 : Int32)) X9 hx hlk hret (by simp) (hb hby d18_60) (by decide) (by decide) (by decide) (fun L N => ⟨congrArg some (congrArg Value.int (by rw [f18_0, if_neg hc15_3, if_neg hc32_6, if_neg hc52_10])), N, rfl⟩)
def f18_1 (p4 : Int32) (p5 : Int32) (hm : Int32) (x3 : Int32) (y3 : Int32) (z3 : Int32) (u1 : Int32) (v1 : Int32) (w1 : Int32) : Int32 := (if p5 < ((u1 + x3) - (1 : Int32)) then (0 : Int32) else (if (p4 - y3) < (v1 - (1 : Int32)) then (0 : Int32) else (if hm < ((w1 + z3) - (1 : Int32)) then (0 : Int32) else (1 : Int32))))
def Q18_1 (a1 : Addr) (a3 : Addr) (p4 : Int32) (p5 : Int32) (m2 : Addr) (m3 : Addr) (m4 : Addr) (hm : Int32) (x3 : Int32) (y3 : Int32) (z3 : Int32) (u0 : Int32) (u1 : Int32) (u2 : Int32) (u3 : Int32) (v0 : Int32) (v1 : Int32) (v2 : Int32) (v3 : Int32) (w0 : Int32) (w1 : Int32) (w2 : Int32) (w3 : Int32) (h0 : Heap) (n0 : Nat) (v : Option Value) (h : Heap) (L : List Loc) : Prop := v = some (.int (f18_1 p4 p5 hm x3 y3 z3 u1 v1 w1)) ∧ Fr n0 L ∧ h = h0
def rmR18_1 : Room := { frames := 0, cells := 0, slots := 0, locals := 0 }
theorem ef_18_1 (m : MethodId) (a1 : Addr) (a3 : Addr) (p4 : Int32) (p5 : Int32) : entryFrame m #[(.ref a1), (.int (1 : Int32)), (.ref a3), (.int p4), (.int p5)] 5 = mkF m 0 #[.val (.ref a1), .val (.int (1 : Int32)), .val (.ref a3), .val (.int p4), .val (.int p5)] [] := by first | (simp [entryFrame, mkF, argsToLocals, Value.category]; done) | rfl
set_option maxRecDepth 65536 in
set_option maxHeartbeats 40000000 in
theorem rm18_1 (l : Launch) (Z : State) (a0 : Array Value) (hw : ∀ d ∈ tables_1, d.before a0 Z = true) (ws : List Jvm.Cond) (a1 : Addr) (a3 : Addr) (p4 : Int32) (p5 : Int32) (m2 : Addr) (m3 : Addr) (m4 : Addr) (hm : Int32) (x3 : Int32) (y3 : Int32) (z3 : Int32) (u0 : Int32) (u1 : Int32) (u2 : Int32) (u3 : Int32) (v0 : Int32) (v1 : Int32) (v2 : Int32) (v3 : Int32) (w0 : Int32) (w1 : Int32) (w2 : Int32) (w3 : Int32) (h0 : Heap) (n0 : Nat) (F_F_a1_h : Fld Z h0 a1 nm4 "h" "I" (.int hm)) (F_F_a1_lowIn : Fld Z h0 a1 nm4 "lowIn" "[I" (.ref m2)) (F_F_a1_lowInLength : Fld Z h0 a1 nm4 "lowInLength" "[I" (.ref m3)) (F_F_a1_lowInLows : Fld Z h0 a1 nm4 "lowInLows" "[I" (.ref m4)) (F_A_m2 : IA Z h0 m2 .int [(.int u0), (.int u1), (.int u2), (.int u3)]) (F_A_m3 : IA Z h0 m3 .int [(.int v0), (.int v1), (.int v2), (.int v3)]) (F_A_m4 : IA Z h0 m4 .int [(.int w0), (.int w1), (.int w2), (.int w3)]) (F_F_a3_runs : Fld Z h0 a3 nm1 "runs" "I" (.int x3)) (F_F_a3_length : Fld Z h0 a3 nm1 "length" "I" (.int y3)) (F_F_a3_lows : Fld Z h0 a3 nm1 "lows" "I" (.int z3)) :
    Mt l Z mt12 (Jvm.Cond.code mt12 prog_3_method_4_code 5 (some .boolean) :: ws) rmR18_1 #[(.ref a1), (.int (1 : Int32)), (.ref a3), (.int p4), (.int p5)] h0 (Q18_1 a1 a3 p4 p5 m2 m3 m4 hm x3 y3 z3 u0 u1 u2 u3 v0 v1 v2 v3 w0 w1 w2 w3 h0 n0) := by
  refine Mt.of n0 (plainFor_of_name pn_com_example_tightfold_tightfold_FocusFiltering) ?_
  intro p e s m below meth c T0 X0 hx hZ hby hml hown hret hlk hnm hs0
  have hown : s.vm.findClass "com/example/tightfold/tightfold/FocusFiltering" = some m.cls := hown
  rw [ef_18_1]
  show Rt p e below s rmR18_1.cells rmR18_1.slots (Q18_1 a1 a3 p4 p5 m2 m3 m4 hm x3 y3 z3 u0 u1 u2 u3 v0 v1 v2 v3 w0 w1 w2 w3 h0 n0) (T0.setTop (mkF m 0 #[.val (.ref a1), .val (.int (1 : Int32)), .val (.ref a3), .val (.int p4), .val (.int p5)] []))
  refine Rt.aloadN (pc' := 1) X0 hx (hb hby d18_0) rfl rfl rfl ?_
  refine Rt.getF (pc' := 4) (v := (.ref m2)) X0 hx hZ hown (host := "") (Or.inl (own_g hw 35 rfl)) F_F_a1_lowIn (hb hby d18_1) rfl ?_
  intro T1 X1
  refine Rt.iloadN (pc' := 5) X1 hx (hb hby d18_4) rfl rfl ?_
  refine Rt.iaload (pc' := 6) X1 hx hZ F_A_m2 (i := 1) (by decide) (by decide) (v := (.int u1)) rfl (hb hby d18_5) rfl ?_
  refine Rt.aloadN (pc' := 7) X1 hx (hb hby d18_6) rfl rfl rfl ?_
  refine Rt.getFR (pc' := 10) (v := (.int x3)) X1 hx hZ hown (own_g hw 114 rfl) F_F_a3_runs (hb hby d18_7) rfl ?_
  intro T2 X2
  refine Rt.iadd (pc' := 11) (r := (u1 + x3)) X2 hx (hb hby d18_10) rfl rfl ?_
  refine Rt.iconst (pc' := 12) (v := (1 : Int32)) X2 hx (hb hby d18_11) rfl rfl ?_
  refine Rt.isub (pc' := 13) (r := ((u1 + x3) - (1 : Int32))) X2 hx (hb hby d18_12) rfl rfl ?_
  refine Rt.iload (pc' := 15) X2 hx (hb hby d18_13) rfl rfl ?_
  by_cases hc15_3 : p5 < ((u1 + x3) - (1 : Int32))
  · refine Rt.icmpY (pc' := 59) X2 hx (hb hby d18_15) (tlt hc15_3).2.2.1 (by decide) (by decide) ?_
    refine Rt.iconst (pc' := 60) (v := (0 : Int32)) X2 hx (hb hby d18_59) rfl rfl ?_
    exact Rt.retZ (w := (0 : Int32)) X2 hx hlk hret (by simp) (hb hby d18_60) (by decide) (by decide) (by decide) (fun L N => ⟨congrArg some (congrArg Value.int (by rw [f18_1, if_pos hc15_3])), N, rfl⟩)
  · refine Rt.icmpN (pc' := 18) X2 hx (hb hby d18_15) (flt hc15_3).2.2.1 rfl ?_
    refine Rt.aloadN (pc' := 19) X2 hx (hb hby d18_18) rfl rfl rfl ?_
    refine Rt.getF (pc' := 22) (v := (.ref m3)) X2 hx hZ hown (host := "") (Or.inl (own_g hw 37 rfl)) F_F_a1_lowInLength (hb hby d18_19) rfl ?_
    intro T4 X4
    refine Rt.iloadN (pc' := 23) X4 hx (hb hby d18_22) rfl rfl ?_
    refine Rt.iaload (pc' := 24) X4 hx hZ F_A_m3 (i := 1) (by decide) (by decide) (v := (.int v1)) rfl (hb hby d18_23) rfl ?_
    refine Rt.iconst (pc' := 25) (v := (1 : Int32)) X4 hx (hb hby d18_24) rfl rfl ?_
    refine Rt.isub (pc' := 26) (r := (v1 - (1 : Int32))) X4 hx (hb hby d18_25) rfl rfl ?_
    refine Rt.iloadN (pc' := 27) X4 hx (hb hby d18_26) rfl rfl ?_
    refine Rt.aloadN (pc' := 28) X4 hx (hb hby d18_27) rfl rfl rfl ?_
    refine Rt.getFR (pc' := 31) (v := (.int y3)) X4 hx hZ hown (own_g hw 115 rfl) F_F_a3_length (hb hby d18_28) rfl ?_
    intro T5 X5
    refine Rt.isub (pc' := 32) (r := (p4 - y3)) X5 hx (hb hby d18_31) rfl rfl ?_
    by_cases hc32_6 : (p4 - y3) < (v1 - (1 : Int32))
    · refine Rt.icmpY (pc' := 59) X5 hx (hb hby d18_32) (tlt hc32_6).2.2.1 (by decide) (by decide) ?_
      refine Rt.iconst (pc' := 60) (v := (0 : Int32)) X5 hx (hb hby d18_59) rfl rfl ?_
      exact Rt.retZ (w := (0 : Int32)) X5 hx hlk hret (by simp) (hb hby d18_60) (by decide) (by decide) (by decide) (fun L N => ⟨congrArg some (congrArg Value.int (by rw [f18_1, if_neg hc15_3, if_pos hc32_6])), N, rfl⟩)
    · refine Rt.icmpN (pc' := 35) X5 hx (hb hby d18_32) (flt hc32_6).2.2.1 rfl ?_
      refine Rt.aloadN (pc' := 36) X5 hx (hb hby d18_35) rfl rfl rfl ?_
      refine Rt.getF (pc' := 39) (v := (.ref m4)) X5 hx hZ hown (host := "") (Or.inl (own_g hw 39 rfl)) F_F_a1_lowInLows (hb hby d18_36) rfl ?_
      intro T7 X7
      refine Rt.iloadN (pc' := 40) X7 hx (hb hby d18_39) rfl rfl ?_
      refine Rt.iaload (pc' := 41) X7 hx hZ F_A_m4 (i := 1) (by decide) (by decide) (v := (.int w1)) rfl (hb hby d18_40) rfl ?_
      refine Rt.aloadN (pc' := 42) X7 hx (hb hby d18_41) rfl rfl rfl ?_
      refine Rt.getFR (pc' := 45) (v := (.int z3)) X7 hx hZ hown (own_g hw 116 rfl) F_F_a3_lows (hb hby d18_42) rfl ?_
      intro T8 X8
      refine Rt.iadd (pc' := 46) (r := (w1 + z3)) X8 hx (hb hby d18_45) rfl rfl ?_
      refine Rt.iconst (pc' := 47) (v := (1 : Int32)) X8 hx (hb hby d18_46) rfl rfl ?_
      refine Rt.isub (pc' := 48) (r := ((w1 + z3) - (1 : Int32))) X8 hx (hb hby d18_47) rfl rfl ?_
      refine Rt.aloadN (pc' := 49) X8 hx (hb hby d18_48) rfl rfl rfl ?_
      refine Rt.getF (pc' := 52) (v := (.int hm)) X8 hx hZ hown (host := "") (Or.inl (own_g hw 31 rfl)) F_F_a1_h (hb hby d18_49) rfl ?_
      intro T9 X9
      by_cases hc52_10 : hm < ((w1 + z3) - (1 : Int32))
      · refine Rt.icmpY (pc' := 59) X9 hx (hb hby d18_52) (tlt hc52_10).2.2.1 (by decide) (by decide) ?_
        refine Rt.iconst (pc' := 60) (v := (0 : Int32)) X9 hx (hb hby d18_59) rfl rfl ?_
        exact Rt.retZ (w := (0 : Int32)) X9 hx hlk hret (by simp) (hb hby d18_60) (by decide) (by decide) (by decide) (fun L N => ⟨congrArg some (congrArg Value.int (by rw [f18_1, if_neg hc15_3, if_neg hc32_6, if_pos hc52_10])), N, rfl⟩)
      · refine Rt.icmpN (pc' := 55) X9 hx (hb hby d18_52) (flt hc52_10).2.2.1 rfl ?_
        refine Rt.iconst (pc' := 56) (v := (1 : Int32)) X9 hx (hb hby d18_55) rfl rfl ?_
        refine Rt.goto (pc' := 60) X9 hx (hb hby d18_56) (by decide) (by decide) ?_
        exact Rt.retZ (w := (1 : Int32)) X9 hx hlk hret (by simp) (hb hby d18_60) (by decide) (by decide) (by decide) (fun L N => ⟨congrArg some (congrArg Value.int (by rw [f18_1, if_neg hc15_3, if_neg hc32_6, if_neg hc52_10])), N, rfl⟩)
def f18_2 (p4 : Int32) (p5 : Int32) (hm : Int32) (x3 : Int32) (y3 : Int32) (z3 : Int32) (u2 : Int32) (v2 : Int32) (w2 : Int32) : Int32 := (if p5 < ((u2 + x3) - (1 : Int32)) then (0 : Int32) else (if (p4 - y3) < (v2 - (1 : Int32)) then (0 : Int32) else (if hm < ((w2 + z3) - (1 : Int32)) then (0 : Int32) else (1 : Int32))))
def Q18_2 (a1 : Addr) (a3 : Addr) (p4 : Int32) (p5 : Int32) (m2 : Addr) (m3 : Addr) (m4 : Addr) (hm : Int32) (x3 : Int32) (y3 : Int32) (z3 : Int32) (u0 : Int32) (u1 : Int32) (u2 : Int32) (u3 : Int32) (v0 : Int32) (v1 : Int32) (v2 : Int32) (v3 : Int32) (w0 : Int32) (w1 : Int32) (w2 : Int32) (w3 : Int32) (h0 : Heap) (n0 : Nat) (v : Option Value) (h : Heap) (L : List Loc) : Prop := v = some (.int (f18_2 p4 p5 hm x3 y3 z3 u2 v2 w2)) ∧ Fr n0 L ∧ h = h0
def rmR18_2 : Room := { frames := 0, cells := 0, slots := 0, locals := 0 }
theorem ef_18_2 (m : MethodId) (a1 : Addr) (a3 : Addr) (p4 : Int32) (p5 : Int32) : entryFrame m #[(.ref a1), (.int (2 : Int32)), (.ref a3), (.int p4), (.int p5)] 5 = mkF m 0 #[.val (.ref a1), .val (.int (2 : Int32)), .val (.ref a3), .val (.int p4), .val (.int p5)] [] := by first | (simp [entryFrame, mkF, argsToLocals, Value.category]; done) | rfl
set_option maxRecDepth 65536 in
set_option maxHeartbeats 40000000 in
theorem rm18_2 (l : Launch) (Z : State) (a0 : Array Value) (hw : ∀ d ∈ tables_1, d.before a0 Z = true) (ws : List Jvm.Cond) (a1 : Addr) (a3 : Addr) (p4 : Int32) (p5 : Int32) (m2 : Addr) (m3 : Addr) (m4 : Addr) (hm : Int32) (x3 : Int32) (y3 : Int32) (z3 : Int32) (u0 : Int32) (u1 : Int32) (u2 : Int32) (u3 : Int32) (v0 : Int32) (v1 : Int32) (v2 : Int32) (v3 : Int32) (w0 : Int32) (w1 : Int32) (w2 : Int32) (w3 : Int32) (h0 : Heap) (n0 : Nat) (F_F_a1_h : Fld Z h0 a1 nm4 "h" "I" (.int hm)) (F_F_a1_lowIn : Fld Z h0 a1 nm4 "lowIn" "[I" (.ref m2)) (F_F_a1_lowInLength : Fld Z h0 a1 nm4 "lowInLength" "[I" (.ref m3)) (F_F_a1_lowInLows : Fld Z h0 a1 nm4 "lowInLows" "[I" (.ref m4)) (F_A_m2 : IA Z h0 m2 .int [(.int u0), (.int u1), (.int u2), (.int u3)]) (F_A_m3 : IA Z h0 m3 .int [(.int v0), (.int v1), (.int v2), (.int v3)]) (F_A_m4 : IA Z h0 m4 .int [(.int w0), (.int w1), (.int w2), (.int w3)]) (F_F_a3_runs : Fld Z h0 a3 nm1 "runs" "I" (.int x3)) (F_F_a3_length : Fld Z h0 a3 nm1 "length" "I" (.int y3)) (F_F_a3_lows : Fld Z h0 a3 nm1 "lows" "I" (.int z3)) :
    Mt l Z mt12 (Jvm.Cond.code mt12 prog_3_method_4_code 5 (some .boolean) :: ws) rmR18_2 #[(.ref a1), (.int (2 : Int32)), (.ref a3), (.int p4), (.int p5)] h0 (Q18_2 a1 a3 p4 p5 m2 m3 m4 hm x3 y3 z3 u0 u1 u2 u3 v0 v1 v2 v3 w0 w1 w2 w3 h0 n0) := by
  refine Mt.of n0 (plainFor_of_name pn_com_example_tightfold_tightfold_FocusFiltering) ?_
  intro p e s m below meth c T0 X0 hx hZ hby hml hown hret hlk hnm hs0
  have hown : s.vm.findClass "com/example/tightfold/tightfold/FocusFiltering" = some m.cls := hown
  rw [ef_18_2]
  show Rt p e below s rmR18_2.cells rmR18_2.slots (Q18_2 a1 a3 p4 p5 m2 m3 m4 hm x3 y3 z3 u0 u1 u2 u3 v0 v1 v2 v3 w0 w1 w2 w3 h0 n0) (T0.setTop (mkF m 0 #[.val (.ref a1), .val (.int (2 : Int32)), .val (.ref a3), .val (.int p4), .val (.int p5)] []))
  refine Rt.aloadN (pc' := 1) X0 hx (hb hby d18_0) rfl rfl rfl ?_
  refine Rt.getF (pc' := 4) (v := (.ref m2)) X0 hx hZ hown (host := "") (Or.inl (own_g hw 35 rfl)) F_F_a1_lowIn (hb hby d18_1) rfl ?_
  intro T1 X1
  refine Rt.iloadN (pc' := 5) X1 hx (hb hby d18_4) rfl rfl ?_
  refine Rt.iaload (pc' := 6) X1 hx hZ F_A_m2 (i := 2) (by decide) (by decide) (v := (.int u2)) rfl (hb hby d18_5) rfl ?_
  refine Rt.aloadN (pc' := 7) X1 hx (hb hby d18_6) rfl rfl rfl ?_
  refine Rt.getFR (pc' := 10) (v := (.int x3)) X1 hx hZ hown (own_g hw 114 rfl) F_F_a3_runs (hb hby d18_7) rfl ?_
  intro T2 X2
  refine Rt.iadd (pc' := 11) (r := (u2 + x3)) X2 hx (hb hby d18_10) rfl rfl ?_
  refine Rt.iconst (pc' := 12) (v := (1 : Int32)) X2 hx (hb hby d18_11) rfl rfl ?_
  refine Rt.isub (pc' := 13) (r := ((u2 + x3) - (1 : Int32))) X2 hx (hb hby d18_12) rfl rfl ?_
  refine Rt.iload (pc' := 15) X2 hx (hb hby d18_13) rfl rfl ?_
  by_cases hc15_3 : p5 < ((u2 + x3) - (1 : Int32))
  · refine Rt.icmpY (pc' := 59) X2 hx (hb hby d18_15) (tlt hc15_3).2.2.1 (by decide) (by decide) ?_
    refine Rt.iconst (pc' := 60) (v := (0 : Int32)) X2 hx (hb hby d18_59) rfl rfl ?_
    exact Rt.retZ (w := (0 : Int32)) X2 hx hlk hret (by simp) (hb hby d18_60) (by decide) (by decide) (by decide) (fun L N => ⟨congrArg some (congrArg Value.int (by rw [f18_2, if_pos hc15_3])), N, rfl⟩)
  · refine Rt.icmpN (pc' := 18) X2 hx (hb hby d18_15) (flt hc15_3).2.2.1 rfl ?_
    refine Rt.aloadN (pc' := 19) X2 hx (hb hby d18_18) rfl rfl rfl ?_
    refine Rt.getF (pc' := 22) (v := (.ref m3)) X2 hx hZ hown (host := "") (Or.inl (own_g hw 37 rfl)) F_F_a1_lowInLength (hb hby d18_19) rfl ?_
    intro T4 X4
    refine Rt.iloadN (pc' := 23) X4 hx (hb hby d18_22) rfl rfl ?_
    refine Rt.iaload (pc' := 24) X4 hx hZ F_A_m3 (i := 2) (by decide) (by decide) (v := (.int v2)) rfl (hb hby d18_23) rfl ?_
    refine Rt.iconst (pc' := 25) (v := (1 : Int32)) X4 hx (hb hby d18_24) rfl rfl ?_
    refine Rt.isub (pc' := 26) (r := (v2 - (1 : Int32))) X4 hx (hb hby d18_25) rfl rfl ?_
    refine Rt.iloadN (pc' := 27) X4 hx (hb hby d18_26) rfl rfl ?_
    refine Rt.aloadN (pc' := 28) X4 hx (hb hby d18_27) rfl rfl rfl ?_
    refine Rt.getFR (pc' := 31) (v := (.int y3)) X4 hx hZ hown (own_g hw 115 rfl) F_F_a3_length (hb hby d18_28) rfl ?_
    intro T5 X5
    refine Rt.isub (pc' := 32) (r := (p4 - y3)) X5 hx (hb hby d18_31) rfl rfl ?_
    by_cases hc32_6 : (p4 - y3) < (v2 - (1 : Int32))
    · refine Rt.icmpY (pc' := 59) X5 hx (hb hby d18_32) (tlt hc32_6).2.2.1 (by decide) (by decide) ?_
      refine Rt.iconst (pc' := 60) (v := (0 : Int32)) X5 hx (hb hby d18_59) rfl rfl ?_
      exact Rt.retZ (w := (0 : Int32)) X5 hx hlk hret (by simp) (hb hby d18_60) (by decide) (by decide) (by decide) (fun L N => ⟨congrArg some (congrArg Value.int (by rw [f18_2, if_neg hc15_3, if_pos hc32_6])), N, rfl⟩)
    · refine Rt.icmpN (pc' := 35) X5 hx (hb hby d18_32) (flt hc32_6).2.2.1 rfl ?_
      refine Rt.aloadN (pc' := 36) X5 hx (hb hby d18_35) rfl rfl rfl ?_
      refine Rt.getF (pc' := 39) (v := (.ref m4)) X5 hx hZ hown (host := "") (Or.inl (own_g hw 39 rfl)) F_F_a1_lowInLows (hb hby d18_36) rfl ?_
      intro T7 X7
      refine Rt.iloadN (pc' := 40) X7 hx (hb hby d18_39) rfl rfl ?_
      refine Rt.iaload (pc' := 41) X7 hx hZ F_A_m4 (i := 2) (by decide) (by decide) (v := (.int w2)) rfl (hb hby d18_40) rfl ?_
      refine Rt.aloadN (pc' := 42) X7 hx (hb hby d18_41) rfl rfl rfl ?_
      refine Rt.getFR (pc' := 45) (v := (.int z3)) X7 hx hZ hown (own_g hw 116 rfl) F_F_a3_lows (hb hby d18_42) rfl ?_
      intro T8 X8
      refine Rt.iadd (pc' := 46) (r := (w2 + z3)) X8 hx (hb hby d18_45) rfl rfl ?_
      refine Rt.iconst (pc' := 47) (v := (1 : Int32)) X8 hx (hb hby d18_46) rfl rfl ?_
      refine Rt.isub (pc' := 48) (r := ((w2 + z3) - (1 : Int32))) X8 hx (hb hby d18_47) rfl rfl ?_
      refine Rt.aloadN (pc' := 49) X8 hx (hb hby d18_48) rfl rfl rfl ?_
      refine Rt.getF (pc' := 52) (v := (.int hm)) X8 hx hZ hown (host := "") (Or.inl (own_g hw 31 rfl)) F_F_a1_h (hb hby d18_49) rfl ?_
      intro T9 X9
      by_cases hc52_10 : hm < ((w2 + z3) - (1 : Int32))
      · refine Rt.icmpY (pc' := 59) X9 hx (hb hby d18_52) (tlt hc52_10).2.2.1 (by decide) (by decide) ?_
        refine Rt.iconst (pc' := 60) (v := (0 : Int32)) X9 hx (hb hby d18_59) rfl rfl ?_
        exact Rt.retZ (w := (0 : Int32)) X9 hx hlk hret (by simp) (hb hby d18_60) (by decide) (by decide) (by decide) (fun L N => ⟨congrArg some (congrArg Value.int (by rw [f18_2, if_neg hc15_3, if_neg hc32_6, if_pos hc52_10])), N, rfl⟩)
      · refine Rt.icmpN (pc' := 55) X9 hx (hb hby d18_52) (flt hc52_10).2.2.1 rfl ?_
        refine Rt.iconst (pc' := 56) (v := (1 : Int32)) X9 hx (hb hby d18_55) rfl rfl ?_
        refine Rt.goto (pc' := 60) X9 hx (hb hby d18_56) (by decide) (by decide) ?_
        exact Rt.retZ (w := (1 : Int32)) X9 hx hlk hret (by simp) (hb hby d18_60) (by decide) (by decide) (by decide) (fun L N => ⟨congrArg some (congrArg Value.int (by rw [f18_2, if_neg hc15_3, if_neg hc32_6, if_neg hc52_10])), N, rfl⟩)
def f18_3 (p4 : Int32) (p5 : Int32) (hm : Int32) (x3 : Int32) (y3 : Int32) (z3 : Int32) (u3 : Int32) (v3 : Int32) (w3 : Int32) : Int32 := (if p5 < ((u3 + x3) - (1 : Int32)) then (0 : Int32) else (if (p4 - y3) < (v3 - (1 : Int32)) then (0 : Int32) else (if hm < ((w3 + z3) - (1 : Int32)) then (0 : Int32) else (1 : Int32))))
def Q18_3 (a1 : Addr) (a3 : Addr) (p4 : Int32) (p5 : Int32) (m2 : Addr) (m3 : Addr) (m4 : Addr) (hm : Int32) (x3 : Int32) (y3 : Int32) (z3 : Int32) (u0 : Int32) (u1 : Int32) (u2 : Int32) (u3 : Int32) (v0 : Int32) (v1 : Int32) (v2 : Int32) (v3 : Int32) (w0 : Int32) (w1 : Int32) (w2 : Int32) (w3 : Int32) (h0 : Heap) (n0 : Nat) (v : Option Value) (h : Heap) (L : List Loc) : Prop := v = some (.int (f18_3 p4 p5 hm x3 y3 z3 u3 v3 w3)) ∧ Fr n0 L ∧ h = h0
def rmR18_3 : Room := { frames := 0, cells := 0, slots := 0, locals := 0 }
theorem ef_18_3 (m : MethodId) (a1 : Addr) (a3 : Addr) (p4 : Int32) (p5 : Int32) : entryFrame m #[(.ref a1), (.int (3 : Int32)), (.ref a3), (.int p4), (.int p5)] 5 = mkF m 0 #[.val (.ref a1), .val (.int (3 : Int32)), .val (.ref a3), .val (.int p4), .val (.int p5)] [] := by first | (simp [entryFrame, mkF, argsToLocals, Value.category]; done) | rfl
set_option maxRecDepth 65536 in
set_option maxHeartbeats 40000000 in
theorem rm18_3 (l : Launch) (Z : State) (a0 : Array Value) (hw : ∀ d ∈ tables_1, d.before a0 Z = true) (ws : List Jvm.Cond) (a1 : Addr) (a3 : Addr) (p4 : Int32) (p5 : Int32) (m2 : Addr) (m3 : Addr) (m4 : Addr) (hm : Int32) (x3 : Int32) (y3 : Int32) (z3 : Int32) (u0 : Int32) (u1 : Int32) (u2 : Int32) (u3 : Int32) (v0 : Int32) (v1 : Int32) (v2 : Int32) (v3 : Int32) (w0 : Int32) (w1 : Int32) (w2 : Int32) (w3 : Int32) (h0 : Heap) (n0 : Nat) (F_F_a1_h : Fld Z h0 a1 nm4 "h" "I" (.int hm)) (F_F_a1_lowIn : Fld Z h0 a1 nm4 "lowIn" "[I" (.ref m2)) (F_F_a1_lowInLength : Fld Z h0 a1 nm4 "lowInLength" "[I" (.ref m3)) (F_F_a1_lowInLows : Fld Z h0 a1 nm4 "lowInLows" "[I" (.ref m4)) (F_A_m2 : IA Z h0 m2 .int [(.int u0), (.int u1), (.int u2), (.int u3)]) (F_A_m3 : IA Z h0 m3 .int [(.int v0), (.int v1), (.int v2), (.int v3)]) (F_A_m4 : IA Z h0 m4 .int [(.int w0), (.int w1), (.int w2), (.int w3)]) (F_F_a3_runs : Fld Z h0 a3 nm1 "runs" "I" (.int x3)) (F_F_a3_length : Fld Z h0 a3 nm1 "length" "I" (.int y3)) (F_F_a3_lows : Fld Z h0 a3 nm1 "lows" "I" (.int z3)) :
    Mt l Z mt12 (Jvm.Cond.code mt12 prog_3_method_4_code 5 (some .boolean) :: ws) rmR18_3 #[(.ref a1), (.int (3 : Int32)), (.ref a3), (.int p4), (.int p5)] h0 (Q18_3 a1 a3 p4 p5 m2 m3 m4 hm x3 y3 z3 u0 u1 u2 u3 v0 v1 v2 v3 w0 w1 w2 w3 h0 n0) := by
  refine Mt.of n0 (plainFor_of_name pn_com_example_tightfold_tightfold_FocusFiltering) ?_
  intro p e s m below meth c T0 X0 hx hZ hby hml hown hret hlk hnm hs0
  have hown : s.vm.findClass "com/example/tightfold/tightfold/FocusFiltering" = some m.cls := hown
  rw [ef_18_3]
  show Rt p e below s rmR18_3.cells rmR18_3.slots (Q18_3 a1 a3 p4 p5 m2 m3 m4 hm x3 y3 z3 u0 u1 u2 u3 v0 v1 v2 v3 w0 w1 w2 w3 h0 n0) (T0.setTop (mkF m 0 #[.val (.ref a1), .val (.int (3 : Int32)), .val (.ref a3), .val (.int p4), .val (.int p5)] []))
  refine Rt.aloadN (pc' := 1) X0 hx (hb hby d18_0) rfl rfl rfl ?_
  refine Rt.getF (pc' := 4) (v := (.ref m2)) X0 hx hZ hown (host := "") (Or.inl (own_g hw 35 rfl)) F_F_a1_lowIn (hb hby d18_1) rfl ?_
  intro T1 X1
  refine Rt.iloadN (pc' := 5) X1 hx (hb hby d18_4) rfl rfl ?_
  refine Rt.iaload (pc' := 6) X1 hx hZ F_A_m2 (i := 3) (by decide) (by decide) (v := (.int u3)) rfl (hb hby d18_5) rfl ?_
  refine Rt.aloadN (pc' := 7) X1 hx (hb hby d18_6) rfl rfl rfl ?_
  refine Rt.getFR (pc' := 10) (v := (.int x3)) X1 hx hZ hown (own_g hw 114 rfl) F_F_a3_runs (hb hby d18_7) rfl ?_
  intro T2 X2
  refine Rt.iadd (pc' := 11) (r := (u3 + x3)) X2 hx (hb hby d18_10) rfl rfl ?_
  refine Rt.iconst (pc' := 12) (v := (1 : Int32)) X2 hx (hb hby d18_11) rfl rfl ?_
  refine Rt.isub (pc' := 13) (r := ((u3 + x3) - (1 : Int32))) X2 hx (hb hby d18_12) rfl rfl ?_
  refine Rt.iload (pc' := 15) X2 hx (hb hby d18_13) rfl rfl ?_
  by_cases hc15_3 : p5 < ((u3 + x3) - (1 : Int32))
  · refine Rt.icmpY (pc' := 59) X2 hx (hb hby d18_15) (tlt hc15_3).2.2.1 (by decide) (by decide) ?_
    refine Rt.iconst (pc' := 60) (v := (0 : Int32)) X2 hx (hb hby d18_59) rfl rfl ?_
    exact Rt.retZ (w := (0 : Int32)) X2 hx hlk hret (by simp) (hb hby d18_60) (by decide) (by decide) (by decide) (fun L N => ⟨congrArg some (congrArg Value.int (by rw [f18_3, if_pos hc15_3])), N, rfl⟩)
  · refine Rt.icmpN (pc' := 18) X2 hx (hb hby d18_15) (flt hc15_3).2.2.1 rfl ?_
    refine Rt.aloadN (pc' := 19) X2 hx (hb hby d18_18) rfl rfl rfl ?_
    refine Rt.getF (pc' := 22) (v := (.ref m3)) X2 hx hZ hown (host := "") (Or.inl (own_g hw 37 rfl)) F_F_a1_lowInLength (hb hby d18_19) rfl ?_
    intro T4 X4
    refine Rt.iloadN (pc' := 23) X4 hx (hb hby d18_22) rfl rfl ?_
    refine Rt.iaload (pc' := 24) X4 hx hZ F_A_m3 (i := 3) (by decide) (by decide) (v := (.int v3)) rfl (hb hby d18_23) rfl ?_
    refine Rt.iconst (pc' := 25) (v := (1 : Int32)) X4 hx (hb hby d18_24) rfl rfl ?_
    refine Rt.isub (pc' := 26) (r := (v3 - (1 : Int32))) X4 hx (hb hby d18_25) rfl rfl ?_
    refine Rt.iloadN (pc' := 27) X4 hx (hb hby d18_26) rfl rfl ?_
    refine Rt.aloadN (pc' := 28) X4 hx (hb hby d18_27) rfl rfl rfl ?_
    refine Rt.getFR (pc' := 31) (v := (.int y3)) X4 hx hZ hown (own_g hw 115 rfl) F_F_a3_length (hb hby d18_28) rfl ?_
    intro T5 X5
    refine Rt.isub (pc' := 32) (r := (p4 - y3)) X5 hx (hb hby d18_31) rfl rfl ?_
    by_cases hc32_6 : (p4 - y3) < (v3 - (1 : Int32))
    · refine Rt.icmpY (pc' := 59) X5 hx (hb hby d18_32) (tlt hc32_6).2.2.1 (by decide) (by decide) ?_
      refine Rt.iconst (pc' := 60) (v := (0 : Int32)) X5 hx (hb hby d18_59) rfl rfl ?_
      exact Rt.retZ (w := (0 : Int32)) X5 hx hlk hret (by simp) (hb hby d18_60) (by decide) (by decide) (by decide) (fun L N => ⟨congrArg some (congrArg Value.int (by rw [f18_3, if_neg hc15_3, if_pos hc32_6])), N, rfl⟩)
    · refine Rt.icmpN (pc' := 35) X5 hx (hb hby d18_32) (flt hc32_6).2.2.1 rfl ?_
      refine Rt.aloadN (pc' := 36) X5 hx (hb hby d18_35) rfl rfl rfl ?_
      refine Rt.getF (pc' := 39) (v := (.ref m4)) X5 hx hZ hown (host := "") (Or.inl (own_g hw 39 rfl)) F_F_a1_lowInLows (hb hby d18_36) rfl ?_
      intro T7 X7
      refine Rt.iloadN (pc' := 40) X7 hx (hb hby d18_39) rfl rfl ?_
      refine Rt.iaload (pc' := 41) X7 hx hZ F_A_m4 (i := 3) (by decide) (by decide) (v := (.int w3)) rfl (hb hby d18_40) rfl ?_
      refine Rt.aloadN (pc' := 42) X7 hx (hb hby d18_41) rfl rfl rfl ?_
      refine Rt.getFR (pc' := 45) (v := (.int z3)) X7 hx hZ hown (own_g hw 116 rfl) F_F_a3_lows (hb hby d18_42) rfl ?_
      intro T8 X8
      refine Rt.iadd (pc' := 46) (r := (w3 + z3)) X8 hx (hb hby d18_45) rfl rfl ?_
      refine Rt.iconst (pc' := 47) (v := (1 : Int32)) X8 hx (hb hby d18_46) rfl rfl ?_
      refine Rt.isub (pc' := 48) (r := ((w3 + z3) - (1 : Int32))) X8 hx (hb hby d18_47) rfl rfl ?_
      refine Rt.aloadN (pc' := 49) X8 hx (hb hby d18_48) rfl rfl rfl ?_
      refine Rt.getF (pc' := 52) (v := (.int hm)) X8 hx hZ hown (host := "") (Or.inl (own_g hw 31 rfl)) F_F_a1_h (hb hby d18_49) rfl ?_
      intro T9 X9
      by_cases hc52_10 : hm < ((w3 + z3) - (1 : Int32))
      · refine Rt.icmpY (pc' := 59) X9 hx (hb hby d18_52) (tlt hc52_10).2.2.1 (by decide) (by decide) ?_
        refine Rt.iconst (pc' := 60) (v := (0 : Int32)) X9 hx (hb hby d18_59) rfl rfl ?_
        exact Rt.retZ (w := (0 : Int32)) X9 hx hlk hret (by simp) (hb hby d18_60) (by decide) (by decide) (by decide) (fun L N => ⟨congrArg some (congrArg Value.int (by rw [f18_3, if_neg hc15_3, if_neg hc32_6, if_pos hc52_10])), N, rfl⟩)
      · refine Rt.icmpN (pc' := 55) X9 hx (hb hby d18_52) (flt hc52_10).2.2.1 rfl ?_
        refine Rt.iconst (pc' := 56) (v := (1 : Int32)) X9 hx (hb hby d18_55) rfl rfl ?_
        refine Rt.goto (pc' := 60) X9 hx (hb hby d18_56) (by decide) (by decide) ?_
        exact Rt.retZ (w := (1 : Int32)) X9 hx hlk hret (by simp) (hb hby d18_60) (by decide) (by decide) (by decide) (fun L N => ⟨congrArg some (congrArg Value.int (by rw [f18_3, if_neg hc15_3, if_neg hc32_6, if_neg hc52_10])), N, rfl⟩)
theorem d8_0 : decode prog_3_method_3_code 0 = .ok (.aload_n 0, 1) := by decide +kernel
theorem d8_1 : decode prog_3_method_3_code 1 = .ok (.aload_n 1, 1) := by decide +kernel
theorem d8_2 : decode prog_3_method_3_code 2 = .ok (.aload_n 2, 1) := by decide +kernel
theorem d8_3 : decode prog_3_method_3_code 3 = .ok (.iload_n 3, 1) := by decide +kernel
theorem pd_8 : parseMethodDescriptor "([Z[ZI)I" = some ⟨[(.array .boolean), (.array .boolean), .int], some .int⟩ := by decide +kernel
theorem d8_4 : decode prog_3_method_3_code 4 = .ok (.invokevirtual 69, 3) := by decide +kernel
theorem d8_7 : decode prog_3_method_3_code 7 = .ok (.istore 5, 2) := by decide +kernel
theorem d8_9 : decode prog_3_method_3_code 9 = .ok (.iload 5, 2) := by decide +kernel
theorem d8_11 : decode prog_3_method_3_code 11 = .ok (.iload 4, 2) := by decide +kernel
theorem d8_13 : decode prog_3_method_3_code 13 = .ok (.if_icmp .eq 6, 3) := by decide +kernel
theorem d8_19 : decode prog_3_method_3_code 19 = .ok (.new 38, 3) := by decide +kernel
theorem d8_22 : decode prog_3_method_3_code 22 = .ok (.dup, 1) := by decide +kernel
theorem d8_23 : decode prog_3_method_3_code 23 = .ok (.aload_n 0, 1) := by decide +kernel
theorem d8_24 : decode prog_3_method_3_code 24 = .ok (.getfield 7, 3) := by decide +kernel
theorem d8_27 : decode prog_3_method_3_code 27 = .ok (.aload_n 0, 1) := by decide +kernel
theorem d8_28 : decode prog_3_method_3_code 28 = .ok (.getfield 13, 3) := by decide +kernel
theorem d8_31 : decode prog_3_method_3_code 31 = .ok (.invokespecial 40, 3) := by decide +kernel
theorem d8_34 : decode prog_3_method_3_code 34 = .ok (.astore 6, 2) := by decide +kernel
theorem d8_36 : decode prog_3_method_3_code 36 = .ok (.aload_n 0, 1) := by decide +kernel
theorem d8_37 : decode prog_3_method_3_code 37 = .ok (.getfield 16, 3) := by decide +kernel
theorem d8_40 : decode prog_3_method_3_code 40 = .ok (.arraylength, 1) := by decide +kernel
theorem d8_41 : decode prog_3_method_3_code 41 = .ok (.iconst 1, 1) := by decide +kernel
theorem d8_42 : decode prog_3_method_3_code 42 = .ok (.isub, 1) := by decide +kernel
theorem d8_43 : decode prog_3_method_3_code 43 = .ok (.istore 7, 2) := by decide +kernel
theorem d8_45 : decode prog_3_method_3_code 45 = .ok (.iload 7, 2) := by decide +kernel
theorem d8_47 : decode prog_3_method_3_code 47 = .ok (.ifCond .lt 158, 3) := by decide +kernel
theorem d8_50 : decode prog_3_method_3_code 50 = .ok (.aload 6, 2) := by decide +kernel
theorem d8_52 : decode prog_3_method_3_code 52 = .ok (.aload_n 1, 1) := by decide +kernel
theorem d8_53 : decode prog_3_method_3_code 53 = .ok (.iload 7, 2) := by decide +kernel
theorem d8_55 : decode prog_3_method_3_code 55 = .ok (.baload, 1) := by decide +kernel
theorem d8_56 : decode prog_3_method_3_code 56 = .ok (.aload_n 2, 1) := by decide +kernel
theorem d8_57 : decode prog_3_method_3_code 57 = .ok (.iload 7, 2) := by decide +kernel
theorem d8_59 : decode prog_3_method_3_code 59 = .ok (.baload, 1) := by decide +kernel
theorem d8_60 : decode prog_3_method_3_code 60 = .ok (.iload_n 3, 1) := by decide +kernel
theorem d8_61 : decode prog_3_method_3_code 61 = .ok (.invokevirtual 43, 3) := by decide +kernel
theorem d8_64 : decode prog_3_method_3_code 64 = .ok (.aload_n 1, 1) := by decide +kernel
theorem d8_65 : decode prog_3_method_3_code 65 = .ok (.iload 7, 2) := by decide +kernel
theorem d8_67 : decode prog_3_method_3_code 67 = .ok (.baload, 1) := by decide +kernel
theorem d8_111 : decode prog_3_method_3_code 111 = .ok (.aload_n 0, 1) := by decide +kernel
theorem d8_112 : decode prog_3_method_3_code 112 = .ok (.getfield 32, 3) := by decide +kernel
theorem d8_115 : decode prog_3_method_3_code 115 = .ok (.iload 7, 2) := by decide +kernel
theorem d8_117 : decode prog_3_method_3_code 117 = .ok (.iaload, 1) := by decide +kernel
theorem d8_118 : decode prog_3_method_3_code 118 = .ok (.iconst 1, 1) := by decide +kernel
theorem d8_119 : decode prog_3_method_3_code 119 = .ok (.isub, 1) := by decide +kernel
theorem d8_120 : decode prog_3_method_3_code 120 = .ok (.iload_n 3, 1) := by decide +kernel
theorem d8_121 : decode prog_3_method_3_code 121 = .ok (.aload 6, 2) := by decide +kernel
theorem d8_123 : decode prog_3_method_3_code 123 = .ok (.getfield 63, 3) := by decide +kernel
theorem d8_126 : decode prog_3_method_3_code 126 = .ok (.getfield 57, 3) := by decide +kernel
theorem d8_129 : decode prog_3_method_3_code 129 = .ok (.isub, 1) := by decide +kernel
theorem d8_161 : decode prog_3_method_3_code 161 = .ok (.istore 8, 2) := by decide +kernel
theorem d8_163 : decode prog_3_method_3_code 163 = .ok (.aload_n 2, 1) := by decide +kernel
theorem d8_164 : decode prog_3_method_3_code 164 = .ok (.iload 7, 2) := by decide +kernel
theorem d8_166 : decode prog_3_method_3_code 166 = .ok (.baload, 1) := by decide +kernel
theorem d8_199 : decode prog_3_method_3_code 199 = .ok (.iinc 7 (-1), 3) := by decide +kernel
theorem d8_202 : decode prog_3_method_3_code 202 = .ok (.goto (-157), 3) := by decide +kernel
theorem d8_205 : decode prog_3_method_3_code 205 = .ok (.iload 5, 2) := by decide +kernel
theorem d8_207 : decode prog_3_method_3_code 207 = .ok (.ireturn, 1) := by decide +kernel
theorem d8_167 : decode prog_3_method_3_code 167 = .ok (.ifCond .eq 32, 3) := by decide +kernel
theorem d8_170 : decode prog_3_method_3_code 170 = .ok (.aload_n 0, 1) := by decide +kernel
theorem d8_171 : decode prog_3_method_3_code 171 = .ok (.getfield 29, 3) := by decide +kernel
theorem d8_174 : decode prog_3_method_3_code 174 = .ok (.iload 7, 2) := by decide +kernel
theorem d8_176 : decode prog_3_method_3_code 176 = .ok (.iaload, 1) := by decide +kernel
theorem d8_177 : decode prog_3_method_3_code 177 = .ok (.aload 6, 2) := by decide +kernel
theorem d8_179 : decode prog_3_method_3_code 179 = .ok (.getfield 63, 3) := by decide +kernel
theorem d8_182 : decode prog_3_method_3_code 182 = .ok (.getfield 52, 3) := by decide +kernel
theorem d8_185 : decode prog_3_method_3_code 185 = .ok (.iadd, 1) := by decide +kernel
theorem d8_186 : decode prog_3_method_3_code 186 = .ok (.iload 8, 2) := by decide +kernel
theorem d8_188 : decode prog_3_method_3_code 188 = .ok (.isub, 1) := by decide +kernel
theorem d8_189 : decode prog_3_method_3_code 189 = .ok (.iload 4, 2) := by decide +kernel
theorem d8_191 : decode prog_3_method_3_code 191 = .ok (.if_icmp .le 8, 3) := by decide +kernel
theorem d8_194 : decode prog_3_method_3_code 194 = .ok (.aload_n 2, 1) := by decide +kernel
theorem d8_195 : decode prog_3_method_3_code 195 = .ok (.iload 7, 2) := by decide +kernel
theorem d8_197 : decode prog_3_method_3_code 197 = .ok (.iconst 0, 1) := by decide +kernel
theorem d8_198 : decode prog_3_method_3_code 198 = .ok (.bastore, 1) := by decide +kernel
theorem d8_130 : decode prog_3_method_3_code 130 = .ok (.if_icmp .gt 30, 3) := by decide +kernel
theorem d8_160 : decode prog_3_method_3_code 160 = .ok (.iconst 0, 1) := by decide +kernel
theorem d8_133 : decode prog_3_method_3_code 133 = .ok (.aload_n 0, 1) := by decide +kernel
theorem d8_134 : decode prog_3_method_3_code 134 = .ok (.getfield 35, 3) := by decide +kernel
theorem d8_137 : decode prog_3_method_3_code 137 = .ok (.iload 7, 2) := by decide +kernel
theorem d8_139 : decode prog_3_method_3_code 139 = .ok (.iaload, 1) := by decide +kernel
theorem d8_140 : decode prog_3_method_3_code 140 = .ok (.aload 6, 2) := by decide +kernel
theorem d8_142 : decode prog_3_method_3_code 142 = .ok (.getfield 63, 3) := by decide +kernel
theorem d8_145 : decode prog_3_method_3_code 145 = .ok (.getfield 60, 3) := by decide +kernel
theorem d8_148 : decode prog_3_method_3_code 148 = .ok (.iadd, 1) := by decide +kernel
theorem d8_149 : decode prog_3_method_3_code 149 = .ok (.aload_n 0, 1) := by decide +kernel
theorem d8_150 : decode prog_3_method_3_code 150 = .ok (.getfield 13, 3) := by decide +kernel
theorem d8_153 : decode prog_3_method_3_code 153 = .ok (.if_icmp .gt 7, 3) := by decide +kernel
theorem d8_156 : decode prog_3_method_3_code 156 = .ok (.iconst 1, 1) := by decide +kernel
theorem d8_157 : decode prog_3_method_3_code 157 = .ok (.goto 4, 3) := by decide +kernel
theorem d8_68 : decode prog_3_method_3_code 68 = .ok (.ifCond .eq 43, 3) := by decide +kernel
theorem d8_71 : decode prog_3_method_3_code 71 = .ok (.aload_n 0, 1) := by decide +kernel
theorem d8_72 : decode prog_3_method_3_code 72 = .ok (.getfield 16, 3) := by decide +kernel
theorem d8_75 : decode prog_3_method_3_code 75 = .ok (.iload 7, 2) := by decide +kernel
theorem d8_77 : decode prog_3_method_3_code 77 = .ok (.iaload, 1) := by decide +kernel
theorem d8_78 : decode prog_3_method_3_code 78 = .ok (.aload 6, 2) := by decide +kernel
theorem d8_80 : decode prog_3_method_3_code 80 = .ok (.getfield 47, 3) := by decide +kernel
theorem d8_83 : decode prog_3_method_3_code 83 = .ok (.iadd, 1) := by decide +kernel
theorem d8_84 : decode prog_3_method_3_code 84 = .ok (.iload 4, 2) := by decide +kernel
theorem d8_86 : decode prog_3_method_3_code 86 = .ok (.if_icmp .le 25, 3) := by decide +kernel
theorem d8_89 : decode prog_3_method_3_code 89 = .ok (.aload_n 0, 1) := by decide +kernel
theorem d8_90 : decode prog_3_method_3_code 90 = .ok (.iload 7, 2) := by decide +kernel
theorem d8_92 : decode prog_3_method_3_code 92 = .ok (.aload 6, 2) := by decide +kernel
theorem d8_94 : decode prog_3_method_3_code 94 = .ok (.getfield 49, 3) := by decide +kernel
theorem d8_97 : decode prog_3_method_3_code 97 = .ok (.iload_n 3, 1) := by decide +kernel
theorem d8_98 : decode prog_3_method_3_code 98 = .ok (.iload 4, 2) := by decide +kernel
theorem pd_9 : parseMethodDescriptor "(ILcom/example/tightfold/tightfold/FocusFiltering$Run;II)Z" = some ⟨[.int, (.object "com/example/tightfold/tightfold/FocusFiltering$Run"), .int, .int], some .boolean⟩ := by decide +kernel
theorem d8_100 : decode prog_3_method_3_code 100 = .ok (.invokevirtual 73, 3) := by decide +kernel
theorem d8_103 : decode prog_3_method_3_code 103 = .ok (.ifCond .ne 8, 3) := by decide +kernel
theorem d8_106 : decode prog_3_method_3_code 106 = .ok (.aload_n 1, 1) := by decide +kernel
theorem d8_107 : decode prog_3_method_3_code 107 = .ok (.iload 7, 2) := by decide +kernel
theorem d8_109 : decode prog_3_method_3_code 109 = .ok (.iconst 0, 1) := by decide +kernel
theorem d8_110 : decode prog_3_method_3_code 110 = .ok (.bastore, 1) := by decide +kernel
theorem d8_16 : decode prog_3_method_3_code 16 = .ok (.iload 5, 2) := by decide +kernel
theorem d8_18 : decode prog_3_method_3_code 18 = .ok (.ireturn, 1) := by decide +kernel
def f8_v7 (p4 : Int32) (hm : Int32) (cl0 : Int32) (cl1 : Int32) (cl2 : Int32) (cl3 : Int32) (ch0 : Int32) (ch1 : Int32) (ch2 : Int32) (ch3 : Int32) : Int32 := (f9 p4 hm cl0 cl1 cl2 cl3 ch0 ch1 ch2 ch3)
def f8_c61_b19_lowOut0 (cl3 : Int32) : Int32 := (f13_j123_s0 cl3 (5 : Int32) (0 : Int32) (5 : Int32))
def f8_c61_b31nr3_runs0 (p4 : Int32) (hm : Int32) (cl3 : Int32) : Int32 := (f13_j64_F_r3_runs_0 cl3 p4 (5 : Int32) hm (5 : Int32) (0 : Int32) (0 : Int32) (5 : Int32) (0 : Int32) (0 : Int32))
def f8_c61_b31nr3_length0 (p4 : Int32) (hm : Int32) (cl3 : Int32) : Int32 := (f13_j64_F_r3_length_0 cl3 p4 (5 : Int32) hm (5 : Int32) (0 : Int32) (0 : Int32) (5 : Int32) (0 : Int32) (0 : Int32))
def f8_c61_b31nr3_lows0 (p4 : Int32) (hm : Int32) (cl3 : Int32) : Int32 := (f13_j64_F_r3_lows_0 cl3 p4 (5 : Int32) hm (5 : Int32) (0 : Int32) (0 : Int32) (5 : Int32) (0 : Int32) (0 : Int32))
def f8_c61_b31nr4_runs0 (p4 : Int32) (hm : Int32) (ch3 : Int32) : Int32 := (f13_j109_F_r4_runs_0 ch3 p4 (5 : Int32) hm (0 : Int32) (5 : Int32) (0 : Int32) (0 : Int32) (5 : Int32) (0 : Int32) (0 : Int32))
def f8_c61_b31nr4_length0 (p4 : Int32) (hm : Int32) (ch3 : Int32) : Int32 := (f13_j109_F_r4_length_0 ch3 p4 (5 : Int32) hm (0 : Int32) (5 : Int32) (0 : Int32) (0 : Int32) (5 : Int32) (0 : Int32) (0 : Int32))
def f8_c61_b31nr4_lows0 (p4 : Int32) (hm : Int32) (ch3 : Int32) : Int32 := (f13_j109_F_r4_lows_0 ch3 p4 (5 : Int32) hm (0 : Int32) (5 : Int32) (0 : Int32) (0 : Int32) (5 : Int32) (0 : Int32) (0 : Int32))
def f8_j111_A_a2_3 (p4 : Int32) (p5 : Int32) (hm : Int32) (cl0 : Int32) (cl1 : Int32) (cl2 : Int32) (cl3 : Int32) (ch0 : Int32) (ch1 : Int32) (ch2 : Int32) : Int32 := (if cl3 = (0 : Int32) then cl3 else (if p5 < ((f9_c41_b0_lowOut0_3 p4 hm cl0 cl1 cl2 cl3 ch0 ch1 ch2) + (f8_c61_b19_lowOut0 cl3)) then (if (f18_3 p4 p5 hm (f8_c61_b31nr3_runs0 p4 hm cl3) (f8_c61_b31nr3_length0 p4 hm cl3) (f8_c61_b31nr3_lows0 p4 hm cl3) (f9_c41_b12nr1_runs0_1 p4 hm cl0 cl1 cl2 cl3 ch0 ch1 ch2) (f9_c41_b12nr1_length0_1 p4 hm cl0 cl1 cl2 cl3 ch0 ch1 ch2) (f9_c41_b12nr1_lows0_1 p4 hm cl0 cl1 cl2 cl3 ch0 ch1 ch2)) = (0 : Int32) then (0 : Int32) else cl3) else cl3))
def f8_j161_s0 (p4 : Int32) (hm : Int32) (cl0 : Int32) (cl1 : Int32) (cl2 : Int32) (ch0 : Int32) (ch1 : Int32) (ch2 : Int32) (ch3 : Int32) : Int32 := (if (p4 - (f8_c61_b31nr4_length0 p4 hm ch3)) < ((f9_c41_b12nr2_length0_1 p4 hm cl0 cl1 cl2 ch0 ch1 ch2 ch3) - (1 : Int32)) then (0 : Int32) else (if hm < ((f9_c41_b12nr2_lows0_1 p4 hm cl0 cl1 cl2 ch0 ch1 ch2 ch3) + (f8_c61_b31nr4_lows0 p4 hm ch3)) then (0 : Int32) else (1 : Int32)))
def f8_j199_A_a3_3 (p4 : Int32) (p5 : Int32) (hm : Int32) (cl0 : Int32) (cl1 : Int32) (cl2 : Int32) (ch0 : Int32) (ch1 : Int32) (ch2 : Int32) (ch3 : Int32) : Int32 := (if ch3 = (0 : Int32) then ch3 else (if p5 < (((f9_c41_b12nr2_runs0_1 p4 hm cl0 cl1 cl2 ch0 ch1 ch2 ch3) + (f8_c61_b31nr4_runs0 p4 hm ch3)) - (f8_j161_s0 p4 hm cl0 cl1 cl2 ch0 ch1 ch2 ch3)) then (0 : Int32) else ch3))
def f8_c61_b19_lowOut0_1 (p4 : Int32) (hm : Int32) (cl2 : Int32) (cl3 : Int32) (ch3 : Int32) : Int32 := (f13_j123_s0 cl2 (5 : Int32) (f8_c61_b19_lowOut0 cl3) (f8_c61_b31nr4_runs0 p4 hm ch3))
def f8_c61_b31nr1_runs0 (p4 : Int32) (hm : Int32) (cl2 : Int32) (cl3 : Int32) (ch3 : Int32) : Int32 := (f13_j64_F_r3_runs_0 cl2 p4 (5 : Int32) hm (f8_c61_b31nr3_runs0 p4 hm cl3) (f8_c61_b31nr3_length0 p4 hm cl3) (f8_c61_b31nr3_lows0 p4 hm cl3) (f8_c61_b31nr4_runs0 p4 hm ch3) (f8_c61_b31nr4_length0 p4 hm ch3) (f8_c61_b31nr4_lows0 p4 hm ch3))
def f8_c61_b31nr1_length0 (p4 : Int32) (hm : Int32) (cl2 : Int32) (cl3 : Int32) (ch3 : Int32) : Int32 := (f13_j64_F_r3_length_0 cl2 p4 (5 : Int32) hm (f8_c61_b31nr3_runs0 p4 hm cl3) (f8_c61_b31nr3_length0 p4 hm cl3) (f8_c61_b31nr3_lows0 p4 hm cl3) (f8_c61_b31nr4_runs0 p4 hm ch3) (f8_c61_b31nr4_length0 p4 hm ch3) (f8_c61_b31nr4_lows0 p4 hm ch3))
def f8_c61_b31nr1_lows0 (p4 : Int32) (hm : Int32) (cl2 : Int32) (cl3 : Int32) (ch3 : Int32) : Int32 := (f13_j64_F_r3_lows_0 cl2 p4 (5 : Int32) hm (f8_c61_b31nr3_runs0 p4 hm cl3) (f8_c61_b31nr3_length0 p4 hm cl3) (f8_c61_b31nr3_lows0 p4 hm cl3) (f8_c61_b31nr4_runs0 p4 hm ch3) (f8_c61_b31nr4_length0 p4 hm ch3) (f8_c61_b31nr4_lows0 p4 hm ch3))
def f8_c61_b31nr2_runs0 (p4 : Int32) (hm : Int32) (cl3 : Int32) (ch2 : Int32) (ch3 : Int32) : Int32 := (f13_j109_F_r4_runs_0 ch2 p4 (5 : Int32) hm (f8_c61_b19_lowOut0 cl3) (f8_c61_b31nr3_runs0 p4 hm cl3) (f8_c61_b31nr3_length0 p4 hm cl3) (f8_c61_b31nr3_lows0 p4 hm cl3) (f8_c61_b31nr4_runs0 p4 hm ch3) (f8_c61_b31nr4_length0 p4 hm ch3) (f8_c61_b31nr4_lows0 p4 hm ch3))
def f8_c61_b31nr2_length0 (p4 : Int32) (hm : Int32) (cl3 : Int32) (ch2 : Int32) (ch3 : Int32) : Int32 := (f13_j109_F_r4_length_0 ch2 p4 (5 : Int32) hm (f8_c61_b19_lowOut0 cl3) (f8_c61_b31nr3_runs0 p4 hm cl3) (f8_c61_b31nr3_length0 p4 hm cl3) (f8_c61_b31nr3_lows0 p4 hm cl3) (f8_c61_b31nr4_runs0 p4 hm ch3) (f8_c61_b31nr4_length0 p4 hm ch3) (f8_c61_b31nr4_lows0 p4 hm ch3))
def f8_c61_b31nr2_lows0 (p4 : Int32) (hm : Int32) (cl3 : Int32) (ch2 : Int32) (ch3 : Int32) : Int32 := (f13_j109_F_r4_lows_0 ch2 p4 (5 : Int32) hm (f8_c61_b19_lowOut0 cl3) (f8_c61_b31nr3_runs0 p4 hm cl3) (f8_c61_b31nr3_length0 p4 hm cl3) (f8_c61_b31nr3_lows0 p4 hm cl3) (f8_c61_b31nr4_runs0 p4 hm ch3) (f8_c61_b31nr4_length0 p4 hm ch3) (f8_c61_b31nr4_lows0 p4 hm ch3))
def f8_j111_A_a2_2 (p4 : Int32) (p5 : Int32) (hm : Int32) (cl0 : Int32) (cl1 : Int32) (cl2 : Int32) (cl3 : Int32) (ch0 : Int32) (ch1 : Int32) (ch3 : Int32) : Int32 := (if cl2 = (0 : Int32) then cl2 else (if p5 < ((f9_c41_b0_lowOut0_2 p4 hm cl0 cl1 cl2 ch0 ch1) + (f8_c61_b19_lowOut0_1 p4 hm cl2 cl3 ch3)) then (if (f18_2 p4 p5 hm (f8_c61_b31nr1_runs0 p4 hm cl2 cl3 ch3) (f8_c61_b31nr1_length0 p4 hm cl2 cl3 ch3) (f8_c61_b31nr1_lows0 p4 hm cl2 cl3 ch3) (f9_c41_b12nr3_runs0_1 p4 hm cl0 cl1 cl2 ch0 ch1) (f9_c41_b12nr3_length0_1 p4 hm cl0 cl1 cl2 ch0 ch1) (f9_c41_b12nr3_lows0_1 p4 hm cl0 cl1 cl2 ch0 ch1)) = (0 : Int32) then (0 : Int32) else cl2) else cl2))
def f8_j161_s0_1 (p4 : Int32) (hm : Int32) (cl0 : Int32) (cl1 : Int32) (cl3 : Int32) (ch0 : Int32) (ch1 : Int32) (ch2 : Int32) (ch3 : Int32) : Int32 := (if (p4 - (f8_c61_b31nr2_length0 p4 hm cl3 ch2 ch3)) < ((f9_c41_b12nr4_length0_1 p4 hm cl0 cl1 ch0 ch1 ch2) - (1 : Int32)) then (0 : Int32) else (if hm < ((f9_c41_b12nr4_lows0_1 p4 hm cl0 cl1 ch0 ch1 ch2) + (f8_c61_b31nr2_lows0 p4 hm cl3 ch2 ch3)) then (0 : Int32) else (1 : Int32)))
def f8_j199_A_a3_2 (p4 : Int32) (p5 : Int32) (hm : Int32) (cl0 : Int32) (cl1 : Int32) (cl3 : Int32) (ch0 : Int32) (ch1 : Int32) (ch2 : Int32) (ch3 : Int32) : Int32 := (if ch2 = (0 : Int32) then ch2 else (if p5 < (((f9_c41_b12nr4_runs0_1 p4 hm cl0 cl1 ch0 ch1 ch2) + (f8_c61_b31nr2_runs0 p4 hm cl3 ch2 ch3)) - (f8_j161_s0_1 p4 hm cl0 cl1 cl3 ch0 ch1 ch2 ch3)) then (0 : Int32) else ch2))
def f8_c61_b19_lowOut0_2 (p4 : Int32) (hm : Int32) (cl1 : Int32) (cl2 : Int32) (cl3 : Int32) (ch2 : Int32) (ch3 : Int32) : Int32 := (f13_j123_s0 cl1 (5 : Int32) (f8_c61_b19_lowOut0_1 p4 hm cl2 cl3 ch3) (f8_c61_b31nr2_runs0 p4 hm cl3 ch2 ch3))
def f8_c61_b31nr3_runs0_1 (p4 : Int32) (hm : Int32) (cl1 : Int32) (cl2 : Int32) (cl3 : Int32) (ch2 : Int32) (ch3 : Int32) : Int32 := (f13_j64_F_r3_runs_0 cl1 p4 (5 : Int32) hm (f8_c61_b31nr1_runs0 p4 hm cl2 cl3 ch3) (f8_c61_b31nr1_length0 p4 hm cl2 cl3 ch3) (f8_c61_b31nr1_lows0 p4 hm cl2 cl3 ch3) (f8_c61_b31nr2_runs0 p4 hm cl3 ch2 ch3) (f8_c61_b31nr2_length0 p4 hm cl3 ch2 ch3) (f8_c61_b31nr2_lows0 p4 hm cl3 ch2 ch3))
def f8_c61_b31nr3_length0_1 (p4 : Int32) (hm : Int32) (cl1 : Int32) (cl2 : Int32) (cl3 : Int32) (ch2 : Int32) (ch3 : Int32) : Int32 := (f13_j64_F_r3_length_0 cl1 p4 (5 : Int32) hm (f8_c61_b31nr1_runs0 p4 hm cl2 cl3 ch3) (f8_c61_b31nr1_length0 p4 hm cl2 cl3 ch3) (f8_c61_b31nr1_lows0 p4 hm cl2 cl3 ch3) (f8_c61_b31nr2_runs0 p4 hm cl3 ch2 ch3) (f8_c61_b31nr2_length0 p4 hm cl3 ch2 ch3) (f8_c61_b31nr2_lows0 p4 hm cl3 ch2 ch3))
def f8_c61_b31nr3_lows0_1 (p4 : Int32) (hm : Int32) (cl1 : Int32) (cl2 : Int32) (cl3 : Int32) (ch2 : Int32) (ch3 : Int32) : Int32 := (f13_j64_F_r3_lows_0 cl1 p4 (5 : Int32) hm (f8_c61_b31nr1_runs0 p4 hm cl2 cl3 ch3) (f8_c61_b31nr1_length0 p4 hm cl2 cl3 ch3) (f8_c61_b31nr1_lows0 p4 hm cl2 cl3 ch3) (f8_c61_b31nr2_runs0 p4 hm cl3 ch2 ch3) (f8_c61_b31nr2_length0 p4 hm cl3 ch2 ch3) (f8_c61_b31nr2_lows0 p4 hm cl3 ch2 ch3))
def f8_c61_b31nr4_runs0_1 (p4 : Int32) (hm : Int32) (cl2 : Int32) (cl3 : Int32) (ch1 : Int32) (ch2 : Int32) (ch3 : Int32) : Int32 := (f13_j109_F_r4_runs_0 ch1 p4 (5 : Int32) hm (f8_c61_b19_lowOut0_1 p4 hm cl2 cl3 ch3) (f8_c61_b31nr1_runs0 p4 hm cl2 cl3 ch3) (f8_c61_b31nr1_length0 p4 hm cl2 cl3 ch3) (f8_c61_b31nr1_lows0 p4 hm cl2 cl3 ch3) (f8_c61_b31nr2_runs0 p4 hm cl3 ch2 ch3) (f8_c61_b31nr2_length0 p4 hm cl3 ch2 ch3) (f8_c61_b31nr2_lows0 p4 hm cl3 ch2 ch3))
def f8_c61_b31nr4_length0_1 (p4 : Int32) (hm : Int32) (cl2 : Int32) (cl3 : Int32) (ch1 : Int32) (ch2 : Int32) (ch3 : Int32) : Int32 := (f13_j109_F_r4_length_0 ch1 p4 (5 : Int32) hm (f8_c61_b19_lowOut0_1 p4 hm cl2 cl3 ch3) (f8_c61_b31nr1_runs0 p4 hm cl2 cl3 ch3) (f8_c61_b31nr1_length0 p4 hm cl2 cl3 ch3) (f8_c61_b31nr1_lows0 p4 hm cl2 cl3 ch3) (f8_c61_b31nr2_runs0 p4 hm cl3 ch2 ch3) (f8_c61_b31nr2_length0 p4 hm cl3 ch2 ch3) (f8_c61_b31nr2_lows0 p4 hm cl3 ch2 ch3))
def f8_c61_b31nr4_lows0_1 (p4 : Int32) (hm : Int32) (cl2 : Int32) (cl3 : Int32) (ch1 : Int32) (ch2 : Int32) (ch3 : Int32) : Int32 := (f13_j109_F_r4_lows_0 ch1 p4 (5 : Int32) hm (f8_c61_b19_lowOut0_1 p4 hm cl2 cl3 ch3) (f8_c61_b31nr1_runs0 p4 hm cl2 cl3 ch3) (f8_c61_b31nr1_length0 p4 hm cl2 cl3 ch3) (f8_c61_b31nr1_lows0 p4 hm cl2 cl3 ch3) (f8_c61_b31nr2_runs0 p4 hm cl3 ch2 ch3) (f8_c61_b31nr2_length0 p4 hm cl3 ch2 ch3) (f8_c61_b31nr2_lows0 p4 hm cl3 ch2 ch3))
def f8_j111_A_a2_1 (p4 : Int32) (p5 : Int32) (hm : Int32) (cl0 : Int32) (cl1 : Int32) (cl2 : Int32) (cl3 : Int32) (ch0 : Int32) (ch2 : Int32) (ch3 : Int32) : Int32 := (if cl1 = (0 : Int32) then cl1 else (if p5 < ((f9_c41_b0_lowOut0_1 p4 hm cl0 cl1 ch0) + (f8_c61_b19_lowOut0_2 p4 hm cl1 cl2 cl3 ch2 ch3)) then (if (f18_1 p4 p5 hm (f8_c61_b31nr3_runs0_1 p4 hm cl1 cl2 cl3 ch2 ch3) (f8_c61_b31nr3_length0_1 p4 hm cl1 cl2 cl3 ch2 ch3) (f8_c61_b31nr3_lows0_1 p4 hm cl1 cl2 cl3 ch2 ch3) (f9_c41_b12nr1_runs0 p4 hm cl0 cl1 ch0) (f9_c41_b12nr1_length0 p4 hm cl0 cl1 ch0) (f9_c41_b12nr1_lows0 p4 hm cl0 cl1 ch0)) = (0 : Int32) then (0 : Int32) else cl1) else cl1))
def f8_j161_s0_2 (p4 : Int32) (hm : Int32) (cl0 : Int32) (cl2 : Int32) (cl3 : Int32) (ch0 : Int32) (ch1 : Int32) (ch2 : Int32) (ch3 : Int32) : Int32 := (if (p4 - (f8_c61_b31nr4_length0_1 p4 hm cl2 cl3 ch1 ch2 ch3)) < ((f9_c41_b12nr2_length0 p4 hm cl0 ch0 ch1) - (1 : Int32)) then (0 : Int32) else (if hm < ((f9_c41_b12nr2_lows0 p4 hm cl0 ch0 ch1) + (f8_c61_b31nr4_lows0_1 p4 hm cl2 cl3 ch1 ch2 ch3)) then (0 : Int32) else (1 : Int32)))
def f8_j199_A_a3_1 (p4 : Int32) (p5 : Int32) (hm : Int32) (cl0 : Int32) (cl2 : Int32) (cl3 : Int32) (ch0 : Int32) (ch1 : Int32) (ch2 : Int32) (ch3 : Int32) : Int32 := (if ch1 = (0 : Int32) then ch1 else (if p5 < (((f9_c41_b12nr2_runs0 p4 hm cl0 ch0 ch1) + (f8_c61_b31nr4_runs0_1 p4 hm cl2 cl3 ch1 ch2 ch3)) - (f8_j161_s0_2 p4 hm cl0 cl2 cl3 ch0 ch1 ch2 ch3)) then (0 : Int32) else ch1))
def f8_c61_b19_lowOut0_3 (p4 : Int32) (hm : Int32) (cl0 : Int32) (cl1 : Int32) (cl2 : Int32) (cl3 : Int32) (ch1 : Int32) (ch2 : Int32) (ch3 : Int32) : Int32 := (f13_j123_s0 cl0 (5 : Int32) (f8_c61_b19_lowOut0_2 p4 hm cl1 cl2 cl3 ch2 ch3) (f8_c61_b31nr4_runs0_1 p4 hm cl2 cl3 ch1 ch2 ch3))
def f8_c61_b31nr1_runs0_1 (p4 : Int32) (hm : Int32) (cl0 : Int32) (cl1 : Int32) (cl2 : Int32) (cl3 : Int32) (ch1 : Int32) (ch2 : Int32) (ch3 : Int32) : Int32 := (f13_j64_F_r3_runs_0 cl0 p4 (5 : Int32) hm (f8_c61_b31nr3_runs0_1 p4 hm cl1 cl2 cl3 ch2 ch3) (f8_c61_b31nr3_length0_1 p4 hm cl1 cl2 cl3 ch2 ch3) (f8_c61_b31nr3_lows0_1 p4 hm cl1 cl2 cl3 ch2 ch3) (f8_c61_b31nr4_runs0_1 p4 hm cl2 cl3 ch1 ch2 ch3) (f8_c61_b31nr4_length0_1 p4 hm cl2 cl3 ch1 ch2 ch3) (f8_c61_b31nr4_lows0_1 p4 hm cl2 cl3 ch1 ch2 ch3))
def f8_c61_b31nr1_length0_1 (p4 : Int32) (hm : Int32) (cl0 : Int32) (cl1 : Int32) (cl2 : Int32) (cl3 : Int32) (ch1 : Int32) (ch2 : Int32) (ch3 : Int32) : Int32 := (f13_j64_F_r3_length_0 cl0 p4 (5 : Int32) hm (f8_c61_b31nr3_runs0_1 p4 hm cl1 cl2 cl3 ch2 ch3) (f8_c61_b31nr3_length0_1 p4 hm cl1 cl2 cl3 ch2 ch3) (f8_c61_b31nr3_lows0_1 p4 hm cl1 cl2 cl3 ch2 ch3) (f8_c61_b31nr4_runs0_1 p4 hm cl2 cl3 ch1 ch2 ch3) (f8_c61_b31nr4_length0_1 p4 hm cl2 cl3 ch1 ch2 ch3) (f8_c61_b31nr4_lows0_1 p4 hm cl2 cl3 ch1 ch2 ch3))
def f8_c61_b31nr1_lows0_1 (p4 : Int32) (hm : Int32) (cl0 : Int32) (cl1 : Int32) (cl2 : Int32) (cl3 : Int32) (ch1 : Int32) (ch2 : Int32) (ch3 : Int32) : Int32 := (f13_j64_F_r3_lows_0 cl0 p4 (5 : Int32) hm (f8_c61_b31nr3_runs0_1 p4 hm cl1 cl2 cl3 ch2 ch3) (f8_c61_b31nr3_length0_1 p4 hm cl1 cl2 cl3 ch2 ch3) (f8_c61_b31nr3_lows0_1 p4 hm cl1 cl2 cl3 ch2 ch3) (f8_c61_b31nr4_runs0_1 p4 hm cl2 cl3 ch1 ch2 ch3) (f8_c61_b31nr4_length0_1 p4 hm cl2 cl3 ch1 ch2 ch3) (f8_c61_b31nr4_lows0_1 p4 hm cl2 cl3 ch1 ch2 ch3))
def f8_c61_b31nr2_runs0_1 (p4 : Int32) (hm : Int32) (cl1 : Int32) (cl2 : Int32) (cl3 : Int32) (ch0 : Int32) (ch1 : Int32) (ch2 : Int32) (ch3 : Int32) : Int32 := (f13_j109_F_r4_runs_0 ch0 p4 (5 : Int32) hm (f8_c61_b19_lowOut0_2 p4 hm cl1 cl2 cl3 ch2 ch3) (f8_c61_b31nr3_runs0_1 p4 hm cl1 cl2 cl3 ch2 ch3) (f8_c61_b31nr3_length0_1 p4 hm cl1 cl2 cl3 ch2 ch3) (f8_c61_b31nr3_lows0_1 p4 hm cl1 cl2 cl3 ch2 ch3) (f8_c61_b31nr4_runs0_1 p4 hm cl2 cl3 ch1 ch2 ch3) (f8_c61_b31nr4_length0_1 p4 hm cl2 cl3 ch1 ch2 ch3) (f8_c61_b31nr4_lows0_1 p4 hm cl2 cl3 ch1 ch2 ch3))
def f8_c61_b31nr2_length0_1 (p4 : Int32) (hm : Int32) (cl1 : Int32) (cl2 : Int32) (cl3 : Int32) (ch0 : Int32) (ch1 : Int32) (ch2 : Int32) (ch3 : Int32) : Int32 := (f13_j109_F_r4_length_0 ch0 p4 (5 : Int32) hm (f8_c61_b19_lowOut0_2 p4 hm cl1 cl2 cl3 ch2 ch3) (f8_c61_b31nr3_runs0_1 p4 hm cl1 cl2 cl3 ch2 ch3) (f8_c61_b31nr3_length0_1 p4 hm cl1 cl2 cl3 ch2 ch3) (f8_c61_b31nr3_lows0_1 p4 hm cl1 cl2 cl3 ch2 ch3) (f8_c61_b31nr4_runs0_1 p4 hm cl2 cl3 ch1 ch2 ch3) (f8_c61_b31nr4_length0_1 p4 hm cl2 cl3 ch1 ch2 ch3) (f8_c61_b31nr4_lows0_1 p4 hm cl2 cl3 ch1 ch2 ch3))
def f8_c61_b31nr2_lows0_1 (p4 : Int32) (hm : Int32) (cl1 : Int32) (cl2 : Int32) (cl3 : Int32) (ch0 : Int32) (ch1 : Int32) (ch2 : Int32) (ch3 : Int32) : Int32 := (f13_j109_F_r4_lows_0 ch0 p4 (5 : Int32) hm (f8_c61_b19_lowOut0_2 p4 hm cl1 cl2 cl3 ch2 ch3) (f8_c61_b31nr3_runs0_1 p4 hm cl1 cl2 cl3 ch2 ch3) (f8_c61_b31nr3_length0_1 p4 hm cl1 cl2 cl3 ch2 ch3) (f8_c61_b31nr3_lows0_1 p4 hm cl1 cl2 cl3 ch2 ch3) (f8_c61_b31nr4_runs0_1 p4 hm cl2 cl3 ch1 ch2 ch3) (f8_c61_b31nr4_length0_1 p4 hm cl2 cl3 ch1 ch2 ch3) (f8_c61_b31nr4_lows0_1 p4 hm cl2 cl3 ch1 ch2 ch3))
def f8_j111_A_a2_0 (p4 : Int32) (p5 : Int32) (hm : Int32) (cl0 : Int32) (cl1 : Int32) (cl2 : Int32) (cl3 : Int32) (ch1 : Int32) (ch2 : Int32) (ch3 : Int32) : Int32 := (if cl0 = (0 : Int32) then cl0 else (if p5 < ((f9_c41_b0_lowOut0 cl0) + (f8_c61_b19_lowOut0_3 p4 hm cl0 cl1 cl2 cl3 ch1 ch2 ch3)) then (if (f18_0 p4 p5 hm (f8_c61_b31nr1_runs0_1 p4 hm cl0 cl1 cl2 cl3 ch1 ch2 ch3) (f8_c61_b31nr1_length0_1 p4 hm cl0 cl1 cl2 cl3 ch1 ch2 ch3) (f8_c61_b31nr1_lows0_1 p4 hm cl0 cl1 cl2 cl3 ch1 ch2 ch3) (f9_c41_b12nr3_runs0 p4 hm cl0) (f9_c41_b12nr3_length0 p4 hm cl0) (f9_c41_b12nr3_lows0 p4 hm cl0)) = (0 : Int32) then (0 : Int32) else cl0) else cl0))
def f8_j161_s0_3 (p4 : Int32) (hm : Int32) (cl1 : Int32) (cl2 : Int32) (cl3 : Int32) (ch0 : Int32) (ch1 : Int32) (ch2 : Int32) (ch3 : Int32) : Int32 := (if (p4 - (f8_c61_b31nr2_length0_1 p4 hm cl1 cl2 cl3 ch0 ch1 ch2 ch3)) < ((f9_c41_b12nr4_length0 p4 hm ch0) - (1 : Int32)) then (0 : Int32) else (if hm < ((f9_c41_b12nr4_lows0 p4 hm ch0) + (f8_c61_b31nr2_lows0_1 p4 hm cl1 cl2 cl3 ch0 ch1 ch2 ch3)) then (0 : Int32) else (1 : Int32)))
def f8_j199_A_a3_0 (p4 : Int32) (p5 : Int32) (hm : Int32) (cl1 : Int32) (cl2 : Int32) (cl3 : Int32) (ch0 : Int32) (ch1 : Int32) (ch2 : Int32) (ch3 : Int32) : Int32 := (if ch0 = (0 : Int32) then ch0 else (if p5 < (((f9_c41_b12nr4_runs0 p4 hm ch0) + (f8_c61_b31nr2_runs0_1 p4 hm cl1 cl2 cl3 ch0 ch1 ch2 ch3)) - (f8_j161_s0_3 p4 hm cl1 cl2 cl3 ch0 ch1 ch2 ch3)) then (0 : Int32) else ch0))
def f8_o_A_a2_0 (p4 : Int32) (p5 : Int32) (hm : Int32) (cl0 : Int32) (cl1 : Int32) (cl2 : Int32) (cl3 : Int32) (ch0 : Int32) (ch1 : Int32) (ch2 : Int32) (ch3 : Int32) : Int32 := (if (f8_v7 p4 hm cl0 cl1 cl2 cl3 ch0 ch1 ch2 ch3) = p5 then (f8_j111_A_a2_0 p4 p5 hm cl0 cl1 cl2 cl3 ch1 ch2 ch3) else cl0)
def f8_o_A_a2_1 (p4 : Int32) (p5 : Int32) (hm : Int32) (cl0 : Int32) (cl1 : Int32) (cl2 : Int32) (cl3 : Int32) (ch0 : Int32) (ch1 : Int32) (ch2 : Int32) (ch3 : Int32) : Int32 := (if (f8_v7 p4 hm cl0 cl1 cl2 cl3 ch0 ch1 ch2 ch3) = p5 then (f8_j111_A_a2_1 p4 p5 hm cl0 cl1 cl2 cl3 ch0 ch2 ch3) else cl1)
def f8_o_A_a2_2 (p4 : Int32) (p5 : Int32) (hm : Int32) (cl0 : Int32) (cl1 : Int32) (cl2 : Int32) (cl3 : Int32) (ch0 : Int32) (ch1 : Int32) (ch2 : Int32) (ch3 : Int32) : Int32 := (if (f8_v7 p4 hm cl0 cl1 cl2 cl3 ch0 ch1 ch2 ch3) = p5 then (f8_j111_A_a2_2 p4 p5 hm cl0 cl1 cl2 cl3 ch0 ch1 ch3) else cl2)
def f8_o_A_a2_3 (p4 : Int32) (p5 : Int32) (hm : Int32) (cl0 : Int32) (cl1 : Int32) (cl2 : Int32) (cl3 : Int32) (ch0 : Int32) (ch1 : Int32) (ch2 : Int32) (ch3 : Int32) : Int32 := (if (f8_v7 p4 hm cl0 cl1 cl2 cl3 ch0 ch1 ch2 ch3) = p5 then (f8_j111_A_a2_3 p4 p5 hm cl0 cl1 cl2 cl3 ch0 ch1 ch2) else cl3)
def f8_o_A_a3_0 (p4 : Int32) (p5 : Int32) (hm : Int32) (cl0 : Int32) (cl1 : Int32) (cl2 : Int32) (cl3 : Int32) (ch0 : Int32) (ch1 : Int32) (ch2 : Int32) (ch3 : Int32) : Int32 := (if (f8_v7 p4 hm cl0 cl1 cl2 cl3 ch0 ch1 ch2 ch3) = p5 then (f8_j199_A_a3_0 p4 p5 hm cl1 cl2 cl3 ch0 ch1 ch2 ch3) else ch0)
def f8_o_A_a3_1 (p4 : Int32) (p5 : Int32) (hm : Int32) (cl0 : Int32) (cl1 : Int32) (cl2 : Int32) (cl3 : Int32) (ch0 : Int32) (ch1 : Int32) (ch2 : Int32) (ch3 : Int32) : Int32 := (if (f8_v7 p4 hm cl0 cl1 cl2 cl3 ch0 ch1 ch2 ch3) = p5 then (f8_j199_A_a3_1 p4 p5 hm cl0 cl2 cl3 ch0 ch1 ch2 ch3) else ch1)
def f8_o_A_a3_2 (p4 : Int32) (p5 : Int32) (hm : Int32) (cl0 : Int32) (cl1 : Int32) (cl2 : Int32) (cl3 : Int32) (ch0 : Int32) (ch1 : Int32) (ch2 : Int32) (ch3 : Int32) : Int32 := (if (f8_v7 p4 hm cl0 cl1 cl2 cl3 ch0 ch1 ch2 ch3) = p5 then (f8_j199_A_a3_2 p4 p5 hm cl0 cl1 cl3 ch0 ch1 ch2 ch3) else ch2)
def f8_o_A_a3_3 (p4 : Int32) (p5 : Int32) (hm : Int32) (cl0 : Int32) (cl1 : Int32) (cl2 : Int32) (cl3 : Int32) (ch0 : Int32) (ch1 : Int32) (ch2 : Int32) (ch3 : Int32) : Int32 := (if (f8_v7 p4 hm cl0 cl1 cl2 cl3 ch0 ch1 ch2 ch3) = p5 then (f8_j199_A_a3_3 p4 p5 hm cl0 cl1 cl2 ch0 ch1 ch2 ch3) else ch3)
def f8 (p4 : Int32) (p5 : Int32) (hm : Int32) (cl0 : Int32) (cl1 : Int32) (cl2 : Int32) (cl3 : Int32) (ch0 : Int32) (ch1 : Int32) (ch2 : Int32) (ch3 : Int32) : Int32 := (if (f8_v7 p4 hm cl0 cl1 cl2 cl3 ch0 ch1 ch2 ch3) = p5 then (f8_v7 p4 hm cl0 cl1 cl2 cl3 ch0 ch1 ch2 ch3) else (f8_v7 p4 hm cl0 cl1 cl2 cl3 ch0 ch1 ch2 ch3))
def Q8 (Z : State) (a1 : Addr) (a2 : Addr) (a3 : Addr) (p4 : Int32) (p5 : Int32) (m1 : Addr) (m2 : Addr) (m3 : Addr) (m4 : Addr) (m5 : Addr) (m6 : Addr) (m7 : Addr) (hm : Int32) (cl0 : Int32) (cl1 : Int32) (cl2 : Int32) (cl3 : Int32) (ch0 : Int32) (ch1 : Int32) (ch2 : Int32) (ch3 : Int32) (h0 : Heap) (n0 : Nat) (v : Option Value) (h : Heap) (L : List Loc) : Prop := v = some (.int (f8 p4 p5 hm cl0 cl1 cl2 cl3 ch0 ch1 ch2 ch3)) ∧ Fr n0 L ∧ Keep h0 h [a2, a3, m1, m2, m3, m4, m5, m6, m7] ∧ IA Z h a2 .boolean [(.int (f8_o_A_a2_0 p4 p5 hm cl0 cl1 cl2 cl3 ch0 ch1 ch2 ch3)), (.int (f8_o_A_a2_1 p4 p5 hm cl0 cl1 cl2 cl3 ch0 ch1 ch2 ch3)), (.int (f8_o_A_a2_2 p4 p5 hm cl0 cl1 cl2 cl3 ch0 ch1 ch2 ch3)), (.int (f8_o_A_a2_3 p4 p5 hm cl0 cl1 cl2 cl3 ch0 ch1 ch2 ch3))] ∧ IA Z h a3 .boolean [(.int (f8_o_A_a3_0 p4 p5 hm cl0 cl1 cl2 cl3 ch0 ch1 ch2 ch3)), (.int (f8_o_A_a3_1 p4 p5 hm cl0 cl1 cl2 cl3 ch0 ch1 ch2 ch3)), (.int (f8_o_A_a3_2 p4 p5 hm cl0 cl1 cl2 cl3 ch0 ch1 ch2 ch3)), (.int (f8_o_A_a3_3 p4 p5 hm cl0 cl1 cl2 cl3 ch0 ch1 ch2 ch3))]
def rmR8 : Room := { frames := 4, cells := 10, slots := 38, locals := 67 }
theorem ef_8 (m : MethodId) (a1 : Addr) (a2 : Addr) (a3 : Addr) (p4 : Int32) (p5 : Int32) : entryFrame m #[(.ref a1), (.ref a2), (.ref a3), (.int p4), (.int p5)] 9 = mkF m 0 #[.val (.ref a1), .val (.ref a2), .val (.ref a3), .val (.int p4), .val (.int p5), .unset, .unset, .unset, .unset] [] := by first | (simp [entryFrame, mkF, argsToLocals, Value.category]; done) | rfl
set_option maxRecDepth 65536 in
set_option maxHeartbeats 40000000 in
theorem rm8 (l : Launch) (Z : State) (a0 : Array Value) (hw : ∀ d ∈ tables_1, d.before a0 Z = true) (ws : List Jvm.Cond) (a1 : Addr) (a2 : Addr) (a3 : Addr) (p4 : Int32) (p5 : Int32) (m1 : Addr) (m2 : Addr) (m3 : Addr) (m4 : Addr) (m5 : Addr) (m6 : Addr) (m7 : Addr) (hm : Int32) (cl0 : Int32) (cl1 : Int32) (cl2 : Int32) (cl3 : Int32) (ch0 : Int32) (ch1 : Int32) (ch2 : Int32) (ch3 : Int32) (h0 : Heap) (n0 : Nat) (Z0 : n0 ≤ h0.size) (F_E_a1 : Exa Z h0 a1 nm4) (F_F_a1_impossible : Fld Z h0 a1 nm4 "impossible" "I" (.int (5 : Int32))) (F_F_a1_h : Fld Z h0 a1 nm4 "h" "I" (.int hm)) (F_F_a1_lowOut : Fld Z h0 a1 nm4 "lowOut" "[I" (.ref m1)) (F_F_a1_lowIn : Fld Z h0 a1 nm4 "lowIn" "[I" (.ref m2)) (F_F_a1_lowInLength : Fld Z h0 a1 nm4 "lowInLength" "[I" (.ref m3)) (F_F_a1_lowInLows : Fld Z h0 a1 nm4 "lowInLows" "[I" (.ref m4)) (F_F_a1_high : Fld Z h0 a1 nm4 "high" "[I" (.ref m5)) (F_F_a1_highLength : Fld Z h0 a1 nm4 "highLength" "[I" (.ref m6)) (F_F_a1_highLows : Fld Z h0 a1 nm4 "highLows" "[I" (.ref m7)) (F_A_m1 : IA Z h0 m1 .int [(.int (0 : Int32)), (.int (0 : Int32)), (.int (0 : Int32)), (.int (0 : Int32))]) (F_A_m2 : IA Z h0 m2 .int [(.int (0 : Int32)), (.int (0 : Int32)), (.int (0 : Int32)), (.int (0 : Int32))]) (F_A_m3 : IA Z h0 m3 .int [(.int (0 : Int32)), (.int (0 : Int32)), (.int (0 : Int32)), (.int (0 : Int32))]) (F_A_m4 : IA Z h0 m4 .int [(.int (0 : Int32)), (.int (0 : Int32)), (.int (0 : Int32)), (.int (0 : Int32))]) (F_A_m5 : IA Z h0 m5 .int [(.int (0 : Int32)), (.int (0 : Int32)), (.int (0 : Int32)), (.int (0 : Int32))]) (F_A_m6 : IA Z h0 m6 .int [(.int (0 : Int32)), (.int (0 : Int32)), (.int (0 : Int32)), (.int (0 : Int32))]) (F_A_m7 : IA Z h0 m7 .int [(.int (0 : Int32)), (.int (0 : Int32)), (.int (0 : Int32)), (.int (0 : Int32))]) (F_A_a2 : IA Z h0 a2 .boolean [(.int cl0), (.int cl1), (.int cl2), (.int cl3)]) (F_A_a3 : IA Z h0 a3 .boolean [(.int ch0), (.int ch1), (.int ch2), (.int ch3)]) (g_m1 : n0 ≤ m1) (g_m2 : n0 ≤ m2) (g_m3 : n0 ≤ m3) (g_m4 : n0 ≤ m4) (g_m5 : n0 ≤ m5) (g_m6 : n0 ≤ m6) (g_m7 : n0 ≤ m7) (g_a2 : n0 ≤ a2) (g_a3 : n0 ≤ a3) (ne_a1_m1 : a1 ≠ m1) (ne_a2_m1 : a2 ≠ m1) (ne_a3_m1 : a3 ≠ m1) (ne_a1_m2 : a1 ≠ m2) (ne_a2_m2 : a2 ≠ m2) (ne_a3_m2 : a3 ≠ m2) (ne_a1_m3 : a1 ≠ m3) (ne_a2_m3 : a2 ≠ m3) (ne_a3_m3 : a3 ≠ m3) (ne_a1_m4 : a1 ≠ m4) (ne_a2_m4 : a2 ≠ m4) (ne_a3_m4 : a3 ≠ m4) (ne_a1_m5 : a1 ≠ m5) (ne_a2_m5 : a2 ≠ m5) (ne_a3_m5 : a3 ≠ m5) (ne_a1_m6 : a1 ≠ m6) (ne_a2_m6 : a2 ≠ m6) (ne_a3_m6 : a3 ≠ m6) (ne_a1_m7 : a1 ≠ m7) (ne_a2_m7 : a2 ≠ m7) (ne_a3_m7 : a3 ≠ m7) (ne_m1_m2 : m1 ≠ m2) (ne_m1_m3 : m1 ≠ m3) (ne_m1_m4 : m1 ≠ m4) (ne_m1_m5 : m1 ≠ m5) (ne_m1_m6 : m1 ≠ m6) (ne_m1_m7 : m1 ≠ m7) (ne_m2_m3 : m2 ≠ m3) (ne_m2_m4 : m2 ≠ m4) (ne_m2_m5 : m2 ≠ m5) (ne_m2_m6 : m2 ≠ m6) (ne_m2_m7 : m2 ≠ m7) (ne_m3_m4 : m3 ≠ m4) (ne_m3_m5 : m3 ≠ m5) (ne_m3_m6 : m3 ≠ m6) (ne_m3_m7 : m3 ≠ m7) (ne_m4_m5 : m4 ≠ m5) (ne_m4_m6 : m4 ≠ m6) (ne_m4_m7 : m4 ≠ m7) (ne_m5_m6 : m5 ≠ m6) (ne_m5_m7 : m5 ≠ m7) (ne_m6_m7 : m6 ≠ m7) (ne_a1_a2 : a1 ≠ a2) (ne_a1_a3 : a1 ≠ a3) (ne_a2_a3 : a2 ≠ a3) :
    Mt l Z mt13 (Jvm.Cond.code mt13 prog_3_method_3_code 9 (some .int) :: ws) rmR8 #[(.ref a1), (.ref a2), (.ref a3), (.int p4), (.int p5)] h0 (Q8 Z a1 a2 a3 p4 p5 m1 m2 m3 m4 m5 m6 m7 hm cl0 cl1 cl2 cl3 ch0 ch1 ch2 ch3 h0 n0) := by
  refine Mt.of n0 (plainFor_of_name pn_com_example_tightfold_tightfold_FocusFiltering) ?_
  intro p e s m below meth c T0 X0 hx hZ hby hml hown hret hlk hnm hs0
  have hown : s.vm.findClass "com/example/tightfold/tightfold/FocusFiltering" = some m.cls := hown
  rw [ef_8]
  show Rt p e below s rmR8.cells rmR8.slots (Q8 Z a1 a2 a3 p4 p5 m1 m2 m3 m4 m5 m6 m7 hm cl0 cl1 cl2 cl3 ch0 ch1 ch2 ch3 h0 n0) (T0.setTop (mkF m 0 #[.val (.ref a1), .val (.ref a2), .val (.ref a3), .val (.int p4), .val (.int p5), .unset, .unset, .unset, .unset] []))
  refine Rt.aloadN (pc' := 1) X0 hx (hb hby d8_0) rfl rfl rfl ?_
  refine Rt.aloadN (pc' := 2) X0 hx (hb hby d8_1) rfl rfl rfl ?_
  refine Rt.aloadN (pc' := 3) X0 hx (hb hby d8_2) rfl rfl rfl ?_
  refine Rt.iloadN (pc' := 4) X0 hx (hb hby d8_3) rfl rfl ?_
  refine Rt.callV (pc' := 7) X0 hx hZ (y := mt11) (yz := mt11) hown (own_g hw 52 rfl) (own_g hw 53 rfl) (notFace_of_selects (args := #[]) (mvT hZ (own_g hw 55 rfl))) (own_g hw 55 rfl) (own_g hw 54 rfl) (own_g hw 22 rfl) (own_g hw 56 rfl) (by decide) F_E_a1 (rm9 l Z a0 hw [] a1 a2 a3 p4 m1 m2 m3 m4 m5 m6 m7 hm cl0 cl1 cl2 cl3 ch0 ch1 ch2 ch3 h0 n0 Z0 F_E_a1 F_F_a1_impossible F_F_a1_h F_F_a1_lowOut F_F_a1_lowIn F_F_a1_lowInLength F_F_a1_lowInLows F_F_a1_high F_F_a1_highLength F_F_a1_highLows F_A_m1 F_A_m2 F_A_m3 F_A_m4 F_A_m5 F_A_m6 F_A_m7 F_A_a2 F_A_a3 g_m1 g_m2 g_m3 g_m4 g_m5 g_m6 g_m7 ne_a1_m1 ne_a2_m1 ne_a3_m1 ne_a1_m2 ne_a2_m2 ne_a3_m2 ne_a1_m3 ne_a2_m3 ne_a3_m3 ne_a1_m4 ne_a2_m4 ne_a3_m4 ne_a1_m5 ne_a2_m5 ne_a3_m5 ne_a1_m6 ne_a2_m6 ne_a3_m6 ne_a1_m7 ne_a2_m7 ne_a3_m7 ne_m1_m2 ne_m1_m3 ne_m1_m4 ne_m1_m5 ne_m1_m6 ne_m1_m7 ne_m2_m3 ne_m2_m4 ne_m2_m5 ne_m2_m6 ne_m2_m7 ne_m3_m4 ne_m3_m5 ne_m3_m6 ne_m3_m7 ne_m4_m5 ne_m4_m6 ne_m4_m7 ne_m5_m6 ne_m5_m7 ne_m6_m7) (fun _ _ _ q => q.2.1) (W := 0) (by decide) (by decide) (by decide) (by decide) (argsL := [(.ref a2), (.ref a3), (.int p4)]) (rest := []) (by rw [hml]; rfl) (lenOf pd_8 rfl) rfl rfl (Nat.le_of_eq rfl) (hb hby d8_4) rfl ?_
  rintro _ T1 h1 L1 X1 ⟨rfl, N1, K1, F2, F3, F4, F5, F6, F7, F8⟩
  have F9 := F_E_a1.keep K1
  have F10 := F_F_a1_impossible.keep K1 (ninS ne_a1_m1 (ninS ne_a1_m2 (ninS ne_a1_m3 (ninS ne_a1_m4 (ninS ne_a1_m5 (ninS ne_a1_m6 (ninS ne_a1_m7 nin0)))))))
  have F11 := F_F_a1_h.keep K1 (ninS ne_a1_m1 (ninS ne_a1_m2 (ninS ne_a1_m3 (ninS ne_a1_m4 (ninS ne_a1_m5 (ninS ne_a1_m6 (ninS ne_a1_m7 nin0)))))))
  have F12 := F_F_a1_lowOut.keep K1 (ninS ne_a1_m1 (ninS ne_a1_m2 (ninS ne_a1_m3 (ninS ne_a1_m4 (ninS ne_a1_m5 (ninS ne_a1_m6 (ninS ne_a1_m7 nin0)))))))
  have F13 := F_F_a1_lowIn.keep K1 (ninS ne_a1_m1 (ninS ne_a1_m2 (ninS ne_a1_m3 (ninS ne_a1_m4 (ninS ne_a1_m5 (ninS ne_a1_m6 (ninS ne_a1_m7 nin0)))))))
  have F14 := F_F_a1_lowInLength.keep K1 (ninS ne_a1_m1 (ninS ne_a1_m2 (ninS ne_a1_m3 (ninS ne_a1_m4 (ninS ne_a1_m5 (ninS ne_a1_m6 (ninS ne_a1_m7 nin0)))))))
  have F15 := F_F_a1_lowInLows.keep K1 (ninS ne_a1_m1 (ninS ne_a1_m2 (ninS ne_a1_m3 (ninS ne_a1_m4 (ninS ne_a1_m5 (ninS ne_a1_m6 (ninS ne_a1_m7 nin0)))))))
  have F16 := F_F_a1_high.keep K1 (ninS ne_a1_m1 (ninS ne_a1_m2 (ninS ne_a1_m3 (ninS ne_a1_m4 (ninS ne_a1_m5 (ninS ne_a1_m6 (ninS ne_a1_m7 nin0)))))))
  have F17 := F_F_a1_highLength.keep K1 (ninS ne_a1_m1 (ninS ne_a1_m2 (ninS ne_a1_m3 (ninS ne_a1_m4 (ninS ne_a1_m5 (ninS ne_a1_m6 (ninS ne_a1_m7 nin0)))))))
  have F18 := F_F_a1_highLows.keep K1 (ninS ne_a1_m1 (ninS ne_a1_m2 (ninS ne_a1_m3 (ninS ne_a1_m4 (ninS ne_a1_m5 (ninS ne_a1_m6 (ninS ne_a1_m7 nin0)))))))
  have F19 := F_A_a2.keep K1 (ninS ne_a2_m1 (ninS ne_a2_m2 (ninS ne_a2_m3 (ninS ne_a2_m4 (ninS ne_a2_m5 (ninS ne_a2_m6 (ninS ne_a2_m7 nin0)))))))
  have F20 := F_A_a3.keep K1 (ninS ne_a3_m1 (ninS ne_a3_m2 (ninS ne_a3_m3 (ninS ne_a3_m4 (ninS ne_a3_m5 (ninS ne_a3_m6 (ninS ne_a3_m7 nin0)))))))
  have K21 := (Keep.refl h0 [a2, a3, m1, m2, m3, m4, m5, m6, m7]).trans K1 (allS (Or.inl (List.mem_of_getElem? (i := 2) rfl)) (allS (Or.inl (List.mem_of_getElem? (i := 3) rfl)) (allS (Or.inl (List.mem_of_getElem? (i := 4) rfl)) (allS (Or.inl (List.mem_of_getElem? (i := 5) rfl)) (allS (Or.inl (List.mem_of_getElem? (i := 6) rfl)) (allS (Or.inl (List.mem_of_getElem? (i := 7) rfl)) (allS (Or.inl (List.mem_of_getElem? (i := 8) rfl)) all0)))))))
  have Z22 := Nat.le_trans Z0 K1.1
  show Rt _ _ _ _ _ _ _ (T1.setTop (mkF m 7 #[.val (.ref a1), .val (.ref a2), .val (.ref a3), .val (.int p4), .val (.int p5), .unset, .unset, .unset, .unset] [(.int (f9 p4 hm cl0 cl1 cl2 cl3 ch0 ch1 ch2 ch3))]))
  refine Rt.istore (pc' := 9) (v := (f8_v7 p4 hm cl0 cl1 cl2 cl3 ch0 ch1 ch2 ch3)) (l' := #[.val (.ref a1), .val (.ref a2), .val (.ref a3), .val (.int p4), .val (.int p5), .val (.int (f8_v7 p4 hm cl0 cl1 cl2 cl3 ch0 ch1 ch2 ch3)), .unset, .unset, .unset]) X1 hx (hb hby d8_7) rfl rfl ?_
  refine Rt.iload (pc' := 11) X1 hx (hb hby d8_9) rfl rfl ?_
  refine Rt.iload (pc' := 13) X1 hx (hb hby d8_11) rfl rfl ?_
  by_cases hc13_23 : (f8_v7 p4 hm cl0 cl1 cl2 cl3 ch0 ch1 ch2 ch3) = p5
  · refine Rt.icmpY (pc' := 19) X1 hx (hb hby d8_13) (teq hc13_23).1 (by decide) (by decide) ?_
    refine Rt.newO (pc' := 22) X1 hx hZ hown (own_g hw 57 rfl) (own_g hw 58 rfl) (own_g hw 59 rfl) (hb hby d8_19) (by decide) (by decide) rfl ?_
    intro T24 h24 b19 ha24 X24 E24 A24 D24
    have g25 : n0 ≤ b19 := by rw [ha24]; exact Z22
    have s26 : h0.size ≤ b19 := by rw [ha24]; exact K21.1
    have ne27 : a1 ≠ b19 := by rw [ha24]; exact Nat.ne_of_lt F9.lt
    have ne28 : a2 ≠ b19 := by rw [ha24]; exact Nat.ne_of_lt F19.lt
    have ne29 : a3 ≠ b19 := by rw [ha24]; exact Nat.ne_of_lt F20.lt
    have ne30 : m1 ≠ b19 := by rw [ha24]; exact Nat.ne_of_lt F2.lt
    have ne31 : m2 ≠ b19 := by rw [ha24]; exact Nat.ne_of_lt F3.lt
    have ne32 : m3 ≠ b19 := by rw [ha24]; exact Nat.ne_of_lt F4.lt
    have ne33 : m4 ≠ b19 := by rw [ha24]; exact Nat.ne_of_lt F5.lt
    have ne34 : m5 ≠ b19 := by rw [ha24]; exact Nat.ne_of_lt F6.lt
    have ne35 : m6 ≠ b19 := by rw [ha24]; exact Nat.ne_of_lt F7.lt
    have ne36 : m7 ≠ b19 := by rw [ha24]; exact Nat.ne_of_lt F8.lt
    have F37 := F9.ext E24
    have F38 := F10.ext E24
    have F39 := F11.ext E24
    have F40 := F12.ext E24
    have F41 := F13.ext E24
    have F42 := F14.ext E24
    have F43 := F15.ext E24
    have F44 := F16.ext E24
    have F45 := F17.ext E24
    have F46 := F18.ext E24
    have F47 := F19.ext E24
    have F48 := F20.ext E24
    have F49 := F2.ext E24
    have F50 := F3.ext E24
    have F51 := F4.ext E24
    have F52 := F5.ext E24
    have F53 := F6.ext E24
    have F54 := F7.ext E24
    have F55 := F8.ext E24
    have K56 := K21.ext E24
    have Z57 := Nat.le_trans Z22 E24.1
    have F58 : Fld Z h24 b19 nm2 "lowIn" nm3 .null := D24 (Or.inl (own_g hw 72 rfl)) (ty := (.object "com/example/tightfold/tightfold/FocusFiltering$Run")) (by decide)
    have F59 : Fld Z h24 b19 nm2 "high" nm3 .null := D24 (Or.inl (own_g hw 74 rfl)) (ty := (.object "com/example/tightfold/tightfold/FocusFiltering$Run")) (by decide)
    have F60 : Fld Z h24 b19 nm2 "nextLowIn" nm3 .null := D24 (Or.inl (own_g hw 76 rfl)) (ty := (.object "com/example/tightfold/tightfold/FocusFiltering$Run")) (by decide)
    have F61 : Fld Z h24 b19 nm2 "nextHigh" nm3 .null := D24 (Or.inl (own_g hw 78 rfl)) (ty := (.object "com/example/tightfold/tightfold/FocusFiltering$Run")) (by decide)
    have F62 : Fld Z h24 b19 nm2 "impossible" "I" (.int (0 : Int32)) := D24 (Or.inr (own_g hw 80 rfl)) (ty := .int) (by decide)
    have F63 : Fld Z h24 b19 nm2 "h" "I" (.int (0 : Int32)) := D24 (Or.inr (own_g hw 82 rfl)) (ty := .int) (by decide)
    have F64 : Fld Z h24 b19 nm2 "lowOut" "I" (.int (0 : Int32)) := D24 (Or.inl (own_g hw 84 rfl)) (ty := .int) (by decide)
    refine Rt.dup (pc' := 23) X24 hx (hb hby d8_22) rfl rfl ?_
    refine Rt.aloadN (pc' := 24) X24 hx (hb hby d8_23) rfl rfl rfl ?_
    refine Rt.getF (pc' := 27) (v := (.int (5 : Int32))) X24 hx hZ hown (host := "") (Or.inl (own_g hw 29 rfl)) F38 (hb hby d8_24) rfl ?_
    intro T65 X65
    refine Rt.aloadN (pc' := 28) X65 hx (hb hby d8_27) rfl rfl rfl ?_
    refine Rt.getF (pc' := 31) (v := (.int hm)) X65 hx hZ hown (host := "") (Or.inl (own_g hw 31 rfl)) F39 (hb hby d8_28) rfl ?_
    intro T66 X66
    refine Rt.callI (pc' := 34) X66 hx hZ (y := mt9) rfl hown (own_g hw 60 rfl) (own_g hw 61 rfl) (own_g hw 59 rfl) (own_g hw 62 rfl) (by decide) (rm10 l Z a0 hw [] b19 (5 : Int32) hm h24 n0 Z57 A24 F62 F63 F64 F58 F59 F60 F61 g25) (fun _ _ _ q => (by obtain ⟨_, _, _, _, _, _, _, _, _, _, _, _, _, _, _, q, _⟩ := q; exact q)) (W := 1) (by decide) (by decide) (by decide) (by decide) (argsL := [(.int (5 : Int32)), (.int hm)]) (rest := [(.ref b19)]) (by rw [hml]; rfl) (lenOf pd_6 rfl) rfl rfl (Nat.le_of_eq rfl) (hb hby d8_31) rfl ?_
    rintro _ T67 h67 L67 X67 ⟨b31nr1, b31nr2, b31nr3, b31nr4, sb31nr1, sb31nr2, sb31nr3, sb31nr4, ne92, ne93, ne94, ne95, ne96, ne97, rfl, N67, K67, F68, F69, F70, F71, F72, F73, F74, F75, F76, F77, F78, F79, F80, F81, F82, F83, F84, F85, F86, F87, F88, F89, F90, F91⟩
    have g98 : n0 ≤ b31nr1 := Nat.le_trans Z57 sb31nr1
    have s99 : h0.size ≤ b31nr1 := Nat.le_trans K56.1 sb31nr1
    have ne100 := Nat.ne_of_lt (Nat.lt_of_lt_of_le F37.lt sb31nr1)
    have ne101 := Nat.ne_of_lt (Nat.lt_of_lt_of_le F47.lt sb31nr1)
    have ne102 := Nat.ne_of_lt (Nat.lt_of_lt_of_le F48.lt sb31nr1)
    have ne103 := Nat.ne_of_lt (Nat.lt_of_lt_of_le F49.lt sb31nr1)
    have ne104 := Nat.ne_of_lt (Nat.lt_of_lt_of_le F50.lt sb31nr1)
    have ne105 := Nat.ne_of_lt (Nat.lt_of_lt_of_le F51.lt sb31nr1)
    have ne106 := Nat.ne_of_lt (Nat.lt_of_lt_of_le F52.lt sb31nr1)
    have ne107 := Nat.ne_of_lt (Nat.lt_of_lt_of_le F53.lt sb31nr1)
    have ne108 := Nat.ne_of_lt (Nat.lt_of_lt_of_le F54.lt sb31nr1)
    have ne109 := Nat.ne_of_lt (Nat.lt_of_lt_of_le F55.lt sb31nr1)
    have ne110 := Nat.ne_of_lt (Nat.lt_of_lt_of_le A24.lt sb31nr1)
    have g111 : n0 ≤ b31nr2 := Nat.le_trans Z57 sb31nr2
    have s112 : h0.size ≤ b31nr2 := Nat.le_trans K56.1 sb31nr2
    have ne113 := Nat.ne_of_lt (Nat.lt_of_lt_of_le F37.lt sb31nr2)
    have ne114 := Nat.ne_of_lt (Nat.lt_of_lt_of_le F47.lt sb31nr2)
    have ne115 := Nat.ne_of_lt (Nat.lt_of_lt_of_le F48.lt sb31nr2)
    have ne116 := Nat.ne_of_lt (Nat.lt_of_lt_of_le F49.lt sb31nr2)
    have ne117 := Nat.ne_of_lt (Nat.lt_of_lt_of_le F50.lt sb31nr2)
    have ne118 := Nat.ne_of_lt (Nat.lt_of_lt_of_le F51.lt sb31nr2)
    have ne119 := Nat.ne_of_lt (Nat.lt_of_lt_of_le F52.lt sb31nr2)
    have ne120 := Nat.ne_of_lt (Nat.lt_of_lt_of_le F53.lt sb31nr2)
    have ne121 := Nat.ne_of_lt (Nat.lt_of_lt_of_le F54.lt sb31nr2)
    have ne122 := Nat.ne_of_lt (Nat.lt_of_lt_of_le F55.lt sb31nr2)
    have ne123 := Nat.ne_of_lt (Nat.lt_of_lt_of_le A24.lt sb31nr2)
    have g124 : n0 ≤ b31nr3 := Nat.le_trans Z57 sb31nr3
    have s125 : h0.size ≤ b31nr3 := Nat.le_trans K56.1 sb31nr3
    have ne126 := Nat.ne_of_lt (Nat.lt_of_lt_of_le F37.lt sb31nr3)
    have ne127 := Nat.ne_of_lt (Nat.lt_of_lt_of_le F47.lt sb31nr3)
    have ne128 := Nat.ne_of_lt (Nat.lt_of_lt_of_le F48.lt sb31nr3)
    have ne129 := Nat.ne_of_lt (Nat.lt_of_lt_of_le F49.lt sb31nr3)
    have ne130 := Nat.ne_of_lt (Nat.lt_of_lt_of_le F50.lt sb31nr3)
    have ne131 := Nat.ne_of_lt (Nat.lt_of_lt_of_le F51.lt sb31nr3)
    have ne132 := Nat.ne_of_lt (Nat.lt_of_lt_of_le F52.lt sb31nr3)
    have ne133 := Nat.ne_of_lt (Nat.lt_of_lt_of_le F53.lt sb31nr3)
    have ne134 := Nat.ne_of_lt (Nat.lt_of_lt_of_le F54.lt sb31nr3)
    have ne135 := Nat.ne_of_lt (Nat.lt_of_lt_of_le F55.lt sb31nr3)
    have ne136 := Nat.ne_of_lt (Nat.lt_of_lt_of_le A24.lt sb31nr3)
    have g137 : n0 ≤ b31nr4 := Nat.le_trans Z57 sb31nr4
    have s138 : h0.size ≤ b31nr4 := Nat.le_trans K56.1 sb31nr4
    have ne139 := Nat.ne_of_lt (Nat.lt_of_lt_of_le F37.lt sb31nr4)
    have ne140 := Nat.ne_of_lt (Nat.lt_of_lt_of_le F47.lt sb31nr4)
    have ne141 := Nat.ne_of_lt (Nat.lt_of_lt_of_le F48.lt sb31nr4)
    have ne142 := Nat.ne_of_lt (Nat.lt_of_lt_of_le F49.lt sb31nr4)
    have ne143 := Nat.ne_of_lt (Nat.lt_of_lt_of_le F50.lt sb31nr4)
    have ne144 := Nat.ne_of_lt (Nat.lt_of_lt_of_le F51.lt sb31nr4)
    have ne145 := Nat.ne_of_lt (Nat.lt_of_lt_of_le F52.lt sb31nr4)
    have ne146 := Nat.ne_of_lt (Nat.lt_of_lt_of_le F53.lt sb31nr4)
    have ne147 := Nat.ne_of_lt (Nat.lt_of_lt_of_le F54.lt sb31nr4)
    have ne148 := Nat.ne_of_lt (Nat.lt_of_lt_of_le F55.lt sb31nr4)
    have ne149 := Nat.ne_of_lt (Nat.lt_of_lt_of_le A24.lt sb31nr4)
    have F150 := F37.keep K67
    have F151 := F38.keep K67 (ninS ne27 nin0)
    have F152 := F39.keep K67 (ninS ne27 nin0)
    have F153 := F40.keep K67 (ninS ne27 nin0)
    have F154 := F41.keep K67 (ninS ne27 nin0)
    have F155 := F42.keep K67 (ninS ne27 nin0)
    have F156 := F43.keep K67 (ninS ne27 nin0)
    have F157 := F44.keep K67 (ninS ne27 nin0)
    have F158 := F45.keep K67 (ninS ne27 nin0)
    have F159 := F46.keep K67 (ninS ne27 nin0)
    have F160 := F47.keep K67 (ninS ne28 nin0)
    have F161 := F48.keep K67 (ninS ne29 nin0)
    have F162 := F49.keep K67 (ninS ne30 nin0)
    have F163 := F50.keep K67 (ninS ne31 nin0)
    have F164 := F51.keep K67 (ninS ne32 nin0)
    have F165 := F52.keep K67 (ninS ne33 nin0)
    have F166 := F53.keep K67 (ninS ne34 nin0)
    have F167 := F54.keep K67 (ninS ne35 nin0)
    have F168 := F55.keep K67 (ninS ne36 nin0)
    have F169 := A24.keep K67
    have K170 := K56.trans K67 (allS (Or.inr s26) all0)
    have Z171 := Nat.le_trans Z57 K67.1
    show Rt _ _ _ _ _ _ _ (T67.setTop (mkF m 34 #[.val (.ref a1), .val (.ref a2), .val (.ref a3), .val (.int p4), .val (.int p5), .val (.int (f8_v7 p4 hm cl0 cl1 cl2 cl3 ch0 ch1 ch2 ch3)), .unset, .unset, .unset] [(.ref b19)]))
    refine Rt.astore (pc' := 36) (v := (.ref b19)) (l' := #[.val (.ref a1), .val (.ref a2), .val (.ref a3), .val (.int p4), .val (.int p5), .val (.int (f8_v7 p4 hm cl0 cl1 cl2 cl3 ch0 ch1 ch2 ch3)), .val (.ref b19), .unset, .unset]) X67 hx (hb hby d8_34) rfl rfl rfl ?_
    refine Rt.aloadN (pc' := 37) X67 hx (hb hby d8_36) rfl rfl rfl ?_
    refine Rt.getF (pc' := 40) (v := (.ref m1)) X67 hx hZ hown (host := "") (Or.inl (own_g hw 33 rfl)) F153 (hb hby d8_37) rfl ?_
    intro T172 X172
    refine Rt.arraylength (pc' := 41) X172 hx hZ F162 (v := (4 : Int32)) rfl (hb hby d8_40) rfl ?_
    refine Rt.iconst (pc' := 42) (v := (1 : Int32)) X172 hx (hb hby d8_41) rfl rfl ?_
    refine Rt.isub (pc' := 43) (r := (3 : Int32)) X172 hx (hb hby d8_42) (by decide) rfl ?_
    refine Rt.istore (pc' := 45) (v := (3 : Int32)) (l' := #[.val (.ref a1), .val (.ref a2), .val (.ref a3), .val (.int p4), .val (.int p5), .val (.int (f8_v7 p4 hm cl0 cl1 cl2 cl3 ch0 ch1 ch2 ch3)), .val (.ref b19), .val (.int (3 : Int32)), .unset]) X172 hx (hb hby d8_43) rfl rfl ?_
    refine Rt.iload (pc' := 47) X172 hx (hb hby d8_45) rfl rfl ?_
    refine Rt.ifN (pc' := 50) X172 hx (hb hby d8_47) ((if0 _ _).trans (flt (by decide : ¬ ((3 : Int32) < (0 : Int32)))).1) rfl ?_
    refine Rt.aload (pc' := 52) X172 hx (hb hby d8_50) rfl rfl rfl ?_
    refine Rt.aloadN (pc' := 53) X172 hx (hb hby d8_52) rfl rfl rfl ?_
    refine Rt.iload (pc' := 55) X172 hx (hb hby d8_53) rfl rfl ?_
    refine Rt.zaload (pc' := 56) X172 hx hZ F160 (i := 3) (by decide) (by decide) (v := (.int cl3)) rfl (hb hby d8_55) rfl ?_
    refine Rt.aloadN (pc' := 57) X172 hx (hb hby d8_56) rfl rfl rfl ?_
    refine Rt.iload (pc' := 59) X172 hx (hb hby d8_57) rfl rfl ?_
    refine Rt.zaload (pc' := 60) X172 hx hZ F161 (i := 3) (by decide) (by decide) (v := (.int ch3)) rfl (hb hby d8_59) rfl ?_
    refine Rt.iloadN (pc' := 61) X172 hx (hb hby d8_60) rfl rfl ?_
    refine Rt.callV (pc' := 64) X172 hx hZ (y := mt8) (yz := mt8) hown (own_g hw 96 rfl) (own_g hw 97 rfl) (notFace_of_selects (args := #[]) (mvT hZ (own_g hw 99 rfl))) (own_g hw 99 rfl) (own_g hw 98 rfl) (own_g hw 59 rfl) (own_g hw 100 rfl) (by decide) F68 (rm13 l Z a0 hw [] b19 cl3 ch3 p4 (5 : Int32) hm (0 : Int32) b31nr1 b31nr2 b31nr3 b31nr4 (5 : Int32) (0 : Int32) (0 : Int32) (5 : Int32) (0 : Int32) (0 : Int32) (0 : Int32) (0 : Int32) (0 : Int32) (0 : Int32) (0 : Int32) (0 : Int32) h67 n0 Z171 F68 F69 F70 F71 F72 F73 F74 F75 F76 F86 F87 F88 F77 F89 F90 F91 F78 F79 F80 F81 F82 F83 F84 F85 g25 g124 g137 ne110 ne123 ne136 ne149 ne92 ne93 ne94 ne95 ne96 ne97) (fun _ _ _ q => q.2.1) (W := 0) (by decide) (by decide) (by decide) (by decide) (argsL := [(.int cl3), (.int ch3), (.int p4)]) (rest := []) (by rw [hml]; rfl) (lenOf pd_7 rfl) rfl rfl (Nat.le_of_eq rfl) (hb hby d8_61) rfl ?_
    rintro _ T173 h173 L173 X173 ⟨rfl, N173, K173, F174, F175, F176, F177, F178, F179, F180, F181, F182, F183, F184, F185, F186, F187, F188, F189⟩
    have F190 := F150.keep K173
    have F191 := F151.keep K173 (ninS ne27 (ninS ne126 (ninS ne139 nin0)))
    have F192 := F152.keep K173 (ninS ne27 (ninS ne126 (ninS ne139 nin0)))
    have F193 := F153.keep K173 (ninS ne27 (ninS ne126 (ninS ne139 nin0)))
    have F194 := F154.keep K173 (ninS ne27 (ninS ne126 (ninS ne139 nin0)))
    have F195 := F155.keep K173 (ninS ne27 (ninS ne126 (ninS ne139 nin0)))
    have F196 := F156.keep K173 (ninS ne27 (ninS ne126 (ninS ne139 nin0)))
    have F197 := F157.keep K173 (ninS ne27 (ninS ne126 (ninS ne139 nin0)))
    have F198 := F158.keep K173 (ninS ne27 (ninS ne126 (ninS ne139 nin0)))
    have F199 := F159.keep K173 (ninS ne27 (ninS ne126 (ninS ne139 nin0)))
    have F200 := F160.keep K173 (ninS ne28 (ninS ne127 (ninS ne140 nin0)))
    have F201 := F161.keep K173 (ninS ne29 (ninS ne128 (ninS ne141 nin0)))
    have F202 := F162.keep K173 (ninS ne30 (ninS ne129 (ninS ne142 nin0)))
    have F203 := F163.keep K173 (ninS ne31 (ninS ne130 (ninS ne143 nin0)))
    have F204 := F164.keep K173 (ninS ne32 (ninS ne131 (ninS ne144 nin0)))
    have F205 := F165.keep K173 (ninS ne33 (ninS ne132 (ninS ne145 nin0)))
    have F206 := F166.keep K173 (ninS ne34 (ninS ne133 (ninS ne146 nin0)))
    have F207 := F167.keep K173 (ninS ne35 (ninS ne134 (ninS ne147 nin0)))
    have F208 := F168.keep K173 (ninS ne36 (ninS ne135 (ninS ne148 nin0)))
    have F209 := F68.keep K173
    have F210 := F76.keep K173
    have F211 := F77.keep K173
    have F212 := F78.keep K173
    have F213 := F82.keep K173
    have F214 := F86.keep K173 (ninS (Ne.symm ne110) (ninS ne93 (ninS ne94 nin0)))
    have F215 := F87.keep K173 (ninS (Ne.symm ne110) (ninS ne93 (ninS ne94 nin0)))
    have F216 := F88.keep K173 (ninS (Ne.symm ne110) (ninS ne93 (ninS ne94 nin0)))
    have F217 := F89.keep K173 (ninS (Ne.symm ne123) (ninS ne95 (ninS ne96 nin0)))
    have F218 := F90.keep K173 (ninS (Ne.symm ne123) (ninS ne95 (ninS ne96 nin0)))
    have F219 := F91.keep K173 (ninS (Ne.symm ne123) (ninS ne95 (ninS ne96 nin0)))
    have K220 := K170.trans K173 (allS (Or.inr s26) (allS (Or.inr s125) (allS (Or.inr s138) all0)))
    have Z221 := Nat.le_trans Z171 K173.1
    have F222 : Fld Z h173 b19 nm2 "lowOut" "I" (.int (f8_c61_b19_lowOut0 cl3)) := F177
    have F223 : Fld Z h173 b31nr3 nm1 "runs" "I" (.int (f8_c61_b31nr3_runs0 p4 hm cl3)) := F184
    have F224 : Fld Z h173 b31nr3 nm1 "length" "I" (.int (f8_c61_b31nr3_length0 p4 hm cl3)) := F185
    have F225 : Fld Z h173 b31nr3 nm1 "lows" "I" (.int (f8_c61_b31nr3_lows0 p4 hm cl3)) := F186
    have F226 : Fld Z h173 b31nr4 nm1 "runs" "I" (.int (f8_c61_b31nr4_runs0 p4 hm ch3)) := F187
    have F227 : Fld Z h173 b31nr4 nm1 "length" "I" (.int (f8_c61_b31nr4_length0 p4 hm ch3)) := F188
    have F228 : Fld Z h173 b31nr4 nm1 "lows" "I" (.int (f8_c61_b31nr4_lows0 p4 hm ch3)) := F189
    show Rt _ _ _ _ _ _ _ (T173.setTop (mkF m 64 #[.val (.ref a1), .val (.ref a2), .val (.ref a3), .val (.int p4), .val (.int p5), .val (.int (f8_v7 p4 hm cl0 cl1 cl2 cl3 ch0 ch1 ch2 ch3)), .val (.ref b19), .val (.int (3 : Int32)), .unset] []))
    refine Rt.aloadN (pc' := 65) X173 hx (hb hby d8_64) rfl rfl rfl ?_
    refine Rt.iload (pc' := 67) X173 hx (hb hby d8_65) rfl rfl ?_
    refine Rt.zaload (pc' := 68) X173 hx hZ F200 (i := 3) (by decide) (by decide) (v := (.int cl3)) rfl (hb hby d8_67) rfl ?_
    have J68_229 : ∀ T229 (h229 : Heap) , Sd p l e rmR8 s m #[(.ref a1), (.ref a2), (.ref a3), (.int p4), (.int p5)] below meth c T229 n0 10 38 h229 → n0 ≤ h229.size → Keep h0 h229 [a2, a3, m1, m2, m3, m4, m5, m6, m7] → Exa Z h229 a1 nm4 → Fld Z h229 a1 nm4 "impossible" "I" (.int (5 : Int32)) → Fld Z h229 a1 nm4 "h" "I" (.int hm) → Fld Z h229 a1 nm4 "lowOut" "[I" (.ref m1) → Fld Z h229 a1 nm4 "lowIn" "[I" (.ref m2) → Fld Z h229 a1 nm4 "lowInLength" "[I" (.ref m3) → Fld Z h229 a1 nm4 "lowInLows" "[I" (.ref m4) → Fld Z h229 a1 nm4 "high" "[I" (.ref m5) → Fld Z h229 a1 nm4 "highLength" "[I" (.ref m6) → Fld Z h229 a1 nm4 "highLows" "[I" (.ref m7) → IA Z h229 a2 .boolean [(.int cl0), (.int cl1), (.int cl2), (.int (f8_j111_A_a2_3 p4 p5 hm cl0 cl1 cl2 cl3 ch0 ch1 ch2))] → IA Z h229 a3 .boolean [(.int ch0), (.int ch1), (.int ch2), (.int ch3)] → IA Z h229 m1 .int [(.int (f9_c41_b0_lowOut0 cl0)), (.int (f9_c41_b0_lowOut0_1 p4 hm cl0 cl1 ch0)), (.int (f9_c41_b0_lowOut0_2 p4 hm cl0 cl1 cl2 ch0 ch1)), (.int (f9_c41_b0_lowOut0_3 p4 hm cl0 cl1 cl2 cl3 ch0 ch1 ch2))] → IA Z h229 m2 .int [(.int (f9_c41_b12nr3_runs0 p4 hm cl0)), (.int (f9_c41_b12nr1_runs0 p4 hm cl0 cl1 ch0)), (.int (f9_c41_b12nr3_runs0_1 p4 hm cl0 cl1 cl2 ch0 ch1)), (.int (f9_c41_b12nr1_runs0_1 p4 hm cl0 cl1 cl2 cl3 ch0 ch1 ch2))] → IA Z h229 m3 .int [(.int (f9_c41_b12nr3_length0 p4 hm cl0)), (.int (f9_c41_b12nr1_length0 p4 hm cl0 cl1 ch0)), (.int (f9_c41_b12nr3_length0_1 p4 hm cl0 cl1 cl2 ch0 ch1)), (.int (f9_c41_b12nr1_length0_1 p4 hm cl0 cl1 cl2 cl3 ch0 ch1 ch2))] → IA Z h229 m4 .int [(.int (f9_c41_b12nr3_lows0 p4 hm cl0)), (.int (f9_c41_b12nr1_lows0 p4 hm cl0 cl1 ch0)), (.int (f9_c41_b12nr3_lows0_1 p4 hm cl0 cl1 cl2 ch0 ch1)), (.int (f9_c41_b12nr1_lows0_1 p4 hm cl0 cl1 cl2 cl3 ch0 ch1 ch2))] → IA Z h229 m5 .int [(.int (f9_c41_b12nr4_runs0 p4 hm ch0)), (.int (f9_c41_b12nr2_runs0 p4 hm cl0 ch0 ch1)), (.int (f9_c41_b12nr4_runs0_1 p4 hm cl0 cl1 ch0 ch1 ch2)), (.int (f9_c41_b12nr2_runs0_1 p4 hm cl0 cl1 cl2 ch0 ch1 ch2 ch3))] → IA Z h229 m6 .int [(.int (f9_c41_b12nr4_length0 p4 hm ch0)), (.int (f9_c41_b12nr2_length0 p4 hm cl0 ch0 ch1)), (.int (f9_c41_b12nr4_length0_1 p4 hm cl0 cl1 ch0 ch1 ch2)), (.int (f9_c41_b12nr2_length0_1 p4 hm cl0 cl1 cl2 ch0 ch1 ch2 ch3))] → IA Z h229 m7 .int [(.int (f9_c41_b12nr4_lows0 p4 hm ch0)), (.int (f9_c41_b12nr2_lows0 p4 hm cl0 ch0 ch1)), (.int (f9_c41_b12nr4_lows0_1 p4 hm cl0 cl1 ch0 ch1 ch2)), (.int (f9_c41_b12nr2_lows0_1 p4 hm cl0 cl1 cl2 ch0 ch1 ch2 ch3))] → Exa Z h229 b19 nm2 → Exa Z h229 b31nr1 nm1 → Exa Z h229 b31nr2 nm1 → Exa Z h229 b31nr3 nm1 → Exa Z h229 b31nr4 nm1 → Fld Z h229 b31nr1 nm1 "runs" "I" (.int (5 : Int32)) → Fld Z h229 b31nr1 nm1 "length" "I" (.int (0 : Int32)) → Fld Z h229 b31nr1 nm1 "lows" "I" (.int (0 : Int32)) → Fld Z h229 b31nr2 nm1 "runs" "I" (.int (5 : Int32)) → Fld Z h229 b31nr2 nm1 "length" "I" (.int (0 : Int32)) → Fld Z h229 b31nr2 nm1 "lows" "I" (.int (0 : Int32)) → Fld Z h229 b19 nm2 "impossible" "I" (.int (5 : Int32)) → Fld Z h229 b19 nm2 "h" "I" (.int hm) → Fld Z h229 b19 nm2 "lowOut" "I" (.int (f8_c61_b19_lowOut0 cl3)) → Fld Z h229 b19 nm2 "lowIn" nm3 (.ref b31nr3) → Fld Z h229 b19 nm2 "high" nm3 (.ref b31nr4) → Fld Z h229 b19 nm2 "nextLowIn" nm3 (.ref b31nr1) → Fld Z h229 b19 nm2 "nextHigh" nm3 (.ref b31nr2) → Fld Z h229 b31nr3 nm1 "runs" "I" (.int (f8_c61_b31nr3_runs0 p4 hm cl3)) → Fld Z h229 b31nr3 nm1 "length" "I" (.int (f8_c61_b31nr3_length0 p4 hm cl3)) → Fld Z h229 b31nr3 nm1 "lows" "I" (.int (f8_c61_b31nr3_lows0 p4 hm cl3)) → Fld Z h229 b31nr4 nm1 "runs" "I" (.int (f8_c61_b31nr4_runs0 p4 hm ch3)) → Fld Z h229 b31nr4 nm1 "length" "I" (.int (f8_c61_b31nr4_length0 p4 hm ch3)) → Fld Z h229 b31nr4 nm1 "lows" "I" (.int (f8_c61_b31nr4_lows0 p4 hm ch3)) → Rt p e below s rmR8.cells rmR8.slots (Q8 Z a1 a2 a3 p4 p5 m1 m2 m3 m4 m5 m6 m7 hm cl0 cl1 cl2 cl3 ch0 ch1 ch2 ch3 h0 n0) (T229.setTop (mkF m 111 #[.val (.ref a1), .val (.ref a2), .val (.ref a3), .val (.int p4), .val (.int p5), .val (.int (f8_v7 p4 hm cl0 cl1 cl2 cl3 ch0 ch1 ch2 ch3)), .val (.ref b19), .val (.int (3 : Int32)), .unset] [])) := by
      intro T229 h229  X229 Z229 K229 F230 F231 F232 F233 F234 F235 F236 F237 F238 F239 F240 F241 F242 F243 F244 F245 F246 F247 F248 F249 F250 F251 F252 F253 F254 F255 F256 F257 F258 F259 F260 F261 F262 F263 F264 F265 F266 F267 F268 F269 F270 F271 F272
      refine Rt.aloadN (pc' := 112) X229 hx (hb hby d8_111) rfl rfl rfl ?_
      refine Rt.getF (pc' := 115) (v := (.ref m6)) X229 hx hZ hown (host := "") (Or.inl (own_g hw 43 rfl)) F238 (hb hby d8_112) rfl ?_
      intro T273 X273
      refine Rt.iload (pc' := 117) X273 hx (hb hby d8_115) rfl rfl ?_
      refine Rt.iaload (pc' := 118) X273 hx hZ F247 (i := 3) (by decide) (by decide) (v := (.int (f9_c41_b12nr2_length0_1 p4 hm cl0 cl1 cl2 ch0 ch1 ch2 ch3))) rfl (hb hby d8_117) rfl ?_
      refine Rt.iconst (pc' := 119) (v := (1 : Int32)) X273 hx (hb hby d8_118) rfl rfl ?_
      refine Rt.isub (pc' := 120) (r := ((f9_c41_b12nr2_length0_1 p4 hm cl0 cl1 cl2 ch0 ch1 ch2 ch3) - (1 : Int32))) X273 hx (hb hby d8_119) rfl rfl ?_
      refine Rt.iloadN (pc' := 121) X273 hx (hb hby d8_120) rfl rfl ?_
      refine Rt.aload (pc' := 123) X273 hx (hb hby d8_121) rfl rfl rfl ?_
      refine Rt.getFR (pc' := 126) (v := (.ref b31nr4)) X273 hx hZ hown (own_g hw 117 rfl) F264 (hb hby d8_123) rfl ?_
      intro T274 X274
      refine Rt.getFR (pc' := 129) (v := (.int (f8_c61_b31nr4_length0 p4 hm ch3))) X274 hx hZ hown (own_g hw 115 rfl) F271 (hb hby d8_126) rfl ?_
      intro T275 X275
      refine Rt.isub (pc' := 130) (r := (p4 - (f8_c61_b31nr4_length0 p4 hm ch3))) X275 hx (hb hby d8_129) rfl rfl ?_
      have J130_276 : ∀ T276  , Sd p l e rmR8 s m #[(.ref a1), (.ref a2), (.ref a3), (.int p4), (.int p5)] below meth c T276 n0 10 38 h229 → Rt p e below s rmR8.cells rmR8.slots (Q8 Z a1 a2 a3 p4 p5 m1 m2 m3 m4 m5 m6 m7 hm cl0 cl1 cl2 cl3 ch0 ch1 ch2 ch3 h0 n0) (T276.setTop (mkF m 161 #[.val (.ref a1), .val (.ref a2), .val (.ref a3), .val (.int p4), .val (.int p5), .val (.int (f8_v7 p4 hm cl0 cl1 cl2 cl3 ch0 ch1 ch2 ch3)), .val (.ref b19), .val (.int (3 : Int32)), .unset] [(.int (f8_j161_s0 p4 hm cl0 cl1 cl2 ch0 ch1 ch2 ch3))])) := by
        intro T276   X276 
        refine Rt.istore (pc' := 163) (v := (f8_j161_s0 p4 hm cl0 cl1 cl2 ch0 ch1 ch2 ch3)) (l' := #[.val (.ref a1), .val (.ref a2), .val (.ref a3), .val (.int p4), .val (.int p5), .val (.int (f8_v7 p4 hm cl0 cl1 cl2 cl3 ch0 ch1 ch2 ch3)), .val (.ref b19), .val (.int (3 : Int32)), .val (.int (f8_j161_s0 p4 hm cl0 cl1 cl2 ch0 ch1 ch2 ch3))]) X276 hx (hb hby d8_161) rfl rfl ?_
        refine Rt.aloadN (pc' := 164) X276 hx (hb hby d8_163) rfl rfl rfl ?_
        refine Rt.iload (pc' := 166) X276 hx (hb hby d8_164) rfl rfl ?_
        refine Rt.zaload (pc' := 167) X276 hx hZ F241 (i := 3) (by decide) (by decide) (v := (.int ch3)) rfl (hb hby d8_166) rfl ?_
        have J167_277 : ∀ T277 (h277 : Heap) , Sd p l e rmR8 s m #[(.ref a1), (.ref a2), (.ref a3), (.int p4), (.int p5)] below meth c T277 n0 10 38 h277 → n0 ≤ h277.size → Keep h0 h277 [a2, a3, m1, m2, m3, m4, m5, m6, m7] → Exa Z h277 a1 nm4 → Fld Z h277 a1 nm4 "impossible" "I" (.int (5 : Int32)) → Fld Z h277 a1 nm4 "h" "I" (.int hm) → Fld Z h277 a1 nm4 "lowOut" "[I" (.ref m1) → Fld Z h277 a1 nm4 "lowIn" "[I" (.ref m2) → Fld Z h277 a1 nm4 "lowInLength" "[I" (.ref m3) → Fld Z h277 a1 nm4 "lowInLows" "[I" (.ref m4) → Fld Z h277 a1 nm4 "high" "[I" (.ref m5) → Fld Z h277 a1 nm4 "highLength" "[I" (.ref m6) → Fld Z h277 a1 nm4 "highLows" "[I" (.ref m7) → IA Z h277 a2 .boolean [(.int cl0), (.int cl1), (.int cl2), (.int (f8_j111_A_a2_3 p4 p5 hm cl0 cl1 cl2 cl3 ch0 ch1 ch2))] → IA Z h277 a3 .boolean [(.int ch0), (.int ch1), (.int ch2), (.int (f8_j199_A_a3_3 p4 p5 hm cl0 cl1 cl2 ch0 ch1 ch2 ch3))] → IA Z h277 m1 .int [(.int (f9_c41_b0_lowOut0 cl0)), (.int (f9_c41_b0_lowOut0_1 p4 hm cl0 cl1 ch0)), (.int (f9_c41_b0_lowOut0_2 p4 hm cl0 cl1 cl2 ch0 ch1)), (.int (f9_c41_b0_lowOut0_3 p4 hm cl0 cl1 cl2 cl3 ch0 ch1 ch2))] → IA Z h277 m2 .int [(.int (f9_c41_b12nr3_runs0 p4 hm cl0)), (.int (f9_c41_b12nr1_runs0 p4 hm cl0 cl1 ch0)), (.int (f9_c41_b12nr3_runs0_1 p4 hm cl0 cl1 cl2 ch0 ch1)), (.int (f9_c41_b12nr1_runs0_1 p4 hm cl0 cl1 cl2 cl3 ch0 ch1 ch2))] → IA Z h277 m3 .int [(.int (f9_c41_b12nr3_length0 p4 hm cl0)), (.int (f9_c41_b12nr1_length0 p4 hm cl0 cl1 ch0)), (.int (f9_c41_b12nr3_length0_1 p4 hm cl0 cl1 cl2 ch0 ch1)), (.int (f9_c41_b12nr1_length0_1 p4 hm cl0 cl1 cl2 cl3 ch0 ch1 ch2))] → IA Z h277 m4 .int [(.int (f9_c41_b12nr3_lows0 p4 hm cl0)), (.int (f9_c41_b12nr1_lows0 p4 hm cl0 cl1 ch0)), (.int (f9_c41_b12nr3_lows0_1 p4 hm cl0 cl1 cl2 ch0 ch1)), (.int (f9_c41_b12nr1_lows0_1 p4 hm cl0 cl1 cl2 cl3 ch0 ch1 ch2))] → IA Z h277 m5 .int [(.int (f9_c41_b12nr4_runs0 p4 hm ch0)), (.int (f9_c41_b12nr2_runs0 p4 hm cl0 ch0 ch1)), (.int (f9_c41_b12nr4_runs0_1 p4 hm cl0 cl1 ch0 ch1 ch2)), (.int (f9_c41_b12nr2_runs0_1 p4 hm cl0 cl1 cl2 ch0 ch1 ch2 ch3))] → IA Z h277 m6 .int [(.int (f9_c41_b12nr4_length0 p4 hm ch0)), (.int (f9_c41_b12nr2_length0 p4 hm cl0 ch0 ch1)), (.int (f9_c41_b12nr4_length0_1 p4 hm cl0 cl1 ch0 ch1 ch2)), (.int (f9_c41_b12nr2_length0_1 p4 hm cl0 cl1 cl2 ch0 ch1 ch2 ch3))] → IA Z h277 m7 .int [(.int (f9_c41_b12nr4_lows0 p4 hm ch0)), (.int (f9_c41_b12nr2_lows0 p4 hm cl0 ch0 ch1)), (.int (f9_c41_b12nr4_lows0_1 p4 hm cl0 cl1 ch0 ch1 ch2)), (.int (f9_c41_b12nr2_lows0_1 p4 hm cl0 cl1 cl2 ch0 ch1 ch2 ch3))] → Exa Z h277 b19 nm2 → Exa Z h277 b31nr1 nm1 → Exa Z h277 b31nr2 nm1 → Exa Z h277 b31nr3 nm1 → Exa Z h277 b31nr4 nm1 → Fld Z h277 b31nr1 nm1 "runs" "I" (.int (5 : Int32)) → Fld Z h277 b31nr1 nm1 "length" "I" (.int (0 : Int32)) → Fld Z h277 b31nr1 nm1 "lows" "I" (.int (0 : Int32)) → Fld Z h277 b31nr2 nm1 "runs" "I" (.int (5 : Int32)) → Fld Z h277 b31nr2 nm1 "length" "I" (.int (0 : Int32)) → Fld Z h277 b31nr2 nm1 "lows" "I" (.int (0 : Int32)) → Fld Z h277 b19 nm2 "impossible" "I" (.int (5 : Int32)) → Fld Z h277 b19 nm2 "h" "I" (.int hm) → Fld Z h277 b19 nm2 "lowOut" "I" (.int (f8_c61_b19_lowOut0 cl3)) → Fld Z h277 b19 nm2 "lowIn" nm3 (.ref b31nr3) → Fld Z h277 b19 nm2 "high" nm3 (.ref b31nr4) → Fld Z h277 b19 nm2 "nextLowIn" nm3 (.ref b31nr1) → Fld Z h277 b19 nm2 "nextHigh" nm3 (.ref b31nr2) → Fld Z h277 b31nr3 nm1 "runs" "I" (.int (f8_c61_b31nr3_runs0 p4 hm cl3)) → Fld Z h277 b31nr3 nm1 "length" "I" (.int (f8_c61_b31nr3_length0 p4 hm cl3)) → Fld Z h277 b31nr3 nm1 "lows" "I" (.int (f8_c61_b31nr3_lows0 p4 hm cl3)) → Fld Z h277 b31nr4 nm1 "runs" "I" (.int (f8_c61_b31nr4_runs0 p4 hm ch3)) → Fld Z h277 b31nr4 nm1 "length" "I" (.int (f8_c61_b31nr4_length0 p4 hm ch3)) → Fld Z h277 b31nr4 nm1 "lows" "I" (.int (f8_c61_b31nr4_lows0 p4 hm ch3)) → Rt p e below s rmR8.cells rmR8.slots (Q8 Z a1 a2 a3 p4 p5 m1 m2 m3 m4 m5 m6 m7 hm cl0 cl1 cl2 cl3 ch0 ch1 ch2 ch3 h0 n0) (T277.setTop (mkF m 199 #[.val (.ref a1), .val (.ref a2), .val (.ref a3), .val (.int p4), .val (.int p5), .val (.int (f8_v7 p4 hm cl0 cl1 cl2 cl3 ch0 ch1 ch2 ch3)), .val (.ref b19), .val (.int (3 : Int32)), .val (.int (f8_j161_s0 p4 hm cl0 cl1 cl2 ch0 ch1 ch2 ch3))] [])) := by
          intro T277 h277  X277 Z277 K277 F278 F279 F280 F281 F282 F283 F284 F285 F286 F287 F288 F289 F290 F291 F292 F293 F294 F295 F296 F297 F298 F299 F300 F301 F302 F303 F304 F305 F306 F307 F308 F309 F310 F311 F312 F313 F314 F315 F316 F317 F318 F319 F320
          refine Rt.iinc (pc' := 202) (r := (2 : Int32)) (l' := #[.val (.ref a1), .val (.ref a2), .val (.ref a3), .val (.int p4), .val (.int p5), .val (.int (f8_v7 p4 hm cl0 cl1 cl2 cl3 ch0 ch1 ch2 ch3)), .val (.ref b19), .val (.int (2 : Int32)), .val (.int (f8_j161_s0 p4 hm cl0 cl1 cl2 ch0 ch1 ch2 ch3))]) X277 hx (hb hby d8_199) rfl (by decide) rfl rfl ?_
          refine Rt.goto (pc' := 45) X277 hx (hb hby d8_202) (by decide) (by decide) ?_
          refine Rt.iload (pc' := 47) X277 hx (hb hby d8_45) rfl rfl ?_
          refine Rt.ifN (pc' := 50) X277 hx (hb hby d8_47) ((if0 _ _).trans (flt (by decide : ¬ ((2 : Int32) < (0 : Int32)))).1) rfl ?_
          refine Rt.aload (pc' := 52) X277 hx (hb hby d8_50) rfl rfl rfl ?_
          refine Rt.aloadN (pc' := 53) X277 hx (hb hby d8_52) rfl rfl rfl ?_
          refine Rt.iload (pc' := 55) X277 hx (hb hby d8_53) rfl rfl ?_
          refine Rt.zaload (pc' := 56) X277 hx hZ F288 (i := 2) (by decide) (by decide) (v := (.int cl2)) rfl (hb hby d8_55) rfl ?_
          refine Rt.aloadN (pc' := 57) X277 hx (hb hby d8_56) rfl rfl rfl ?_
          refine Rt.iload (pc' := 59) X277 hx (hb hby d8_57) rfl rfl ?_
          refine Rt.zaload (pc' := 60) X277 hx hZ F289 (i := 2) (by decide) (by decide) (v := (.int ch2)) rfl (hb hby d8_59) rfl ?_
          refine Rt.iloadN (pc' := 61) X277 hx (hb hby d8_60) rfl rfl ?_
          refine Rt.callV (pc' := 64) X277 hx hZ (y := mt8) (yz := mt8) hown (own_g hw 96 rfl) (own_g hw 97 rfl) (notFace_of_selects (args := #[]) (mvT hZ (own_g hw 99 rfl))) (own_g hw 99 rfl) (own_g hw 98 rfl) (own_g hw 59 rfl) (own_g hw 100 rfl) (by decide) F297 (rm13 l Z a0 hw [] b19 cl2 ch2 p4 (5 : Int32) hm (f8_c61_b19_lowOut0 cl3) b31nr3 b31nr4 b31nr1 b31nr2 (f8_c61_b31nr3_runs0 p4 hm cl3) (f8_c61_b31nr3_length0 p4 hm cl3) (f8_c61_b31nr3_lows0 p4 hm cl3) (f8_c61_b31nr4_runs0 p4 hm ch3) (f8_c61_b31nr4_length0 p4 hm ch3) (f8_c61_b31nr4_lows0 p4 hm ch3) (5 : Int32) (0 : Int32) (0 : Int32) (5 : Int32) (0 : Int32) (0 : Int32) h277 n0 Z277 F297 F308 F309 F310 F311 F312 F313 F314 F300 F315 F316 F317 F301 F318 F319 F320 F298 F302 F303 F304 F299 F305 F306 F307 g25 g98 g111 ne136 ne149 ne110 ne123 ne97 (Ne.symm ne93) (Ne.symm ne95) (Ne.symm ne94) (Ne.symm ne96) ne92) (fun _ _ _ q => q.2.1) (W := 0) (by decide) (by decide) (by decide) (by decide) (argsL := [(.int cl2), (.int ch2), (.int p4)]) (rest := []) (by rw [hml]; rfl) (lenOf pd_7 rfl) rfl rfl (Nat.le_of_eq rfl) (hb hby d8_61) rfl ?_
          rintro _ T321 h321 L321 X321 ⟨rfl, N321, K321, F322, F323, F324, F325, F326, F327, F328, F329, F330, F331, F332, F333, F334, F335, F336, F337⟩
          have F338 := F278.keep K321
          have F339 := F279.keep K321 (ninS ne27 (ninS ne100 (ninS ne113 nin0)))
          have F340 := F280.keep K321 (ninS ne27 (ninS ne100 (ninS ne113 nin0)))
          have F341 := F281.keep K321 (ninS ne27 (ninS ne100 (ninS ne113 nin0)))
          have F342 := F282.keep K321 (ninS ne27 (ninS ne100 (ninS ne113 nin0)))
          have F343 := F283.keep K321 (ninS ne27 (ninS ne100 (ninS ne113 nin0)))
          have F344 := F284.keep K321 (ninS ne27 (ninS ne100 (ninS ne113 nin0)))
          have F345 := F285.keep K321 (ninS ne27 (ninS ne100 (ninS ne113 nin0)))
          have F346 := F286.keep K321 (ninS ne27 (ninS ne100 (ninS ne113 nin0)))
          have F347 := F287.keep K321 (ninS ne27 (ninS ne100 (ninS ne113 nin0)))
          have F348 := F288.keep K321 (ninS ne28 (ninS ne101 (ninS ne114 nin0)))
          have F349 := F289.keep K321 (ninS ne29 (ninS ne102 (ninS ne115 nin0)))
          have F350 := F290.keep K321 (ninS ne30 (ninS ne103 (ninS ne116 nin0)))
          have F351 := F291.keep K321 (ninS ne31 (ninS ne104 (ninS ne117 nin0)))
          have F352 := F292.keep K321 (ninS ne32 (ninS ne105 (ninS ne118 nin0)))
          have F353 := F293.keep K321 (ninS ne33 (ninS ne106 (ninS ne119 nin0)))
          have F354 := F294.keep K321 (ninS ne34 (ninS ne107 (ninS ne120 nin0)))
          have F355 := F295.keep K321 (ninS ne35 (ninS ne108 (ninS ne121 nin0)))
          have F356 := F296.keep K321 (ninS ne36 (ninS ne109 (ninS ne122 nin0)))
          have F357 := F297.keep K321
          have F358 := F298.keep K321
          have F359 := F299.keep K321
          have F360 := F300.keep K321
          have F361 := F301.keep K321
          have F362 := F315.keep K321 (ninS (Ne.symm ne136) (ninS (Ne.symm ne93) (ninS (Ne.symm ne95) nin0)))
          have F363 := F316.keep K321 (ninS (Ne.symm ne136) (ninS (Ne.symm ne93) (ninS (Ne.symm ne95) nin0)))
          have F364 := F317.keep K321 (ninS (Ne.symm ne136) (ninS (Ne.symm ne93) (ninS (Ne.symm ne95) nin0)))
          have F365 := F318.keep K321 (ninS (Ne.symm ne149) (ninS (Ne.symm ne94) (ninS (Ne.symm ne96) nin0)))
          have F366 := F319.keep K321 (ninS (Ne.symm ne149) (ninS (Ne.symm ne94) (ninS (Ne.symm ne96) nin0)))
          have F367 := F320.keep K321 (ninS (Ne.symm ne149) (ninS (Ne.symm ne94) (ninS (Ne.symm ne96) nin0)))
          have K368 := K277.trans K321 (allS (Or.inr s26) (allS (Or.inr s99) (allS (Or.inr s112) all0)))
          have Z369 := Nat.le_trans Z277 K321.1
          have F370 : Fld Z h321 b19 nm2 "lowOut" "I" (.int (f8_c61_b19_lowOut0_1 p4 hm cl2 cl3 ch3)) := F325
          have F371 : Fld Z h321 b31nr1 nm1 "runs" "I" (.int (f8_c61_b31nr1_runs0 p4 hm cl2 cl3 ch3)) := F332
          have F372 : Fld Z h321 b31nr1 nm1 "length" "I" (.int (f8_c61_b31nr1_length0 p4 hm cl2 cl3 ch3)) := F333
          have F373 : Fld Z h321 b31nr1 nm1 "lows" "I" (.int (f8_c61_b31nr1_lows0 p4 hm cl2 cl3 ch3)) := F334
          have F374 : Fld Z h321 b31nr2 nm1 "runs" "I" (.int (f8_c61_b31nr2_runs0 p4 hm cl3 ch2 ch3)) := F335
          have F375 : Fld Z h321 b31nr2 nm1 "length" "I" (.int (f8_c61_b31nr2_length0 p4 hm cl3 ch2 ch3)) := F336
          have F376 : Fld Z h321 b31nr2 nm1 "lows" "I" (.int (f8_c61_b31nr2_lows0 p4 hm cl3 ch2 ch3)) := F337
          show Rt _ _ _ _ _ _ _ (T321.setTop (mkF m 64 #[.val (.ref a1), .val (.ref a2), .val (.ref a3), .val (.int p4), .val (.int p5), .val (.int (f8_v7 p4 hm cl0 cl1 cl2 cl3 ch0 ch1 ch2 ch3)), .val (.ref b19), .val (.int (2 : Int32)), .val (.int (f8_j161_s0 p4 hm cl0 cl1 cl2 ch0 ch1 ch2 ch3))] []))
          refine Rt.aloadN (pc' := 65) X321 hx (hb hby d8_64) rfl rfl rfl ?_
          refine Rt.iload (pc' := 67) X321 hx (hb hby d8_65) rfl rfl ?_
          refine Rt.zaload (pc' := 68) X321 hx hZ F348 (i := 2) (by decide) (by decide) (v := (.int cl2)) rfl (hb hby d8_67) rfl ?_
          have J68_377 : ∀ T377 (h377 : Heap) , Sd p l e rmR8 s m #[(.ref a1), (.ref a2), (.ref a3), (.int p4), (.int p5)] below meth c T377 n0 10 38 h377 → n0 ≤ h377.size → Keep h0 h377 [a2, a3, m1, m2, m3, m4, m5, m6, m7] → Exa Z h377 a1 nm4 → Fld Z h377 a1 nm4 "impossible" "I" (.int (5 : Int32)) → Fld Z h377 a1 nm4 "h" "I" (.int hm) → Fld Z h377 a1 nm4 "lowOut" "[I" (.ref m1) → Fld Z h377 a1 nm4 "lowIn" "[I" (.ref m2) → Fld Z h377 a1 nm4 "lowInLength" "[I" (.ref m3) → Fld Z h377 a1 nm4 "lowInLows" "[I" (.ref m4) → Fld Z h377 a1 nm4 "high" "[I" (.ref m5) → Fld Z h377 a1 nm4 "highLength" "[I" (.ref m6) → Fld Z h377 a1 nm4 "highLows" "[I" (.ref m7) → IA Z h377 a2 .boolean [(.int cl0), (.int cl1), (.int (f8_j111_A_a2_2 p4 p5 hm cl0 cl1 cl2 cl3 ch0 ch1 ch3)), (.int (f8_j111_A_a2_3 p4 p5 hm cl0 cl1 cl2 cl3 ch0 ch1 ch2))] → IA Z h377 a3 .boolean [(.int ch0), (.int ch1), (.int ch2), (.int (f8_j199_A_a3_3 p4 p5 hm cl0 cl1 cl2 ch0 ch1 ch2 ch3))] → IA Z h377 m1 .int [(.int (f9_c41_b0_lowOut0 cl0)), (.int (f9_c41_b0_lowOut0_1 p4 hm cl0 cl1 ch0)), (.int (f9_c41_b0_lowOut0_2 p4 hm cl0 cl1 cl2 ch0 ch1)), (.int (f9_c41_b0_lowOut0_3 p4 hm cl0 cl1 cl2 cl3 ch0 ch1 ch2))] → IA Z h377 m2 .int [(.int (f9_c41_b12nr3_runs0 p4 hm cl0)), (.int (f9_c41_b12nr1_runs0 p4 hm cl0 cl1 ch0)), (.int (f9_c41_b12nr3_runs0_1 p4 hm cl0 cl1 cl2 ch0 ch1)), (.int (f9_c41_b12nr1_runs0_1 p4 hm cl0 cl1 cl2 cl3 ch0 ch1 ch2))] → IA Z h377 m3 .int [(.int (f9_c41_b12nr3_length0 p4 hm cl0)), (.int (f9_c41_b12nr1_length0 p4 hm cl0 cl1 ch0)), (.int (f9_c41_b12nr3_length0_1 p4 hm cl0 cl1 cl2 ch0 ch1)), (.int (f9_c41_b12nr1_length0_1 p4 hm cl0 cl1 cl2 cl3 ch0 ch1 ch2))] → IA Z h377 m4 .int [(.int (f9_c41_b12nr3_lows0 p4 hm cl0)), (.int (f9_c41_b12nr1_lows0 p4 hm cl0 cl1 ch0)), (.int (f9_c41_b12nr3_lows0_1 p4 hm cl0 cl1 cl2 ch0 ch1)), (.int (f9_c41_b12nr1_lows0_1 p4 hm cl0 cl1 cl2 cl3 ch0 ch1 ch2))] → IA Z h377 m5 .int [(.int (f9_c41_b12nr4_runs0 p4 hm ch0)), (.int (f9_c41_b12nr2_runs0 p4 hm cl0 ch0 ch1)), (.int (f9_c41_b12nr4_runs0_1 p4 hm cl0 cl1 ch0 ch1 ch2)), (.int (f9_c41_b12nr2_runs0_1 p4 hm cl0 cl1 cl2 ch0 ch1 ch2 ch3))] → IA Z h377 m6 .int [(.int (f9_c41_b12nr4_length0 p4 hm ch0)), (.int (f9_c41_b12nr2_length0 p4 hm cl0 ch0 ch1)), (.int (f9_c41_b12nr4_length0_1 p4 hm cl0 cl1 ch0 ch1 ch2)), (.int (f9_c41_b12nr2_length0_1 p4 hm cl0 cl1 cl2 ch0 ch1 ch2 ch3))] → IA Z h377 m7 .int [(.int (f9_c41_b12nr4_lows0 p4 hm ch0)), (.int (f9_c41_b12nr2_lows0 p4 hm cl0 ch0 ch1)), (.int (f9_c41_b12nr4_lows0_1 p4 hm cl0 cl1 ch0 ch1 ch2)), (.int (f9_c41_b12nr2_lows0_1 p4 hm cl0 cl1 cl2 ch0 ch1 ch2 ch3))] → Exa Z h377 b19 nm2 → Exa Z h377 b31nr1 nm1 → Exa Z h377 b31nr2 nm1 → Exa Z h377 b31nr3 nm1 → Exa Z h377 b31nr4 nm1 → Fld Z h377 b31nr3 nm1 "runs" "I" (.int (f8_c61_b31nr3_runs0 p4 hm cl3)) → Fld Z h377 b31nr3 nm1 "length" "I" (.int (f8_c61_b31nr3_length0 p4 hm cl3)) → Fld Z h377 b31nr3 nm1 "lows" "I" (.int (f8_c61_b31nr3_lows0 p4 hm cl3)) → Fld Z h377 b31nr4 nm1 "runs" "I" (.int (f8_c61_b31nr4_runs0 p4 hm ch3)) → Fld Z h377 b31nr4 nm1 "length" "I" (.int (f8_c61_b31nr4_length0 p4 hm ch3)) → Fld Z h377 b31nr4 nm1 "lows" "I" (.int (f8_c61_b31nr4_lows0 p4 hm ch3)) → Fld Z h377 b19 nm2 "impossible" "I" (.int (5 : Int32)) → Fld Z h377 b19 nm2 "h" "I" (.int hm) → Fld Z h377 b19 nm2 "lowOut" "I" (.int (f8_c61_b19_lowOut0_1 p4 hm cl2 cl3 ch3)) → Fld Z h377 b19 nm2 "lowIn" nm3 (.ref b31nr1) → Fld Z h377 b19 nm2 "high" nm3 (.ref b31nr2) → Fld Z h377 b19 nm2 "nextLowIn" nm3 (.ref b31nr3) → Fld Z h377 b19 nm2 "nextHigh" nm3 (.ref b31nr4) → Fld Z h377 b31nr1 nm1 "runs" "I" (.int (f8_c61_b31nr1_runs0 p4 hm cl2 cl3 ch3)) → Fld Z h377 b31nr1 nm1 "length" "I" (.int (f8_c61_b31nr1_length0 p4 hm cl2 cl3 ch3)) → Fld Z h377 b31nr1 nm1 "lows" "I" (.int (f8_c61_b31nr1_lows0 p4 hm cl2 cl3 ch3)) → Fld Z h377 b31nr2 nm1 "runs" "I" (.int (f8_c61_b31nr2_runs0 p4 hm cl3 ch2 ch3)) → Fld Z h377 b31nr2 nm1 "length" "I" (.int (f8_c61_b31nr2_length0 p4 hm cl3 ch2 ch3)) → Fld Z h377 b31nr2 nm1 "lows" "I" (.int (f8_c61_b31nr2_lows0 p4 hm cl3 ch2 ch3)) → Rt p e below s rmR8.cells rmR8.slots (Q8 Z a1 a2 a3 p4 p5 m1 m2 m3 m4 m5 m6 m7 hm cl0 cl1 cl2 cl3 ch0 ch1 ch2 ch3 h0 n0) (T377.setTop (mkF m 111 #[.val (.ref a1), .val (.ref a2), .val (.ref a3), .val (.int p4), .val (.int p5), .val (.int (f8_v7 p4 hm cl0 cl1 cl2 cl3 ch0 ch1 ch2 ch3)), .val (.ref b19), .val (.int (2 : Int32)), .val (.int (f8_j161_s0 p4 hm cl0 cl1 cl2 ch0 ch1 ch2 ch3))] [])) := by
            intro T377 h377  X377 Z377 K377 F378 F379 F380 F381 F382 F383 F384 F385 F386 F387 F388 F389 F390 F391 F392 F393 F394 F395 F396 F397 F398 F399 F400 F401 F402 F403 F404 F405 F406 F407 F408 F409 F410 F411 F412 F413 F414 F415 F416 F417 F418 F419 F420
            refine Rt.aloadN (pc' := 112) X377 hx (hb hby d8_111) rfl rfl rfl ?_
            refine Rt.getF (pc' := 115) (v := (.ref m6)) X377 hx hZ hown (host := "") (Or.inl (own_g hw 43 rfl)) F386 (hb hby d8_112) rfl ?_
            intro T421 X421
            refine Rt.iload (pc' := 117) X421 hx (hb hby d8_115) rfl rfl ?_
            refine Rt.iaload (pc' := 118) X421 hx hZ F395 (i := 2) (by decide) (by decide) (v := (.int (f9_c41_b12nr4_length0_1 p4 hm cl0 cl1 ch0 ch1 ch2))) rfl (hb hby d8_117) rfl ?_
            refine Rt.iconst (pc' := 119) (v := (1 : Int32)) X421 hx (hb hby d8_118) rfl rfl ?_
            refine Rt.isub (pc' := 120) (r := ((f9_c41_b12nr4_length0_1 p4 hm cl0 cl1 ch0 ch1 ch2) - (1 : Int32))) X421 hx (hb hby d8_119) rfl rfl ?_
            refine Rt.iloadN (pc' := 121) X421 hx (hb hby d8_120) rfl rfl ?_
            refine Rt.aload (pc' := 123) X421 hx (hb hby d8_121) rfl rfl rfl ?_
            refine Rt.getFR (pc' := 126) (v := (.ref b31nr2)) X421 hx hZ hown (own_g hw 117 rfl) F412 (hb hby d8_123) rfl ?_
            intro T422 X422
            refine Rt.getFR (pc' := 129) (v := (.int (f8_c61_b31nr2_length0 p4 hm cl3 ch2 ch3))) X422 hx hZ hown (own_g hw 115 rfl) F419 (hb hby d8_126) rfl ?_
            intro T423 X423
            refine Rt.isub (pc' := 130) (r := (p4 - (f8_c61_b31nr2_length0 p4 hm cl3 ch2 ch3))) X423 hx (hb hby d8_129) rfl rfl ?_
            have J130_424 : ∀ T424  , Sd p l e rmR8 s m #[(.ref a1), (.ref a2), (.ref a3), (.int p4), (.int p5)] below meth c T424 n0 10 38 h377 → Rt p e below s rmR8.cells rmR8.slots (Q8 Z a1 a2 a3 p4 p5 m1 m2 m3 m4 m5 m6 m7 hm cl0 cl1 cl2 cl3 ch0 ch1 ch2 ch3 h0 n0) (T424.setTop (mkF m 161 #[.val (.ref a1), .val (.ref a2), .val (.ref a3), .val (.int p4), .val (.int p5), .val (.int (f8_v7 p4 hm cl0 cl1 cl2 cl3 ch0 ch1 ch2 ch3)), .val (.ref b19), .val (.int (2 : Int32)), .val (.int (f8_j161_s0 p4 hm cl0 cl1 cl2 ch0 ch1 ch2 ch3))] [(.int (f8_j161_s0_1 p4 hm cl0 cl1 cl3 ch0 ch1 ch2 ch3))])) := by
              intro T424   X424 
              refine Rt.istore (pc' := 163) (v := (f8_j161_s0_1 p4 hm cl0 cl1 cl3 ch0 ch1 ch2 ch3)) (l' := #[.val (.ref a1), .val (.ref a2), .val (.ref a3), .val (.int p4), .val (.int p5), .val (.int (f8_v7 p4 hm cl0 cl1 cl2 cl3 ch0 ch1 ch2 ch3)), .val (.ref b19), .val (.int (2 : Int32)), .val (.int (f8_j161_s0_1 p4 hm cl0 cl1 cl3 ch0 ch1 ch2 ch3))]) X424 hx (hb hby d8_161) rfl rfl ?_
              refine Rt.aloadN (pc' := 164) X424 hx (hb hby d8_163) rfl rfl rfl ?_
              refine Rt.iload (pc' := 166) X424 hx (hb hby d8_164) rfl rfl ?_
              refine Rt.zaload (pc' := 167) X424 hx hZ F389 (i := 2) (by decide) (by decide) (v := (.int ch2)) rfl (hb hby d8_166) rfl ?_
              have J167_425 : ∀ T425 (h425 : Heap) , Sd p l e rmR8 s m #[(.ref a1), (.ref a2), (.ref a3), (.int p4), (.int p5)] below meth c T425 n0 10 38 h425 → n0 ≤ h425.size → Keep h0 h425 [a2, a3, m1, m2, m3, m4, m5, m6, m7] → Exa Z h425 a1 nm4 → Fld Z h425 a1 nm4 "impossible" "I" (.int (5 : Int32)) → Fld Z h425 a1 nm4 "h" "I" (.int hm) → Fld Z h425 a1 nm4 "lowOut" "[I" (.ref m1) → Fld Z h425 a1 nm4 "lowIn" "[I" (.ref m2) → Fld Z h425 a1 nm4 "lowInLength" "[I" (.ref m3) → Fld Z h425 a1 nm4 "lowInLows" "[I" (.ref m4) → Fld Z h425 a1 nm4 "high" "[I" (.ref m5) → Fld Z h425 a1 nm4 "highLength" "[I" (.ref m6) → Fld Z h425 a1 nm4 "highLows" "[I" (.ref m7) → IA Z h425 a2 .boolean [(.int cl0), (.int cl1), (.int (f8_j111_A_a2_2 p4 p5 hm cl0 cl1 cl2 cl3 ch0 ch1 ch3)), (.int (f8_j111_A_a2_3 p4 p5 hm cl0 cl1 cl2 cl3 ch0 ch1 ch2))] → IA Z h425 a3 .boolean [(.int ch0), (.int ch1), (.int (f8_j199_A_a3_2 p4 p5 hm cl0 cl1 cl3 ch0 ch1 ch2 ch3)), (.int (f8_j199_A_a3_3 p4 p5 hm cl0 cl1 cl2 ch0 ch1 ch2 ch3))] → IA Z h425 m1 .int [(.int (f9_c41_b0_lowOut0 cl0)), (.int (f9_c41_b0_lowOut0_1 p4 hm cl0 cl1 ch0)), (.int (f9_c41_b0_lowOut0_2 p4 hm cl0 cl1 cl2 ch0 ch1)), (.int (f9_c41_b0_lowOut0_3 p4 hm cl0 cl1 cl2 cl3 ch0 ch1 ch2))] → IA Z h425 m2 .int [(.int (f9_c41_b12nr3_runs0 p4 hm cl0)), (.int (f9_c41_b12nr1_runs0 p4 hm cl0 cl1 ch0)), (.int (f9_c41_b12nr3_runs0_1 p4 hm cl0 cl1 cl2 ch0 ch1)), (.int (f9_c41_b12nr1_runs0_1 p4 hm cl0 cl1 cl2 cl3 ch0 ch1 ch2))] → IA Z h425 m3 .int [(.int (f9_c41_b12nr3_length0 p4 hm cl0)), (.int (f9_c41_b12nr1_length0 p4 hm cl0 cl1 ch0)), (.int (f9_c41_b12nr3_length0_1 p4 hm cl0 cl1 cl2 ch0 ch1)), (.int (f9_c41_b12nr1_length0_1 p4 hm cl0 cl1 cl2 cl3 ch0 ch1 ch2))] → IA Z h425 m4 .int [(.int (f9_c41_b12nr3_lows0 p4 hm cl0)), (.int (f9_c41_b12nr1_lows0 p4 hm cl0 cl1 ch0)), (.int (f9_c41_b12nr3_lows0_1 p4 hm cl0 cl1 cl2 ch0 ch1)), (.int (f9_c41_b12nr1_lows0_1 p4 hm cl0 cl1 cl2 cl3 ch0 ch1 ch2))] → IA Z h425 m5 .int [(.int (f9_c41_b12nr4_runs0 p4 hm ch0)), (.int (f9_c41_b12nr2_runs0 p4 hm cl0 ch0 ch1)), (.int (f9_c41_b12nr4_runs0_1 p4 hm cl0 cl1 ch0 ch1 ch2)), (.int (f9_c41_b12nr2_runs0_1 p4 hm cl0 cl1 cl2 ch0 ch1 ch2 ch3))] → IA Z h425 m6 .int [(.int (f9_c41_b12nr4_length0 p4 hm ch0)), (.int (f9_c41_b12nr2_length0 p4 hm cl0 ch0 ch1)), (.int (f9_c41_b12nr4_length0_1 p4 hm cl0 cl1 ch0 ch1 ch2)), (.int (f9_c41_b12nr2_length0_1 p4 hm cl0 cl1 cl2 ch0 ch1 ch2 ch3))] → IA Z h425 m7 .int [(.int (f9_c41_b12nr4_lows0 p4 hm ch0)), (.int (f9_c41_b12nr2_lows0 p4 hm cl0 ch0 ch1)), (.int (f9_c41_b12nr4_lows0_1 p4 hm cl0 cl1 ch0 ch1 ch2)), (.int (f9_c41_b12nr2_lows0_1 p4 hm cl0 cl1 cl2 ch0 ch1 ch2 ch3))] → Exa Z h425 b19 nm2 → Exa Z h425 b31nr1 nm1 → Exa Z h425 b31nr2 nm1 → Exa Z h425 b31nr3 nm1 → Exa Z h425 b31nr4 nm1 → Fld Z h425 b31nr3 nm1 "runs" "I" (.int (f8_c61_b31nr3_runs0 p4 hm cl3)) → Fld Z h425 b31nr3 nm1 "length" "I" (.int (f8_c61_b31nr3_length0 p4 hm cl3)) → Fld Z h425 b31nr3 nm1 "lows" "I" (.int (f8_c61_b31nr3_lows0 p4 hm cl3)) → Fld Z h425 b31nr4 nm1 "runs" "I" (.int (f8_c61_b31nr4_runs0 p4 hm ch3)) → Fld Z h425 b31nr4 nm1 "length" "I" (.int (f8_c61_b31nr4_length0 p4 hm ch3)) → Fld Z h425 b31nr4 nm1 "lows" "I" (.int (f8_c61_b31nr4_lows0 p4 hm ch3)) → Fld Z h425 b19 nm2 "impossible" "I" (.int (5 : Int32)) → Fld Z h425 b19 nm2 "h" "I" (.int hm) → Fld Z h425 b19 nm2 "lowOut" "I" (.int (f8_c61_b19_lowOut0_1 p4 hm cl2 cl3 ch3)) → Fld Z h425 b19 nm2 "lowIn" nm3 (.ref b31nr1) → Fld Z h425 b19 nm2 "high" nm3 (.ref b31nr2) → Fld Z h425 b19 nm2 "nextLowIn" nm3 (.ref b31nr3) → Fld Z h425 b19 nm2 "nextHigh" nm3 (.ref b31nr4) → Fld Z h425 b31nr1 nm1 "runs" "I" (.int (f8_c61_b31nr1_runs0 p4 hm cl2 cl3 ch3)) → Fld Z h425 b31nr1 nm1 "length" "I" (.int (f8_c61_b31nr1_length0 p4 hm cl2 cl3 ch3)) → Fld Z h425 b31nr1 nm1 "lows" "I" (.int (f8_c61_b31nr1_lows0 p4 hm cl2 cl3 ch3)) → Fld Z h425 b31nr2 nm1 "runs" "I" (.int (f8_c61_b31nr2_runs0 p4 hm cl3 ch2 ch3)) → Fld Z h425 b31nr2 nm1 "length" "I" (.int (f8_c61_b31nr2_length0 p4 hm cl3 ch2 ch3)) → Fld Z h425 b31nr2 nm1 "lows" "I" (.int (f8_c61_b31nr2_lows0 p4 hm cl3 ch2 ch3)) → Rt p e below s rmR8.cells rmR8.slots (Q8 Z a1 a2 a3 p4 p5 m1 m2 m3 m4 m5 m6 m7 hm cl0 cl1 cl2 cl3 ch0 ch1 ch2 ch3 h0 n0) (T425.setTop (mkF m 199 #[.val (.ref a1), .val (.ref a2), .val (.ref a3), .val (.int p4), .val (.int p5), .val (.int (f8_v7 p4 hm cl0 cl1 cl2 cl3 ch0 ch1 ch2 ch3)), .val (.ref b19), .val (.int (2 : Int32)), .val (.int (f8_j161_s0_1 p4 hm cl0 cl1 cl3 ch0 ch1 ch2 ch3))] [])) := by
                intro T425 h425  X425 Z425 K425 F426 F427 F428 F429 F430 F431 F432 F433 F434 F435 F436 F437 F438 F439 F440 F441 F442 F443 F444 F445 F446 F447 F448 F449 F450 F451 F452 F453 F454 F455 F456 F457 F458 F459 F460 F461 F462 F463 F464 F465 F466 F467 F468
                refine Rt.iinc (pc' := 202) (r := (1 : Int32)) (l' := #[.val (.ref a1), .val (.ref a2), .val (.ref a3), .val (.int p4), .val (.int p5), .val (.int (f8_v7 p4 hm cl0 cl1 cl2 cl3 ch0 ch1 ch2 ch3)), .val (.ref b19), .val (.int (1 : Int32)), .val (.int (f8_j161_s0_1 p4 hm cl0 cl1 cl3 ch0 ch1 ch2 ch3))]) X425 hx (hb hby d8_199) rfl (by decide) rfl rfl ?_
                refine Rt.goto (pc' := 45) X425 hx (hb hby d8_202) (by decide) (by decide) ?_
                refine Rt.iload (pc' := 47) X425 hx (hb hby d8_45) rfl rfl ?_
                refine Rt.ifN (pc' := 50) X425 hx (hb hby d8_47) ((if0 _ _).trans (flt (by decide : ¬ ((1 : Int32) < (0 : Int32)))).1) rfl ?_
                refine Rt.aload (pc' := 52) X425 hx (hb hby d8_50) rfl rfl rfl ?_
                refine Rt.aloadN (pc' := 53) X425 hx (hb hby d8_52) rfl rfl rfl ?_
                refine Rt.iload (pc' := 55) X425 hx (hb hby d8_53) rfl rfl ?_
                refine Rt.zaload (pc' := 56) X425 hx hZ F436 (i := 1) (by decide) (by decide) (v := (.int cl1)) rfl (hb hby d8_55) rfl ?_
                refine Rt.aloadN (pc' := 57) X425 hx (hb hby d8_56) rfl rfl rfl ?_
                refine Rt.iload (pc' := 59) X425 hx (hb hby d8_57) rfl rfl ?_
                refine Rt.zaload (pc' := 60) X425 hx hZ F437 (i := 1) (by decide) (by decide) (v := (.int ch1)) rfl (hb hby d8_59) rfl ?_
                refine Rt.iloadN (pc' := 61) X425 hx (hb hby d8_60) rfl rfl ?_
                refine Rt.callV (pc' := 64) X425 hx hZ (y := mt8) (yz := mt8) hown (own_g hw 96 rfl) (own_g hw 97 rfl) (notFace_of_selects (args := #[]) (mvT hZ (own_g hw 99 rfl))) (own_g hw 99 rfl) (own_g hw 98 rfl) (own_g hw 59 rfl) (own_g hw 100 rfl) (by decide) F445 (rm13 l Z a0 hw [] b19 cl1 ch1 p4 (5 : Int32) hm (f8_c61_b19_lowOut0_1 p4 hm cl2 cl3 ch3) b31nr1 b31nr2 b31nr3 b31nr4 (f8_c61_b31nr1_runs0 p4 hm cl2 cl3 ch3) (f8_c61_b31nr1_length0 p4 hm cl2 cl3 ch3) (f8_c61_b31nr1_lows0 p4 hm cl2 cl3 ch3) (f8_c61_b31nr2_runs0 p4 hm cl3 ch2 ch3) (f8_c61_b31nr2_length0 p4 hm cl3 ch2 ch3) (f8_c61_b31nr2_lows0 p4 hm cl3 ch2 ch3) (f8_c61_b31nr3_runs0 p4 hm cl3) (f8_c61_b31nr3_length0 p4 hm cl3) (f8_c61_b31nr3_lows0 p4 hm cl3) (f8_c61_b31nr4_runs0 p4 hm ch3) (f8_c61_b31nr4_length0 p4 hm ch3) (f8_c61_b31nr4_lows0 p4 hm ch3) h425 n0 Z425 F445 F456 F457 F458 F459 F460 F461 F462 F446 F463 F464 F465 F447 F466 F467 F468 F448 F450 F451 F452 F449 F453 F454 F455 g25 g124 g137 ne110 ne123 ne136 ne149 ne92 ne93 ne94 ne95 ne96 ne97) (fun _ _ _ q => q.2.1) (W := 0) (by decide) (by decide) (by decide) (by decide) (argsL := [(.int cl1), (.int ch1), (.int p4)]) (rest := []) (by rw [hml]; rfl) (lenOf pd_7 rfl) rfl rfl (Nat.le_of_eq rfl) (hb hby d8_61) rfl ?_
                rintro _ T469 h469 L469 X469 ⟨rfl, N469, K469, F470, F471, F472, F473, F474, F475, F476, F477, F478, F479, F480, F481, F482, F483, F484, F485⟩
                have F486 := F426.keep K469
                have F487 := F427.keep K469 (ninS ne27 (ninS ne126 (ninS ne139 nin0)))
                have F488 := F428.keep K469 (ninS ne27 (ninS ne126 (ninS ne139 nin0)))
                have F489 := F429.keep K469 (ninS ne27 (ninS ne126 (ninS ne139 nin0)))
                have F490 := F430.keep K469 (ninS ne27 (ninS ne126 (ninS ne139 nin0)))
                have F491 := F431.keep K469 (ninS ne27 (ninS ne126 (ninS ne139 nin0)))
                have F492 := F432.keep K469 (ninS ne27 (ninS ne126 (ninS ne139 nin0)))
                have F493 := F433.keep K469 (ninS ne27 (ninS ne126 (ninS ne139 nin0)))
                have F494 := F434.keep K469 (ninS ne27 (ninS ne126 (ninS ne139 nin0)))
                have F495 := F435.keep K469 (ninS ne27 (ninS ne126 (ninS ne139 nin0)))
                have F496 := F436.keep K469 (ninS ne28 (ninS ne127 (ninS ne140 nin0)))
                have F497 := F437.keep K469 (ninS ne29 (ninS ne128 (ninS ne141 nin0)))
                have F498 := F438.keep K469 (ninS ne30 (ninS ne129 (ninS ne142 nin0)))
                have F499 := F439.keep K469 (ninS ne31 (ninS ne130 (ninS ne143 nin0)))
                have F500 := F440.keep K469 (ninS ne32 (ninS ne131 (ninS ne144 nin0)))
                have F501 := F441.keep K469 (ninS ne33 (ninS ne132 (ninS ne145 nin0)))
                have F502 := F442.keep K469 (ninS ne34 (ninS ne133 (ninS ne146 nin0)))
                have F503 := F443.keep K469 (ninS ne35 (ninS ne134 (ninS ne147 nin0)))
                have F504 := F444.keep K469 (ninS ne36 (ninS ne135 (ninS ne148 nin0)))
                have F505 := F445.keep K469
                have F506 := F446.keep K469
                have F507 := F447.keep K469
                have F508 := F448.keep K469
                have F509 := F449.keep K469
                have F510 := F463.keep K469 (ninS (Ne.symm ne110) (ninS ne93 (ninS ne94 nin0)))
                have F511 := F464.keep K469 (ninS (Ne.symm ne110) (ninS ne93 (ninS ne94 nin0)))
                have F512 := F465.keep K469 (ninS (Ne.symm ne110) (ninS ne93 (ninS ne94 nin0)))
                have F513 := F466.keep K469 (ninS (Ne.symm ne123) (ninS ne95 (ninS ne96 nin0)))
                have F514 := F467.keep K469 (ninS (Ne.symm ne123) (ninS ne95 (ninS ne96 nin0)))
                have F515 := F468.keep K469 (ninS (Ne.symm ne123) (ninS ne95 (ninS ne96 nin0)))
                have K516 := K425.trans K469 (allS (Or.inr s26) (allS (Or.inr s125) (allS (Or.inr s138) all0)))
                have Z517 := Nat.le_trans Z425 K469.1
                have F518 : Fld Z h469 b19 nm2 "lowOut" "I" (.int (f8_c61_b19_lowOut0_2 p4 hm cl1 cl2 cl3 ch2 ch3)) := F473
                have F519 : Fld Z h469 b31nr3 nm1 "runs" "I" (.int (f8_c61_b31nr3_runs0_1 p4 hm cl1 cl2 cl3 ch2 ch3)) := F480
                have F520 : Fld Z h469 b31nr3 nm1 "length" "I" (.int (f8_c61_b31nr3_length0_1 p4 hm cl1 cl2 cl3 ch2 ch3)) := F481
                have F521 : Fld Z h469 b31nr3 nm1 "lows" "I" (.int (f8_c61_b31nr3_lows0_1 p4 hm cl1 cl2 cl3 ch2 ch3)) := F482
                have F522 : Fld Z h469 b31nr4 nm1 "runs" "I" (.int (f8_c61_b31nr4_runs0_1 p4 hm cl2 cl3 ch1 ch2 ch3)) := F483
                have F523 : Fld Z h469 b31nr4 nm1 "length" "I" (.int (f8_c61_b31nr4_length0_1 p4 hm cl2 cl3 ch1 ch2 ch3)) := F484
                have F524 : Fld Z h469 b31nr4 nm1 "lows" "I" (.int (f8_c61_b31nr4_lows0_1 p4 hm cl2 cl3 ch1 ch2 ch3)) := F485
                show Rt _ _ _ _ _ _ _ (T469.setTop (mkF m 64 #[.val (.ref a1), .val (.ref a2), .val (.ref a3), .val (.int p4), .val (.int p5), .val (.int (f8_v7 p4 hm cl0 cl1 cl2 cl3 ch0 ch1 ch2 ch3)), .val (.ref b19), .val (.int (1 : Int32)), .val (.int (f8_j161_s0_1 p4 hm cl0 cl1 cl3 ch0 ch1 ch2 ch3))] []))
                refine Rt.aloadN (pc' := 65) X469 hx (hb hby d8_64) rfl rfl rfl ?_
                refine Rt.iload (pc' := 67) X469 hx (hb hby d8_65) rfl rfl ?_
                refine Rt.zaload (pc' := 68) X469 hx hZ F496 (i := 1) (by decide) (by decide) (v := (.int cl1)) rfl (hb hby d8_67) rfl ?_
                have J68_525 : ∀ T525 (h525 : Heap) , Sd p l e rmR8 s m #[(.ref a1), (.ref a2), (.ref a3), (.int p4), (.int p5)] below meth c T525 n0 10 38 h525 → n0 ≤ h525.size → Keep h0 h525 [a2, a3, m1, m2, m3, m4, m5, m6, m7] → Exa Z h525 a1 nm4 → Fld Z h525 a1 nm4 "impossible" "I" (.int (5 : Int32)) → Fld Z h525 a1 nm4 "h" "I" (.int hm) → Fld Z h525 a1 nm4 "lowOut" "[I" (.ref m1) → Fld Z h525 a1 nm4 "lowIn" "[I" (.ref m2) → Fld Z h525 a1 nm4 "lowInLength" "[I" (.ref m3) → Fld Z h525 a1 nm4 "lowInLows" "[I" (.ref m4) → Fld Z h525 a1 nm4 "high" "[I" (.ref m5) → Fld Z h525 a1 nm4 "highLength" "[I" (.ref m6) → Fld Z h525 a1 nm4 "highLows" "[I" (.ref m7) → IA Z h525 a2 .boolean [(.int cl0), (.int (f8_j111_A_a2_1 p4 p5 hm cl0 cl1 cl2 cl3 ch0 ch2 ch3)), (.int (f8_j111_A_a2_2 p4 p5 hm cl0 cl1 cl2 cl3 ch0 ch1 ch3)), (.int (f8_j111_A_a2_3 p4 p5 hm cl0 cl1 cl2 cl3 ch0 ch1 ch2))] → IA Z h525 a3 .boolean [(.int ch0), (.int ch1), (.int (f8_j199_A_a3_2 p4 p5 hm cl0 cl1 cl3 ch0 ch1 ch2 ch3)), (.int (f8_j199_A_a3_3 p4 p5 hm cl0 cl1 cl2 ch0 ch1 ch2 ch3))] → IA Z h525 m1 .int [(.int (f9_c41_b0_lowOut0 cl0)), (.int (f9_c41_b0_lowOut0_1 p4 hm cl0 cl1 ch0)), (.int (f9_c41_b0_lowOut0_2 p4 hm cl0 cl1 cl2 ch0 ch1)), (.int (f9_c41_b0_lowOut0_3 p4 hm cl0 cl1 cl2 cl3 ch0 ch1 ch2))] → IA Z h525 m2 .int [(.int (f9_c41_b12nr3_runs0 p4 hm cl0)), (.int (f9_c41_b12nr1_runs0 p4 hm cl0 cl1 ch0)), (.int (f9_c41_b12nr3_runs0_1 p4 hm cl0 cl1 cl2 ch0 ch1)), (.int (f9_c41_b12nr1_runs0_1 p4 hm cl0 cl1 cl2 cl3 ch0 ch1 ch2))] → IA Z h525 m3 .int [(.int (f9_c41_b12nr3_length0 p4 hm cl0)), (.int (f9_c41_b12nr1_length0 p4 hm cl0 cl1 ch0)), (.int (f9_c41_b12nr3_length0_1 p4 hm cl0 cl1 cl2 ch0 ch1)), (.int (f9_c41_b12nr1_length0_1 p4 hm cl0 cl1 cl2 cl3 ch0 ch1 ch2))] → IA Z h525 m4 .int [(.int (f9_c41_b12nr3_lows0 p4 hm cl0)), (.int (f9_c41_b12nr1_lows0 p4 hm cl0 cl1 ch0)), (.int (f9_c41_b12nr3_lows0_1 p4 hm cl0 cl1 cl2 ch0 ch1)), (.int (f9_c41_b12nr1_lows0_1 p4 hm cl0 cl1 cl2 cl3 ch0 ch1 ch2))] → IA Z h525 m5 .int [(.int (f9_c41_b12nr4_runs0 p4 hm ch0)), (.int (f9_c41_b12nr2_runs0 p4 hm cl0 ch0 ch1)), (.int (f9_c41_b12nr4_runs0_1 p4 hm cl0 cl1 ch0 ch1 ch2)), (.int (f9_c41_b12nr2_runs0_1 p4 hm cl0 cl1 cl2 ch0 ch1 ch2 ch3))] → IA Z h525 m6 .int [(.int (f9_c41_b12nr4_length0 p4 hm ch0)), (.int (f9_c41_b12nr2_length0 p4 hm cl0 ch0 ch1)), (.int (f9_c41_b12nr4_length0_1 p4 hm cl0 cl1 ch0 ch1 ch2)), (.int (f9_c41_b12nr2_length0_1 p4 hm cl0 cl1 cl2 ch0 ch1 ch2 ch3))] → IA Z h525 m7 .int [(.int (f9_c41_b12nr4_lows0 p4 hm ch0)), (.int (f9_c41_b12nr2_lows0 p4 hm cl0 ch0 ch1)), (.int (f9_c41_b12nr4_lows0_1 p4 hm cl0 cl1 ch0 ch1 ch2)), (.int (f9_c41_b12nr2_lows0_1 p4 hm cl0 cl1 cl2 ch0 ch1 ch2 ch3))] → Exa Z h525 b19 nm2 → Exa Z h525 b31nr1 nm1 → Exa Z h525 b31nr2 nm1 → Exa Z h525 b31nr3 nm1 → Exa Z h525 b31nr4 nm1 → Fld Z h525 b31nr1 nm1 "runs" "I" (.int (f8_c61_b31nr1_runs0 p4 hm cl2 cl3 ch3)) → Fld Z h525 b31nr1 nm1 "length" "I" (.int (f8_c61_b31nr1_length0 p4 hm cl2 cl3 ch3)) → Fld Z h525 b31nr1 nm1 "lows" "I" (.int (f8_c61_b31nr1_lows0 p4 hm cl2 cl3 ch3)) → Fld Z h525 b31nr2 nm1 "runs" "I" (.int (f8_c61_b31nr2_runs0 p4 hm cl3 ch2 ch3)) → Fld Z h525 b31nr2 nm1 "length" "I" (.int (f8_c61_b31nr2_length0 p4 hm cl3 ch2 ch3)) → Fld Z h525 b31nr2 nm1 "lows" "I" (.int (f8_c61_b31nr2_lows0 p4 hm cl3 ch2 ch3)) → Fld Z h525 b19 nm2 "impossible" "I" (.int (5 : Int32)) → Fld Z h525 b19 nm2 "h" "I" (.int hm) → Fld Z h525 b19 nm2 "lowOut" "I" (.int (f8_c61_b19_lowOut0_2 p4 hm cl1 cl2 cl3 ch2 ch3)) → Fld Z h525 b19 nm2 "lowIn" nm3 (.ref b31nr3) → Fld Z h525 b19 nm2 "high" nm3 (.ref b31nr4) → Fld Z h525 b19 nm2 "nextLowIn" nm3 (.ref b31nr1) → Fld Z h525 b19 nm2 "nextHigh" nm3 (.ref b31nr2) → Fld Z h525 b31nr3 nm1 "runs" "I" (.int (f8_c61_b31nr3_runs0_1 p4 hm cl1 cl2 cl3 ch2 ch3)) → Fld Z h525 b31nr3 nm1 "length" "I" (.int (f8_c61_b31nr3_length0_1 p4 hm cl1 cl2 cl3 ch2 ch3)) → Fld Z h525 b31nr3 nm1 "lows" "I" (.int (f8_c61_b31nr3_lows0_1 p4 hm cl1 cl2 cl3 ch2 ch3)) → Fld Z h525 b31nr4 nm1 "runs" "I" (.int (f8_c61_b31nr4_runs0_1 p4 hm cl2 cl3 ch1 ch2 ch3)) → Fld Z h525 b31nr4 nm1 "length" "I" (.int (f8_c61_b31nr4_length0_1 p4 hm cl2 cl3 ch1 ch2 ch3)) → Fld Z h525 b31nr4 nm1 "lows" "I" (.int (f8_c61_b31nr4_lows0_1 p4 hm cl2 cl3 ch1 ch2 ch3)) → Rt p e below s rmR8.cells rmR8.slots (Q8 Z a1 a2 a3 p4 p5 m1 m2 m3 m4 m5 m6 m7 hm cl0 cl1 cl2 cl3 ch0 ch1 ch2 ch3 h0 n0) (T525.setTop (mkF m 111 #[.val (.ref a1), .val (.ref a2), .val (.ref a3), .val (.int p4), .val (.int p5), .val (.int (f8_v7 p4 hm cl0 cl1 cl2 cl3 ch0 ch1 ch2 ch3)), .val (.ref b19), .val (.int (1 : Int32)), .val (.int (f8_j161_s0_1 p4 hm cl0 cl1 cl3 ch0 ch1 ch2 ch3))] [])) := by
                  intro T525 h525  X525 Z525 K525 F526 F527 F528 F529 F530 F531 F532 F533 F534 F535 F536 F537 F538 F539 F540 F541 F542 F543 F544 F545 F546 F547 F548 F549 F550 F551 F552 F553 F554 F555 F556 F557 F558 F559 F560 F561 F562 F563 F564 F565 F566 F567 F568
                  refine Rt.aloadN (pc' := 112) X525 hx (hb hby d8_111) rfl rfl rfl ?_
                  refine Rt.getF (pc' := 115) (v := (.ref m6)) X525 hx hZ hown (host := "") (Or.inl (own_g hw 43 rfl)) F534 (hb hby d8_112) rfl ?_
                  intro T569 X569
                  refine Rt.iload (pc' := 117) X569 hx (hb hby d8_115) rfl rfl ?_
                  refine Rt.iaload (pc' := 118) X569 hx hZ F543 (i := 1) (by decide) (by decide) (v := (.int (f9_c41_b12nr2_length0 p4 hm cl0 ch0 ch1))) rfl (hb hby d8_117) rfl ?_
                  refine Rt.iconst (pc' := 119) (v := (1 : Int32)) X569 hx (hb hby d8_118) rfl rfl ?_
                  refine Rt.isub (pc' := 120) (r := ((f9_c41_b12nr2_length0 p4 hm cl0 ch0 ch1) - (1 : Int32))) X569 hx (hb hby d8_119) rfl rfl ?_
                  refine Rt.iloadN (pc' := 121) X569 hx (hb hby d8_120) rfl rfl ?_
                  refine Rt.aload (pc' := 123) X569 hx (hb hby d8_121) rfl rfl rfl ?_
                  refine Rt.getFR (pc' := 126) (v := (.ref b31nr4)) X569 hx hZ hown (own_g hw 117 rfl) F560 (hb hby d8_123) rfl ?_
                  intro T570 X570
                  refine Rt.getFR (pc' := 129) (v := (.int (f8_c61_b31nr4_length0_1 p4 hm cl2 cl3 ch1 ch2 ch3))) X570 hx hZ hown (own_g hw 115 rfl) F567 (hb hby d8_126) rfl ?_
                  intro T571 X571
                  refine Rt.isub (pc' := 130) (r := (p4 - (f8_c61_b31nr4_length0_1 p4 hm cl2 cl3 ch1 ch2 ch3))) X571 hx (hb hby d8_129) rfl rfl ?_
                  have J130_572 : ∀ T572  , Sd p l e rmR8 s m #[(.ref a1), (.ref a2), (.ref a3), (.int p4), (.int p5)] below meth c T572 n0 10 38 h525 → Rt p e below s rmR8.cells rmR8.slots (Q8 Z a1 a2 a3 p4 p5 m1 m2 m3 m4 m5 m6 m7 hm cl0 cl1 cl2 cl3 ch0 ch1 ch2 ch3 h0 n0) (T572.setTop (mkF m 161 #[.val (.ref a1), .val (.ref a2), .val (.ref a3), .val (.int p4), .val (.int p5), .val (.int (f8_v7 p4 hm cl0 cl1 cl2 cl3 ch0 ch1 ch2 ch3)), .val (.ref b19), .val (.int (1 : Int32)), .val (.int (f8_j161_s0_1 p4 hm cl0 cl1 cl3 ch0 ch1 ch2 ch3))] [(.int (f8_j161_s0_2 p4 hm cl0 cl2 cl3 ch0 ch1 ch2 ch3))])) := by
                    intro T572   X572 
                    refine Rt.istore (pc' := 163) (v := (f8_j161_s0_2 p4 hm cl0 cl2 cl3 ch0 ch1 ch2 ch3)) (l' := #[.val (.ref a1), .val (.ref a2), .val (.ref a3), .val (.int p4), .val (.int p5), .val (.int (f8_v7 p4 hm cl0 cl1 cl2 cl3 ch0 ch1 ch2 ch3)), .val (.ref b19), .val (.int (1 : Int32)), .val (.int (f8_j161_s0_2 p4 hm cl0 cl2 cl3 ch0 ch1 ch2 ch3))]) X572 hx (hb hby d8_161) rfl rfl ?_
                    refine Rt.aloadN (pc' := 164) X572 hx (hb hby d8_163) rfl rfl rfl ?_
                    refine Rt.iload (pc' := 166) X572 hx (hb hby d8_164) rfl rfl ?_
                    refine Rt.zaload (pc' := 167) X572 hx hZ F537 (i := 1) (by decide) (by decide) (v := (.int ch1)) rfl (hb hby d8_166) rfl ?_
                    have J167_573 : ∀ T573 (h573 : Heap) , Sd p l e rmR8 s m #[(.ref a1), (.ref a2), (.ref a3), (.int p4), (.int p5)] below meth c T573 n0 10 38 h573 → n0 ≤ h573.size → Keep h0 h573 [a2, a3, m1, m2, m3, m4, m5, m6, m7] → Exa Z h573 a1 nm4 → Fld Z h573 a1 nm4 "impossible" "I" (.int (5 : Int32)) → Fld Z h573 a1 nm4 "h" "I" (.int hm) → Fld Z h573 a1 nm4 "lowOut" "[I" (.ref m1) → Fld Z h573 a1 nm4 "lowIn" "[I" (.ref m2) → Fld Z h573 a1 nm4 "lowInLength" "[I" (.ref m3) → Fld Z h573 a1 nm4 "lowInLows" "[I" (.ref m4) → Fld Z h573 a1 nm4 "high" "[I" (.ref m5) → Fld Z h573 a1 nm4 "highLength" "[I" (.ref m6) → Fld Z h573 a1 nm4 "highLows" "[I" (.ref m7) → IA Z h573 a2 .boolean [(.int cl0), (.int (f8_j111_A_a2_1 p4 p5 hm cl0 cl1 cl2 cl3 ch0 ch2 ch3)), (.int (f8_j111_A_a2_2 p4 p5 hm cl0 cl1 cl2 cl3 ch0 ch1 ch3)), (.int (f8_j111_A_a2_3 p4 p5 hm cl0 cl1 cl2 cl3 ch0 ch1 ch2))] → IA Z h573 a3 .boolean [(.int ch0), (.int (f8_j199_A_a3_1 p4 p5 hm cl0 cl2 cl3 ch0 ch1 ch2 ch3)), (.int (f8_j199_A_a3_2 p4 p5 hm cl0 cl1 cl3 ch0 ch1 ch2 ch3)), (.int (f8_j199_A_a3_3 p4 p5 hm cl0 cl1 cl2 ch0 ch1 ch2 ch3))] → IA Z h573 m1 .int [(.int (f9_c41_b0_lowOut0 cl0)), (.int (f9_c41_b0_lowOut0_1 p4 hm cl0 cl1 ch0)), (.int (f9_c41_b0_lowOut0_2 p4 hm cl0 cl1 cl2 ch0 ch1)), (.int (f9_c41_b0_lowOut0_3 p4 hm cl0 cl1 cl2 cl3 ch0 ch1 ch2))] → IA Z h573 m2 .int [(.int (f9_c41_b12nr3_runs0 p4 hm cl0)), (.int (f9_c41_b12nr1_runs0 p4 hm cl0 cl1 ch0)), (.int (f9_c41_b12nr3_runs0_1 p4 hm cl0 cl1 cl2 ch0 ch1)), (.int (f9_c41_b12nr1_runs0_1 p4 hm cl0 cl1 cl2 cl3 ch0 ch1 ch2))] → IA Z h573 m3 .int [(.int (f9_c41_b12nr3_length0 p4 hm cl0)), (.int (f9_c41_b12nr1_length0 p4 hm cl0 cl1 ch0)), (.int (f9_c41_b12nr3_length0_1 p4 hm cl0 cl1 cl2 ch0 ch1)), (.int (f9_c41_b12nr1_length0_1 p4 hm cl0 cl1 cl2 cl3 ch0 ch1 ch2))] → IA Z h573 m4 .int [(.int (f9_c41_b12nr3_lows0 p4 hm cl0)), (.int (f9_c41_b12nr1_lows0 p4 hm cl0 cl1 ch0)), (.int (f9_c41_b12nr3_lows0_1 p4 hm cl0 cl1 cl2 ch0 ch1)), (.int (f9_c41_b12nr1_lows0_1 p4 hm cl0 cl1 cl2 cl3 ch0 ch1 ch2))] → IA Z h573 m5 .int [(.int (f9_c41_b12nr4_runs0 p4 hm ch0)), (.int (f9_c41_b12nr2_runs0 p4 hm cl0 ch0 ch1)), (.int (f9_c41_b12nr4_runs0_1 p4 hm cl0 cl1 ch0 ch1 ch2)), (.int (f9_c41_b12nr2_runs0_1 p4 hm cl0 cl1 cl2 ch0 ch1 ch2 ch3))] → IA Z h573 m6 .int [(.int (f9_c41_b12nr4_length0 p4 hm ch0)), (.int (f9_c41_b12nr2_length0 p4 hm cl0 ch0 ch1)), (.int (f9_c41_b12nr4_length0_1 p4 hm cl0 cl1 ch0 ch1 ch2)), (.int (f9_c41_b12nr2_length0_1 p4 hm cl0 cl1 cl2 ch0 ch1 ch2 ch3))] → IA Z h573 m7 .int [(.int (f9_c41_b12nr4_lows0 p4 hm ch0)), (.int (f9_c41_b12nr2_lows0 p4 hm cl0 ch0 ch1)), (.int (f9_c41_b12nr4_lows0_1 p4 hm cl0 cl1 ch0 ch1 ch2)), (.int (f9_c41_b12nr2_lows0_1 p4 hm cl0 cl1 cl2 ch0 ch1 ch2 ch3))] → Exa Z h573 b19 nm2 → Exa Z h573 b31nr1 nm1 → Exa Z h573 b31nr2 nm1 → Exa Z h573 b31nr3 nm1 → Exa Z h573 b31nr4 nm1 → Fld Z h573 b31nr1 nm1 "runs" "I" (.int (f8_c61_b31nr1_runs0 p4 hm cl2 cl3 ch3)) → Fld Z h573 b31nr1 nm1 "length" "I" (.int (f8_c61_b31nr1_length0 p4 hm cl2 cl3 ch3)) → Fld Z h573 b31nr1 nm1 "lows" "I" (.int (f8_c61_b31nr1_lows0 p4 hm cl2 cl3 ch3)) → Fld Z h573 b31nr2 nm1 "runs" "I" (.int (f8_c61_b31nr2_runs0 p4 hm cl3 ch2 ch3)) → Fld Z h573 b31nr2 nm1 "length" "I" (.int (f8_c61_b31nr2_length0 p4 hm cl3 ch2 ch3)) → Fld Z h573 b31nr2 nm1 "lows" "I" (.int (f8_c61_b31nr2_lows0 p4 hm cl3 ch2 ch3)) → Fld Z h573 b19 nm2 "impossible" "I" (.int (5 : Int32)) → Fld Z h573 b19 nm2 "h" "I" (.int hm) → Fld Z h573 b19 nm2 "lowOut" "I" (.int (f8_c61_b19_lowOut0_2 p4 hm cl1 cl2 cl3 ch2 ch3)) → Fld Z h573 b19 nm2 "lowIn" nm3 (.ref b31nr3) → Fld Z h573 b19 nm2 "high" nm3 (.ref b31nr4) → Fld Z h573 b19 nm2 "nextLowIn" nm3 (.ref b31nr1) → Fld Z h573 b19 nm2 "nextHigh" nm3 (.ref b31nr2) → Fld Z h573 b31nr3 nm1 "runs" "I" (.int (f8_c61_b31nr3_runs0_1 p4 hm cl1 cl2 cl3 ch2 ch3)) → Fld Z h573 b31nr3 nm1 "length" "I" (.int (f8_c61_b31nr3_length0_1 p4 hm cl1 cl2 cl3 ch2 ch3)) → Fld Z h573 b31nr3 nm1 "lows" "I" (.int (f8_c61_b31nr3_lows0_1 p4 hm cl1 cl2 cl3 ch2 ch3)) → Fld Z h573 b31nr4 nm1 "runs" "I" (.int (f8_c61_b31nr4_runs0_1 p4 hm cl2 cl3 ch1 ch2 ch3)) → Fld Z h573 b31nr4 nm1 "length" "I" (.int (f8_c61_b31nr4_length0_1 p4 hm cl2 cl3 ch1 ch2 ch3)) → Fld Z h573 b31nr4 nm1 "lows" "I" (.int (f8_c61_b31nr4_lows0_1 p4 hm cl2 cl3 ch1 ch2 ch3)) → Rt p e below s rmR8.cells rmR8.slots (Q8 Z a1 a2 a3 p4 p5 m1 m2 m3 m4 m5 m6 m7 hm cl0 cl1 cl2 cl3 ch0 ch1 ch2 ch3 h0 n0) (T573.setTop (mkF m 199 #[.val (.ref a1), .val (.ref a2), .val (.ref a3), .val (.int p4), .val (.int p5), .val (.int (f8_v7 p4 hm cl0 cl1 cl2 cl3 ch0 ch1 ch2 ch3)), .val (.ref b19), .val (.int (1 : Int32)), .val (.int (f8_j161_s0_2 p4 hm cl0 cl2 cl3 ch0 ch1 ch2 ch3))] [])) := by
                      intro T573 h573  X573 Z573 K573 F574 F575 F576 F577 F578 F579 F580 F581 F582 F583 F584 F585 F586 F587 F588 F589 F590 F591 F592 F593 F594 F595 F596 F597 F598 F599 F600 F601 F602 F603 F604 F605 F606 F607 F608 F609 F610 F611 F612 F613 F614 F615 F616
                      refine Rt.iinc (pc' := 202) (r := (0 : Int32)) (l' := #[.val (.ref a1), .val (.ref a2), .val (.ref a3), .val (.int p4), .val (.int p5), .val (.int (f8_v7 p4 hm cl0 cl1 cl2 cl3 ch0 ch1 ch2 ch3)), .val (.ref b19), .val (.int (0 : Int32)), .val (.int (f8_j161_s0_2 p4 hm cl0 cl2 cl3 ch0 ch1 ch2 ch3))]) X573 hx (hb hby d8_199) rfl (by decide) rfl rfl ?_
                      refine Rt.goto (pc' := 45) X573 hx (hb hby d8_202) (by decide) (by decide) ?_
                      refine Rt.iload (pc' := 47) X573 hx (hb hby d8_45) rfl rfl ?_
                      refine Rt.ifN (pc' := 50) X573 hx (hb hby d8_47) ((if0 _ _).trans (flt (by decide : ¬ ((0 : Int32) < (0 : Int32)))).1) rfl ?_
                      refine Rt.aload (pc' := 52) X573 hx (hb hby d8_50) rfl rfl rfl ?_
                      refine Rt.aloadN (pc' := 53) X573 hx (hb hby d8_52) rfl rfl rfl ?_
                      refine Rt.iload (pc' := 55) X573 hx (hb hby d8_53) rfl rfl ?_
                      refine Rt.zaload (pc' := 56) X573 hx hZ F584 (i := 0) (by decide) (by decide) (v := (.int cl0)) rfl (hb hby d8_55) rfl ?_
                      refine Rt.aloadN (pc' := 57) X573 hx (hb hby d8_56) rfl rfl rfl ?_
                      refine Rt.iload (pc' := 59) X573 hx (hb hby d8_57) rfl rfl ?_
                      refine Rt.zaload (pc' := 60) X573 hx hZ F585 (i := 0) (by decide) (by decide) (v := (.int ch0)) rfl (hb hby d8_59) rfl ?_
                      refine Rt.iloadN (pc' := 61) X573 hx (hb hby d8_60) rfl rfl ?_
                      refine Rt.callV (pc' := 64) X573 hx hZ (y := mt8) (yz := mt8) hown (own_g hw 96 rfl) (own_g hw 97 rfl) (notFace_of_selects (args := #[]) (mvT hZ (own_g hw 99 rfl))) (own_g hw 99 rfl) (own_g hw 98 rfl) (own_g hw 59 rfl) (own_g hw 100 rfl) (by decide) F593 (rm13 l Z a0 hw [] b19 cl0 ch0 p4 (5 : Int32) hm (f8_c61_b19_lowOut0_2 p4 hm cl1 cl2 cl3 ch2 ch3) b31nr3 b31nr4 b31nr1 b31nr2 (f8_c61_b31nr3_runs0_1 p4 hm cl1 cl2 cl3 ch2 ch3) (f8_c61_b31nr3_length0_1 p4 hm cl1 cl2 cl3 ch2 ch3) (f8_c61_b31nr3_lows0_1 p4 hm cl1 cl2 cl3 ch2 ch3) (f8_c61_b31nr4_runs0_1 p4 hm cl2 cl3 ch1 ch2 ch3) (f8_c61_b31nr4_length0_1 p4 hm cl2 cl3 ch1 ch2 ch3) (f8_c61_b31nr4_lows0_1 p4 hm cl2 cl3 ch1 ch2 ch3) (f8_c61_b31nr1_runs0 p4 hm cl2 cl3 ch3) (f8_c61_b31nr1_length0 p4 hm cl2 cl3 ch3) (f8_c61_b31nr1_lows0 p4 hm cl2 cl3 ch3) (f8_c61_b31nr2_runs0 p4 hm cl3 ch2 ch3) (f8_c61_b31nr2_length0 p4 hm cl3 ch2 ch3) (f8_c61_b31nr2_lows0 p4 hm cl3 ch2 ch3) h573 n0 Z573 F593 F604 F605 F606 F607 F608 F609 F610 F596 F611 F612 F613 F597 F614 F615 F616 F594 F598 F599 F600 F595 F601 F602 F603 g25 g98 g111 ne136 ne149 ne110 ne123 ne97 (Ne.symm ne93) (Ne.symm ne95) (Ne.symm ne94) (Ne.symm ne96) ne92) (fun _ _ _ q => q.2.1) (W := 0) (by decide) (by decide) (by decide) (by decide) (argsL := [(.int cl0), (.int ch0), (.int p4)]) (rest := []) (by rw [hml]; rfl) (lenOf pd_7 rfl) rfl rfl (Nat.le_of_eq rfl) (hb hby d8_61) rfl ?_
                      rintro _ T617 h617 L617 X617 ⟨rfl, N617, K617, F618, F619, F620, F621, F622, F623, F624, F625, F626, F627, F628, F629, F630, F631, F632, F633⟩
                      have F634 := F574.keep K617
                      have F635 := F575.keep K617 (ninS ne27 (ninS ne100 (ninS ne113 nin0)))
                      have F636 := F576.keep K617 (ninS ne27 (ninS ne100 (ninS ne113 nin0)))
                      have F637 := F577.keep K617 (ninS ne27 (ninS ne100 (ninS ne113 nin0)))
                      have F638 := F578.keep K617 (ninS ne27 (ninS ne100 (ninS ne113 nin0)))
                      have F639 := F579.keep K617 (ninS ne27 (ninS ne100 (ninS ne113 nin0)))
                      have F640 := F580.keep K617 (ninS ne27 (ninS ne100 (ninS ne113 nin0)))
                      have F641 := F581.keep K617 (ninS ne27 (ninS ne100 (ninS ne113 nin0)))
                      have F642 := F582.keep K617 (ninS ne27 (ninS ne100 (ninS ne113 nin0)))
                      have F643 := F583.keep K617 (ninS ne27 (ninS ne100 (ninS ne113 nin0)))
                      have F644 := F584.keep K617 (ninS ne28 (ninS ne101 (ninS ne114 nin0)))
                      have F645 := F585.keep K617 (ninS ne29 (ninS ne102 (ninS ne115 nin0)))
                      have F646 := F586.keep K617 (ninS ne30 (ninS ne103 (ninS ne116 nin0)))
                      have F647 := F587.keep K617 (ninS ne31 (ninS ne104 (ninS ne117 nin0)))
                      have F648 := F588.keep K617 (ninS ne32 (ninS ne105 (ninS ne118 nin0)))
                      have F649 := F589.keep K617 (ninS ne33 (ninS ne106 (ninS ne119 nin0)))
                      have F650 := F590.keep K617 (ninS ne34 (ninS ne107 (ninS ne120 nin0)))
                      have F651 := F591.keep K617 (ninS ne35 (ninS ne108 (ninS ne121 nin0)))
                      have F652 := F592.keep K617 (ninS ne36 (ninS ne109 (ninS ne122 nin0)))
                      have F653 := F593.keep K617
                      have F654 := F594.keep K617
                      have F655 := F595.keep K617
                      have F656 := F596.keep K617
                      have F657 := F597.keep K617
                      have F658 := F611.keep K617 (ninS (Ne.symm ne136) (ninS (Ne.symm ne93) (ninS (Ne.symm ne95) nin0)))
                      have F659 := F612.keep K617 (ninS (Ne.symm ne136) (ninS (Ne.symm ne93) (ninS (Ne.symm ne95) nin0)))
                      have F660 := F613.keep K617 (ninS (Ne.symm ne136) (ninS (Ne.symm ne93) (ninS (Ne.symm ne95) nin0)))
                      have F661 := F614.keep K617 (ninS (Ne.symm ne149) (ninS (Ne.symm ne94) (ninS (Ne.symm ne96) nin0)))
                      have F662 := F615.keep K617 (ninS (Ne.symm ne149) (ninS (Ne.symm ne94) (ninS (Ne.symm ne96) nin0)))
                      have F663 := F616.keep K617 (ninS (Ne.symm ne149) (ninS (Ne.symm ne94) (ninS (Ne.symm ne96) nin0)))
                      have K664 := K573.trans K617 (allS (Or.inr s26) (allS (Or.inr s99) (allS (Or.inr s112) all0)))
                      have Z665 := Nat.le_trans Z573 K617.1
                      have F666 : Fld Z h617 b19 nm2 "lowOut" "I" (.int (f8_c61_b19_lowOut0_3 p4 hm cl0 cl1 cl2 cl3 ch1 ch2 ch3)) := F621
                      have F667 : Fld Z h617 b31nr1 nm1 "runs" "I" (.int (f8_c61_b31nr1_runs0_1 p4 hm cl0 cl1 cl2 cl3 ch1 ch2 ch3)) := F628
                      have F668 : Fld Z h617 b31nr1 nm1 "length" "I" (.int (f8_c61_b31nr1_length0_1 p4 hm cl0 cl1 cl2 cl3 ch1 ch2 ch3)) := F629
                      have F669 : Fld Z h617 b31nr1 nm1 "lows" "I" (.int (f8_c61_b31nr1_lows0_1 p4 hm cl0 cl1 cl2 cl3 ch1 ch2 ch3)) := F630
                      have F670 : Fld Z h617 b31nr2 nm1 "runs" "I" (.int (f8_c61_b31nr2_runs0_1 p4 hm cl1 cl2 cl3 ch0 ch1 ch2 ch3)) := F631
                      have F671 : Fld Z h617 b31nr2 nm1 "length" "I" (.int (f8_c61_b31nr2_length0_1 p4 hm cl1 cl2 cl3 ch0 ch1 ch2 ch3)) := F632
                      have F672 : Fld Z h617 b31nr2 nm1 "lows" "I" (.int (f8_c61_b31nr2_lows0_1 p4 hm cl1 cl2 cl3 ch0 ch1 ch2 ch3)) := F633
                      show Rt _ _ _ _ _ _ _ (T617.setTop (mkF m 64 #[.val (.ref a1), .val (.ref a2), .val (.ref a3), .val (.int p4), .val (.int p5), .val (.int (f8_v7 p4 hm cl0 cl1 cl2 cl3 ch0 ch1 ch2 ch3)), .val (.ref b19), .val (.int (0 : Int32)), .val (.int (f8_j161_s0_2 p4 hm cl0 cl2 cl3 ch0 ch1 ch2 ch3))] []))
                      refine Rt.aloadN (pc' := 65) X617 hx (hb hby d8_64) rfl rfl rfl ?_
                      refine Rt.iload (pc' := 67) X617 hx (hb hby d8_65) rfl rfl ?_
                      refine Rt.zaload (pc' := 68) X617 hx hZ F644 (i := 0) (by decide) (by decide) (v := (.int cl0)) rfl (hb hby d8_67) rfl ?_
                      have J68_673 : ∀ T673 (h673 : Heap) , Sd p l e rmR8 s m #[(.ref a1), (.ref a2), (.ref a3), (.int p4), (.int p5)] below meth c T673 n0 10 38 h673 → n0 ≤ h673.size → Keep h0 h673 [a2, a3, m1, m2, m3, m4, m5, m6, m7] → Exa Z h673 a1 nm4 → Fld Z h673 a1 nm4 "impossible" "I" (.int (5 : Int32)) → Fld Z h673 a1 nm4 "h" "I" (.int hm) → Fld Z h673 a1 nm4 "lowOut" "[I" (.ref m1) → Fld Z h673 a1 nm4 "lowIn" "[I" (.ref m2) → Fld Z h673 a1 nm4 "lowInLength" "[I" (.ref m3) → Fld Z h673 a1 nm4 "lowInLows" "[I" (.ref m4) → Fld Z h673 a1 nm4 "high" "[I" (.ref m5) → Fld Z h673 a1 nm4 "highLength" "[I" (.ref m6) → Fld Z h673 a1 nm4 "highLows" "[I" (.ref m7) → IA Z h673 a2 .boolean [(.int (f8_j111_A_a2_0 p4 p5 hm cl0 cl1 cl2 cl3 ch1 ch2 ch3)), (.int (f8_j111_A_a2_1 p4 p5 hm cl0 cl1 cl2 cl3 ch0 ch2 ch3)), (.int (f8_j111_A_a2_2 p4 p5 hm cl0 cl1 cl2 cl3 ch0 ch1 ch3)), (.int (f8_j111_A_a2_3 p4 p5 hm cl0 cl1 cl2 cl3 ch0 ch1 ch2))] → IA Z h673 a3 .boolean [(.int ch0), (.int (f8_j199_A_a3_1 p4 p5 hm cl0 cl2 cl3 ch0 ch1 ch2 ch3)), (.int (f8_j199_A_a3_2 p4 p5 hm cl0 cl1 cl3 ch0 ch1 ch2 ch3)), (.int (f8_j199_A_a3_3 p4 p5 hm cl0 cl1 cl2 ch0 ch1 ch2 ch3))] → IA Z h673 m1 .int [(.int (f9_c41_b0_lowOut0 cl0)), (.int (f9_c41_b0_lowOut0_1 p4 hm cl0 cl1 ch0)), (.int (f9_c41_b0_lowOut0_2 p4 hm cl0 cl1 cl2 ch0 ch1)), (.int (f9_c41_b0_lowOut0_3 p4 hm cl0 cl1 cl2 cl3 ch0 ch1 ch2))] → IA Z h673 m2 .int [(.int (f9_c41_b12nr3_runs0 p4 hm cl0)), (.int (f9_c41_b12nr1_runs0 p4 hm cl0 cl1 ch0)), (.int (f9_c41_b12nr3_runs0_1 p4 hm cl0 cl1 cl2 ch0 ch1)), (.int (f9_c41_b12nr1_runs0_1 p4 hm cl0 cl1 cl2 cl3 ch0 ch1 ch2))] → IA Z h673 m3 .int [(.int (f9_c41_b12nr3_length0 p4 hm cl0)), (.int (f9_c41_b12nr1_length0 p4 hm cl0 cl1 ch0)), (.int (f9_c41_b12nr3_length0_1 p4 hm cl0 cl1 cl2 ch0 ch1)), (.int (f9_c41_b12nr1_length0_1 p4 hm cl0 cl1 cl2 cl3 ch0 ch1 ch2))] → IA Z h673 m4 .int [(.int (f9_c41_b12nr3_lows0 p4 hm cl0)), (.int (f9_c41_b12nr1_lows0 p4 hm cl0 cl1 ch0)), (.int (f9_c41_b12nr3_lows0_1 p4 hm cl0 cl1 cl2 ch0 ch1)), (.int (f9_c41_b12nr1_lows0_1 p4 hm cl0 cl1 cl2 cl3 ch0 ch1 ch2))] → IA Z h673 m5 .int [(.int (f9_c41_b12nr4_runs0 p4 hm ch0)), (.int (f9_c41_b12nr2_runs0 p4 hm cl0 ch0 ch1)), (.int (f9_c41_b12nr4_runs0_1 p4 hm cl0 cl1 ch0 ch1 ch2)), (.int (f9_c41_b12nr2_runs0_1 p4 hm cl0 cl1 cl2 ch0 ch1 ch2 ch3))] → IA Z h673 m6 .int [(.int (f9_c41_b12nr4_length0 p4 hm ch0)), (.int (f9_c41_b12nr2_length0 p4 hm cl0 ch0 ch1)), (.int (f9_c41_b12nr4_length0_1 p4 hm cl0 cl1 ch0 ch1 ch2)), (.int (f9_c41_b12nr2_length0_1 p4 hm cl0 cl1 cl2 ch0 ch1 ch2 ch3))] → IA Z h673 m7 .int [(.int (f9_c41_b12nr4_lows0 p4 hm ch0)), (.int (f9_c41_b12nr2_lows0 p4 hm cl0 ch0 ch1)), (.int (f9_c41_b12nr4_lows0_1 p4 hm cl0 cl1 ch0 ch1 ch2)), (.int (f9_c41_b12nr2_lows0_1 p4 hm cl0 cl1 cl2 ch0 ch1 ch2 ch3))] → Exa Z h673 b19 nm2 → Exa Z h673 b31nr1 nm1 → Exa Z h673 b31nr2 nm1 → Exa Z h673 b31nr3 nm1 → Exa Z h673 b31nr4 nm1 → Fld Z h673 b31nr3 nm1 "runs" "I" (.int (f8_c61_b31nr3_runs0_1 p4 hm cl1 cl2 cl3 ch2 ch3)) → Fld Z h673 b31nr3 nm1 "length" "I" (.int (f8_c61_b31nr3_length0_1 p4 hm cl1 cl2 cl3 ch2 ch3)) → Fld Z h673 b31nr3 nm1 "lows" "I" (.int (f8_c61_b31nr3_lows0_1 p4 hm cl1 cl2 cl3 ch2 ch3)) → Fld Z h673 b31nr4 nm1 "runs" "I" (.int (f8_c61_b31nr4_runs0_1 p4 hm cl2 cl3 ch1 ch2 ch3)) → Fld Z h673 b31nr4 nm1 "length" "I" (.int (f8_c61_b31nr4_length0_1 p4 hm cl2 cl3 ch1 ch2 ch3)) → Fld Z h673 b31nr4 nm1 "lows" "I" (.int (f8_c61_b31nr4_lows0_1 p4 hm cl2 cl3 ch1 ch2 ch3)) → Fld Z h673 b19 nm2 "impossible" "I" (.int (5 : Int32)) → Fld Z h673 b19 nm2 "h" "I" (.int hm) → Fld Z h673 b19 nm2 "lowOut" "I" (.int (f8_c61_b19_lowOut0_3 p4 hm cl0 cl1 cl2 cl3 ch1 ch2 ch3)) → Fld Z h673 b19 nm2 "lowIn" nm3 (.ref b31nr1) → Fld Z h673 b19 nm2 "high" nm3 (.ref b31nr2) → Fld Z h673 b19 nm2 "nextLowIn" nm3 (.ref b31nr3) → Fld Z h673 b19 nm2 "nextHigh" nm3 (.ref b31nr4) → Fld Z h673 b31nr1 nm1 "runs" "I" (.int (f8_c61_b31nr1_runs0_1 p4 hm cl0 cl1 cl2 cl3 ch1 ch2 ch3)) → Fld Z h673 b31nr1 nm1 "length" "I" (.int (f8_c61_b31nr1_length0_1 p4 hm cl0 cl1 cl2 cl3 ch1 ch2 ch3)) → Fld Z h673 b31nr1 nm1 "lows" "I" (.int (f8_c61_b31nr1_lows0_1 p4 hm cl0 cl1 cl2 cl3 ch1 ch2 ch3)) → Fld Z h673 b31nr2 nm1 "runs" "I" (.int (f8_c61_b31nr2_runs0_1 p4 hm cl1 cl2 cl3 ch0 ch1 ch2 ch3)) → Fld Z h673 b31nr2 nm1 "length" "I" (.int (f8_c61_b31nr2_length0_1 p4 hm cl1 cl2 cl3 ch0 ch1 ch2 ch3)) → Fld Z h673 b31nr2 nm1 "lows" "I" (.int (f8_c61_b31nr2_lows0_1 p4 hm cl1 cl2 cl3 ch0 ch1 ch2 ch3)) → Rt p e below s rmR8.cells rmR8.slots (Q8 Z a1 a2 a3 p4 p5 m1 m2 m3 m4 m5 m6 m7 hm cl0 cl1 cl2 cl3 ch0 ch1 ch2 ch3 h0 n0) (T673.setTop (mkF m 111 #[.val (.ref a1), .val (.ref a2), .val (.ref a3), .val (.int p4), .val (.int p5), .val (.int (f8_v7 p4 hm cl0 cl1 cl2 cl3 ch0 ch1 ch2 ch3)), .val (.ref b19), .val (.int (0 : Int32)), .val (.int (f8_j161_s0_2 p4 hm cl0 cl2 cl3 ch0 ch1 ch2 ch3))] [])) := by
                        intro T673 h673  X673 Z673 K673 F674 F675 F676 F677 F678 F679 F680 F681 F682 F683 F684 F685 F686 F687 F688 F689 F690 F691 F692 F693 F694 F695 F696 F697 F698 F699 F700 F701 F702 F703 F704 F705 F706 F707 F708 F709 F710 F711 F712 F713 F714 F715 F716
                        refine Rt.aloadN (pc' := 112) X673 hx (hb hby d8_111) rfl rfl rfl ?_
                        refine Rt.getF (pc' := 115) (v := (.ref m6)) X673 hx hZ hown (host := "") (Or.inl (own_g hw 43 rfl)) F682 (hb hby d8_112) rfl ?_
                        intro T717 X717
                        refine Rt.iload (pc' := 117) X717 hx (hb hby d8_115) rfl rfl ?_
                        refine Rt.iaload (pc' := 118) X717 hx hZ F691 (i := 0) (by decide) (by decide) (v := (.int (f9_c41_b12nr4_length0 p4 hm ch0))) rfl (hb hby d8_117) rfl ?_
                        refine Rt.iconst (pc' := 119) (v := (1 : Int32)) X717 hx (hb hby d8_118) rfl rfl ?_
                        refine Rt.isub (pc' := 120) (r := ((f9_c41_b12nr4_length0 p4 hm ch0) - (1 : Int32))) X717 hx (hb hby d8_119) rfl rfl ?_
                        refine Rt.iloadN (pc' := 121) X717 hx (hb hby d8_120) rfl rfl ?_
                        refine Rt.aload (pc' := 123) X717 hx (hb hby d8_121) rfl rfl rfl ?_
                        refine Rt.getFR (pc' := 126) (v := (.ref b31nr2)) X717 hx hZ hown (own_g hw 117 rfl) F708 (hb hby d8_123) rfl ?_
                        intro T718 X718
                        refine Rt.getFR (pc' := 129) (v := (.int (f8_c61_b31nr2_length0_1 p4 hm cl1 cl2 cl3 ch0 ch1 ch2 ch3))) X718 hx hZ hown (own_g hw 115 rfl) F715 (hb hby d8_126) rfl ?_
                        intro T719 X719
                        refine Rt.isub (pc' := 130) (r := (p4 - (f8_c61_b31nr2_length0_1 p4 hm cl1 cl2 cl3 ch0 ch1 ch2 ch3))) X719 hx (hb hby d8_129) rfl rfl ?_
                        have J130_720 : ∀ T720  , Sd p l e rmR8 s m #[(.ref a1), (.ref a2), (.ref a3), (.int p4), (.int p5)] below meth c T720 n0 10 38 h673 → Rt p e below s rmR8.cells rmR8.slots (Q8 Z a1 a2 a3 p4 p5 m1 m2 m3 m4 m5 m6 m7 hm cl0 cl1 cl2 cl3 ch0 ch1 ch2 ch3 h0 n0) (T720.setTop (mkF m 161 #[.val (.ref a1), .val (.ref a2), .val (.ref a3), .val (.int p4), .val (.int p5), .val (.int (f8_v7 p4 hm cl0 cl1 cl2 cl3 ch0 ch1 ch2 ch3)), .val (.ref b19), .val (.int (0 : Int32)), .val (.int (f8_j161_s0_2 p4 hm cl0 cl2 cl3 ch0 ch1 ch2 ch3))] [(.int (f8_j161_s0_3 p4 hm cl1 cl2 cl3 ch0 ch1 ch2 ch3))])) := by
                          intro T720   X720 
                          refine Rt.istore (pc' := 163) (v := (f8_j161_s0_3 p4 hm cl1 cl2 cl3 ch0 ch1 ch2 ch3)) (l' := #[.val (.ref a1), .val (.ref a2), .val (.ref a3), .val (.int p4), .val (.int p5), .val (.int (f8_v7 p4 hm cl0 cl1 cl2 cl3 ch0 ch1 ch2 ch3)), .val (.ref b19), .val (.int (0 : Int32)), .val (.int (f8_j161_s0_3 p4 hm cl1 cl2 cl3 ch0 ch1 ch2 ch3))]) X720 hx (hb hby d8_161) rfl rfl ?_
                          refine Rt.aloadN (pc' := 164) X720 hx (hb hby d8_163) rfl rfl rfl ?_
                          refine Rt.iload (pc' := 166) X720 hx (hb hby d8_164) rfl rfl ?_
                          refine Rt.zaload (pc' := 167) X720 hx hZ F685 (i := 0) (by decide) (by decide) (v := (.int ch0)) rfl (hb hby d8_166) rfl ?_
                          have J167_721 : ∀ T721 (h721 : Heap) , Sd p l e rmR8 s m #[(.ref a1), (.ref a2), (.ref a3), (.int p4), (.int p5)] below meth c T721 n0 10 38 h721 → n0 ≤ h721.size → Keep h0 h721 [a2, a3, m1, m2, m3, m4, m5, m6, m7] → Exa Z h721 a1 nm4 → Fld Z h721 a1 nm4 "impossible" "I" (.int (5 : Int32)) → Fld Z h721 a1 nm4 "h" "I" (.int hm) → Fld Z h721 a1 nm4 "lowOut" "[I" (.ref m1) → Fld Z h721 a1 nm4 "lowIn" "[I" (.ref m2) → Fld Z h721 a1 nm4 "lowInLength" "[I" (.ref m3) → Fld Z h721 a1 nm4 "lowInLows" "[I" (.ref m4) → Fld Z h721 a1 nm4 "high" "[I" (.ref m5) → Fld Z h721 a1 nm4 "highLength" "[I" (.ref m6) → Fld Z h721 a1 nm4 "highLows" "[I" (.ref m7) → IA Z h721 a2 .boolean [(.int (f8_j111_A_a2_0 p4 p5 hm cl0 cl1 cl2 cl3 ch1 ch2 ch3)), (.int (f8_j111_A_a2_1 p4 p5 hm cl0 cl1 cl2 cl3 ch0 ch2 ch3)), (.int (f8_j111_A_a2_2 p4 p5 hm cl0 cl1 cl2 cl3 ch0 ch1 ch3)), (.int (f8_j111_A_a2_3 p4 p5 hm cl0 cl1 cl2 cl3 ch0 ch1 ch2))] → IA Z h721 a3 .boolean [(.int (f8_j199_A_a3_0 p4 p5 hm cl1 cl2 cl3 ch0 ch1 ch2 ch3)), (.int (f8_j199_A_a3_1 p4 p5 hm cl0 cl2 cl3 ch0 ch1 ch2 ch3)), (.int (f8_j199_A_a3_2 p4 p5 hm cl0 cl1 cl3 ch0 ch1 ch2 ch3)), (.int (f8_j199_A_a3_3 p4 p5 hm cl0 cl1 cl2 ch0 ch1 ch2 ch3))] → IA Z h721 m1 .int [(.int (f9_c41_b0_lowOut0 cl0)), (.int (f9_c41_b0_lowOut0_1 p4 hm cl0 cl1 ch0)), (.int (f9_c41_b0_lowOut0_2 p4 hm cl0 cl1 cl2 ch0 ch1)), (.int (f9_c41_b0_lowOut0_3 p4 hm cl0 cl1 cl2 cl3 ch0 ch1 ch2))] → IA Z h721 m2 .int [(.int (f9_c41_b12nr3_runs0 p4 hm cl0)), (.int (f9_c41_b12nr1_runs0 p4 hm cl0 cl1 ch0)), (.int (f9_c41_b12nr3_runs0_1 p4 hm cl0 cl1 cl2 ch0 ch1)), (.int (f9_c41_b12nr1_runs0_1 p4 hm cl0 cl1 cl2 cl3 ch0 ch1 ch2))] → IA Z h721 m3 .int [(.int (f9_c41_b12nr3_length0 p4 hm cl0)), (.int (f9_c41_b12nr1_length0 p4 hm cl0 cl1 ch0)), (.int (f9_c41_b12nr3_length0_1 p4 hm cl0 cl1 cl2 ch0 ch1)), (.int (f9_c41_b12nr1_length0_1 p4 hm cl0 cl1 cl2 cl3 ch0 ch1 ch2))] → IA Z h721 m4 .int [(.int (f9_c41_b12nr3_lows0 p4 hm cl0)), (.int (f9_c41_b12nr1_lows0 p4 hm cl0 cl1 ch0)), (.int (f9_c41_b12nr3_lows0_1 p4 hm cl0 cl1 cl2 ch0 ch1)), (.int (f9_c41_b12nr1_lows0_1 p4 hm cl0 cl1 cl2 cl3 ch0 ch1 ch2))] → IA Z h721 m5 .int [(.int (f9_c41_b12nr4_runs0 p4 hm ch0)), (.int (f9_c41_b12nr2_runs0 p4 hm cl0 ch0 ch1)), (.int (f9_c41_b12nr4_runs0_1 p4 hm cl0 cl1 ch0 ch1 ch2)), (.int (f9_c41_b12nr2_runs0_1 p4 hm cl0 cl1 cl2 ch0 ch1 ch2 ch3))] → IA Z h721 m6 .int [(.int (f9_c41_b12nr4_length0 p4 hm ch0)), (.int (f9_c41_b12nr2_length0 p4 hm cl0 ch0 ch1)), (.int (f9_c41_b12nr4_length0_1 p4 hm cl0 cl1 ch0 ch1 ch2)), (.int (f9_c41_b12nr2_length0_1 p4 hm cl0 cl1 cl2 ch0 ch1 ch2 ch3))] → IA Z h721 m7 .int [(.int (f9_c41_b12nr4_lows0 p4 hm ch0)), (.int (f9_c41_b12nr2_lows0 p4 hm cl0 ch0 ch1)), (.int (f9_c41_b12nr4_lows0_1 p4 hm cl0 cl1 ch0 ch1 ch2)), (.int (f9_c41_b12nr2_lows0_1 p4 hm cl0 cl1 cl2 ch0 ch1 ch2 ch3))] → Exa Z h721 b19 nm2 → Exa Z h721 b31nr1 nm1 → Exa Z h721 b31nr2 nm1 → Exa Z h721 b31nr3 nm1 → Exa Z h721 b31nr4 nm1 → Fld Z h721 b31nr3 nm1 "runs" "I" (.int (f8_c61_b31nr3_runs0_1 p4 hm cl1 cl2 cl3 ch2 ch3)) → Fld Z h721 b31nr3 nm1 "length" "I" (.int (f8_c61_b31nr3_length0_1 p4 hm cl1 cl2 cl3 ch2 ch3)) → Fld Z h721 b31nr3 nm1 "lows" "I" (.int (f8_c61_b31nr3_lows0_1 p4 hm cl1 cl2 cl3 ch2 ch3)) → Fld Z h721 b31nr4 nm1 "runs" "I" (.int (f8_c61_b31nr4_runs0_1 p4 hm cl2 cl3 ch1 ch2 ch3)) → Fld Z h721 b31nr4 nm1 "length" "I" (.int (f8_c61_b31nr4_length0_1 p4 hm cl2 cl3 ch1 ch2 ch3)) → Fld Z h721 b31nr4 nm1 "lows" "I" (.int (f8_c61_b31nr4_lows0_1 p4 hm cl2 cl3 ch1 ch2 ch3)) → Fld Z h721 b19 nm2 "impossible" "I" (.int (5 : Int32)) → Fld Z h721 b19 nm2 "h" "I" (.int hm) → Fld Z h721 b19 nm2 "lowOut" "I" (.int (f8_c61_b19_lowOut0_3 p4 hm cl0 cl1 cl2 cl3 ch1 ch2 ch3)) → Fld Z h721 b19 nm2 "lowIn" nm3 (.ref b31nr1) → Fld Z h721 b19 nm2 "high" nm3 (.ref b31nr2) → Fld Z h721 b19 nm2 "nextLowIn" nm3 (.ref b31nr3) → Fld Z h721 b19 nm2 "nextHigh" nm3 (.ref b31nr4) → Fld Z h721 b31nr1 nm1 "runs" "I" (.int (f8_c61_b31nr1_runs0_1 p4 hm cl0 cl1 cl2 cl3 ch1 ch2 ch3)) → Fld Z h721 b31nr1 nm1 "length" "I" (.int (f8_c61_b31nr1_length0_1 p4 hm cl0 cl1 cl2 cl3 ch1 ch2 ch3)) → Fld Z h721 b31nr1 nm1 "lows" "I" (.int (f8_c61_b31nr1_lows0_1 p4 hm cl0 cl1 cl2 cl3 ch1 ch2 ch3)) → Fld Z h721 b31nr2 nm1 "runs" "I" (.int (f8_c61_b31nr2_runs0_1 p4 hm cl1 cl2 cl3 ch0 ch1 ch2 ch3)) → Fld Z h721 b31nr2 nm1 "length" "I" (.int (f8_c61_b31nr2_length0_1 p4 hm cl1 cl2 cl3 ch0 ch1 ch2 ch3)) → Fld Z h721 b31nr2 nm1 "lows" "I" (.int (f8_c61_b31nr2_lows0_1 p4 hm cl1 cl2 cl3 ch0 ch1 ch2 ch3)) → Rt p e below s rmR8.cells rmR8.slots (Q8 Z a1 a2 a3 p4 p5 m1 m2 m3 m4 m5 m6 m7 hm cl0 cl1 cl2 cl3 ch0 ch1 ch2 ch3 h0 n0) (T721.setTop (mkF m 199 #[.val (.ref a1), .val (.ref a2), .val (.ref a3), .val (.int p4), .val (.int p5), .val (.int (f8_v7 p4 hm cl0 cl1 cl2 cl3 ch0 ch1 ch2 ch3)), .val (.ref b19), .val (.int (0 : Int32)), .val (.int (f8_j161_s0_3 p4 hm cl1 cl2 cl3 ch0 ch1 ch2 ch3))] [])) := by
                            intro T721 h721  X721 Z721 K721 F722 F723 F724 F725 F726 F727 F728 F729 F730 F731 F732 F733 F734 F735 F736 F737 F738 F739 F740 F741 F742 F743 F744 F745 F746 F747 F748 F749 F750 F751 F752 F753 F754 F755 F756 F757 F758 F759 F760 F761 F762 F763 F764
                            refine Rt.iinc (pc' := 202) (r := (-1 : Int32)) (l' := #[.val (.ref a1), .val (.ref a2), .val (.ref a3), .val (.int p4), .val (.int p5), .val (.int (f8_v7 p4 hm cl0 cl1 cl2 cl3 ch0 ch1 ch2 ch3)), .val (.ref b19), .val (.int (-1 : Int32)), .val (.int (f8_j161_s0_3 p4 hm cl1 cl2 cl3 ch0 ch1 ch2 ch3))]) X721 hx (hb hby d8_199) rfl (by decide) rfl rfl ?_
                            refine Rt.goto (pc' := 45) X721 hx (hb hby d8_202) (by decide) (by decide) ?_
                            refine Rt.iload (pc' := 47) X721 hx (hb hby d8_45) rfl rfl ?_
                            refine Rt.ifY (pc' := 205) X721 hx (hb hby d8_47) ((if0 _ _).trans (tlt (by decide : (-1 : Int32) < (0 : Int32))).1) (by decide) (by decide) ?_
                            refine Rt.iload (pc' := 207) X721 hx (hb hby d8_205) rfl rfl ?_
                            have F765 : IA Z h721 a2 .boolean [(.int (f8_o_A_a2_0 p4 p5 hm cl0 cl1 cl2 cl3 ch0 ch1 ch2 ch3)), (.int (f8_j111_A_a2_1 p4 p5 hm cl0 cl1 cl2 cl3 ch0 ch2 ch3)), (.int (f8_j111_A_a2_2 p4 p5 hm cl0 cl1 cl2 cl3 ch0 ch1 ch3)), (.int (f8_j111_A_a2_3 p4 p5 hm cl0 cl1 cl2 cl3 ch0 ch1 ch2))] := by rw [show (f8_o_A_a2_0 p4 p5 hm cl0 cl1 cl2 cl3 ch0 ch1 ch2 ch3) = (f8_j111_A_a2_0 p4 p5 hm cl0 cl1 cl2 cl3 ch1 ch2 ch3) from by rw [f8_o_A_a2_0, if_pos hc13_23]]; exact F732
                            have F766 : IA Z h721 a2 .boolean [(.int (f8_o_A_a2_0 p4 p5 hm cl0 cl1 cl2 cl3 ch0 ch1 ch2 ch3)), (.int (f8_o_A_a2_1 p4 p5 hm cl0 cl1 cl2 cl3 ch0 ch1 ch2 ch3)), (.int (f8_j111_A_a2_2 p4 p5 hm cl0 cl1 cl2 cl3 ch0 ch1 ch3)), (.int (f8_j111_A_a2_3 p4 p5 hm cl0 cl1 cl2 cl3 ch0 ch1 ch2))] := by rw [show (f8_o_A_a2_1 p4 p5 hm cl0 cl1 cl2 cl3 ch0 ch1 ch2 ch3) = (f8_j111_A_a2_1 p4 p5 hm cl0 cl1 cl2 cl3 ch0 ch2 ch3) from by rw [f8_o_A_a2_1, if_pos hc13_23]]; exact F765
                            have F767 : IA Z h721 a2 .boolean [(.int (f8_o_A_a2_0 p4 p5 hm cl0 cl1 cl2 cl3 ch0 ch1 ch2 ch3)), (.int (f8_o_A_a2_1 p4 p5 hm cl0 cl1 cl2 cl3 ch0 ch1 ch2 ch3)), (.int (f8_o_A_a2_2 p4 p5 hm cl0 cl1 cl2 cl3 ch0 ch1 ch2 ch3)), (.int (f8_j111_A_a2_3 p4 p5 hm cl0 cl1 cl2 cl3 ch0 ch1 ch2))] := by rw [show (f8_o_A_a2_2 p4 p5 hm cl0 cl1 cl2 cl3 ch0 ch1 ch2 ch3) = (f8_j111_A_a2_2 p4 p5 hm cl0 cl1 cl2 cl3 ch0 ch1 ch3) from by rw [f8_o_A_a2_2, if_pos hc13_23]]; exact F766
                            have F768 : IA Z h721 a2 .boolean [(.int (f8_o_A_a2_0 p4 p5 hm cl0 cl1 cl2 cl3 ch0 ch1 ch2 ch3)), (.int (f8_o_A_a2_1 p4 p5 hm cl0 cl1 cl2 cl3 ch0 ch1 ch2 ch3)), (.int (f8_o_A_a2_2 p4 p5 hm cl0 cl1 cl2 cl3 ch0 ch1 ch2 ch3)), (.int (f8_o_A_a2_3 p4 p5 hm cl0 cl1 cl2 cl3 ch0 ch1 ch2 ch3))] := by rw [show (f8_o_A_a2_3 p4 p5 hm cl0 cl1 cl2 cl3 ch0 ch1 ch2 ch3) = (f8_j111_A_a2_3 p4 p5 hm cl0 cl1 cl2 cl3 ch0 ch1 ch2) from by rw [f8_o_A_a2_3, if_pos hc13_23]]; exact F767
                            have F769 : IA Z h721 a3 .boolean [(.int (f8_o_A_a3_0 p4 p5 hm cl0 cl1 cl2 cl3 ch0 ch1 ch2 ch3)), (.int (f8_j199_A_a3_1 p4 p5 hm cl0 cl2 cl3 ch0 ch1 ch2 ch3)), (.int (f8_j199_A_a3_2 p4 p5 hm cl0 cl1 cl3 ch0 ch1 ch2 ch3)), (.int (f8_j199_A_a3_3 p4 p5 hm cl0 cl1 cl2 ch0 ch1 ch2 ch3))] := by rw [show (f8_o_A_a3_0 p4 p5 hm cl0 cl1 cl2 cl3 ch0 ch1 ch2 ch3) = (f8_j199_A_a3_0 p4 p5 hm cl1 cl2 cl3 ch0 ch1 ch2 ch3) from by rw [f8_o_A_a3_0, if_pos hc13_23]]; exact F733
                            have F770 : IA Z h721 a3 .boolean [(.int (f8_o_A_a3_0 p4 p5 hm cl0 cl1 cl2 cl3 ch0 ch1 ch2 ch3)), (.int (f8_o_A_a3_1 p4 p5 hm cl0 cl1 cl2 cl3 ch0 ch1 ch2 ch3)), (.int (f8_j199_A_a3_2 p4 p5 hm cl0 cl1 cl3 ch0 ch1 ch2 ch3)), (.int (f8_j199_A_a3_3 p4 p5 hm cl0 cl1 cl2 ch0 ch1 ch2 ch3))] := by rw [show (f8_o_A_a3_1 p4 p5 hm cl0 cl1 cl2 cl3 ch0 ch1 ch2 ch3) = (f8_j199_A_a3_1 p4 p5 hm cl0 cl2 cl3 ch0 ch1 ch2 ch3) from by rw [f8_o_A_a3_1, if_pos hc13_23]]; exact F769
                            have F771 : IA Z h721 a3 .boolean [(.int (f8_o_A_a3_0 p4 p5 hm cl0 cl1 cl2 cl3 ch0 ch1 ch2 ch3)), (.int (f8_o_A_a3_1 p4 p5 hm cl0 cl1 cl2 cl3 ch0 ch1 ch2 ch3)), (.int (f8_o_A_a3_2 p4 p5 hm cl0 cl1 cl2 cl3 ch0 ch1 ch2 ch3)), (.int (f8_j199_A_a3_3 p4 p5 hm cl0 cl1 cl2 ch0 ch1 ch2 ch3))] := by rw [show (f8_o_A_a3_2 p4 p5 hm cl0 cl1 cl2 cl3 ch0 ch1 ch2 ch3) = (f8_j199_A_a3_2 p4 p5 hm cl0 cl1 cl3 ch0 ch1 ch2 ch3) from by rw [f8_o_A_a3_2, if_pos hc13_23]]; exact F770
                            have F772 : IA Z h721 a3 .boolean [(.int (f8_o_A_a3_0 p4 p5 hm cl0 cl1 cl2 cl3 ch0 ch1 ch2 ch3)), (.int (f8_o_A_a3_1 p4 p5 hm cl0 cl1 cl2 cl3 ch0 ch1 ch2 ch3)), (.int (f8_o_A_a3_2 p4 p5 hm cl0 cl1 cl2 cl3 ch0 ch1 ch2 ch3)), (.int (f8_o_A_a3_3 p4 p5 hm cl0 cl1 cl2 cl3 ch0 ch1 ch2 ch3))] := by rw [show (f8_o_A_a3_3 p4 p5 hm cl0 cl1 cl2 cl3 ch0 ch1 ch2 ch3) = (f8_j199_A_a3_3 p4 p5 hm cl0 cl1 cl2 ch0 ch1 ch2 ch3) from by rw [f8_o_A_a3_3, if_pos hc13_23]]; exact F771
                            exact Rt.retI X721 hx hlk hret (hb hby d8_207) (by decide) (by decide) (fun L N => ⟨congrArg some (congrArg Value.int (by rw [f8, if_pos hc13_23])), N, K721, F768, F772⟩)
                          by_cases hc167_773 : ch0 = (0 : Int32)
                          · refine Rt.ifY (pc' := 199) X720 hx (hb hby d8_167) ((if0 _ _).trans (teq hc167_773).1) (by decide) (by decide) ?_
                            have q := J167_721 T720 h673  X720
                            rw [show (f8_j199_A_a3_0 p4 p5 hm cl1 cl2 cl3 ch0 ch1 ch2 ch3) = ch0 from by rw [f8_j199_A_a3_0, if_pos hc167_773]] at q
                            exact q Z673 K673 F674 F675 F676 F677 F678 F679 F680 F681 F682 F683 F684 F685 F686 F687 F688 F689 F690 F691 F692 F693 F694 F695 F696 F697 F698 F699 F700 F701 F702 F703 F704 F705 F706 F707 F708 F709 F710 F711 F712 F713 F714 F715 F716
                          · refine Rt.ifN (pc' := 170) X720 hx (hb hby d8_167) ((if0 _ _).trans (feq hc167_773).1) rfl ?_
                            refine Rt.aloadN (pc' := 171) X720 hx (hb hby d8_170) rfl rfl rfl ?_
                            refine Rt.getF (pc' := 174) (v := (.ref m5)) X720 hx hZ hown (host := "") (Or.inl (own_g hw 41 rfl)) F681 (hb hby d8_171) rfl ?_
                            intro T774 X774
                            refine Rt.iload (pc' := 176) X774 hx (hb hby d8_174) rfl rfl ?_
                            refine Rt.iaload (pc' := 177) X774 hx hZ F690 (i := 0) (by decide) (by decide) (v := (.int (f9_c41_b12nr4_runs0 p4 hm ch0))) rfl (hb hby d8_176) rfl ?_
                            refine Rt.aload (pc' := 179) X774 hx (hb hby d8_177) rfl rfl rfl ?_
                            refine Rt.getFR (pc' := 182) (v := (.ref b31nr2)) X774 hx hZ hown (own_g hw 117 rfl) F708 (hb hby d8_179) rfl ?_
                            intro T775 X775
                            refine Rt.getFR (pc' := 185) (v := (.int (f8_c61_b31nr2_runs0_1 p4 hm cl1 cl2 cl3 ch0 ch1 ch2 ch3))) X775 hx hZ hown (own_g hw 114 rfl) F714 (hb hby d8_182) rfl ?_
                            intro T776 X776
                            refine Rt.iadd (pc' := 186) (r := ((f9_c41_b12nr4_runs0 p4 hm ch0) + (f8_c61_b31nr2_runs0_1 p4 hm cl1 cl2 cl3 ch0 ch1 ch2 ch3))) X776 hx (hb hby d8_185) rfl rfl ?_
                            refine Rt.iload (pc' := 188) X776 hx (hb hby d8_186) rfl rfl ?_
                            refine Rt.isub (pc' := 189) (r := (((f9_c41_b12nr4_runs0 p4 hm ch0) + (f8_c61_b31nr2_runs0_1 p4 hm cl1 cl2 cl3 ch0 ch1 ch2 ch3)) - (f8_j161_s0_3 p4 hm cl1 cl2 cl3 ch0 ch1 ch2 ch3))) X776 hx (hb hby d8_188) rfl rfl ?_
                            refine Rt.iload (pc' := 191) X776 hx (hb hby d8_189) rfl rfl ?_
                            by_cases hc191_777 : p5 < (((f9_c41_b12nr4_runs0 p4 hm ch0) + (f8_c61_b31nr2_runs0_1 p4 hm cl1 cl2 cl3 ch0 ch1 ch2 ch3)) - (f8_j161_s0_3 p4 hm cl1 cl2 cl3 ch0 ch1 ch2 ch3))
                            · refine Rt.icmpN (pc' := 194) X776 hx (hb hby d8_191) (tlt hc191_777).2.2.2 rfl ?_
                              refine Rt.aloadN (pc' := 195) X776 hx (hb hby d8_194) rfl rfl rfl ?_
                              refine Rt.iload (pc' := 197) X776 hx (hb hby d8_195) rfl rfl ?_
                              refine Rt.iconst (pc' := 198) (v := (0 : Int32)) X776 hx (hb hby d8_197) rfl rfl ?_
                              refine Rt.zastore (pc' := 199) X776 hx hZ F685 (i := 0) (by decide) (by decide) (Nat.le_of_ble_eq_true rfl) (w := (.int (0 : Int32))) (by decide) g_a3 (hb hby d8_198) rfl ?_
                              intro T778 h778 X778 W778 F778
                              have F778 : IA Z h778 a3 .boolean [(.int (0 : Int32)), (.int (f8_j199_A_a3_1 p4 p5 hm cl0 cl2 cl3 ch0 ch1 ch2 ch3)), (.int (f8_j199_A_a3_2 p4 p5 hm cl0 cl1 cl3 ch0 ch1 ch2 ch3)), (.int (f8_j199_A_a3_3 p4 p5 hm cl0 cl1 cl2 ch0 ch1 ch2 ch3))] := F778
                              have F779 := F674.wr W778
                              have F780 := F675.other W778 (Or.inl ne_a1_a3)
                              have F781 := F676.other W778 (Or.inl ne_a1_a3)
                              have F782 := F677.other W778 (Or.inl ne_a1_a3)
                              have F783 := F678.other W778 (Or.inl ne_a1_a3)
                              have F784 := F679.other W778 (Or.inl ne_a1_a3)
                              have F785 := F680.other W778 (Or.inl ne_a1_a3)
                              have F786 := F681.other W778 (Or.inl ne_a1_a3)
                              have F787 := F682.other W778 (Or.inl ne_a1_a3)
                              have F788 := F683.other W778 (Or.inl ne_a1_a3)
                              have F789 := F684.other W778 ne_a2_a3
                              have F790 := F686.other W778 (Ne.symm ne_a3_m1)
                              have F791 := F687.other W778 (Ne.symm ne_a3_m2)
                              have F792 := F688.other W778 (Ne.symm ne_a3_m3)
                              have F793 := F689.other W778 (Ne.symm ne_a3_m4)
                              have F794 := F690.other W778 (Ne.symm ne_a3_m5)
                              have F795 := F691.other W778 (Ne.symm ne_a3_m6)
                              have F796 := F692.other W778 (Ne.symm ne_a3_m7)
                              have F797 := F693.wr W778
                              have F798 := F694.wr W778
                              have F799 := F695.wr W778
                              have F800 := F696.wr W778
                              have F801 := F697.wr W778
                              have F802 := F698.other W778 (Or.inl (Ne.symm ne128))
                              have F803 := F699.other W778 (Or.inl (Ne.symm ne128))
                              have F804 := F700.other W778 (Or.inl (Ne.symm ne128))
                              have F805 := F701.other W778 (Or.inl (Ne.symm ne141))
                              have F806 := F702.other W778 (Or.inl (Ne.symm ne141))
                              have F807 := F703.other W778 (Or.inl (Ne.symm ne141))
                              have F808 := F704.other W778 (Or.inl (Ne.symm ne29))
                              have F809 := F705.other W778 (Or.inl (Ne.symm ne29))
                              have F810 := F706.other W778 (Or.inl (Ne.symm ne29))
                              have F811 := F707.other W778 (Or.inl (Ne.symm ne29))
                              have F812 := F708.other W778 (Or.inl (Ne.symm ne29))
                              have F813 := F709.other W778 (Or.inl (Ne.symm ne29))
                              have F814 := F710.other W778 (Or.inl (Ne.symm ne29))
                              have F815 := F711.other W778 (Or.inl (Ne.symm ne102))
                              have F816 := F712.other W778 (Or.inl (Ne.symm ne102))
                              have F817 := F713.other W778 (Or.inl (Ne.symm ne102))
                              have F818 := F714.other W778 (Or.inl (Ne.symm ne115))
                              have F819 := F715.other W778 (Or.inl (Ne.symm ne115))
                              have F820 := F716.other W778 (Or.inl (Ne.symm ne115))
                              have K821 := K673.wr W778 (Or.inl (List.mem_of_getElem? (i := 1) rfl))
                              have Z822 := Nat.le_trans Z673 (Keep.of_wr W778).1
                              have q := J167_721 T778 h778  X778
                              rw [show (f8_j199_A_a3_0 p4 p5 hm cl1 cl2 cl3 ch0 ch1 ch2 ch3) = (0 : Int32) from by rw [f8_j199_A_a3_0, if_neg hc167_773, if_pos hc191_777]] at q
                              exact q Z822 K821 F779 F780 F781 F782 F783 F784 F785 F786 F787 F788 F789 F778 F790 F791 F792 F793 F794 F795 F796 F797 F798 F799 F800 F801 F802 F803 F804 F805 F806 F807 F808 F809 F810 F811 F812 F813 F814 F815 F816 F817 F818 F819 F820
                            · refine Rt.icmpY (pc' := 199) X776 hx (hb hby d8_191) (flt hc191_777).2.2.2 (by decide) (by decide) ?_
                              have q := J167_721 T776 h673  X776
                              rw [show (f8_j199_A_a3_0 p4 p5 hm cl1 cl2 cl3 ch0 ch1 ch2 ch3) = ch0 from by rw [f8_j199_A_a3_0, if_neg hc167_773, if_neg hc191_777]] at q
                              exact q Z673 K673 F674 F675 F676 F677 F678 F679 F680 F681 F682 F683 F684 F685 F686 F687 F688 F689 F690 F691 F692 F693 F694 F695 F696 F697 F698 F699 F700 F701 F702 F703 F704 F705 F706 F707 F708 F709 F710 F711 F712 F713 F714 F715 F716
                        by_cases hc130_823 : (p4 - (f8_c61_b31nr2_length0_1 p4 hm cl1 cl2 cl3 ch0 ch1 ch2 ch3)) < ((f9_c41_b12nr4_length0 p4 hm ch0) - (1 : Int32))
                        · refine Rt.icmpY (pc' := 160) X719 hx (hb hby d8_130) (tlt hc130_823).2.2.1 (by decide) (by decide) ?_
                          refine Rt.iconst (pc' := 161) (v := (0 : Int32)) X719 hx (hb hby d8_160) rfl rfl ?_
                          have q := J130_720 T719   X719
                          rw [show (f8_j161_s0_3 p4 hm cl1 cl2 cl3 ch0 ch1 ch2 ch3) = (0 : Int32) from by rw [f8_j161_s0_3, if_pos hc130_823]] at q
                          exact q
                        · refine Rt.icmpN (pc' := 133) X719 hx (hb hby d8_130) (flt hc130_823).2.2.1 rfl ?_
                          refine Rt.aloadN (pc' := 134) X719 hx (hb hby d8_133) rfl rfl rfl ?_
                          refine Rt.getF (pc' := 137) (v := (.ref m7)) X719 hx hZ hown (host := "") (Or.inl (own_g hw 45 rfl)) F683 (hb hby d8_134) rfl ?_
                          intro T824 X824
                          refine Rt.iload (pc' := 139) X824 hx (hb hby d8_137) rfl rfl ?_
                          refine Rt.iaload (pc' := 140) X824 hx hZ F692 (i := 0) (by decide) (by decide) (v := (.int (f9_c41_b12nr4_lows0 p4 hm ch0))) rfl (hb hby d8_139) rfl ?_
                          refine Rt.aload (pc' := 142) X824 hx (hb hby d8_140) rfl rfl rfl ?_
                          refine Rt.getFR (pc' := 145) (v := (.ref b31nr2)) X824 hx hZ hown (own_g hw 117 rfl) F708 (hb hby d8_142) rfl ?_
                          intro T825 X825
                          refine Rt.getFR (pc' := 148) (v := (.int (f8_c61_b31nr2_lows0_1 p4 hm cl1 cl2 cl3 ch0 ch1 ch2 ch3))) X825 hx hZ hown (own_g hw 116 rfl) F716 (hb hby d8_145) rfl ?_
                          intro T826 X826
                          refine Rt.iadd (pc' := 149) (r := ((f9_c41_b12nr4_lows0 p4 hm ch0) + (f8_c61_b31nr2_lows0_1 p4 hm cl1 cl2 cl3 ch0 ch1 ch2 ch3))) X826 hx (hb hby d8_148) rfl rfl ?_
                          refine Rt.aloadN (pc' := 150) X826 hx (hb hby d8_149) rfl rfl rfl ?_
                          refine Rt.getF (pc' := 153) (v := (.int hm)) X826 hx hZ hown (host := "") (Or.inl (own_g hw 31 rfl)) F676 (hb hby d8_150) rfl ?_
                          intro T827 X827
                          by_cases hc153_828 : hm < ((f9_c41_b12nr4_lows0 p4 hm ch0) + (f8_c61_b31nr2_lows0_1 p4 hm cl1 cl2 cl3 ch0 ch1 ch2 ch3))
                          · refine Rt.icmpY (pc' := 160) X827 hx (hb hby d8_153) (tlt hc153_828).2.2.1 (by decide) (by decide) ?_
                            refine Rt.iconst (pc' := 161) (v := (0 : Int32)) X827 hx (hb hby d8_160) rfl rfl ?_
                            have q := J130_720 T827   X827
                            rw [show (f8_j161_s0_3 p4 hm cl1 cl2 cl3 ch0 ch1 ch2 ch3) = (0 : Int32) from by rw [f8_j161_s0_3, if_neg hc130_823, if_pos hc153_828]] at q
                            exact q
                          · refine Rt.icmpN (pc' := 156) X827 hx (hb hby d8_153) (flt hc153_828).2.2.1 rfl ?_
                            refine Rt.iconst (pc' := 157) (v := (1 : Int32)) X827 hx (hb hby d8_156) rfl rfl ?_
                            refine Rt.goto (pc' := 161) X827 hx (hb hby d8_157) (by decide) (by decide) ?_
                            have q := J130_720 T827   X827
                            rw [show (f8_j161_s0_3 p4 hm cl1 cl2 cl3 ch0 ch1 ch2 ch3) = (1 : Int32) from by rw [f8_j161_s0_3, if_neg hc130_823, if_neg hc153_828]] at q
                            exact q
                      by_cases hc68_829 : cl0 = (0 : Int32)
                      · refine Rt.ifY (pc' := 111) X617 hx (hb hby d8_68) ((if0 _ _).trans (teq hc68_829).1) (by decide) (by decide) ?_
                        have q := J68_673 T617 h617  X617
                        rw [show (f8_j111_A_a2_0 p4 p5 hm cl0 cl1 cl2 cl3 ch1 ch2 ch3) = cl0 from by rw [f8_j111_A_a2_0, if_pos hc68_829]] at q
                        exact q Z665 K664 F634 F635 F636 F637 F638 F639 F640 F641 F642 F643 F644 F645 F646 F647 F648 F649 F650 F651 F652 F618 F626 F627 F656 F657 F658 F659 F660 F661 F662 F663 F619 F620 F666 F622 F623 F624 F625 F667 F668 F669 F670 F671 F672
                      · refine Rt.ifN (pc' := 71) X617 hx (hb hby d8_68) ((if0 _ _).trans (feq hc68_829).1) rfl ?_
                        refine Rt.aloadN (pc' := 72) X617 hx (hb hby d8_71) rfl rfl rfl ?_
                        refine Rt.getF (pc' := 75) (v := (.ref m1)) X617 hx hZ hown (host := "") (Or.inl (own_g hw 33 rfl)) F637 (hb hby d8_72) rfl ?_
                        intro T830 X830
                        refine Rt.iload (pc' := 77) X830 hx (hb hby d8_75) rfl rfl ?_
                        refine Rt.iaload (pc' := 78) X830 hx hZ F646 (i := 0) (by decide) (by decide) (v := (.int (f9_c41_b0_lowOut0 cl0))) rfl (hb hby d8_77) rfl ?_
                        refine Rt.aload (pc' := 80) X830 hx (hb hby d8_78) rfl rfl rfl ?_
                        refine Rt.getFR (pc' := 83) (v := (.int (f8_c61_b19_lowOut0_3 p4 hm cl0 cl1 cl2 cl3 ch1 ch2 ch3))) X830 hx hZ hown (own_g hw 112 rfl) F666 (hb hby d8_80) rfl ?_
                        intro T831 X831
                        refine Rt.iadd (pc' := 84) (r := ((f9_c41_b0_lowOut0 cl0) + (f8_c61_b19_lowOut0_3 p4 hm cl0 cl1 cl2 cl3 ch1 ch2 ch3))) X831 hx (hb hby d8_83) rfl rfl ?_
                        refine Rt.iload (pc' := 86) X831 hx (hb hby d8_84) rfl rfl ?_
                        by_cases hc86_832 : p5 < ((f9_c41_b0_lowOut0 cl0) + (f8_c61_b19_lowOut0_3 p4 hm cl0 cl1 cl2 cl3 ch1 ch2 ch3))
                        · refine Rt.icmpN (pc' := 89) X831 hx (hb hby d8_86) (tlt hc86_832).2.2.2 rfl ?_
                          refine Rt.aloadN (pc' := 90) X831 hx (hb hby d8_89) rfl rfl rfl ?_
                          refine Rt.iload (pc' := 92) X831 hx (hb hby d8_90) rfl rfl ?_
                          refine Rt.aload (pc' := 94) X831 hx (hb hby d8_92) rfl rfl rfl ?_
                          refine Rt.getFR (pc' := 97) (v := (.ref b31nr1)) X831 hx hZ hown (own_g hw 113 rfl) F622 (hb hby d8_94) rfl ?_
                          intro T833 X833
                          refine Rt.iloadN (pc' := 98) X833 hx (hb hby d8_97) rfl rfl ?_
                          refine Rt.iload (pc' := 100) X833 hx (hb hby d8_98) rfl rfl ?_
                          refine Rt.callPr (pc' := 103) X833 hx hZ (y := mt12) hown (own_g hw 129 rfl) (own_g hw 130 rfl) (own_g hw 131 rfl) (own_g hw 21 rfl) (own_g hw 22 rfl) (own_g hw 132 rfl) (by decide) F634 (rm18_0 l Z a0 hw [] a1 b31nr1 p4 p5 m2 m3 m4 hm (f8_c61_b31nr1_runs0_1 p4 hm cl0 cl1 cl2 cl3 ch1 ch2 ch3) (f8_c61_b31nr1_length0_1 p4 hm cl0 cl1 cl2 cl3 ch1 ch2 ch3) (f8_c61_b31nr1_lows0_1 p4 hm cl0 cl1 cl2 cl3 ch1 ch2 ch3) (f9_c41_b12nr3_runs0 p4 hm cl0) (f9_c41_b12nr1_runs0 p4 hm cl0 cl1 ch0) (f9_c41_b12nr3_runs0_1 p4 hm cl0 cl1 cl2 ch0 ch1) (f9_c41_b12nr1_runs0_1 p4 hm cl0 cl1 cl2 cl3 ch0 ch1 ch2) (f9_c41_b12nr3_length0 p4 hm cl0) (f9_c41_b12nr1_length0 p4 hm cl0 cl1 ch0) (f9_c41_b12nr3_length0_1 p4 hm cl0 cl1 cl2 ch0 ch1) (f9_c41_b12nr1_length0_1 p4 hm cl0 cl1 cl2 cl3 ch0 ch1 ch2) (f9_c41_b12nr3_lows0 p4 hm cl0) (f9_c41_b12nr1_lows0 p4 hm cl0 cl1 ch0) (f9_c41_b12nr3_lows0_1 p4 hm cl0 cl1 cl2 ch0 ch1) (f9_c41_b12nr1_lows0_1 p4 hm cl0 cl1 cl2 cl3 ch0 ch1 ch2) h617 n0 F636 F638 F639 F640 F647 F648 F649 F667 F668 F669) (fun _ _ _ q => q.2.1) (W := 0) (by decide) (by decide) (by decide) (by decide) (argsL := [(.int (0 : Int32)), (.ref b31nr1), (.int p4), (.int p5)]) (rest := []) (by rw [hml]; rfl) (lenOf pd_9 rfl) rfl rfl (Nat.le_of_eq rfl) (hb hby d8_100) rfl ?_
                          rintro _ T834 h834 L834 X834 ⟨rfl, N834, e834⟩
                          rw [e834] at X834
                          show Rt _ _ _ _ _ _ _ (T834.setTop (mkF m 103 #[.val (.ref a1), .val (.ref a2), .val (.ref a3), .val (.int p4), .val (.int p5), .val (.int (f8_v7 p4 hm cl0 cl1 cl2 cl3 ch0 ch1 ch2 ch3)), .val (.ref b19), .val (.int (0 : Int32)), .val (.int (f8_j161_s0_2 p4 hm cl0 cl2 cl3 ch0 ch1 ch2 ch3))] [(.int (f18_0 p4 p5 hm (f8_c61_b31nr1_runs0_1 p4 hm cl0 cl1 cl2 cl3 ch1 ch2 ch3) (f8_c61_b31nr1_length0_1 p4 hm cl0 cl1 cl2 cl3 ch1 ch2 ch3) (f8_c61_b31nr1_lows0_1 p4 hm cl0 cl1 cl2 cl3 ch1 ch2 ch3) (f9_c41_b12nr3_runs0 p4 hm cl0) (f9_c41_b12nr3_length0 p4 hm cl0) (f9_c41_b12nr3_lows0 p4 hm cl0)))]))
                          by_cases hc103_835 : (f18_0 p4 p5 hm (f8_c61_b31nr1_runs0_1 p4 hm cl0 cl1 cl2 cl3 ch1 ch2 ch3) (f8_c61_b31nr1_length0_1 p4 hm cl0 cl1 cl2 cl3 ch1 ch2 ch3) (f8_c61_b31nr1_lows0_1 p4 hm cl0 cl1 cl2 cl3 ch1 ch2 ch3) (f9_c41_b12nr3_runs0 p4 hm cl0) (f9_c41_b12nr3_length0 p4 hm cl0) (f9_c41_b12nr3_lows0 p4 hm cl0)) = (0 : Int32)
                          · refine Rt.ifN (pc' := 106) X834 hx (hb hby d8_103) ((if0 _ _).trans (teq hc103_835).2) rfl ?_
                            refine Rt.aloadN (pc' := 107) X834 hx (hb hby d8_106) rfl rfl rfl ?_
                            refine Rt.iload (pc' := 109) X834 hx (hb hby d8_107) rfl rfl ?_
                            refine Rt.iconst (pc' := 110) (v := (0 : Int32)) X834 hx (hb hby d8_109) rfl rfl ?_
                            refine Rt.zastore (pc' := 111) X834 hx hZ F644 (i := 0) (by decide) (by decide) (Nat.le_of_ble_eq_true rfl) (w := (.int (0 : Int32))) (by decide) g_a2 (hb hby d8_110) rfl ?_
                            intro T836 h836 X836 W836 F836
                            have F836 : IA Z h836 a2 .boolean [(.int (0 : Int32)), (.int (f8_j111_A_a2_1 p4 p5 hm cl0 cl1 cl2 cl3 ch0 ch2 ch3)), (.int (f8_j111_A_a2_2 p4 p5 hm cl0 cl1 cl2 cl3 ch0 ch1 ch3)), (.int (f8_j111_A_a2_3 p4 p5 hm cl0 cl1 cl2 cl3 ch0 ch1 ch2))] := F836
                            have F837 := F634.wr W836
                            have F838 := F635.other W836 (Or.inl ne_a1_a2)
                            have F839 := F636.other W836 (Or.inl ne_a1_a2)
                            have F840 := F637.other W836 (Or.inl ne_a1_a2)
                            have F841 := F638.other W836 (Or.inl ne_a1_a2)
                            have F842 := F639.other W836 (Or.inl ne_a1_a2)
                            have F843 := F640.other W836 (Or.inl ne_a1_a2)
                            have F844 := F641.other W836 (Or.inl ne_a1_a2)
                            have F845 := F642.other W836 (Or.inl ne_a1_a2)
                            have F846 := F643.other W836 (Or.inl ne_a1_a2)
                            have F847 := F645.other W836 (Ne.symm ne_a2_a3)
                            have F848 := F646.other W836 (Ne.symm ne_a2_m1)
                            have F849 := F647.other W836 (Ne.symm ne_a2_m2)
                            have F850 := F648.other W836 (Ne.symm ne_a2_m3)
                            have F851 := F649.other W836 (Ne.symm ne_a2_m4)
                            have F852 := F650.other W836 (Ne.symm ne_a2_m5)
                            have F853 := F651.other W836 (Ne.symm ne_a2_m6)
                            have F854 := F652.other W836 (Ne.symm ne_a2_m7)
                            have F855 := F618.wr W836
                            have F856 := F626.wr W836
                            have F857 := F627.wr W836
                            have F858 := F656.wr W836
                            have F859 := F657.wr W836
                            have F860 := F658.other W836 (Or.inl (Ne.symm ne127))
                            have F861 := F659.other W836 (Or.inl (Ne.symm ne127))
                            have F862 := F660.other W836 (Or.inl (Ne.symm ne127))
                            have F863 := F661.other W836 (Or.inl (Ne.symm ne140))
                            have F864 := F662.other W836 (Or.inl (Ne.symm ne140))
                            have F865 := F663.other W836 (Or.inl (Ne.symm ne140))
                            have F866 := F619.other W836 (Or.inl (Ne.symm ne28))
                            have F867 := F620.other W836 (Or.inl (Ne.symm ne28))
                            have F868 := F666.other W836 (Or.inl (Ne.symm ne28))
                            have F869 := F622.other W836 (Or.inl (Ne.symm ne28))
                            have F870 := F623.other W836 (Or.inl (Ne.symm ne28))
                            have F871 := F624.other W836 (Or.inl (Ne.symm ne28))
                            have F872 := F625.other W836 (Or.inl (Ne.symm ne28))
                            have F873 := F667.other W836 (Or.inl (Ne.symm ne101))
                            have F874 := F668.other W836 (Or.inl (Ne.symm ne101))
                            have F875 := F669.other W836 (Or.inl (Ne.symm ne101))
                            have F876 := F670.other W836 (Or.inl (Ne.symm ne114))
                            have F877 := F671.other W836 (Or.inl (Ne.symm ne114))
                            have F878 := F672.other W836 (Or.inl (Ne.symm ne114))
                            have K879 := K664.wr W836 (Or.inl (List.mem_of_getElem? (i := 0) rfl))
                            have Z880 := Nat.le_trans Z665 (Keep.of_wr W836).1
                            have q := J68_673 T836 h836  X836
                            rw [show (f8_j111_A_a2_0 p4 p5 hm cl0 cl1 cl2 cl3 ch1 ch2 ch3) = (0 : Int32) from by rw [f8_j111_A_a2_0, if_neg hc68_829, if_pos hc86_832, if_pos hc103_835]] at q
                            exact q Z880 K879 F837 F838 F839 F840 F841 F842 F843 F844 F845 F846 F836 F847 F848 F849 F850 F851 F852 F853 F854 F855 F856 F857 F858 F859 F860 F861 F862 F863 F864 F865 F866 F867 F868 F869 F870 F871 F872 F873 F874 F875 F876 F877 F878
                          · refine Rt.ifY (pc' := 111) X834 hx (hb hby d8_103) ((if0 _ _).trans (feq hc103_835).2) (by decide) (by decide) ?_
                            have q := J68_673 T834 h617  X834
                            rw [show (f8_j111_A_a2_0 p4 p5 hm cl0 cl1 cl2 cl3 ch1 ch2 ch3) = cl0 from by rw [f8_j111_A_a2_0, if_neg hc68_829, if_pos hc86_832, if_neg hc103_835]] at q
                            exact q Z665 K664 F634 F635 F636 F637 F638 F639 F640 F641 F642 F643 F644 F645 F646 F647 F648 F649 F650 F651 F652 F618 F626 F627 F656 F657 F658 F659 F660 F661 F662 F663 F619 F620 F666 F622 F623 F624 F625 F667 F668 F669 F670 F671 F672
                        · refine Rt.icmpY (pc' := 111) X831 hx (hb hby d8_86) (flt hc86_832).2.2.2 (by decide) (by decide) ?_
                          have q := J68_673 T831 h617  X831
                          rw [show (f8_j111_A_a2_0 p4 p5 hm cl0 cl1 cl2 cl3 ch1 ch2 ch3) = cl0 from by rw [f8_j111_A_a2_0, if_neg hc68_829, if_neg hc86_832]] at q
                          exact q Z665 K664 F634 F635 F636 F637 F638 F639 F640 F641 F642 F643 F644 F645 F646 F647 F648 F649 F650 F651 F652 F618 F626 F627 F656 F657 F658 F659 F660 F661 F662 F663 F619 F620 F666 F622 F623 F624 F625 F667 F668 F669 F670 F671 F672
                    by_cases hc167_881 : ch1 = (0 : Int32)
                    · refine Rt.ifY (pc' := 199) X572 hx (hb hby d8_167) ((if0 _ _).trans (teq hc167_881).1) (by decide) (by decide) ?_
                      have q := J167_573 T572 h525  X572
                      rw [show (f8_j199_A_a3_1 p4 p5 hm cl0 cl2 cl3 ch0 ch1 ch2 ch3) = ch1 from by rw [f8_j199_A_a3_1, if_pos hc167_881]] at q
                      exact q Z525 K525 F526 F527 F528 F529 F530 F531 F532 F533 F534 F535 F536 F537 F538 F539 F540 F541 F542 F543 F544 F545 F546 F547 F548 F549 F550 F551 F552 F553 F554 F555 F556 F557 F558 F559 F560 F561 F562 F563 F564 F565 F566 F567 F568
                    · refine Rt.ifN (pc' := 170) X572 hx (hb hby d8_167) ((if0 _ _).trans (feq hc167_881).1) rfl ?_
                      refine Rt.aloadN (pc' := 171) X572 hx (hb hby d8_170) rfl rfl rfl ?_
                      refine Rt.getF (pc' := 174) (v := (.ref m5)) X572 hx hZ hown (host := "") (Or.inl (own_g hw 41 rfl)) F533 (hb hby d8_171) rfl ?_
                      intro T882 X882
                      refine Rt.iload (pc' := 176) X882 hx (hb hby d8_174) rfl rfl ?_
                      refine Rt.iaload (pc' := 177) X882 hx hZ F542 (i := 1) (by decide) (by decide) (v := (.int (f9_c41_b12nr2_runs0 p4 hm cl0 ch0 ch1))) rfl (hb hby d8_176) rfl ?_
                      refine Rt.aload (pc' := 179) X882 hx (hb hby d8_177) rfl rfl rfl ?_
                      refine Rt.getFR (pc' := 182) (v := (.ref b31nr4)) X882 hx hZ hown (own_g hw 117 rfl) F560 (hb hby d8_179) rfl ?_
                      intro T883 X883
                      refine Rt.getFR (pc' := 185) (v := (.int (f8_c61_b31nr4_runs0_1 p4 hm cl2 cl3 ch1 ch2 ch3))) X883 hx hZ hown (own_g hw 114 rfl) F566 (hb hby d8_182) rfl ?_
                      intro T884 X884
                      refine Rt.iadd (pc' := 186) (r := ((f9_c41_b12nr2_runs0 p4 hm cl0 ch0 ch1) + (f8_c61_b31nr4_runs0_1 p4 hm cl2 cl3 ch1 ch2 ch3))) X884 hx (hb hby d8_185) rfl rfl ?_
                      refine Rt.iload (pc' := 188) X884 hx (hb hby d8_186) rfl rfl ?_
                      refine Rt.isub (pc' := 189) (r := (((f9_c41_b12nr2_runs0 p4 hm cl0 ch0 ch1) + (f8_c61_b31nr4_runs0_1 p4 hm cl2 cl3 ch1 ch2 ch3)) - (f8_j161_s0_2 p4 hm cl0 cl2 cl3 ch0 ch1 ch2 ch3))) X884 hx (hb hby d8_188) rfl rfl ?_
                      refine Rt.iload (pc' := 191) X884 hx (hb hby d8_189) rfl rfl ?_
                      by_cases hc191_885 : p5 < (((f9_c41_b12nr2_runs0 p4 hm cl0 ch0 ch1) + (f8_c61_b31nr4_runs0_1 p4 hm cl2 cl3 ch1 ch2 ch3)) - (f8_j161_s0_2 p4 hm cl0 cl2 cl3 ch0 ch1 ch2 ch3))
                      · refine Rt.icmpN (pc' := 194) X884 hx (hb hby d8_191) (tlt hc191_885).2.2.2 rfl ?_
                        refine Rt.aloadN (pc' := 195) X884 hx (hb hby d8_194) rfl rfl rfl ?_
                        refine Rt.iload (pc' := 197) X884 hx (hb hby d8_195) rfl rfl ?_
                        refine Rt.iconst (pc' := 198) (v := (0 : Int32)) X884 hx (hb hby d8_197) rfl rfl ?_
                        refine Rt.zastore (pc' := 199) X884 hx hZ F537 (i := 1) (by decide) (by decide) (Nat.le_of_ble_eq_true rfl) (w := (.int (0 : Int32))) (by decide) g_a3 (hb hby d8_198) rfl ?_
                        intro T886 h886 X886 W886 F886
                        have F886 : IA Z h886 a3 .boolean [(.int ch0), (.int (0 : Int32)), (.int (f8_j199_A_a3_2 p4 p5 hm cl0 cl1 cl3 ch0 ch1 ch2 ch3)), (.int (f8_j199_A_a3_3 p4 p5 hm cl0 cl1 cl2 ch0 ch1 ch2 ch3))] := F886
                        have F887 := F526.wr W886
                        have F888 := F527.other W886 (Or.inl ne_a1_a3)
                        have F889 := F528.other W886 (Or.inl ne_a1_a3)
                        have F890 := F529.other W886 (Or.inl ne_a1_a3)
                        have F891 := F530.other W886 (Or.inl ne_a1_a3)
                        have F892 := F531.other W886 (Or.inl ne_a1_a3)
                        have F893 := F532.other W886 (Or.inl ne_a1_a3)
                        have F894 := F533.other W886 (Or.inl ne_a1_a3)
                        have F895 := F534.other W886 (Or.inl ne_a1_a3)
                        have F896 := F535.other W886 (Or.inl ne_a1_a3)
                        have F897 := F536.other W886 ne_a2_a3
                        have F898 := F538.other W886 (Ne.symm ne_a3_m1)
                        have F899 := F539.other W886 (Ne.symm ne_a3_m2)
                        have F900 := F540.other W886 (Ne.symm ne_a3_m3)
                        have F901 := F541.other W886 (Ne.symm ne_a3_m4)
                        have F902 := F542.other W886 (Ne.symm ne_a3_m5)
                        have F903 := F543.other W886 (Ne.symm ne_a3_m6)
                        have F904 := F544.other W886 (Ne.symm ne_a3_m7)
                        have F905 := F545.wr W886
                        have F906 := F546.wr W886
                        have F907 := F547.wr W886
                        have F908 := F548.wr W886
                        have F909 := F549.wr W886
                        have F910 := F550.other W886 (Or.inl (Ne.symm ne102))
                        have F911 := F551.other W886 (Or.inl (Ne.symm ne102))
                        have F912 := F552.other W886 (Or.inl (Ne.symm ne102))
                        have F913 := F553.other W886 (Or.inl (Ne.symm ne115))
                        have F914 := F554.other W886 (Or.inl (Ne.symm ne115))
                        have F915 := F555.other W886 (Or.inl (Ne.symm ne115))
                        have F916 := F556.other W886 (Or.inl (Ne.symm ne29))
                        have F917 := F557.other W886 (Or.inl (Ne.symm ne29))
                        have F918 := F558.other W886 (Or.inl (Ne.symm ne29))
                        have F919 := F559.other W886 (Or.inl (Ne.symm ne29))
                        have F920 := F560.other W886 (Or.inl (Ne.symm ne29))
                        have F921 := F561.other W886 (Or.inl (Ne.symm ne29))
                        have F922 := F562.other W886 (Or.inl (Ne.symm ne29))
                        have F923 := F563.other W886 (Or.inl (Ne.symm ne128))
                        have F924 := F564.other W886 (Or.inl (Ne.symm ne128))
                        have F925 := F565.other W886 (Or.inl (Ne.symm ne128))
                        have F926 := F566.other W886 (Or.inl (Ne.symm ne141))
                        have F927 := F567.other W886 (Or.inl (Ne.symm ne141))
                        have F928 := F568.other W886 (Or.inl (Ne.symm ne141))
                        have K929 := K525.wr W886 (Or.inl (List.mem_of_getElem? (i := 1) rfl))
                        have Z930 := Nat.le_trans Z525 (Keep.of_wr W886).1
                        have q := J167_573 T886 h886  X886
                        rw [show (f8_j199_A_a3_1 p4 p5 hm cl0 cl2 cl3 ch0 ch1 ch2 ch3) = (0 : Int32) from by rw [f8_j199_A_a3_1, if_neg hc167_881, if_pos hc191_885]] at q
                        exact q Z930 K929 F887 F888 F889 F890 F891 F892 F893 F894 F895 F896 F897 F886 F898 F899 F900 F901 F902 F903 F904 F905 F906 F907 F908 F909 F910 F911 F912 F913 F914 F915 F916 F917 F918 F919 F920 F921 F922 F923 F924 F925 F926 F927 F928
                      · refine Rt.icmpY (pc' := 199) X884 hx (hb hby d8_191) (flt hc191_885).2.2.2 (by decide) (by decide) ?_
                        have q := J167_573 T884 h525  X884
                        rw [show (f8_j199_A_a3_1 p4 p5 hm cl0 cl2 cl3 ch0 ch1 ch2 ch3) = ch1 from by rw [f8_j199_A_a3_1, if_neg hc167_881, if_neg hc191_885]] at q
                        exact q Z525 K525 F526 F527 F528 F529 F530 F531 F532 F533 F534 F535 F536 F537 F538 F539 F540 F541 F542 F543 F544 F545 F546 F547 F548 F549 F550 F551 F552 F553 F554 F555 F556 F557 F558 F559 F560 F561 F562 F563 F564 F565 F566 F567 F568
                  by_cases hc130_931 : (p4 - (f8_c61_b31nr4_length0_1 p4 hm cl2 cl3 ch1 ch2 ch3)) < ((f9_c41_b12nr2_length0 p4 hm cl0 ch0 ch1) - (1 : Int32))
                  · refine Rt.icmpY (pc' := 160) X571 hx (hb hby d8_130) (tlt hc130_931).2.2.1 (by decide) (by decide) ?_
                    refine Rt.iconst (pc' := 161) (v := (0 : Int32)) X571 hx (hb hby d8_160) rfl rfl ?_
                    have q := J130_572 T571   X571
                    rw [show (f8_j161_s0_2 p4 hm cl0 cl2 cl3 ch0 ch1 ch2 ch3) = (0 : Int32) from by rw [f8_j161_s0_2, if_pos hc130_931]] at q
                    exact q
                  · refine Rt.icmpN (pc' := 133) X571 hx (hb hby d8_130) (flt hc130_931).2.2.1 rfl ?_
                    refine Rt.aloadN (pc' := 134) X571 hx (hb hby d8_133) rfl rfl rfl ?_
                    refine Rt.getF (pc' := 137) (v := (.ref m7)) X571 hx hZ hown (host := "") (Or.inl (own_g hw 45 rfl)) F535 (hb hby d8_134) rfl ?_
                    intro T932 X932
                    refine Rt.iload (pc' := 139) X932 hx (hb hby d8_137) rfl rfl ?_
                    refine Rt.iaload (pc' := 140) X932 hx hZ F544 (i := 1) (by decide) (by decide) (v := (.int (f9_c41_b12nr2_lows0 p4 hm cl0 ch0 ch1))) rfl (hb hby d8_139) rfl ?_
                    refine Rt.aload (pc' := 142) X932 hx (hb hby d8_140) rfl rfl rfl ?_
                    refine Rt.getFR (pc' := 145) (v := (.ref b31nr4)) X932 hx hZ hown (own_g hw 117 rfl) F560 (hb hby d8_142) rfl ?_
                    intro T933 X933
                    refine Rt.getFR (pc' := 148) (v := (.int (f8_c61_b31nr4_lows0_1 p4 hm cl2 cl3 ch1 ch2 ch3))) X933 hx hZ hown (own_g hw 116 rfl) F568 (hb hby d8_145) rfl ?_
                    intro T934 X934
                    refine Rt.iadd (pc' := 149) (r := ((f9_c41_b12nr2_lows0 p4 hm cl0 ch0 ch1) + (f8_c61_b31nr4_lows0_1 p4 hm cl2 cl3 ch1 ch2 ch3))) X934 hx (hb hby d8_148) rfl rfl ?_
                    refine Rt.aloadN (pc' := 150) X934 hx (hb hby d8_149) rfl rfl rfl ?_
                    refine Rt.getF (pc' := 153) (v := (.int hm)) X934 hx hZ hown (host := "") (Or.inl (own_g hw 31 rfl)) F528 (hb hby d8_150) rfl ?_
                    intro T935 X935
                    by_cases hc153_936 : hm < ((f9_c41_b12nr2_lows0 p4 hm cl0 ch0 ch1) + (f8_c61_b31nr4_lows0_1 p4 hm cl2 cl3 ch1 ch2 ch3))
                    · refine Rt.icmpY (pc' := 160) X935 hx (hb hby d8_153) (tlt hc153_936).2.2.1 (by decide) (by decide) ?_
                      refine Rt.iconst (pc' := 161) (v := (0 : Int32)) X935 hx (hb hby d8_160) rfl rfl ?_
                      have q := J130_572 T935   X935
                      rw [show (f8_j161_s0_2 p4 hm cl0 cl2 cl3 ch0 ch1 ch2 ch3) = (0 : Int32) from by rw [f8_j161_s0_2, if_neg hc130_931, if_pos hc153_936]] at q
                      exact q
                    · refine Rt.icmpN (pc' := 156) X935 hx (hb hby d8_153) (flt hc153_936).2.2.1 rfl ?_
                      refine Rt.iconst (pc' := 157) (v := (1 : Int32)) X935 hx (hb hby d8_156) rfl rfl ?_
                      refine Rt.goto (pc' := 161) X935 hx (hb hby d8_157) (by decide) (by decide) ?_
                      have q := J130_572 T935   X935
                      rw [show (f8_j161_s0_2 p4 hm cl0 cl2 cl3 ch0 ch1 ch2 ch3) = (1 : Int32) from by rw [f8_j161_s0_2, if_neg hc130_931, if_neg hc153_936]] at q
                      exact q
                by_cases hc68_937 : cl1 = (0 : Int32)
                · refine Rt.ifY (pc' := 111) X469 hx (hb hby d8_68) ((if0 _ _).trans (teq hc68_937).1) (by decide) (by decide) ?_
                  have q := J68_525 T469 h469  X469
                  rw [show (f8_j111_A_a2_1 p4 p5 hm cl0 cl1 cl2 cl3 ch0 ch2 ch3) = cl1 from by rw [f8_j111_A_a2_1, if_pos hc68_937]] at q
                  exact q Z517 K516 F486 F487 F488 F489 F490 F491 F492 F493 F494 F495 F496 F497 F498 F499 F500 F501 F502 F503 F504 F470 F506 F507 F478 F479 F510 F511 F512 F513 F514 F515 F471 F472 F518 F474 F475 F476 F477 F519 F520 F521 F522 F523 F524
                · refine Rt.ifN (pc' := 71) X469 hx (hb hby d8_68) ((if0 _ _).trans (feq hc68_937).1) rfl ?_
                  refine Rt.aloadN (pc' := 72) X469 hx (hb hby d8_71) rfl rfl rfl ?_
                  refine Rt.getF (pc' := 75) (v := (.ref m1)) X469 hx hZ hown (host := "") (Or.inl (own_g hw 33 rfl)) F489 (hb hby d8_72) rfl ?_
                  intro T938 X938
                  refine Rt.iload (pc' := 77) X938 hx (hb hby d8_75) rfl rfl ?_
                  refine Rt.iaload (pc' := 78) X938 hx hZ F498 (i := 1) (by decide) (by decide) (v := (.int (f9_c41_b0_lowOut0_1 p4 hm cl0 cl1 ch0))) rfl (hb hby d8_77) rfl ?_
                  refine Rt.aload (pc' := 80) X938 hx (hb hby d8_78) rfl rfl rfl ?_
                  refine Rt.getFR (pc' := 83) (v := (.int (f8_c61_b19_lowOut0_2 p4 hm cl1 cl2 cl3 ch2 ch3))) X938 hx hZ hown (own_g hw 112 rfl) F518 (hb hby d8_80) rfl ?_
                  intro T939 X939
                  refine Rt.iadd (pc' := 84) (r := ((f9_c41_b0_lowOut0_1 p4 hm cl0 cl1 ch0) + (f8_c61_b19_lowOut0_2 p4 hm cl1 cl2 cl3 ch2 ch3))) X939 hx (hb hby d8_83) rfl rfl ?_
                  refine Rt.iload (pc' := 86) X939 hx (hb hby d8_84) rfl rfl ?_
                  by_cases hc86_940 : p5 < ((f9_c41_b0_lowOut0_1 p4 hm cl0 cl1 ch0) + (f8_c61_b19_lowOut0_2 p4 hm cl1 cl2 cl3 ch2 ch3))
                  · refine Rt.icmpN (pc' := 89) X939 hx (hb hby d8_86) (tlt hc86_940).2.2.2 rfl ?_
                    refine Rt.aloadN (pc' := 90) X939 hx (hb hby d8_89) rfl rfl rfl ?_
                    refine Rt.iload (pc' := 92) X939 hx (hb hby d8_90) rfl rfl ?_
                    refine Rt.aload (pc' := 94) X939 hx (hb hby d8_92) rfl rfl rfl ?_
                    refine Rt.getFR (pc' := 97) (v := (.ref b31nr3)) X939 hx hZ hown (own_g hw 113 rfl) F474 (hb hby d8_94) rfl ?_
                    intro T941 X941
                    refine Rt.iloadN (pc' := 98) X941 hx (hb hby d8_97) rfl rfl ?_
                    refine Rt.iload (pc' := 100) X941 hx (hb hby d8_98) rfl rfl ?_
                    refine Rt.callPr (pc' := 103) X941 hx hZ (y := mt12) hown (own_g hw 129 rfl) (own_g hw 130 rfl) (own_g hw 131 rfl) (own_g hw 21 rfl) (own_g hw 22 rfl) (own_g hw 132 rfl) (by decide) F486 (rm18_1 l Z a0 hw [] a1 b31nr3 p4 p5 m2 m3 m4 hm (f8_c61_b31nr3_runs0_1 p4 hm cl1 cl2 cl3 ch2 ch3) (f8_c61_b31nr3_length0_1 p4 hm cl1 cl2 cl3 ch2 ch3) (f8_c61_b31nr3_lows0_1 p4 hm cl1 cl2 cl3 ch2 ch3) (f9_c41_b12nr3_runs0 p4 hm cl0) (f9_c41_b12nr1_runs0 p4 hm cl0 cl1 ch0) (f9_c41_b12nr3_runs0_1 p4 hm cl0 cl1 cl2 ch0 ch1) (f9_c41_b12nr1_runs0_1 p4 hm cl0 cl1 cl2 cl3 ch0 ch1 ch2) (f9_c41_b12nr3_length0 p4 hm cl0) (f9_c41_b12nr1_length0 p4 hm cl0 cl1 ch0) (f9_c41_b12nr3_length0_1 p4 hm cl0 cl1 cl2 ch0 ch1) (f9_c41_b12nr1_length0_1 p4 hm cl0 cl1 cl2 cl3 ch0 ch1 ch2) (f9_c41_b12nr3_lows0 p4 hm cl0) (f9_c41_b12nr1_lows0 p4 hm cl0 cl1 ch0) (f9_c41_b12nr3_lows0_1 p4 hm cl0 cl1 cl2 ch0 ch1) (f9_c41_b12nr1_lows0_1 p4 hm cl0 cl1 cl2 cl3 ch0 ch1 ch2) h469 n0 F488 F490 F491 F492 F499 F500 F501 F519 F520 F521) (fun _ _ _ q => q.2.1) (W := 0) (by decide) (by decide) (by decide) (by decide) (argsL := [(.int (1 : Int32)), (.ref b31nr3), (.int p4), (.int p5)]) (rest := []) (by rw [hml]; rfl) (lenOf pd_9 rfl) rfl rfl (Nat.le_of_eq rfl) (hb hby d8_100) rfl ?_
                    rintro _ T942 h942 L942 X942 ⟨rfl, N942, e942⟩
                    rw [e942] at X942
                    show Rt _ _ _ _ _ _ _ (T942.setTop (mkF m 103 #[.val (.ref a1), .val (.ref a2), .val (.ref a3), .val (.int p4), .val (.int p5), .val (.int (f8_v7 p4 hm cl0 cl1 cl2 cl3 ch0 ch1 ch2 ch3)), .val (.ref b19), .val (.int (1 : Int32)), .val (.int (f8_j161_s0_1 p4 hm cl0 cl1 cl3 ch0 ch1 ch2 ch3))] [(.int (f18_1 p4 p5 hm (f8_c61_b31nr3_runs0_1 p4 hm cl1 cl2 cl3 ch2 ch3) (f8_c61_b31nr3_length0_1 p4 hm cl1 cl2 cl3 ch2 ch3) (f8_c61_b31nr3_lows0_1 p4 hm cl1 cl2 cl3 ch2 ch3) (f9_c41_b12nr1_runs0 p4 hm cl0 cl1 ch0) (f9_c41_b12nr1_length0 p4 hm cl0 cl1 ch0) (f9_c41_b12nr1_lows0 p4 hm cl0 cl1 ch0)))]))
                    by_cases hc103_943 : (f18_1 p4 p5 hm (f8_c61_b31nr3_runs0_1 p4 hm cl1 cl2 cl3 ch2 ch3) (f8_c61_b31nr3_length0_1 p4 hm cl1 cl2 cl3 ch2 ch3) (f8_c61_b31nr3_lows0_1 p4 hm cl1 cl2 cl3 ch2 ch3) (f9_c41_b12nr1_runs0 p4 hm cl0 cl1 ch0) (f9_c41_b12nr1_length0 p4 hm cl0 cl1 ch0) (f9_c41_b12nr1_lows0 p4 hm cl0 cl1 ch0)) = (0 : Int32)
                    · refine Rt.ifN (pc' := 106) X942 hx (hb hby d8_103) ((if0 _ _).trans (teq hc103_943).2) rfl ?_
                      refine Rt.aloadN (pc' := 107) X942 hx (hb hby d8_106) rfl rfl rfl ?_
                      refine Rt.iload (pc' := 109) X942 hx (hb hby d8_107) rfl rfl ?_
                      refine Rt.iconst (pc' := 110) (v := (0 : Int32)) X942 hx (hb hby d8_109) rfl rfl ?_
                      refine Rt.zastore (pc' := 111) X942 hx hZ F496 (i := 1) (by decide) (by decide) (Nat.le_of_ble_eq_true rfl) (w := (.int (0 : Int32))) (by decide) g_a2 (hb hby d8_110) rfl ?_
                      intro T944 h944 X944 W944 F944
                      have F944 : IA Z h944 a2 .boolean [(.int cl0), (.int (0 : Int32)), (.int (f8_j111_A_a2_2 p4 p5 hm cl0 cl1 cl2 cl3 ch0 ch1 ch3)), (.int (f8_j111_A_a2_3 p4 p5 hm cl0 cl1 cl2 cl3 ch0 ch1 ch2))] := F944
                      have F945 := F486.wr W944
                      have F946 := F487.other W944 (Or.inl ne_a1_a2)
                      have F947 := F488.other W944 (Or.inl ne_a1_a2)
                      have F948 := F489.other W944 (Or.inl ne_a1_a2)
                      have F949 := F490.other W944 (Or.inl ne_a1_a2)
                      have F950 := F491.other W944 (Or.inl ne_a1_a2)
                      have F951 := F492.other W944 (Or.inl ne_a1_a2)
                      have F952 := F493.other W944 (Or.inl ne_a1_a2)
                      have F953 := F494.other W944 (Or.inl ne_a1_a2)
                      have F954 := F495.other W944 (Or.inl ne_a1_a2)
                      have F955 := F497.other W944 (Ne.symm ne_a2_a3)
                      have F956 := F498.other W944 (Ne.symm ne_a2_m1)
                      have F957 := F499.other W944 (Ne.symm ne_a2_m2)
                      have F958 := F500.other W944 (Ne.symm ne_a2_m3)
                      have F959 := F501.other W944 (Ne.symm ne_a2_m4)
                      have F960 := F502.other W944 (Ne.symm ne_a2_m5)
                      have F961 := F503.other W944 (Ne.symm ne_a2_m6)
                      have F962 := F504.other W944 (Ne.symm ne_a2_m7)
                      have F963 := F470.wr W944
                      have F964 := F506.wr W944
                      have F965 := F507.wr W944
                      have F966 := F478.wr W944
                      have F967 := F479.wr W944
                      have F968 := F510.other W944 (Or.inl (Ne.symm ne101))
                      have F969 := F511.other W944 (Or.inl (Ne.symm ne101))
                      have F970 := F512.other W944 (Or.inl (Ne.symm ne101))
                      have F971 := F513.other W944 (Or.inl (Ne.symm ne114))
                      have F972 := F514.other W944 (Or.inl (Ne.symm ne114))
                      have F973 := F515.other W944 (Or.inl (Ne.symm ne114))
                      have F974 := F471.other W944 (Or.inl (Ne.symm ne28))
                      have F975 := F472.other W944 (Or.inl (Ne.symm ne28))
                      have F976 := F518.other W944 (Or.inl (Ne.symm ne28))
                      have F977 := F474.other W944 (Or.inl (Ne.symm ne28))
                      have F978 := F475.other W944 (Or.inl (Ne.symm ne28))
                      have F979 := F476.other W944 (Or.inl (Ne.symm ne28))
                      have F980 := F477.other W944 (Or.inl (Ne.symm ne28))
                      have F981 := F519.other W944 (Or.inl (Ne.symm ne127))
                      have F982 := F520.other W944 (Or.inl (Ne.symm ne127))
                      have F983 := F521.other W944 (Or.inl (Ne.symm ne127))
                      have F984 := F522.other W944 (Or.inl (Ne.symm ne140))
                      have F985 := F523.other W944 (Or.inl (Ne.symm ne140))
                      have F986 := F524.other W944 (Or.inl (Ne.symm ne140))
                      have K987 := K516.wr W944 (Or.inl (List.mem_of_getElem? (i := 0) rfl))
                      have Z988 := Nat.le_trans Z517 (Keep.of_wr W944).1
                      have q := J68_525 T944 h944  X944
                      rw [show (f8_j111_A_a2_1 p4 p5 hm cl0 cl1 cl2 cl3 ch0 ch2 ch3) = (0 : Int32) from by rw [f8_j111_A_a2_1, if_neg hc68_937, if_pos hc86_940, if_pos hc103_943]] at q
                      exact q Z988 K987 F945 F946 F947 F948 F949 F950 F951 F952 F953 F954 F944 F955 F956 F957 F958 F959 F960 F961 F962 F963 F964 F965 F966 F967 F968 F969 F970 F971 F972 F973 F974 F975 F976 F977 F978 F979 F980 F981 F982 F983 F984 F985 F986
                    · refine Rt.ifY (pc' := 111) X942 hx (hb hby d8_103) ((if0 _ _).trans (feq hc103_943).2) (by decide) (by decide) ?_
                      have q := J68_525 T942 h469  X942
                      rw [show (f8_j111_A_a2_1 p4 p5 hm cl0 cl1 cl2 cl3 ch0 ch2 ch3) = cl1 from by rw [f8_j111_A_a2_1, if_neg hc68_937, if_pos hc86_940, if_neg hc103_943]] at q
                      exact q Z517 K516 F486 F487 F488 F489 F490 F491 F492 F493 F494 F495 F496 F497 F498 F499 F500 F501 F502 F503 F504 F470 F506 F507 F478 F479 F510 F511 F512 F513 F514 F515 F471 F472 F518 F474 F475 F476 F477 F519 F520 F521 F522 F523 F524
                  · refine Rt.icmpY (pc' := 111) X939 hx (hb hby d8_86) (flt hc86_940).2.2.2 (by decide) (by decide) ?_
                    have q := J68_525 T939 h469  X939
                    rw [show (f8_j111_A_a2_1 p4 p5 hm cl0 cl1 cl2 cl3 ch0 ch2 ch3) = cl1 from by rw [f8_j111_A_a2_1, if_neg hc68_937, if_neg hc86_940]] at q
                    exact q Z517 K516 F486 F487 F488 F489 F490 F491 F492 F493 F494 F495 F496 F497 F498 F499 F500 F501 F502 F503 F504 F470 F506 F507 F478 F479 F510 F511 F512 F513 F514 F515 F471 F472 F518 F474 F475 F476 F477 F519 F520 F521 F522 F523 F524
              by_cases hc167_989 : ch2 = (0 : Int32)
              · refine Rt.ifY (pc' := 199) X424 hx (hb hby d8_167) ((if0 _ _).trans (teq hc167_989).1) (by decide) (by decide) ?_
                have q := J167_425 T424 h377  X424
                rw [show (f8_j199_A_a3_2 p4 p5 hm cl0 cl1 cl3 ch0 ch1 ch2 ch3) = ch2 from by rw [f8_j199_A_a3_2, if_pos hc167_989]] at q
                exact q Z377 K377 F378 F379 F380 F381 F382 F383 F384 F385 F386 F387 F388 F389 F390 F391 F392 F393 F394 F395 F396 F397 F398 F399 F400 F401 F402 F403 F404 F405 F406 F407 F408 F409 F410 F411 F412 F413 F414 F415 F416 F417 F418 F419 F420
              · refine Rt.ifN (pc' := 170) X424 hx (hb hby d8_167) ((if0 _ _).trans (feq hc167_989).1) rfl ?_
                refine Rt.aloadN (pc' := 171) X424 hx (hb hby d8_170) rfl rfl rfl ?_
                refine Rt.getF (pc' := 174) (v := (.ref m5)) X424 hx hZ hown (host := "") (Or.inl (own_g hw 41 rfl)) F385 (hb hby d8_171) rfl ?_
                intro T990 X990
                refine Rt.iload (pc' := 176) X990 hx (hb hby d8_174) rfl rfl ?_
                refine Rt.iaload (pc' := 177) X990 hx hZ F394 (i := 2) (by decide) (by decide) (v := (.int (f9_c41_b12nr4_runs0_1 p4 hm cl0 cl1 ch0 ch1 ch2))) rfl (hb hby d8_176) rfl ?_
                refine Rt.aload (pc' := 179) X990 hx (hb hby d8_177) rfl rfl rfl ?_
                refine Rt.getFR (pc' := 182) (v := (.ref b31nr2)) X990 hx hZ hown (own_g hw 117 rfl) F412 (hb hby d8_179) rfl ?_
                intro T991 X991
                refine Rt.getFR (pc' := 185) (v := (.int (f8_c61_b31nr2_runs0 p4 hm cl3 ch2 ch3))) X991 hx hZ hown (own_g hw 114 rfl) F418 (hb hby d8_182) rfl ?_
                intro T992 X992
                refine Rt.iadd (pc' := 186) (r := ((f9_c41_b12nr4_runs0_1 p4 hm cl0 cl1 ch0 ch1 ch2) + (f8_c61_b31nr2_runs0 p4 hm cl3 ch2 ch3))) X992 hx (hb hby d8_185) rfl rfl ?_
                refine Rt.iload (pc' := 188) X992 hx (hb hby d8_186) rfl rfl ?_
                refine Rt.isub (pc' := 189) (r := (((f9_c41_b12nr4_runs0_1 p4 hm cl0 cl1 ch0 ch1 ch2) + (f8_c61_b31nr2_runs0 p4 hm cl3 ch2 ch3)) - (f8_j161_s0_1 p4 hm cl0 cl1 cl3 ch0 ch1 ch2 ch3))) X992 hx (hb hby d8_188) rfl rfl ?_
                refine Rt.iload (pc' := 191) X992 hx (hb hby d8_189) rfl rfl ?_
                by_cases hc191_993 : p5 < (((f9_c41_b12nr4_runs0_1 p4 hm cl0 cl1 ch0 ch1 ch2) + (f8_c61_b31nr2_runs0 p4 hm cl3 ch2 ch3)) - (f8_j161_s0_1 p4 hm cl0 cl1 cl3 ch0 ch1 ch2 ch3))
                · refine Rt.icmpN (pc' := 194) X992 hx (hb hby d8_191) (tlt hc191_993).2.2.2 rfl ?_
                  refine Rt.aloadN (pc' := 195) X992 hx (hb hby d8_194) rfl rfl rfl ?_
                  refine Rt.iload (pc' := 197) X992 hx (hb hby d8_195) rfl rfl ?_
                  refine Rt.iconst (pc' := 198) (v := (0 : Int32)) X992 hx (hb hby d8_197) rfl rfl ?_
                  refine Rt.zastore (pc' := 199) X992 hx hZ F389 (i := 2) (by decide) (by decide) (Nat.le_of_ble_eq_true rfl) (w := (.int (0 : Int32))) (by decide) g_a3 (hb hby d8_198) rfl ?_
                  intro T994 h994 X994 W994 F994
                  have F994 : IA Z h994 a3 .boolean [(.int ch0), (.int ch1), (.int (0 : Int32)), (.int (f8_j199_A_a3_3 p4 p5 hm cl0 cl1 cl2 ch0 ch1 ch2 ch3))] := F994
                  have F995 := F378.wr W994
                  have F996 := F379.other W994 (Or.inl ne_a1_a3)
                  have F997 := F380.other W994 (Or.inl ne_a1_a3)
                  have F998 := F381.other W994 (Or.inl ne_a1_a3)
                  have F999 := F382.other W994 (Or.inl ne_a1_a3)
                  have F1000 := F383.other W994 (Or.inl ne_a1_a3)
                  have F1001 := F384.other W994 (Or.inl ne_a1_a3)
                  have F1002 := F385.other W994 (Or.inl ne_a1_a3)
                  have F1003 := F386.other W994 (Or.inl ne_a1_a3)
                  have F1004 := F387.other W994 (Or.inl ne_a1_a3)
                  have F1005 := F388.other W994 ne_a2_a3
                  have F1006 := F390.other W994 (Ne.symm ne_a3_m1)
                  have F1007 := F391.other W994 (Ne.symm ne_a3_m2)
                  have F1008 := F392.other W994 (Ne.symm ne_a3_m3)
                  have F1009 := F393.other W994 (Ne.symm ne_a3_m4)
                  have F1010 := F394.other W994 (Ne.symm ne_a3_m5)
                  have F1011 := F395.other W994 (Ne.symm ne_a3_m6)
                  have F1012 := F396.other W994 (Ne.symm ne_a3_m7)
                  have F1013 := F397.wr W994
                  have F1014 := F398.wr W994
                  have F1015 := F399.wr W994
                  have F1016 := F400.wr W994
                  have F1017 := F401.wr W994
                  have F1018 := F402.other W994 (Or.inl (Ne.symm ne128))
                  have F1019 := F403.other W994 (Or.inl (Ne.symm ne128))
                  have F1020 := F404.other W994 (Or.inl (Ne.symm ne128))
                  have F1021 := F405.other W994 (Or.inl (Ne.symm ne141))
                  have F1022 := F406.other W994 (Or.inl (Ne.symm ne141))
                  have F1023 := F407.other W994 (Or.inl (Ne.symm ne141))
                  have F1024 := F408.other W994 (Or.inl (Ne.symm ne29))
                  have F1025 := F409.other W994 (Or.inl (Ne.symm ne29))
                  have F1026 := F410.other W994 (Or.inl (Ne.symm ne29))
                  have F1027 := F411.other W994 (Or.inl (Ne.symm ne29))
                  have F1028 := F412.other W994 (Or.inl (Ne.symm ne29))
                  have F1029 := F413.other W994 (Or.inl (Ne.symm ne29))
                  have F1030 := F414.other W994 (Or.inl (Ne.symm ne29))
                  have F1031 := F415.other W994 (Or.inl (Ne.symm ne102))
                  have F1032 := F416.other W994 (Or.inl (Ne.symm ne102))
                  have F1033 := F417.other W994 (Or.inl (Ne.symm ne102))
                  have F1034 := F418.other W994 (Or.inl (Ne.symm ne115))
                  have F1035 := F419.other W994 (Or.inl (Ne.symm ne115))
                  have F1036 := F420.other W994 (Or.inl (Ne.symm ne115))
                  have K1037 := K377.wr W994 (Or.inl (List.mem_of_getElem? (i := 1) rfl))
                  have Z1038 := Nat.le_trans Z377 (Keep.of_wr W994).1
                  have q := J167_425 T994 h994  X994
                  rw [show (f8_j199_A_a3_2 p4 p5 hm cl0 cl1 cl3 ch0 ch1 ch2 ch3) = (0 : Int32) from by rw [f8_j199_A_a3_2, if_neg hc167_989, if_pos hc191_993]] at q
                  exact q Z1038 K1037 F995 F996 F997 F998 F999 F1000 F1001 F1002 F1003 F1004 F1005 F994 F1006 F1007 F1008 F1009 F1010 F1011 F1012 F1013 F1014 F1015 F1016 F1017 F1018 F1019 F1020 F1021 F1022 F1023 F1024 F1025 F1026 F1027 F1028 F1029 F1030 F1031 F1032 F1033 F1034 F1035 F1036
                · refine Rt.icmpY (pc' := 199) X992 hx (hb hby d8_191) (flt hc191_993).2.2.2 (by decide) (by decide) ?_
                  have q := J167_425 T992 h377  X992
                  rw [show (f8_j199_A_a3_2 p4 p5 hm cl0 cl1 cl3 ch0 ch1 ch2 ch3) = ch2 from by rw [f8_j199_A_a3_2, if_neg hc167_989, if_neg hc191_993]] at q
                  exact q Z377 K377 F378 F379 F380 F381 F382 F383 F384 F385 F386 F387 F388 F389 F390 F391 F392 F393 F394 F395 F396 F397 F398 F399 F400 F401 F402 F403 F404 F405 F406 F407 F408 F409 F410 F411 F412 F413 F414 F415 F416 F417 F418 F419 F420
            by_cases hc130_1039 : (p4 - (f8_c61_b31nr2_length0 p4 hm cl3 ch2 ch3)) < ((f9_c41_b12nr4_length0_1 p4 hm cl0 cl1 ch0 ch1 ch2) - (1 : Int32))
            · refine Rt.icmpY (pc' := 160) X423 hx (hb hby d8_130) (tlt hc130_1039).2.2.1 (by decide) (by decide) ?_
              refine Rt.iconst (pc' := 161) (v := (0 : Int32)) X423 hx (hb hby d8_160) rfl rfl ?_
              have q := J130_424 T423   X423
              rw [show (f8_j161_s0_1 p4 hm cl0 cl1 cl3 ch0 ch1 ch2 ch3) = (0 : Int32) from by rw [f8_j161_s0_1, if_pos hc130_1039]] at q
              exact q
            · refine Rt.icmpN (pc' := 133) X423 hx (hb hby d8_130) (flt hc130_1039).2.2.1 rfl ?_
              refine Rt.aloadN (pc' := 134) X423 hx (hb hby d8_133) rfl rfl rfl ?_
              refine Rt.getF (pc' := 137) (v := (.ref m7)) X423 hx hZ hown (host := "") (Or.inl (own_g hw 45 rfl)) F387 (hb hby d8_134) rfl ?_
              intro T1040 X1040
              refine Rt.iload (pc' := 139) X1040 hx (hb hby d8_137) rfl rfl ?_
              refine Rt.iaload (pc' := 140) X1040 hx hZ F396 (i := 2) (by decide) (by decide) (v := (.int (f9_c41_b12nr4_lows0_1 p4 hm cl0 cl1 ch0 ch1 ch2))) rfl (hb hby d8_139) rfl ?_
              refine Rt.aload (pc' := 142) X1040 hx (hb hby d8_140) rfl rfl rfl ?_
              refine Rt.getFR (pc' := 145) (v := (.ref b31nr2)) X1040 hx hZ hown (own_g hw 117 rfl) F412 (hb hby d8_142) rfl ?_
              intro T1041 X1041
              refine Rt.getFR (pc' := 148) (v := (.int (f8_c61_b31nr2_lows0 p4 hm cl3 ch2 ch3))) X1041 hx hZ hown (own_g hw 116 rfl) F420 (hb hby d8_145) rfl ?_
              intro T1042 X1042
              refine Rt.iadd (pc' := 149) (r := ((f9_c41_b12nr4_lows0_1 p4 hm cl0 cl1 ch0 ch1 ch2) + (f8_c61_b31nr2_lows0 p4 hm cl3 ch2 ch3))) X1042 hx (hb hby d8_148) rfl rfl ?_
              refine Rt.aloadN (pc' := 150) X1042 hx (hb hby d8_149) rfl rfl rfl ?_
              refine Rt.getF (pc' := 153) (v := (.int hm)) X1042 hx hZ hown (host := "") (Or.inl (own_g hw 31 rfl)) F380 (hb hby d8_150) rfl ?_
              intro T1043 X1043
              by_cases hc153_1044 : hm < ((f9_c41_b12nr4_lows0_1 p4 hm cl0 cl1 ch0 ch1 ch2) + (f8_c61_b31nr2_lows0 p4 hm cl3 ch2 ch3))
              · refine Rt.icmpY (pc' := 160) X1043 hx (hb hby d8_153) (tlt hc153_1044).2.2.1 (by decide) (by decide) ?_
                refine Rt.iconst (pc' := 161) (v := (0 : Int32)) X1043 hx (hb hby d8_160) rfl rfl ?_
                have q := J130_424 T1043   X1043
                rw [show (f8_j161_s0_1 p4 hm cl0 cl1 cl3 ch0 ch1 ch2 ch3) = (0 : Int32) from by rw [f8_j161_s0_1, if_neg hc130_1039, if_pos hc153_1044]] at q
                exact q
              · refine Rt.icmpN (pc' := 156) X1043 hx (hb hby d8_153) (flt hc153_1044).2.2.1 rfl ?_
                refine Rt.iconst (pc' := 157) (v := (1 : Int32)) X1043 hx (hb hby d8_156) rfl rfl ?_
                refine Rt.goto (pc' := 161) X1043 hx (hb hby d8_157) (by decide) (by decide) ?_
                have q := J130_424 T1043   X1043
                rw [show (f8_j161_s0_1 p4 hm cl0 cl1 cl3 ch0 ch1 ch2 ch3) = (1 : Int32) from by rw [f8_j161_s0_1, if_neg hc130_1039, if_neg hc153_1044]] at q
                exact q
          by_cases hc68_1045 : cl2 = (0 : Int32)
          · refine Rt.ifY (pc' := 111) X321 hx (hb hby d8_68) ((if0 _ _).trans (teq hc68_1045).1) (by decide) (by decide) ?_
            have q := J68_377 T321 h321  X321
            rw [show (f8_j111_A_a2_2 p4 p5 hm cl0 cl1 cl2 cl3 ch0 ch1 ch3) = cl2 from by rw [f8_j111_A_a2_2, if_pos hc68_1045]] at q
            exact q Z369 K368 F338 F339 F340 F341 F342 F343 F344 F345 F346 F347 F348 F349 F350 F351 F352 F353 F354 F355 F356 F322 F330 F331 F360 F361 F362 F363 F364 F365 F366 F367 F323 F324 F370 F326 F327 F328 F329 F371 F372 F373 F374 F375 F376
          · refine Rt.ifN (pc' := 71) X321 hx (hb hby d8_68) ((if0 _ _).trans (feq hc68_1045).1) rfl ?_
            refine Rt.aloadN (pc' := 72) X321 hx (hb hby d8_71) rfl rfl rfl ?_
            refine Rt.getF (pc' := 75) (v := (.ref m1)) X321 hx hZ hown (host := "") (Or.inl (own_g hw 33 rfl)) F341 (hb hby d8_72) rfl ?_
            intro T1046 X1046
            refine Rt.iload (pc' := 77) X1046 hx (hb hby d8_75) rfl rfl ?_
            refine Rt.iaload (pc' := 78) X1046 hx hZ F350 (i := 2) (by decide) (by decide) (v := (.int (f9_c41_b0_lowOut0_2 p4 hm cl0 cl1 cl2 ch0 ch1))) rfl (hb hby d8_77) rfl ?_
            refine Rt.aload (pc' := 80) X1046 hx (hb hby d8_78) rfl rfl rfl ?_
            refine Rt.getFR (pc' := 83) (v := (.int (f8_c61_b19_lowOut0_1 p4 hm cl2 cl3 ch3))) X1046 hx hZ hown (own_g hw 112 rfl) F370 (hb hby d8_80) rfl ?_
            intro T1047 X1047
            refine Rt.iadd (pc' := 84) (r := ((f9_c41_b0_lowOut0_2 p4 hm cl0 cl1 cl2 ch0 ch1) + (f8_c61_b19_lowOut0_1 p4 hm cl2 cl3 ch3))) X1047 hx (hb hby d8_83) rfl rfl ?_
            refine Rt.iload (pc' := 86) X1047 hx (hb hby d8_84) rfl rfl ?_
            by_cases hc86_1048 : p5 < ((f9_c41_b0_lowOut0_2 p4 hm cl0 cl1 cl2 ch0 ch1) + (f8_c61_b19_lowOut0_1 p4 hm cl2 cl3 ch3))
            · refine Rt.icmpN (pc' := 89) X1047 hx (hb hby d8_86) (tlt hc86_1048).2.2.2 rfl ?_
              refine Rt.aloadN (pc' := 90) X1047 hx (hb hby d8_89) rfl rfl rfl ?_
              refine Rt.iload (pc' := 92) X1047 hx (hb hby d8_90) rfl rfl ?_
              refine Rt.aload (pc' := 94) X1047 hx (hb hby d8_92) rfl rfl rfl ?_
              refine Rt.getFR (pc' := 97) (v := (.ref b31nr1)) X1047 hx hZ hown (own_g hw 113 rfl) F326 (hb hby d8_94) rfl ?_
              intro T1049 X1049
              refine Rt.iloadN (pc' := 98) X1049 hx (hb hby d8_97) rfl rfl ?_
              refine Rt.iload (pc' := 100) X1049 hx (hb hby d8_98) rfl rfl ?_
              refine Rt.callPr (pc' := 103) X1049 hx hZ (y := mt12) hown (own_g hw 129 rfl) (own_g hw 130 rfl) (own_g hw 131 rfl) (own_g hw 21 rfl) (own_g hw 22 rfl) (own_g hw 132 rfl) (by decide) F338 (rm18_2 l Z a0 hw [] a1 b31nr1 p4 p5 m2 m3 m4 hm (f8_c61_b31nr1_runs0 p4 hm cl2 cl3 ch3) (f8_c61_b31nr1_length0 p4 hm cl2 cl3 ch3) (f8_c61_b31nr1_lows0 p4 hm cl2 cl3 ch3) (f9_c41_b12nr3_runs0 p4 hm cl0) (f9_c41_b12nr1_runs0 p4 hm cl0 cl1 ch0) (f9_c41_b12nr3_runs0_1 p4 hm cl0 cl1 cl2 ch0 ch1) (f9_c41_b12nr1_runs0_1 p4 hm cl0 cl1 cl2 cl3 ch0 ch1 ch2) (f9_c41_b12nr3_length0 p4 hm cl0) (f9_c41_b12nr1_length0 p4 hm cl0 cl1 ch0) (f9_c41_b12nr3_length0_1 p4 hm cl0 cl1 cl2 ch0 ch1) (f9_c41_b12nr1_length0_1 p4 hm cl0 cl1 cl2 cl3 ch0 ch1 ch2) (f9_c41_b12nr3_lows0 p4 hm cl0) (f9_c41_b12nr1_lows0 p4 hm cl0 cl1 ch0) (f9_c41_b12nr3_lows0_1 p4 hm cl0 cl1 cl2 ch0 ch1) (f9_c41_b12nr1_lows0_1 p4 hm cl0 cl1 cl2 cl3 ch0 ch1 ch2) h321 n0 F340 F342 F343 F344 F351 F352 F353 F371 F372 F373) (fun _ _ _ q => q.2.1) (W := 0) (by decide) (by decide) (by decide) (by decide) (argsL := [(.int (2 : Int32)), (.ref b31nr1), (.int p4), (.int p5)]) (rest := []) (by rw [hml]; rfl) (lenOf pd_9 rfl) rfl rfl (Nat.le_of_eq rfl) (hb hby d8_100) rfl ?_
              rintro _ T1050 h1050 L1050 X1050 ⟨rfl, N1050, e1050⟩
              rw [e1050] at X1050
              show Rt _ _ _ _ _ _ _ (T1050.setTop (mkF m 103 #[.val (.ref a1), .val (.ref a2), .val (.ref a3), .val (.int p4), .val (.int p5), .val (.int (f8_v7 p4 hm cl0 cl1 cl2 cl3 ch0 ch1 ch2 ch3)), .val (.ref b19), .val (.int (2 : Int32)), .val (.int (f8_j161_s0 p4 hm cl0 cl1 cl2 ch0 ch1 ch2 ch3))] [(.int (f18_2 p4 p5 hm (f8_c61_b31nr1_runs0 p4 hm cl2 cl3 ch3) (f8_c61_b31nr1_length0 p4 hm cl2 cl3 ch3) (f8_c61_b31nr1_lows0 p4 hm cl2 cl3 ch3) (f9_c41_b12nr3_runs0_1 p4 hm cl0 cl1 cl2 ch0 ch1) (f9_c41_b12nr3_length0_1 p4 hm cl0 cl1 cl2 ch0 ch1) (f9_c41_b12nr3_lows0_1 p4 hm cl0 cl1 cl2 ch0 ch1)))]))
              by_cases hc103_1051 : (f18_2 p4 p5 hm (f8_c61_b31nr1_runs0 p4 hm cl2 cl3 ch3) (f8_c61_b31nr1_length0 p4 hm cl2 cl3 ch3) (f8_c61_b31nr1_lows0 p4 hm cl2 cl3 ch3) (f9_c41_b12nr3_runs0_1 p4 hm cl0 cl1 cl2 ch0 ch1) (f9_c41_b12nr3_length0_1 p4 hm cl0 cl1 cl2 ch0 ch1) (f9_c41_b12nr3_lows0_1 p4 hm cl0 cl1 cl2 ch0 ch1)) = (0 : Int32)
              · refine Rt.ifN (pc' := 106) X1050 hx (hb hby d8_103) ((if0 _ _).trans (teq hc103_1051).2) rfl ?_
                refine Rt.aloadN (pc' := 107) X1050 hx (hb hby d8_106) rfl rfl rfl ?_
                refine Rt.iload (pc' := 109) X1050 hx (hb hby d8_107) rfl rfl ?_
                refine Rt.iconst (pc' := 110) (v := (0 : Int32)) X1050 hx (hb hby d8_109) rfl rfl ?_
                refine Rt.zastore (pc' := 111) X1050 hx hZ F348 (i := 2) (by decide) (by decide) (Nat.le_of_ble_eq_true rfl) (w := (.int (0 : Int32))) (by decide) g_a2 (hb hby d8_110) rfl ?_
                intro T1052 h1052 X1052 W1052 F1052
                have F1052 : IA Z h1052 a2 .boolean [(.int cl0), (.int cl1), (.int (0 : Int32)), (.int (f8_j111_A_a2_3 p4 p5 hm cl0 cl1 cl2 cl3 ch0 ch1 ch2))] := F1052
                have F1053 := F338.wr W1052
                have F1054 := F339.other W1052 (Or.inl ne_a1_a2)
                have F1055 := F340.other W1052 (Or.inl ne_a1_a2)
                have F1056 := F341.other W1052 (Or.inl ne_a1_a2)
                have F1057 := F342.other W1052 (Or.inl ne_a1_a2)
                have F1058 := F343.other W1052 (Or.inl ne_a1_a2)
                have F1059 := F344.other W1052 (Or.inl ne_a1_a2)
                have F1060 := F345.other W1052 (Or.inl ne_a1_a2)
                have F1061 := F346.other W1052 (Or.inl ne_a1_a2)
                have F1062 := F347.other W1052 (Or.inl ne_a1_a2)
                have F1063 := F349.other W1052 (Ne.symm ne_a2_a3)
                have F1064 := F350.other W1052 (Ne.symm ne_a2_m1)
                have F1065 := F351.other W1052 (Ne.symm ne_a2_m2)
                have F1066 := F352.other W1052 (Ne.symm ne_a2_m3)
                have F1067 := F353.other W1052 (Ne.symm ne_a2_m4)
                have F1068 := F354.other W1052 (Ne.symm ne_a2_m5)
                have F1069 := F355.other W1052 (Ne.symm ne_a2_m6)
                have F1070 := F356.other W1052 (Ne.symm ne_a2_m7)
                have F1071 := F322.wr W1052
                have F1072 := F330.wr W1052
                have F1073 := F331.wr W1052
                have F1074 := F360.wr W1052
                have F1075 := F361.wr W1052
                have F1076 := F362.other W1052 (Or.inl (Ne.symm ne127))
                have F1077 := F363.other W1052 (Or.inl (Ne.symm ne127))
                have F1078 := F364.other W1052 (Or.inl (Ne.symm ne127))
                have F1079 := F365.other W1052 (Or.inl (Ne.symm ne140))
                have F1080 := F366.other W1052 (Or.inl (Ne.symm ne140))
                have F1081 := F367.other W1052 (Or.inl (Ne.symm ne140))
                have F1082 := F323.other W1052 (Or.inl (Ne.symm ne28))
                have F1083 := F324.other W1052 (Or.inl (Ne.symm ne28))
                have F1084 := F370.other W1052 (Or.inl (Ne.symm ne28))
                have F1085 := F326.other W1052 (Or.inl (Ne.symm ne28))
                have F1086 := F327.other W1052 (Or.inl (Ne.symm ne28))
                have F1087 := F328.other W1052 (Or.inl (Ne.symm ne28))
                have F1088 := F329.other W1052 (Or.inl (Ne.symm ne28))
                have F1089 := F371.other W1052 (Or.inl (Ne.symm ne101))
                have F1090 := F372.other W1052 (Or.inl (Ne.symm ne101))
                have F1091 := F373.other W1052 (Or.inl (Ne.symm ne101))
                have F1092 := F374.other W1052 (Or.inl (Ne.symm ne114))
                have F1093 := F375.other W1052 (Or.inl (Ne.symm ne114))
                have F1094 := F376.other W1052 (Or.inl (Ne.symm ne114))
                have K1095 := K368.wr W1052 (Or.inl (List.mem_of_getElem? (i := 0) rfl))
                have Z1096 := Nat.le_trans Z369 (Keep.of_wr W1052).1
                have q := J68_377 T1052 h1052  X1052
                rw [show (f8_j111_A_a2_2 p4 p5 hm cl0 cl1 cl2 cl3 ch0 ch1 ch3) = (0 : Int32) from by rw [f8_j111_A_a2_2, if_neg hc68_1045, if_pos hc86_1048, if_pos hc103_1051]] at q
                exact q Z1096 K1095 F1053 F1054 F1055 F1056 F1057 F1058 F1059 F1060 F1061 F1062 F1052 F1063 F1064 F1065 F1066 F1067 F1068 F1069 F1070 F1071 F1072 F1073 F1074 F1075 F1076 F1077 F1078 F1079 F1080 F1081 F1082 F1083 F1084 F1085 F1086 F1087 F1088 F1089 F1090 F1091 F1092 F1093 F1094
              · refine Rt.ifY (pc' := 111) X1050 hx (hb hby d8_103) ((if0 _ _).trans (feq hc103_1051).2) (by decide) (by decide) ?_
                have q := J68_377 T1050 h321  X1050
                rw [show (f8_j111_A_a2_2 p4 p5 hm cl0 cl1 cl2 cl3 ch0 ch1 ch3) = cl2 from by rw [f8_j111_A_a2_2, if_neg hc68_1045, if_pos hc86_1048, if_neg hc103_1051]] at q
                exact q Z369 K368 F338 F339 F340 F341 F342 F343 F344 F345 F346 F347 F348 F349 F350 F351 F352 F353 F354 F355 F356 F322 F330 F331 F360 F361 F362 F363 F364 F365 F366 F367 F323 F324 F370 F326 F327 F328 F329 F371 F372 F373 F374 F375 F376
            · refine Rt.icmpY (pc' := 111) X1047 hx (hb hby d8_86) (flt hc86_1048).2.2.2 (by decide) (by decide) ?_
              have q := J68_377 T1047 h321  X1047
              rw [show (f8_j111_A_a2_2 p4 p5 hm cl0 cl1 cl2 cl3 ch0 ch1 ch3) = cl2 from by rw [f8_j111_A_a2_2, if_neg hc68_1045, if_neg hc86_1048]] at q
              exact q Z369 K368 F338 F339 F340 F341 F342 F343 F344 F345 F346 F347 F348 F349 F350 F351 F352 F353 F354 F355 F356 F322 F330 F331 F360 F361 F362 F363 F364 F365 F366 F367 F323 F324 F370 F326 F327 F328 F329 F371 F372 F373 F374 F375 F376
        by_cases hc167_1097 : ch3 = (0 : Int32)
        · refine Rt.ifY (pc' := 199) X276 hx (hb hby d8_167) ((if0 _ _).trans (teq hc167_1097).1) (by decide) (by decide) ?_
          have q := J167_277 T276 h229  X276
          rw [show (f8_j199_A_a3_3 p4 p5 hm cl0 cl1 cl2 ch0 ch1 ch2 ch3) = ch3 from by rw [f8_j199_A_a3_3, if_pos hc167_1097]] at q
          exact q Z229 K229 F230 F231 F232 F233 F234 F235 F236 F237 F238 F239 F240 F241 F242 F243 F244 F245 F246 F247 F248 F249 F250 F251 F252 F253 F254 F255 F256 F257 F258 F259 F260 F261 F262 F263 F264 F265 F266 F267 F268 F269 F270 F271 F272
        · refine Rt.ifN (pc' := 170) X276 hx (hb hby d8_167) ((if0 _ _).trans (feq hc167_1097).1) rfl ?_
          refine Rt.aloadN (pc' := 171) X276 hx (hb hby d8_170) rfl rfl rfl ?_
          refine Rt.getF (pc' := 174) (v := (.ref m5)) X276 hx hZ hown (host := "") (Or.inl (own_g hw 41 rfl)) F237 (hb hby d8_171) rfl ?_
          intro T1098 X1098
          refine Rt.iload (pc' := 176) X1098 hx (hb hby d8_174) rfl rfl ?_
          refine Rt.iaload (pc' := 177) X1098 hx hZ F246 (i := 3) (by decide) (by decide) (v := (.int (f9_c41_b12nr2_runs0_1 p4 hm cl0 cl1 cl2 ch0 ch1 ch2 ch3))) rfl (hb hby d8_176) rfl ?_
          refine Rt.aload (pc' := 179) X1098 hx (hb hby d8_177) rfl rfl rfl ?_
          refine Rt.getFR (pc' := 182) (v := (.ref b31nr4)) X1098 hx hZ hown (own_g hw 117 rfl) F264 (hb hby d8_179) rfl ?_
          intro T1099 X1099
          refine Rt.getFR (pc' := 185) (v := (.int (f8_c61_b31nr4_runs0 p4 hm ch3))) X1099 hx hZ hown (own_g hw 114 rfl) F270 (hb hby d8_182) rfl ?_
          intro T1100 X1100
          refine Rt.iadd (pc' := 186) (r := ((f9_c41_b12nr2_runs0_1 p4 hm cl0 cl1 cl2 ch0 ch1 ch2 ch3) + (f8_c61_b31nr4_runs0 p4 hm ch3))) X1100 hx (hb hby d8_185) rfl rfl ?_
          refine Rt.iload (pc' := 188) X1100 hx (hb hby d8_186) rfl rfl ?_
          refine Rt.isub (pc' := 189) (r := (((f9_c41_b12nr2_runs0_1 p4 hm cl0 cl1 cl2 ch0 ch1 ch2 ch3) + (f8_c61_b31nr4_runs0 p4 hm ch3)) - (f8_j161_s0 p4 hm cl0 cl1 cl2 ch0 ch1 ch2 ch3))) X1100 hx (hb hby d8_188) rfl rfl ?_
          refine Rt.iload (pc' := 191) X1100 hx (hb hby d8_189) rfl rfl ?_
          by_cases hc191_1101 : p5 < (((f9_c41_b12nr2_runs0_1 p4 hm cl0 cl1 cl2 ch0 ch1 ch2 ch3) + (f8_c61_b31nr4_runs0 p4 hm ch3)) - (f8_j161_s0 p4 hm cl0 cl1 cl2 ch0 ch1 ch2 ch3))
          · refine Rt.icmpN (pc' := 194) X1100 hx (hb hby d8_191) (tlt hc191_1101).2.2.2 rfl ?_
            refine Rt.aloadN (pc' := 195) X1100 hx (hb hby d8_194) rfl rfl rfl ?_
            refine Rt.iload (pc' := 197) X1100 hx (hb hby d8_195) rfl rfl ?_
            refine Rt.iconst (pc' := 198) (v := (0 : Int32)) X1100 hx (hb hby d8_197) rfl rfl ?_
            refine Rt.zastore (pc' := 199) X1100 hx hZ F241 (i := 3) (by decide) (by decide) (Nat.le_of_ble_eq_true rfl) (w := (.int (0 : Int32))) (by decide) g_a3 (hb hby d8_198) rfl ?_
            intro T1102 h1102 X1102 W1102 F1102
            have F1102 : IA Z h1102 a3 .boolean [(.int ch0), (.int ch1), (.int ch2), (.int (0 : Int32))] := F1102
            have F1103 := F230.wr W1102
            have F1104 := F231.other W1102 (Or.inl ne_a1_a3)
            have F1105 := F232.other W1102 (Or.inl ne_a1_a3)
            have F1106 := F233.other W1102 (Or.inl ne_a1_a3)
            have F1107 := F234.other W1102 (Or.inl ne_a1_a3)
            have F1108 := F235.other W1102 (Or.inl ne_a1_a3)
            have F1109 := F236.other W1102 (Or.inl ne_a1_a3)
            have F1110 := F237.other W1102 (Or.inl ne_a1_a3)
            have F1111 := F238.other W1102 (Or.inl ne_a1_a3)
            have F1112 := F239.other W1102 (Or.inl ne_a1_a3)
            have F1113 := F240.other W1102 ne_a2_a3
            have F1114 := F242.other W1102 (Ne.symm ne_a3_m1)
            have F1115 := F243.other W1102 (Ne.symm ne_a3_m2)
            have F1116 := F244.other W1102 (Ne.symm ne_a3_m3)
            have F1117 := F245.other W1102 (Ne.symm ne_a3_m4)
            have F1118 := F246.other W1102 (Ne.symm ne_a3_m5)
            have F1119 := F247.other W1102 (Ne.symm ne_a3_m6)
            have F1120 := F248.other W1102 (Ne.symm ne_a3_m7)
            have F1121 := F249.wr W1102
            have F1122 := F250.wr W1102
            have F1123 := F251.wr W1102
            have F1124 := F252.wr W1102
            have F1125 := F253.wr W1102
            have F1126 := F254.other W1102 (Or.inl (Ne.symm ne102))
            have F1127 := F255.other W1102 (Or.inl (Ne.symm ne102))
            have F1128 := F256.other W1102 (Or.inl (Ne.symm ne102))
            have F1129 := F257.other W1102 (Or.inl (Ne.symm ne115))
            have F1130 := F258.other W1102 (Or.inl (Ne.symm ne115))
            have F1131 := F259.other W1102 (Or.inl (Ne.symm ne115))
            have F1132 := F260.other W1102 (Or.inl (Ne.symm ne29))
            have F1133 := F261.other W1102 (Or.inl (Ne.symm ne29))
            have F1134 := F262.other W1102 (Or.inl (Ne.symm ne29))
            have F1135 := F263.other W1102 (Or.inl (Ne.symm ne29))
            have F1136 := F264.other W1102 (Or.inl (Ne.symm ne29))
            have F1137 := F265.other W1102 (Or.inl (Ne.symm ne29))
            have F1138 := F266.other W1102 (Or.inl (Ne.symm ne29))
            have F1139 := F267.other W1102 (Or.inl (Ne.symm ne128))
            have F1140 := F268.other W1102 (Or.inl (Ne.symm ne128))
            have F1141 := F269.other W1102 (Or.inl (Ne.symm ne128))
            have F1142 := F270.other W1102 (Or.inl (Ne.symm ne141))
            have F1143 := F271.other W1102 (Or.inl (Ne.symm ne141))
            have F1144 := F272.other W1102 (Or.inl (Ne.symm ne141))
            have K1145 := K229.wr W1102 (Or.inl (List.mem_of_getElem? (i := 1) rfl))
            have Z1146 := Nat.le_trans Z229 (Keep.of_wr W1102).1
            have q := J167_277 T1102 h1102  X1102
            rw [show (f8_j199_A_a3_3 p4 p5 hm cl0 cl1 cl2 ch0 ch1 ch2 ch3) = (0 : Int32) from by rw [f8_j199_A_a3_3, if_neg hc167_1097, if_pos hc191_1101]] at q
            exact q Z1146 K1145 F1103 F1104 F1105 F1106 F1107 F1108 F1109 F1110 F1111 F1112 F1113 F1102 F1114 F1115 F1116 F1117 F1118 F1119 F1120 F1121 F1122 F1123 F1124 F1125 F1126 F1127 F1128 F1129 F1130 F1131 F1132 F1133 F1134 F1135 F1136 F1137 F1138 F1139 F1140 F1141 F1142 F1143 F1144
          · refine Rt.icmpY (pc' := 199) X1100 hx (hb hby d8_191) (flt hc191_1101).2.2.2 (by decide) (by decide) ?_
            have q := J167_277 T1100 h229  X1100
            rw [show (f8_j199_A_a3_3 p4 p5 hm cl0 cl1 cl2 ch0 ch1 ch2 ch3) = ch3 from by rw [f8_j199_A_a3_3, if_neg hc167_1097, if_neg hc191_1101]] at q
            exact q Z229 K229 F230 F231 F232 F233 F234 F235 F236 F237 F238 F239 F240 F241 F242 F243 F244 F245 F246 F247 F248 F249 F250 F251 F252 F253 F254 F255 F256 F257 F258 F259 F260 F261 F262 F263 F264 F265 F266 F267 F268 F269 F270 F271 F272
      by_cases hc130_1147 : (p4 - (f8_c61_b31nr4_length0 p4 hm ch3)) < ((f9_c41_b12nr2_length0_1 p4 hm cl0 cl1 cl2 ch0 ch1 ch2 ch3) - (1 : Int32))
      · refine Rt.icmpY (pc' := 160) X275 hx (hb hby d8_130) (tlt hc130_1147).2.2.1 (by decide) (by decide) ?_
        refine Rt.iconst (pc' := 161) (v := (0 : Int32)) X275 hx (hb hby d8_160) rfl rfl ?_
        have q := J130_276 T275   X275
        rw [show (f8_j161_s0 p4 hm cl0 cl1 cl2 ch0 ch1 ch2 ch3) = (0 : Int32) from by rw [f8_j161_s0, if_pos hc130_1147]] at q
        exact q
      · refine Rt.icmpN (pc' := 133) X275 hx (hb hby d8_130) (flt hc130_1147).2.2.1 rfl ?_
        refine Rt.aloadN (pc' := 134) X275 hx (hb hby d8_133) rfl rfl rfl ?_
        refine Rt.getF (pc' := 137) (v := (.ref m7)) X275 hx hZ hown (host := "") (Or.inl (own_g hw 45 rfl)) F239 (hb hby d8_134) rfl ?_
        intro T1148 X1148
        refine Rt.iload (pc' := 139) X1148 hx (hb hby d8_137) rfl rfl ?_
        refine Rt.iaload (pc' := 140) X1148 hx hZ F248 (i := 3) (by decide) (by decide) (v := (.int (f9_c41_b12nr2_lows0_1 p4 hm cl0 cl1 cl2 ch0 ch1 ch2 ch3))) rfl (hb hby d8_139) rfl ?_
        refine Rt.aload (pc' := 142) X1148 hx (hb hby d8_140) rfl rfl rfl ?_
        refine Rt.getFR (pc' := 145) (v := (.ref b31nr4)) X1148 hx hZ hown (own_g hw 117 rfl) F264 (hb hby d8_142) rfl ?_
        intro T1149 X1149
        refine Rt.getFR (pc' := 148) (v := (.int (f8_c61_b31nr4_lows0 p4 hm ch3))) X1149 hx hZ hown (own_g hw 116 rfl) F272 (hb hby d8_145) rfl ?_
        intro T1150 X1150
        refine Rt.iadd (pc' := 149) (r := ((f9_c41_b12nr2_lows0_1 p4 hm cl0 cl1 cl2 ch0 ch1 ch2 ch3) + (f8_c61_b31nr4_lows0 p4 hm ch3))) X1150 hx (hb hby d8_148) rfl rfl ?_
        refine Rt.aloadN (pc' := 150) X1150 hx (hb hby d8_149) rfl rfl rfl ?_
        refine Rt.getF (pc' := 153) (v := (.int hm)) X1150 hx hZ hown (host := "") (Or.inl (own_g hw 31 rfl)) F232 (hb hby d8_150) rfl ?_
        intro T1151 X1151
        by_cases hc153_1152 : hm < ((f9_c41_b12nr2_lows0_1 p4 hm cl0 cl1 cl2 ch0 ch1 ch2 ch3) + (f8_c61_b31nr4_lows0 p4 hm ch3))
        · refine Rt.icmpY (pc' := 160) X1151 hx (hb hby d8_153) (tlt hc153_1152).2.2.1 (by decide) (by decide) ?_
          refine Rt.iconst (pc' := 161) (v := (0 : Int32)) X1151 hx (hb hby d8_160) rfl rfl ?_
          have q := J130_276 T1151   X1151
          rw [show (f8_j161_s0 p4 hm cl0 cl1 cl2 ch0 ch1 ch2 ch3) = (0 : Int32) from by rw [f8_j161_s0, if_neg hc130_1147, if_pos hc153_1152]] at q
          exact q
        · refine Rt.icmpN (pc' := 156) X1151 hx (hb hby d8_153) (flt hc153_1152).2.2.1 rfl ?_
          refine Rt.iconst (pc' := 157) (v := (1 : Int32)) X1151 hx (hb hby d8_156) rfl rfl ?_
          refine Rt.goto (pc' := 161) X1151 hx (hb hby d8_157) (by decide) (by decide) ?_
          have q := J130_276 T1151   X1151
          rw [show (f8_j161_s0 p4 hm cl0 cl1 cl2 ch0 ch1 ch2 ch3) = (1 : Int32) from by rw [f8_j161_s0, if_neg hc130_1147, if_neg hc153_1152]] at q
          exact q
    by_cases hc68_1153 : cl3 = (0 : Int32)
    · refine Rt.ifY (pc' := 111) X173 hx (hb hby d8_68) ((if0 _ _).trans (teq hc68_1153).1) (by decide) (by decide) ?_
      have q := J68_229 T173 h173  X173
      rw [show (f8_j111_A_a2_3 p4 p5 hm cl0 cl1 cl2 cl3 ch0 ch1 ch2) = cl3 from by rw [f8_j111_A_a2_3, if_pos hc68_1153]] at q
      exact q Z221 K220 F190 F191 F192 F193 F194 F195 F196 F197 F198 F199 F200 F201 F202 F203 F204 F205 F206 F207 F208 F174 F210 F211 F182 F183 F214 F215 F216 F217 F218 F219 F175 F176 F222 F178 F179 F180 F181 F223 F224 F225 F226 F227 F228
    · refine Rt.ifN (pc' := 71) X173 hx (hb hby d8_68) ((if0 _ _).trans (feq hc68_1153).1) rfl ?_
      refine Rt.aloadN (pc' := 72) X173 hx (hb hby d8_71) rfl rfl rfl ?_
      refine Rt.getF (pc' := 75) (v := (.ref m1)) X173 hx hZ hown (host := "") (Or.inl (own_g hw 33 rfl)) F193 (hb hby d8_72) rfl ?_
      intro T1154 X1154
      refine Rt.iload (pc' := 77) X1154 hx (hb hby d8_75) rfl rfl ?_
      refine Rt.iaload (pc' := 78) X1154 hx hZ F202 (i := 3) (by decide) (by decide) (v := (.int (f9_c41_b0_lowOut0_3 p4 hm cl0 cl1 cl2 cl3 ch0 ch1 ch2))) rfl (hb hby d8_77) rfl ?_
      refine Rt.aload (pc' := 80) X1154 hx (hb hby d8_78) rfl rfl rfl ?_
      refine Rt.getFR (pc' := 83) (v := (.int (f8_c61_b19_lowOut0 cl3))) X1154 hx hZ hown (own_g hw 112 rfl) F222 (hb hby d8_80) rfl ?_
      intro T1155 X1155
      refine Rt.iadd (pc' := 84) (r := ((f9_c41_b0_lowOut0_3 p4 hm cl0 cl1 cl2 cl3 ch0 ch1 ch2) + (f8_c61_b19_lowOut0 cl3))) X1155 hx (hb hby d8_83) rfl rfl ?_
      refine Rt.iload (pc' := 86) X1155 hx (hb hby d8_84) rfl rfl ?_
      by_cases hc86_1156 : p5 < ((f9_c41_b0_lowOut0_3 p4 hm cl0 cl1 cl2 cl3 ch0 ch1 ch2) + (f8_c61_b19_lowOut0 cl3))
      · refine Rt.icmpN (pc' := 89) X1155 hx (hb hby d8_86) (tlt hc86_1156).2.2.2 rfl ?_
        refine Rt.aloadN (pc' := 90) X1155 hx (hb hby d8_89) rfl rfl rfl ?_
        refine Rt.iload (pc' := 92) X1155 hx (hb hby d8_90) rfl rfl ?_
        refine Rt.aload (pc' := 94) X1155 hx (hb hby d8_92) rfl rfl rfl ?_
        refine Rt.getFR (pc' := 97) (v := (.ref b31nr3)) X1155 hx hZ hown (own_g hw 113 rfl) F178 (hb hby d8_94) rfl ?_
        intro T1157 X1157
        refine Rt.iloadN (pc' := 98) X1157 hx (hb hby d8_97) rfl rfl ?_
        refine Rt.iload (pc' := 100) X1157 hx (hb hby d8_98) rfl rfl ?_
        refine Rt.callPr (pc' := 103) X1157 hx hZ (y := mt12) hown (own_g hw 129 rfl) (own_g hw 130 rfl) (own_g hw 131 rfl) (own_g hw 21 rfl) (own_g hw 22 rfl) (own_g hw 132 rfl) (by decide) F190 (rm18_3 l Z a0 hw [] a1 b31nr3 p4 p5 m2 m3 m4 hm (f8_c61_b31nr3_runs0 p4 hm cl3) (f8_c61_b31nr3_length0 p4 hm cl3) (f8_c61_b31nr3_lows0 p4 hm cl3) (f9_c41_b12nr3_runs0 p4 hm cl0) (f9_c41_b12nr1_runs0 p4 hm cl0 cl1 ch0) (f9_c41_b12nr3_runs0_1 p4 hm cl0 cl1 cl2 ch0 ch1) (f9_c41_b12nr1_runs0_1 p4 hm cl0 cl1 cl2 cl3 ch0 ch1 ch2) (f9_c41_b12nr3_length0 p4 hm cl0) (f9_c41_b12nr1_length0 p4 hm cl0 cl1 ch0) (f9_c41_b12nr3_length0_1 p4 hm cl0 cl1 cl2 ch0 ch1) (f9_c41_b12nr1_length0_1 p4 hm cl0 cl1 cl2 cl3 ch0 ch1 ch2) (f9_c41_b12nr3_lows0 p4 hm cl0) (f9_c41_b12nr1_lows0 p4 hm cl0 cl1 ch0) (f9_c41_b12nr3_lows0_1 p4 hm cl0 cl1 cl2 ch0 ch1) (f9_c41_b12nr1_lows0_1 p4 hm cl0 cl1 cl2 cl3 ch0 ch1 ch2) h173 n0 F192 F194 F195 F196 F203 F204 F205 F223 F224 F225) (fun _ _ _ q => q.2.1) (W := 0) (by decide) (by decide) (by decide) (by decide) (argsL := [(.int (3 : Int32)), (.ref b31nr3), (.int p4), (.int p5)]) (rest := []) (by rw [hml]; rfl) (lenOf pd_9 rfl) rfl rfl (Nat.le_of_eq rfl) (hb hby d8_100) rfl ?_
        rintro _ T1158 h1158 L1158 X1158 ⟨rfl, N1158, e1158⟩
        rw [e1158] at X1158
        show Rt _ _ _ _ _ _ _ (T1158.setTop (mkF m 103 #[.val (.ref a1), .val (.ref a2), .val (.ref a3), .val (.int p4), .val (.int p5), .val (.int (f8_v7 p4 hm cl0 cl1 cl2 cl3 ch0 ch1 ch2 ch3)), .val (.ref b19), .val (.int (3 : Int32)), .unset] [(.int (f18_3 p4 p5 hm (f8_c61_b31nr3_runs0 p4 hm cl3) (f8_c61_b31nr3_length0 p4 hm cl3) (f8_c61_b31nr3_lows0 p4 hm cl3) (f9_c41_b12nr1_runs0_1 p4 hm cl0 cl1 cl2 cl3 ch0 ch1 ch2) (f9_c41_b12nr1_length0_1 p4 hm cl0 cl1 cl2 cl3 ch0 ch1 ch2) (f9_c41_b12nr1_lows0_1 p4 hm cl0 cl1 cl2 cl3 ch0 ch1 ch2)))]))
        by_cases hc103_1159 : (f18_3 p4 p5 hm (f8_c61_b31nr3_runs0 p4 hm cl3) (f8_c61_b31nr3_length0 p4 hm cl3) (f8_c61_b31nr3_lows0 p4 hm cl3) (f9_c41_b12nr1_runs0_1 p4 hm cl0 cl1 cl2 cl3 ch0 ch1 ch2) (f9_c41_b12nr1_length0_1 p4 hm cl0 cl1 cl2 cl3 ch0 ch1 ch2) (f9_c41_b12nr1_lows0_1 p4 hm cl0 cl1 cl2 cl3 ch0 ch1 ch2)) = (0 : Int32)
        · refine Rt.ifN (pc' := 106) X1158 hx (hb hby d8_103) ((if0 _ _).trans (teq hc103_1159).2) rfl ?_
          refine Rt.aloadN (pc' := 107) X1158 hx (hb hby d8_106) rfl rfl rfl ?_
          refine Rt.iload (pc' := 109) X1158 hx (hb hby d8_107) rfl rfl ?_
          refine Rt.iconst (pc' := 110) (v := (0 : Int32)) X1158 hx (hb hby d8_109) rfl rfl ?_
          refine Rt.zastore (pc' := 111) X1158 hx hZ F200 (i := 3) (by decide) (by decide) (Nat.le_of_ble_eq_true rfl) (w := (.int (0 : Int32))) (by decide) g_a2 (hb hby d8_110) rfl ?_
          intro T1160 h1160 X1160 W1160 F1160
          have F1160 : IA Z h1160 a2 .boolean [(.int cl0), (.int cl1), (.int cl2), (.int (0 : Int32))] := F1160
          have F1161 := F190.wr W1160
          have F1162 := F191.other W1160 (Or.inl ne_a1_a2)
          have F1163 := F192.other W1160 (Or.inl ne_a1_a2)
          have F1164 := F193.other W1160 (Or.inl ne_a1_a2)
          have F1165 := F194.other W1160 (Or.inl ne_a1_a2)
          have F1166 := F195.other W1160 (Or.inl ne_a1_a2)
          have F1167 := F196.other W1160 (Or.inl ne_a1_a2)
          have F1168 := F197.other W1160 (Or.inl ne_a1_a2)
          have F1169 := F198.other W1160 (Or.inl ne_a1_a2)
          have F1170 := F199.other W1160 (Or.inl ne_a1_a2)
          have F1171 := F201.other W1160 (Ne.symm ne_a2_a3)
          have F1172 := F202.other W1160 (Ne.symm ne_a2_m1)
          have F1173 := F203.other W1160 (Ne.symm ne_a2_m2)
          have F1174 := F204.other W1160 (Ne.symm ne_a2_m3)
          have F1175 := F205.other W1160 (Ne.symm ne_a2_m4)
          have F1176 := F206.other W1160 (Ne.symm ne_a2_m5)
          have F1177 := F207.other W1160 (Ne.symm ne_a2_m6)
          have F1178 := F208.other W1160 (Ne.symm ne_a2_m7)
          have F1179 := F174.wr W1160
          have F1180 := F210.wr W1160
          have F1181 := F211.wr W1160
          have F1182 := F182.wr W1160
          have F1183 := F183.wr W1160
          have F1184 := F214.other W1160 (Or.inl (Ne.symm ne101))
          have F1185 := F215.other W1160 (Or.inl (Ne.symm ne101))
          have F1186 := F216.other W1160 (Or.inl (Ne.symm ne101))
          have F1187 := F217.other W1160 (Or.inl (Ne.symm ne114))
          have F1188 := F218.other W1160 (Or.inl (Ne.symm ne114))
          have F1189 := F219.other W1160 (Or.inl (Ne.symm ne114))
          have F1190 := F175.other W1160 (Or.inl (Ne.symm ne28))
          have F1191 := F176.other W1160 (Or.inl (Ne.symm ne28))
          have F1192 := F222.other W1160 (Or.inl (Ne.symm ne28))
          have F1193 := F178.other W1160 (Or.inl (Ne.symm ne28))
          have F1194 := F179.other W1160 (Or.inl (Ne.symm ne28))
          have F1195 := F180.other W1160 (Or.inl (Ne.symm ne28))
          have F1196 := F181.other W1160 (Or.inl (Ne.symm ne28))
          have F1197 := F223.other W1160 (Or.inl (Ne.symm ne127))
          have F1198 := F224.other W1160 (Or.inl (Ne.symm ne127))
          have F1199 := F225.other W1160 (Or.inl (Ne.symm ne127))
          have F1200 := F226.other W1160 (Or.inl (Ne.symm ne140))
          have F1201 := F227.other W1160 (Or.inl (Ne.symm ne140))
          have F1202 := F228.other W1160 (Or.inl (Ne.symm ne140))
          have K1203 := K220.wr W1160 (Or.inl (List.mem_of_getElem? (i := 0) rfl))
          have Z1204 := Nat.le_trans Z221 (Keep.of_wr W1160).1
          have q := J68_229 T1160 h1160  X1160
          rw [show (f8_j111_A_a2_3 p4 p5 hm cl0 cl1 cl2 cl3 ch0 ch1 ch2) = (0 : Int32) from by rw [f8_j111_A_a2_3, if_neg hc68_1153, if_pos hc86_1156, if_pos hc103_1159]] at q
          exact q Z1204 K1203 F1161 F1162 F1163 F1164 F1165 F1166 F1167 F1168 F1169 F1170 F1160 F1171 F1172 F1173 F1174 F1175 F1176 F1177 F1178 F1179 F1180 F1181 F1182 F1183 F1184 F1185 F1186 F1187 F1188 F1189 F1190 F1191 F1192 F1193 F1194 F1195 F1196 F1197 F1198 F1199 F1200 F1201 F1202
        · refine Rt.ifY (pc' := 111) X1158 hx (hb hby d8_103) ((if0 _ _).trans (feq hc103_1159).2) (by decide) (by decide) ?_
          have q := J68_229 T1158 h173  X1158
          rw [show (f8_j111_A_a2_3 p4 p5 hm cl0 cl1 cl2 cl3 ch0 ch1 ch2) = cl3 from by rw [f8_j111_A_a2_3, if_neg hc68_1153, if_pos hc86_1156, if_neg hc103_1159]] at q
          exact q Z221 K220 F190 F191 F192 F193 F194 F195 F196 F197 F198 F199 F200 F201 F202 F203 F204 F205 F206 F207 F208 F174 F210 F211 F182 F183 F214 F215 F216 F217 F218 F219 F175 F176 F222 F178 F179 F180 F181 F223 F224 F225 F226 F227 F228
      · refine Rt.icmpY (pc' := 111) X1155 hx (hb hby d8_86) (flt hc86_1156).2.2.2 (by decide) (by decide) ?_
        have q := J68_229 T1155 h173  X1155
        rw [show (f8_j111_A_a2_3 p4 p5 hm cl0 cl1 cl2 cl3 ch0 ch1 ch2) = cl3 from by rw [f8_j111_A_a2_3, if_neg hc68_1153, if_neg hc86_1156]] at q
        exact q Z221 K220 F190 F191 F192 F193 F194 F195 F196 F197 F198 F199 F200 F201 F202 F203 F204 F205 F206 F207 F208 F174 F210 F211 F182 F183 F214 F215 F216 F217 F218 F219 F175 F176 F222 F178 F179 F180 F181 F223 F224 F225 F226 F227 F228
  · refine Rt.icmpN (pc' := 16) X1 hx (hb hby d8_13) (feq hc13_23).1 rfl ?_
    refine Rt.iload (pc' := 18) X1 hx (hb hby d8_16) rfl rfl ?_
    have F1205 : IA Z h1 a2 .boolean [(.int (f8_o_A_a2_0 p4 p5 hm cl0 cl1 cl2 cl3 ch0 ch1 ch2 ch3)), (.int cl1), (.int cl2), (.int cl3)] := by rw [show (f8_o_A_a2_0 p4 p5 hm cl0 cl1 cl2 cl3 ch0 ch1 ch2 ch3) = cl0 from by rw [f8_o_A_a2_0, if_neg hc13_23]]; exact F19
    have F1206 : IA Z h1 a2 .boolean [(.int (f8_o_A_a2_0 p4 p5 hm cl0 cl1 cl2 cl3 ch0 ch1 ch2 ch3)), (.int (f8_o_A_a2_1 p4 p5 hm cl0 cl1 cl2 cl3 ch0 ch1 ch2 ch3)), (.int cl2), (.int cl3)] := by rw [show (f8_o_A_a2_1 p4 p5 hm cl0 cl1 cl2 cl3 ch0 ch1 ch2 ch3) = cl1 from by rw [f8_o_A_a2_1, if_neg hc13_23]]; exact F1205
    have F1207 : IA Z h1 a2 .boolean [(.int (f8_o_A_a2_0 p4 p5 hm cl0 cl1 cl2 cl3 ch0 ch1 ch2 ch3)), (.int (f8_o_A_a2_1 p4 p5 hm cl0 cl1 cl2 cl3 ch0 ch1 ch2 ch3)), (.int (f8_o_A_a2_2 p4 p5 hm cl0 cl1 cl2 cl3 ch0 ch1 ch2 ch3)), (.int cl3)] := by rw [show (f8_o_A_a2_2 p4 p5 hm cl0 cl1 cl2 cl3 ch0 ch1 ch2 ch3) = cl2 from by rw [f8_o_A_a2_2, if_neg hc13_23]]; exact F1206
    have F1208 : IA Z h1 a2 .boolean [(.int (f8_o_A_a2_0 p4 p5 hm cl0 cl1 cl2 cl3 ch0 ch1 ch2 ch3)), (.int (f8_o_A_a2_1 p4 p5 hm cl0 cl1 cl2 cl3 ch0 ch1 ch2 ch3)), (.int (f8_o_A_a2_2 p4 p5 hm cl0 cl1 cl2 cl3 ch0 ch1 ch2 ch3)), (.int (f8_o_A_a2_3 p4 p5 hm cl0 cl1 cl2 cl3 ch0 ch1 ch2 ch3))] := by rw [show (f8_o_A_a2_3 p4 p5 hm cl0 cl1 cl2 cl3 ch0 ch1 ch2 ch3) = cl3 from by rw [f8_o_A_a2_3, if_neg hc13_23]]; exact F1207
    have F1209 : IA Z h1 a3 .boolean [(.int (f8_o_A_a3_0 p4 p5 hm cl0 cl1 cl2 cl3 ch0 ch1 ch2 ch3)), (.int ch1), (.int ch2), (.int ch3)] := by rw [show (f8_o_A_a3_0 p4 p5 hm cl0 cl1 cl2 cl3 ch0 ch1 ch2 ch3) = ch0 from by rw [f8_o_A_a3_0, if_neg hc13_23]]; exact F20
    have F1210 : IA Z h1 a3 .boolean [(.int (f8_o_A_a3_0 p4 p5 hm cl0 cl1 cl2 cl3 ch0 ch1 ch2 ch3)), (.int (f8_o_A_a3_1 p4 p5 hm cl0 cl1 cl2 cl3 ch0 ch1 ch2 ch3)), (.int ch2), (.int ch3)] := by rw [show (f8_o_A_a3_1 p4 p5 hm cl0 cl1 cl2 cl3 ch0 ch1 ch2 ch3) = ch1 from by rw [f8_o_A_a3_1, if_neg hc13_23]]; exact F1209
    have F1211 : IA Z h1 a3 .boolean [(.int (f8_o_A_a3_0 p4 p5 hm cl0 cl1 cl2 cl3 ch0 ch1 ch2 ch3)), (.int (f8_o_A_a3_1 p4 p5 hm cl0 cl1 cl2 cl3 ch0 ch1 ch2 ch3)), (.int (f8_o_A_a3_2 p4 p5 hm cl0 cl1 cl2 cl3 ch0 ch1 ch2 ch3)), (.int ch3)] := by rw [show (f8_o_A_a3_2 p4 p5 hm cl0 cl1 cl2 cl3 ch0 ch1 ch2 ch3) = ch2 from by rw [f8_o_A_a3_2, if_neg hc13_23]]; exact F1210
    have F1212 : IA Z h1 a3 .boolean [(.int (f8_o_A_a3_0 p4 p5 hm cl0 cl1 cl2 cl3 ch0 ch1 ch2 ch3)), (.int (f8_o_A_a3_1 p4 p5 hm cl0 cl1 cl2 cl3 ch0 ch1 ch2 ch3)), (.int (f8_o_A_a3_2 p4 p5 hm cl0 cl1 cl2 cl3 ch0 ch1 ch2 ch3)), (.int (f8_o_A_a3_3 p4 p5 hm cl0 cl1 cl2 cl3 ch0 ch1 ch2 ch3))] := by rw [show (f8_o_A_a3_3 p4 p5 hm cl0 cl1 cl2 cl3 ch0 ch1 ch2 ch3) = ch3 from by rw [f8_o_A_a3_3, if_neg hc13_23]]; exact F1211
    exact Rt.retI X1 hx hlk hret (hb hby d8_18) (by decide) (by decide) (fun L N => ⟨congrArg some (congrArg Value.int (by rw [f8, if_neg hc13_23])), N, K21, F1208, F1212⟩)
theorem d4_0 : decode method_6_code 0 = .ok (.iload_n 1, 1) := by decide +kernel
theorem d4_1 : decode method_6_code 1 = .ok (.iload_n 2, 1) := by decide +kernel
theorem d4_2 : decode method_6_code 2 = .ok (.ishr, 1) := by decide +kernel
theorem d4_3 : decode method_6_code 3 = .ok (.iconst 1, 1) := by decide +kernel
theorem d4_4 : decode method_6_code 4 = .ok (.iand, 1) := by decide +kernel
theorem d4_5 : decode method_6_code 5 = .ok (.ifCond .ne 4, 3) := by decide +kernel
theorem d4_8 : decode method_6_code 8 = .ok (.return_, 1) := by decide +kernel
theorem d4_9 : decode method_6_code 9 = .ok (.aload_n 0, 1) := by decide +kernel
theorem d4_10 : decode method_6_code 10 = .ok (.iconst 0, 1) := by decide +kernel
theorem d4_11 : decode method_6_code 11 = .ok (.iaload, 1) := by decide +kernel
theorem d4_12 : decode method_6_code 12 = .ok (.ifCond .le 44, 3) := by decide +kernel
theorem d4_15 : decode method_6_code 15 = .ok (.iload_n 2, 1) := by decide +kernel
theorem d4_16 : decode method_6_code 16 = .ok (.aload_n 0, 1) := by decide +kernel
theorem d4_17 : decode method_6_code 17 = .ok (.iconst 1, 1) := by decide +kernel
theorem d4_18 : decode method_6_code 18 = .ok (.iaload, 1) := by decide +kernel
theorem d4_19 : decode method_6_code 19 = .ok (.isub, 1) := by decide +kernel
theorem d4_20 : decode method_6_code 20 = .ok (.iconst 1, 1) := by decide +kernel
theorem d4_21 : decode method_6_code 21 = .ok (.iadd, 1) := by decide +kernel
theorem d4_22 : decode method_6_code 22 = .ok (.istore 5, 2) := by decide +kernel
theorem d4_24 : decode method_6_code 24 = .ok (.iload 5, 2) := by decide +kernel
theorem d4_26 : decode method_6_code 26 = .ok (.aload_n 0, 1) := by decide +kernel
theorem d4_27 : decode method_6_code 27 = .ok (.iconst 2, 1) := by decide +kernel
theorem d4_28 : decode method_6_code 28 = .ok (.iaload, 1) := by decide +kernel
theorem d4_29 : decode method_6_code 29 = .ok (.iconst 1, 1) := by decide +kernel
theorem d4_30 : decode method_6_code 30 = .ok (.iadd, 1) := by decide +kernel
theorem d4_31 : decode method_6_code 31 = .ok (.isub, 1) := by decide +kernel
theorem d4_32 : decode method_6_code 32 = .ok (.istore 6, 2) := by decide +kernel
theorem d4_34 : decode method_6_code 34 = .ok (.iload 5, 2) := by decide +kernel
theorem d4_36 : decode method_6_code 36 = .ok (.iload_n 3, 1) := by decide +kernel
theorem d4_37 : decode method_6_code 37 = .ok (.if_icmp .gt 19, 3) := by decide +kernel
theorem d4_56 : decode method_6_code 56 = .ok (.aload_n 0, 1) := by decide +kernel
theorem d4_57 : decode method_6_code 57 = .ok (.iconst 0, 1) := by decide +kernel
theorem d4_58 : decode method_6_code 58 = .ok (.aload_n 0, 1) := by decide +kernel
theorem d4_59 : decode method_6_code 59 = .ok (.iconst 0, 1) := by decide +kernel
theorem d4_60 : decode method_6_code 60 = .ok (.iaload, 1) := by decide +kernel
theorem d4_61 : decode method_6_code 61 = .ok (.iconst 1, 1) := by decide +kernel
theorem d4_62 : decode method_6_code 62 = .ok (.iadd, 1) := by decide +kernel
theorem d4_63 : decode method_6_code 63 = .ok (.iastore, 1) := by decide +kernel
theorem d4_64 : decode method_6_code 64 = .ok (.aload_n 0, 1) := by decide +kernel
theorem d4_65 : decode method_6_code 65 = .ok (.iconst 1, 1) := by decide +kernel
theorem d4_66 : decode method_6_code 66 = .ok (.iload_n 2, 1) := by decide +kernel
theorem d4_67 : decode method_6_code 67 = .ok (.iastore, 1) := by decide +kernel
theorem d4_68 : decode method_6_code 68 = .ok (.aload_n 0, 1) := by decide +kernel
theorem d4_69 : decode method_6_code 69 = .ok (.iconst 2, 1) := by decide +kernel
theorem d4_70 : decode method_6_code 70 = .ok (.iconst 1, 1) := by decide +kernel
theorem d4_71 : decode method_6_code 71 = .ok (.iastore, 1) := by decide +kernel
theorem d4_72 : decode method_6_code 72 = .ok (.return_, 1) := by decide +kernel
theorem d4_40 : decode method_6_code 40 = .ok (.iload 6, 2) := by decide +kernel
theorem d4_42 : decode method_6_code 42 = .ok (.iload 4, 2) := by decide +kernel
theorem d4_44 : decode method_6_code 44 = .ok (.if_icmp .gt 12, 3) := by decide +kernel
theorem d4_47 : decode method_6_code 47 = .ok (.aload_n 0, 1) := by decide +kernel
theorem d4_48 : decode method_6_code 48 = .ok (.iconst 2, 1) := by decide +kernel
theorem d4_49 : decode method_6_code 49 = .ok (.aload_n 0, 1) := by decide +kernel
theorem d4_50 : decode method_6_code 50 = .ok (.iconst 2, 1) := by decide +kernel
theorem d4_51 : decode method_6_code 51 = .ok (.iaload, 1) := by decide +kernel
theorem d4_52 : decode method_6_code 52 = .ok (.iconst 1, 1) := by decide +kernel
theorem d4_53 : decode method_6_code 53 = .ok (.iadd, 1) := by decide +kernel
theorem d4_54 : decode method_6_code 54 = .ok (.iastore, 1) := by decide +kernel
theorem d4_55 : decode method_6_code 55 = .ok (.return_, 1) := by decide +kernel
def f4_v22 (p3 : Int32) (s1 : Int32) : Int32 := ((p3 - s1) + (1 : Int32))
def f4_v32 (p3 : Int32) (s1 : Int32) (s2 : Int32) : Int32 := ((f4_v22 p3 s1) - (s2 + (1 : Int32)))
def f4_w63 (s0 : Int32) : Int32 := (s0 + (1 : Int32))
def f4_w54 (s2 : Int32) : Int32 := (s2 + (1 : Int32))
def f4_o_A_a1_0 (p2 : Int32) (p3 : Int32) (p4 : Int32) (p5 : Int32) (s0 : Int32) (s1 : Int32) (s2 : Int32) : Int32 := (if ((p2 >>> (p3 &&& 31)) &&& (1 : Int32)) = (0 : Int32) then s0 else (if (0 : Int32) < s0 then (if p4 < (f4_v22 p3 s1) then (f4_w63 s0) else (if p5 < (f4_v32 p3 s1 s2) then (f4_w63 s0) else s0)) else (f4_w63 s0)))
def f4_o_A_a1_1 (p2 : Int32) (p3 : Int32) (p4 : Int32) (p5 : Int32) (s0 : Int32) (s1 : Int32) (s2 : Int32) : Int32 := (if ((p2 >>> (p3 &&& 31)) &&& (1 : Int32)) = (0 : Int32) then s1 else (if (0 : Int32) < s0 then (if p4 < (f4_v22 p3 s1) then p3 else (if p5 < (f4_v32 p3 s1 s2) then p3 else s1)) else p3))
def f4_o_A_a1_2 (p2 : Int32) (p3 : Int32) (p4 : Int32) (p5 : Int32) (s0 : Int32) (s1 : Int32) (s2 : Int32) : Int32 := (if ((p2 >>> (p3 &&& 31)) &&& (1 : Int32)) = (0 : Int32) then s2 else (if (0 : Int32) < s0 then (if p4 < (f4_v22 p3 s1) then (1 : Int32) else (if p5 < (f4_v32 p3 s1 s2) then (1 : Int32) else (f4_w54 s2))) else (1 : Int32)))
def Q4 (Z : State) (a1 : Addr) (p2 : Int32) (p3 : Int32) (p4 : Int32) (p5 : Int32) (s0 : Int32) (s1 : Int32) (s2 : Int32) (h0 : Heap) (n0 : Nat) (v : Option Value) (h : Heap) (L : List Loc) : Prop := v = none ∧ Fr n0 L ∧ Keep h0 h [a1] ∧ IA Z h a1 .int [(.int (f4_o_A_a1_0 p2 p3 p4 p5 s0 s1 s2)), (.int (f4_o_A_a1_1 p2 p3 p4 p5 s0 s1 s2)), (.int (f4_o_A_a1_2 p2 p3 p4 p5 s0 s1 s2))]
def rmR4 : Room := { frames := 0, cells := 0, slots := 0, locals := 0 }
theorem ef_4 (m : MethodId) (a1 : Addr) (p2 : Int32) (p3 : Int32) (p4 : Int32) (p5 : Int32) : entryFrame m #[(.ref a1), (.int p2), (.int p3), (.int p4), (.int p5)] 7 = mkF m 0 #[.val (.ref a1), .val (.int p2), .val (.int p3), .val (.int p4), .val (.int p5), .unset, .unset] [] := by first | (simp [entryFrame, mkF, argsToLocals, Value.category]; done) | rfl
theorem pn_com_example_tightfold_tightfold_FocusFilteringFilterPinLaw : plainName "com/example/tightfold/tightfold/FocusFilteringFilterPinLaw" = true := by first | (simp [plainName, overriddenIn]; done) | decide +kernel
set_option maxRecDepth 65536 in
set_option maxHeartbeats 40000000 in
theorem rm4 (l : Launch) (Z : State) (a0 : Array Value) (hw : ∀ d ∈ tables_1, d.before a0 Z = true) (ws : List Jvm.Cond) (a1 : Addr) (p2 : Int32) (p3 : Int32) (p4 : Int32) (p5 : Int32) (s0 : Int32) (s1 : Int32) (s2 : Int32) (h0 : Heap) (n0 : Nat) (Z0 : n0 ≤ h0.size) (F_A_a1 : IA Z h0 a1 .int [(.int s0), (.int s1), (.int s2)]) (g_a1 : n0 ≤ a1) :
    Mt l Z mt14 (Jvm.Cond.code mt14 method_6_code 7 none :: ws) rmR4 #[(.ref a1), (.int p2), (.int p3), (.int p4), (.int p5)] h0 (Q4 Z a1 p2 p3 p4 p5 s0 s1 s2 h0 n0) := by
  refine Mt.of n0 (plainFor_of_name pn_com_example_tightfold_tightfold_FocusFilteringFilterPinLaw) ?_
  intro p e s m below meth c T0 X0 hx hZ hby hml hown hret hlk hnm hs0
  have hown : s.vm.findClass "com/example/tightfold/tightfold/FocusFilteringFilterPinLaw" = some m.cls := hown
  rw [ef_4]
  show Rt p e below s rmR4.cells rmR4.slots (Q4 Z a1 p2 p3 p4 p5 s0 s1 s2 h0 n0) (T0.setTop (mkF m 0 #[.val (.ref a1), .val (.int p2), .val (.int p3), .val (.int p4), .val (.int p5), .unset, .unset] []))
  refine Rt.iloadN (pc' := 1) X0 hx (hb hby d4_0) rfl rfl ?_
  refine Rt.iloadN (pc' := 2) X0 hx (hb hby d4_1) rfl rfl ?_
  refine Rt.ishr (pc' := 3) (r := (p2 >>> (p3 &&& 31))) X0 hx (hb hby d4_2) rfl rfl ?_
  refine Rt.iconst (pc' := 4) (v := (1 : Int32)) X0 hx (hb hby d4_3) rfl rfl ?_
  refine Rt.iand (pc' := 5) (r := ((p2 >>> (p3 &&& 31)) &&& (1 : Int32))) X0 hx (hb hby d4_4) rfl rfl ?_
  by_cases hc5_1 : ((p2 >>> (p3 &&& 31)) &&& (1 : Int32)) = (0 : Int32)
  · refine Rt.ifN (pc' := 8) X0 hx (hb hby d4_5) ((if0 _ _).trans (teq hc5_1).2) rfl ?_
    have F2 : IA Z h0 a1 .int [(.int (f4_o_A_a1_0 p2 p3 p4 p5 s0 s1 s2)), (.int s1), (.int s2)] := by rw [show (f4_o_A_a1_0 p2 p3 p4 p5 s0 s1 s2) = s0 from by rw [f4_o_A_a1_0, if_pos hc5_1]]; exact F_A_a1
    have F3 : IA Z h0 a1 .int [(.int (f4_o_A_a1_0 p2 p3 p4 p5 s0 s1 s2)), (.int (f4_o_A_a1_1 p2 p3 p4 p5 s0 s1 s2)), (.int s2)] := by rw [show (f4_o_A_a1_1 p2 p3 p4 p5 s0 s1 s2) = s1 from by rw [f4_o_A_a1_1, if_pos hc5_1]]; exact F2
    have F4 : IA Z h0 a1 .int [(.int (f4_o_A_a1_0 p2 p3 p4 p5 s0 s1 s2)), (.int (f4_o_A_a1_1 p2 p3 p4 p5 s0 s1 s2)), (.int (f4_o_A_a1_2 p2 p3 p4 p5 s0 s1 s2))] := by rw [show (f4_o_A_a1_2 p2 p3 p4 p5 s0 s1 s2) = s2 from by rw [f4_o_A_a1_2, if_pos hc5_1]]; exact F3
    exact Rt.retV X0 hx hlk hret (hb hby d4_8) (by decide) (by decide) (fun L N => ⟨rfl, N, (Keep.refl h0 [a1]), F4⟩)
  · refine Rt.ifY (pc' := 9) X0 hx (hb hby d4_5) ((if0 _ _).trans (feq hc5_1).2) (by decide) (by decide) ?_
    refine Rt.aloadN (pc' := 10) X0 hx (hb hby d4_9) rfl rfl rfl ?_
    refine Rt.iconst (pc' := 11) (v := (0 : Int32)) X0 hx (hb hby d4_10) rfl rfl ?_
    refine Rt.iaload (pc' := 12) X0 hx hZ F_A_a1 (i := 0) (by decide) (by decide) (v := (.int s0)) rfl (hb hby d4_11) rfl ?_
    by_cases hc12_5 : (0 : Int32) < s0
    · refine Rt.ifN (pc' := 15) X0 hx (hb hby d4_12) ((if0 _ _).trans (tlt hc12_5).2.2.2) rfl ?_
      refine Rt.iloadN (pc' := 16) X0 hx (hb hby d4_15) rfl rfl ?_
      refine Rt.aloadN (pc' := 17) X0 hx (hb hby d4_16) rfl rfl rfl ?_
      refine Rt.iconst (pc' := 18) (v := (1 : Int32)) X0 hx (hb hby d4_17) rfl rfl ?_
      refine Rt.iaload (pc' := 19) X0 hx hZ F_A_a1 (i := 1) (by decide) (by decide) (v := (.int s1)) rfl (hb hby d4_18) rfl ?_
      refine Rt.isub (pc' := 20) (r := (p3 - s1)) X0 hx (hb hby d4_19) rfl rfl ?_
      refine Rt.iconst (pc' := 21) (v := (1 : Int32)) X0 hx (hb hby d4_20) rfl rfl ?_
      refine Rt.iadd (pc' := 22) (r := ((p3 - s1) + (1 : Int32))) X0 hx (hb hby d4_21) rfl rfl ?_
      refine Rt.istore (pc' := 24) (v := (f4_v22 p3 s1)) (l' := #[.val (.ref a1), .val (.int p2), .val (.int p3), .val (.int p4), .val (.int p5), .val (.int (f4_v22 p3 s1)), .unset]) X0 hx (hb hby d4_22) rfl rfl ?_
      refine Rt.iload (pc' := 26) X0 hx (hb hby d4_24) rfl rfl ?_
      refine Rt.aloadN (pc' := 27) X0 hx (hb hby d4_26) rfl rfl rfl ?_
      refine Rt.iconst (pc' := 28) (v := (2 : Int32)) X0 hx (hb hby d4_27) rfl rfl ?_
      refine Rt.iaload (pc' := 29) X0 hx hZ F_A_a1 (i := 2) (by decide) (by decide) (v := (.int s2)) rfl (hb hby d4_28) rfl ?_
      refine Rt.iconst (pc' := 30) (v := (1 : Int32)) X0 hx (hb hby d4_29) rfl rfl ?_
      refine Rt.iadd (pc' := 31) (r := (s2 + (1 : Int32))) X0 hx (hb hby d4_30) rfl rfl ?_
      refine Rt.isub (pc' := 32) (r := ((f4_v22 p3 s1) - (s2 + (1 : Int32)))) X0 hx (hb hby d4_31) rfl rfl ?_
      refine Rt.istore (pc' := 34) (v := (f4_v32 p3 s1 s2)) (l' := #[.val (.ref a1), .val (.int p2), .val (.int p3), .val (.int p4), .val (.int p5), .val (.int (f4_v22 p3 s1)), .val (.int (f4_v32 p3 s1 s2))]) X0 hx (hb hby d4_32) rfl rfl ?_
      refine Rt.iload (pc' := 36) X0 hx (hb hby d4_34) rfl rfl ?_
      refine Rt.iloadN (pc' := 37) X0 hx (hb hby d4_36) rfl rfl ?_
      by_cases hc37_6 : p4 < (f4_v22 p3 s1)
      · refine Rt.icmpY (pc' := 56) X0 hx (hb hby d4_37) (tlt hc37_6).2.2.1 (by decide) (by decide) ?_
        refine Rt.aloadN (pc' := 57) X0 hx (hb hby d4_56) rfl rfl rfl ?_
        refine Rt.iconst (pc' := 58) (v := (0 : Int32)) X0 hx (hb hby d4_57) rfl rfl ?_
        refine Rt.aloadN (pc' := 59) X0 hx (hb hby d4_58) rfl rfl rfl ?_
        refine Rt.iconst (pc' := 60) (v := (0 : Int32)) X0 hx (hb hby d4_59) rfl rfl ?_
        refine Rt.iaload (pc' := 61) X0 hx hZ F_A_a1 (i := 0) (by decide) (by decide) (v := (.int s0)) rfl (hb hby d4_60) rfl ?_
        refine Rt.iconst (pc' := 62) (v := (1 : Int32)) X0 hx (hb hby d4_61) rfl rfl ?_
        refine Rt.iadd (pc' := 63) (r := (s0 + (1 : Int32))) X0 hx (hb hby d4_62) rfl rfl ?_
        refine Rt.iastore (pc' := 64) X0 hx hZ F_A_a1 (i := 0) (by decide) (by decide) (Nat.le_of_ble_eq_true rfl) (w := (.int (f4_w63 s0))) rfl g_a1 (hb hby d4_63) rfl ?_
        intro T7 h7 X7 W7 F7
        have F7 : IA Z h7 a1 .int [(.int (f4_w63 s0)), (.int s1), (.int s2)] := F7
        have K8 := (Keep.refl h0 [a1]).wr W7 (Or.inl (List.mem_of_getElem? (i := 0) rfl))
        have Z9 := Nat.le_trans Z0 (Keep.of_wr W7).1
        refine Rt.aloadN (pc' := 65) X7 hx (hb hby d4_64) rfl rfl rfl ?_
        refine Rt.iconst (pc' := 66) (v := (1 : Int32)) X7 hx (hb hby d4_65) rfl rfl ?_
        refine Rt.iloadN (pc' := 67) X7 hx (hb hby d4_66) rfl rfl ?_
        refine Rt.iastore (pc' := 68) X7 hx hZ F7 (i := 1) (by decide) (by decide) (Nat.le_of_ble_eq_true rfl) (w := (.int p3)) rfl g_a1 (hb hby d4_67) rfl ?_
        intro T10 h10 X10 W10 F10
        have F10 : IA Z h10 a1 .int [(.int (f4_w63 s0)), (.int p3), (.int s2)] := F10
        have K11 := K8.wr W10 (Or.inl (List.mem_of_getElem? (i := 0) rfl))
        have Z12 := Nat.le_trans Z9 (Keep.of_wr W10).1
        refine Rt.aloadN (pc' := 69) X10 hx (hb hby d4_68) rfl rfl rfl ?_
        refine Rt.iconst (pc' := 70) (v := (2 : Int32)) X10 hx (hb hby d4_69) rfl rfl ?_
        refine Rt.iconst (pc' := 71) (v := (1 : Int32)) X10 hx (hb hby d4_70) rfl rfl ?_
        refine Rt.iastore (pc' := 72) X10 hx hZ F10 (i := 2) (by decide) (by decide) (Nat.le_of_ble_eq_true rfl) (w := (.int (1 : Int32))) rfl g_a1 (hb hby d4_71) rfl ?_
        intro T13 h13 X13 W13 F13
        have F13 : IA Z h13 a1 .int [(.int (f4_w63 s0)), (.int p3), (.int (1 : Int32))] := F13
        have K14 := K11.wr W13 (Or.inl (List.mem_of_getElem? (i := 0) rfl))
        have Z15 := Nat.le_trans Z12 (Keep.of_wr W13).1
        have F16 : IA Z h13 a1 .int [(.int (f4_o_A_a1_0 p2 p3 p4 p5 s0 s1 s2)), (.int p3), (.int (1 : Int32))] := by rw [show (f4_o_A_a1_0 p2 p3 p4 p5 s0 s1 s2) = (f4_w63 s0) from by rw [f4_o_A_a1_0, if_neg hc5_1, if_pos hc12_5, if_pos hc37_6]]; exact F13
        have F17 : IA Z h13 a1 .int [(.int (f4_o_A_a1_0 p2 p3 p4 p5 s0 s1 s2)), (.int (f4_o_A_a1_1 p2 p3 p4 p5 s0 s1 s2)), (.int (1 : Int32))] := by rw [show (f4_o_A_a1_1 p2 p3 p4 p5 s0 s1 s2) = p3 from by rw [f4_o_A_a1_1, if_neg hc5_1, if_pos hc12_5, if_pos hc37_6]]; exact F16
        have F18 : IA Z h13 a1 .int [(.int (f4_o_A_a1_0 p2 p3 p4 p5 s0 s1 s2)), (.int (f4_o_A_a1_1 p2 p3 p4 p5 s0 s1 s2)), (.int (f4_o_A_a1_2 p2 p3 p4 p5 s0 s1 s2))] := by rw [show (f4_o_A_a1_2 p2 p3 p4 p5 s0 s1 s2) = (1 : Int32) from by rw [f4_o_A_a1_2, if_neg hc5_1, if_pos hc12_5, if_pos hc37_6]]; exact F17
        exact Rt.retV X13 hx hlk hret (hb hby d4_72) (by decide) (by decide) (fun L N => ⟨rfl, N, K14, F18⟩)
      · refine Rt.icmpN (pc' := 40) X0 hx (hb hby d4_37) (flt hc37_6).2.2.1 rfl ?_
        refine Rt.iload (pc' := 42) X0 hx (hb hby d4_40) rfl rfl ?_
        refine Rt.iload (pc' := 44) X0 hx (hb hby d4_42) rfl rfl ?_
        by_cases hc44_19 : p5 < (f4_v32 p3 s1 s2)
        · refine Rt.icmpY (pc' := 56) X0 hx (hb hby d4_44) (tlt hc44_19).2.2.1 (by decide) (by decide) ?_
          refine Rt.aloadN (pc' := 57) X0 hx (hb hby d4_56) rfl rfl rfl ?_
          refine Rt.iconst (pc' := 58) (v := (0 : Int32)) X0 hx (hb hby d4_57) rfl rfl ?_
          refine Rt.aloadN (pc' := 59) X0 hx (hb hby d4_58) rfl rfl rfl ?_
          refine Rt.iconst (pc' := 60) (v := (0 : Int32)) X0 hx (hb hby d4_59) rfl rfl ?_
          refine Rt.iaload (pc' := 61) X0 hx hZ F_A_a1 (i := 0) (by decide) (by decide) (v := (.int s0)) rfl (hb hby d4_60) rfl ?_
          refine Rt.iconst (pc' := 62) (v := (1 : Int32)) X0 hx (hb hby d4_61) rfl rfl ?_
          refine Rt.iadd (pc' := 63) (r := (s0 + (1 : Int32))) X0 hx (hb hby d4_62) rfl rfl ?_
          refine Rt.iastore (pc' := 64) X0 hx hZ F_A_a1 (i := 0) (by decide) (by decide) (Nat.le_of_ble_eq_true rfl) (w := (.int (f4_w63 s0))) rfl g_a1 (hb hby d4_63) rfl ?_
          intro T20 h20 X20 W20 F20
          have F20 : IA Z h20 a1 .int [(.int (f4_w63 s0)), (.int s1), (.int s2)] := F20
          have K21 := (Keep.refl h0 [a1]).wr W20 (Or.inl (List.mem_of_getElem? (i := 0) rfl))
          have Z22 := Nat.le_trans Z0 (Keep.of_wr W20).1
          refine Rt.aloadN (pc' := 65) X20 hx (hb hby d4_64) rfl rfl rfl ?_
          refine Rt.iconst (pc' := 66) (v := (1 : Int32)) X20 hx (hb hby d4_65) rfl rfl ?_
          refine Rt.iloadN (pc' := 67) X20 hx (hb hby d4_66) rfl rfl ?_
          refine Rt.iastore (pc' := 68) X20 hx hZ F20 (i := 1) (by decide) (by decide) (Nat.le_of_ble_eq_true rfl) (w := (.int p3)) rfl g_a1 (hb hby d4_67) rfl ?_
          intro T23 h23 X23 W23 F23
          have F23 : IA Z h23 a1 .int [(.int (f4_w63 s0)), (.int p3), (.int s2)] := F23
          have K24 := K21.wr W23 (Or.inl (List.mem_of_getElem? (i := 0) rfl))
          have Z25 := Nat.le_trans Z22 (Keep.of_wr W23).1
          refine Rt.aloadN (pc' := 69) X23 hx (hb hby d4_68) rfl rfl rfl ?_
          refine Rt.iconst (pc' := 70) (v := (2 : Int32)) X23 hx (hb hby d4_69) rfl rfl ?_
          refine Rt.iconst (pc' := 71) (v := (1 : Int32)) X23 hx (hb hby d4_70) rfl rfl ?_
          refine Rt.iastore (pc' := 72) X23 hx hZ F23 (i := 2) (by decide) (by decide) (Nat.le_of_ble_eq_true rfl) (w := (.int (1 : Int32))) rfl g_a1 (hb hby d4_71) rfl ?_
          intro T26 h26 X26 W26 F26
          have F26 : IA Z h26 a1 .int [(.int (f4_w63 s0)), (.int p3), (.int (1 : Int32))] := F26
          have K27 := K24.wr W26 (Or.inl (List.mem_of_getElem? (i := 0) rfl))
          have Z28 := Nat.le_trans Z25 (Keep.of_wr W26).1
          have F29 : IA Z h26 a1 .int [(.int (f4_o_A_a1_0 p2 p3 p4 p5 s0 s1 s2)), (.int p3), (.int (1 : Int32))] := by rw [show (f4_o_A_a1_0 p2 p3 p4 p5 s0 s1 s2) = (f4_w63 s0) from by rw [f4_o_A_a1_0, if_neg hc5_1, if_pos hc12_5, if_neg hc37_6, if_pos hc44_19]]; exact F26
          have F30 : IA Z h26 a1 .int [(.int (f4_o_A_a1_0 p2 p3 p4 p5 s0 s1 s2)), (.int (f4_o_A_a1_1 p2 p3 p4 p5 s0 s1 s2)), (.int (1 : Int32))] := by rw [show (f4_o_A_a1_1 p2 p3 p4 p5 s0 s1 s2) = p3 from by rw [f4_o_A_a1_1, if_neg hc5_1, if_pos hc12_5, if_neg hc37_6, if_pos hc44_19]]; exact F29
          have F31 : IA Z h26 a1 .int [(.int (f4_o_A_a1_0 p2 p3 p4 p5 s0 s1 s2)), (.int (f4_o_A_a1_1 p2 p3 p4 p5 s0 s1 s2)), (.int (f4_o_A_a1_2 p2 p3 p4 p5 s0 s1 s2))] := by rw [show (f4_o_A_a1_2 p2 p3 p4 p5 s0 s1 s2) = (1 : Int32) from by rw [f4_o_A_a1_2, if_neg hc5_1, if_pos hc12_5, if_neg hc37_6, if_pos hc44_19]]; exact F30
          exact Rt.retV X26 hx hlk hret (hb hby d4_72) (by decide) (by decide) (fun L N => ⟨rfl, N, K27, F31⟩)
        · refine Rt.icmpN (pc' := 47) X0 hx (hb hby d4_44) (flt hc44_19).2.2.1 rfl ?_
          refine Rt.aloadN (pc' := 48) X0 hx (hb hby d4_47) rfl rfl rfl ?_
          refine Rt.iconst (pc' := 49) (v := (2 : Int32)) X0 hx (hb hby d4_48) rfl rfl ?_
          refine Rt.aloadN (pc' := 50) X0 hx (hb hby d4_49) rfl rfl rfl ?_
          refine Rt.iconst (pc' := 51) (v := (2 : Int32)) X0 hx (hb hby d4_50) rfl rfl ?_
          refine Rt.iaload (pc' := 52) X0 hx hZ F_A_a1 (i := 2) (by decide) (by decide) (v := (.int s2)) rfl (hb hby d4_51) rfl ?_
          refine Rt.iconst (pc' := 53) (v := (1 : Int32)) X0 hx (hb hby d4_52) rfl rfl ?_
          refine Rt.iadd (pc' := 54) (r := (s2 + (1 : Int32))) X0 hx (hb hby d4_53) rfl rfl ?_
          refine Rt.iastore (pc' := 55) X0 hx hZ F_A_a1 (i := 2) (by decide) (by decide) (Nat.le_of_ble_eq_true rfl) (w := (.int (f4_w54 s2))) rfl g_a1 (hb hby d4_54) rfl ?_
          intro T32 h32 X32 W32 F32
          have F32 : IA Z h32 a1 .int [(.int s0), (.int s1), (.int (f4_w54 s2))] := F32
          have K33 := (Keep.refl h0 [a1]).wr W32 (Or.inl (List.mem_of_getElem? (i := 0) rfl))
          have Z34 := Nat.le_trans Z0 (Keep.of_wr W32).1
          have F35 : IA Z h32 a1 .int [(.int (f4_o_A_a1_0 p2 p3 p4 p5 s0 s1 s2)), (.int s1), (.int (f4_w54 s2))] := by rw [show (f4_o_A_a1_0 p2 p3 p4 p5 s0 s1 s2) = s0 from by rw [f4_o_A_a1_0, if_neg hc5_1, if_pos hc12_5, if_neg hc37_6, if_neg hc44_19]]; exact F32
          have F36 : IA Z h32 a1 .int [(.int (f4_o_A_a1_0 p2 p3 p4 p5 s0 s1 s2)), (.int (f4_o_A_a1_1 p2 p3 p4 p5 s0 s1 s2)), (.int (f4_w54 s2))] := by rw [show (f4_o_A_a1_1 p2 p3 p4 p5 s0 s1 s2) = s1 from by rw [f4_o_A_a1_1, if_neg hc5_1, if_pos hc12_5, if_neg hc37_6, if_neg hc44_19]]; exact F35
          have F37 : IA Z h32 a1 .int [(.int (f4_o_A_a1_0 p2 p3 p4 p5 s0 s1 s2)), (.int (f4_o_A_a1_1 p2 p3 p4 p5 s0 s1 s2)), (.int (f4_o_A_a1_2 p2 p3 p4 p5 s0 s1 s2))] := by rw [show (f4_o_A_a1_2 p2 p3 p4 p5 s0 s1 s2) = (f4_w54 s2) from by rw [f4_o_A_a1_2, if_neg hc5_1, if_pos hc12_5, if_neg hc37_6, if_neg hc44_19]]; exact F36
          exact Rt.retV X32 hx hlk hret (hb hby d4_55) (by decide) (by decide) (fun L N => ⟨rfl, N, K33, F37⟩)
    · refine Rt.ifY (pc' := 56) X0 hx (hb hby d4_12) ((if0 _ _).trans (flt hc12_5).2.2.2) (by decide) (by decide) ?_
      refine Rt.aloadN (pc' := 57) X0 hx (hb hby d4_56) rfl rfl rfl ?_
      refine Rt.iconst (pc' := 58) (v := (0 : Int32)) X0 hx (hb hby d4_57) rfl rfl ?_
      refine Rt.aloadN (pc' := 59) X0 hx (hb hby d4_58) rfl rfl rfl ?_
      refine Rt.iconst (pc' := 60) (v := (0 : Int32)) X0 hx (hb hby d4_59) rfl rfl ?_
      refine Rt.iaload (pc' := 61) X0 hx hZ F_A_a1 (i := 0) (by decide) (by decide) (v := (.int s0)) rfl (hb hby d4_60) rfl ?_
      refine Rt.iconst (pc' := 62) (v := (1 : Int32)) X0 hx (hb hby d4_61) rfl rfl ?_
      refine Rt.iadd (pc' := 63) (r := (s0 + (1 : Int32))) X0 hx (hb hby d4_62) rfl rfl ?_
      refine Rt.iastore (pc' := 64) X0 hx hZ F_A_a1 (i := 0) (by decide) (by decide) (Nat.le_of_ble_eq_true rfl) (w := (.int (f4_w63 s0))) rfl g_a1 (hb hby d4_63) rfl ?_
      intro T38 h38 X38 W38 F38
      have F38 : IA Z h38 a1 .int [(.int (f4_w63 s0)), (.int s1), (.int s2)] := F38
      have K39 := (Keep.refl h0 [a1]).wr W38 (Or.inl (List.mem_of_getElem? (i := 0) rfl))
      have Z40 := Nat.le_trans Z0 (Keep.of_wr W38).1
      refine Rt.aloadN (pc' := 65) X38 hx (hb hby d4_64) rfl rfl rfl ?_
      refine Rt.iconst (pc' := 66) (v := (1 : Int32)) X38 hx (hb hby d4_65) rfl rfl ?_
      refine Rt.iloadN (pc' := 67) X38 hx (hb hby d4_66) rfl rfl ?_
      refine Rt.iastore (pc' := 68) X38 hx hZ F38 (i := 1) (by decide) (by decide) (Nat.le_of_ble_eq_true rfl) (w := (.int p3)) rfl g_a1 (hb hby d4_67) rfl ?_
      intro T41 h41 X41 W41 F41
      have F41 : IA Z h41 a1 .int [(.int (f4_w63 s0)), (.int p3), (.int s2)] := F41
      have K42 := K39.wr W41 (Or.inl (List.mem_of_getElem? (i := 0) rfl))
      have Z43 := Nat.le_trans Z40 (Keep.of_wr W41).1
      refine Rt.aloadN (pc' := 69) X41 hx (hb hby d4_68) rfl rfl rfl ?_
      refine Rt.iconst (pc' := 70) (v := (2 : Int32)) X41 hx (hb hby d4_69) rfl rfl ?_
      refine Rt.iconst (pc' := 71) (v := (1 : Int32)) X41 hx (hb hby d4_70) rfl rfl ?_
      refine Rt.iastore (pc' := 72) X41 hx hZ F41 (i := 2) (by decide) (by decide) (Nat.le_of_ble_eq_true rfl) (w := (.int (1 : Int32))) rfl g_a1 (hb hby d4_71) rfl ?_
      intro T44 h44 X44 W44 F44
      have F44 : IA Z h44 a1 .int [(.int (f4_w63 s0)), (.int p3), (.int (1 : Int32))] := F44
      have K45 := K42.wr W44 (Or.inl (List.mem_of_getElem? (i := 0) rfl))
      have Z46 := Nat.le_trans Z43 (Keep.of_wr W44).1
      have F47 : IA Z h44 a1 .int [(.int (f4_o_A_a1_0 p2 p3 p4 p5 s0 s1 s2)), (.int p3), (.int (1 : Int32))] := by rw [show (f4_o_A_a1_0 p2 p3 p4 p5 s0 s1 s2) = (f4_w63 s0) from by rw [f4_o_A_a1_0, if_neg hc5_1, if_neg hc12_5]]; exact F44
      have F48 : IA Z h44 a1 .int [(.int (f4_o_A_a1_0 p2 p3 p4 p5 s0 s1 s2)), (.int (f4_o_A_a1_1 p2 p3 p4 p5 s0 s1 s2)), (.int (1 : Int32))] := by rw [show (f4_o_A_a1_1 p2 p3 p4 p5 s0 s1 s2) = p3 from by rw [f4_o_A_a1_1, if_neg hc5_1, if_neg hc12_5]]; exact F47
      have F49 : IA Z h44 a1 .int [(.int (f4_o_A_a1_0 p2 p3 p4 p5 s0 s1 s2)), (.int (f4_o_A_a1_1 p2 p3 p4 p5 s0 s1 s2)), (.int (f4_o_A_a1_2 p2 p3 p4 p5 s0 s1 s2))] := by rw [show (f4_o_A_a1_2 p2 p3 p4 p5 s0 s1 s2) = (1 : Int32) from by rw [f4_o_A_a1_2, if_neg hc5_1, if_neg hc12_5]]; exact F48
      exact Rt.retV X44 hx hlk hret (hb hby d4_72) (by decide) (by decide) (fun L N => ⟨rfl, N, K45, F49⟩)
theorem d3_0 : decode method_5_code 0 = .ok (.iconst 3, 1) := by decide +kernel
theorem d3_1 : decode method_5_code 1 = .ok (.newarray .int, 2) := by decide +kernel
theorem d3_3 : decode method_5_code 3 = .ok (.astore_n 3, 1) := by decide +kernel
theorem d3_4 : decode method_5_code 4 = .ok (.aload_n 3, 1) := by decide +kernel
theorem d3_5 : decode method_5_code 5 = .ok (.iload_n 0, 1) := by decide +kernel
theorem d3_6 : decode method_5_code 6 = .ok (.iconst 0, 1) := by decide +kernel
theorem d3_7 : decode method_5_code 7 = .ok (.iload_n 1, 1) := by decide +kernel
theorem d3_8 : decode method_5_code 8 = .ok (.iload_n 2, 1) := by decide +kernel
theorem pd_10 : parseMethodDescriptor "([IIIII)V" = some ⟨[(.array .int), .int, .int, .int, .int], none⟩ := by decide +kernel
theorem d3_9 : decode method_5_code 9 = .ok (.invokestatic 40, 3) := by decide +kernel
theorem d3_12 : decode method_5_code 12 = .ok (.aload_n 3, 1) := by decide +kernel
theorem d3_13 : decode method_5_code 13 = .ok (.iload_n 0, 1) := by decide +kernel
theorem d3_14 : decode method_5_code 14 = .ok (.iconst 1, 1) := by decide +kernel
theorem d3_15 : decode method_5_code 15 = .ok (.iload_n 1, 1) := by decide +kernel
theorem d3_16 : decode method_5_code 16 = .ok (.iload_n 2, 1) := by decide +kernel
theorem d3_17 : decode method_5_code 17 = .ok (.invokestatic 40, 3) := by decide +kernel
theorem d3_20 : decode method_5_code 20 = .ok (.aload_n 3, 1) := by decide +kernel
theorem d3_21 : decode method_5_code 21 = .ok (.iload_n 0, 1) := by decide +kernel
theorem d3_22 : decode method_5_code 22 = .ok (.iconst 2, 1) := by decide +kernel
theorem d3_23 : decode method_5_code 23 = .ok (.iload_n 1, 1) := by decide +kernel
theorem d3_24 : decode method_5_code 24 = .ok (.iload_n 2, 1) := by decide +kernel
theorem d3_25 : decode method_5_code 25 = .ok (.invokestatic 40, 3) := by decide +kernel
theorem d3_28 : decode method_5_code 28 = .ok (.aload_n 3, 1) := by decide +kernel
theorem d3_29 : decode method_5_code 29 = .ok (.iload_n 0, 1) := by decide +kernel
theorem d3_30 : decode method_5_code 30 = .ok (.iconst 3, 1) := by decide +kernel
theorem d3_31 : decode method_5_code 31 = .ok (.iload_n 1, 1) := by decide +kernel
theorem d3_32 : decode method_5_code 32 = .ok (.iload_n 2, 1) := by decide +kernel
theorem d3_33 : decode method_5_code 33 = .ok (.invokestatic 40, 3) := by decide +kernel
theorem d3_36 : decode method_5_code 36 = .ok (.aload_n 3, 1) := by decide +kernel
theorem d3_37 : decode method_5_code 37 = .ok (.iconst 0, 1) := by decide +kernel
theorem d3_38 : decode method_5_code 38 = .ok (.iaload, 1) := by decide +kernel
theorem d3_39 : decode method_5_code 39 = .ok (.ireturn, 1) := by decide +kernel
def f3_c9_b10 (p1 : Int32) (p2 : Int32) (p3 : Int32) : Int32 := (f4_o_A_a1_0 p1 (0 : Int32) p2 p3 (0 : Int32) (0 : Int32) (0 : Int32))
def f3_c9_b11 (p1 : Int32) (p2 : Int32) (p3 : Int32) : Int32 := (f4_o_A_a1_1 p1 (0 : Int32) p2 p3 (0 : Int32) (0 : Int32) (0 : Int32))
def f3_c9_b12 (p1 : Int32) (p2 : Int32) (p3 : Int32) : Int32 := (f4_o_A_a1_2 p1 (0 : Int32) p2 p3 (0 : Int32) (0 : Int32) (0 : Int32))
def f3_c17_b10 (p1 : Int32) (p2 : Int32) (p3 : Int32) : Int32 := (f4_o_A_a1_0 p1 (1 : Int32) p2 p3 (f3_c9_b10 p1 p2 p3) (f3_c9_b11 p1 p2 p3) (f3_c9_b12 p1 p2 p3))
def f3_c17_b11 (p1 : Int32) (p2 : Int32) (p3 : Int32) : Int32 := (f4_o_A_a1_1 p1 (1 : Int32) p2 p3 (f3_c9_b10 p1 p2 p3) (f3_c9_b11 p1 p2 p3) (f3_c9_b12 p1 p2 p3))
def f3_c17_b12 (p1 : Int32) (p2 : Int32) (p3 : Int32) : Int32 := (f4_o_A_a1_2 p1 (1 : Int32) p2 p3 (f3_c9_b10 p1 p2 p3) (f3_c9_b11 p1 p2 p3) (f3_c9_b12 p1 p2 p3))
def f3_c25_b10 (p1 : Int32) (p2 : Int32) (p3 : Int32) : Int32 := (f4_o_A_a1_0 p1 (2 : Int32) p2 p3 (f3_c17_b10 p1 p2 p3) (f3_c17_b11 p1 p2 p3) (f3_c17_b12 p1 p2 p3))
def f3_c25_b11 (p1 : Int32) (p2 : Int32) (p3 : Int32) : Int32 := (f4_o_A_a1_1 p1 (2 : Int32) p2 p3 (f3_c17_b10 p1 p2 p3) (f3_c17_b11 p1 p2 p3) (f3_c17_b12 p1 p2 p3))
def f3_c25_b12 (p1 : Int32) (p2 : Int32) (p3 : Int32) : Int32 := (f4_o_A_a1_2 p1 (2 : Int32) p2 p3 (f3_c17_b10 p1 p2 p3) (f3_c17_b11 p1 p2 p3) (f3_c17_b12 p1 p2 p3))
def f3_c33_b10 (p1 : Int32) (p2 : Int32) (p3 : Int32) : Int32 := (f4_o_A_a1_0 p1 (3 : Int32) p2 p3 (f3_c25_b10 p1 p2 p3) (f3_c25_b11 p1 p2 p3) (f3_c25_b12 p1 p2 p3))
def f3_c33_b11 (p1 : Int32) (p2 : Int32) (p3 : Int32) : Int32 := (f4_o_A_a1_1 p1 (3 : Int32) p2 p3 (f3_c25_b10 p1 p2 p3) (f3_c25_b11 p1 p2 p3) (f3_c25_b12 p1 p2 p3))
def f3_c33_b12 (p1 : Int32) (p2 : Int32) (p3 : Int32) : Int32 := (f4_o_A_a1_2 p1 (3 : Int32) p2 p3 (f3_c25_b10 p1 p2 p3) (f3_c25_b11 p1 p2 p3) (f3_c25_b12 p1 p2 p3))
def f3 (p1 : Int32) (p2 : Int32) (p3 : Int32) : Int32 := (f3_c33_b10 p1 p2 p3)
def Q3 (Z : State) (p1 : Int32) (p2 : Int32) (p3 : Int32) (h0 : Heap) (n0 : Nat) (v : Option Value) (h : Heap) (L : List Loc) : Prop := v = some (.int (f3 p1 p2 p3)) ∧ Fr n0 L ∧ Keep h0 h []
def rmR3 : Room := { frames := 1, cells := 1, slots := 3, locals := 18 }
theorem ef_3 (m : MethodId) (p1 : Int32) (p2 : Int32) (p3 : Int32) : entryFrame m #[(.int p1), (.int p2), (.int p3)] 4 = mkF m 0 #[.val (.int p1), .val (.int p2), .val (.int p3), .unset] [] := by first | (simp [entryFrame, mkF, argsToLocals, Value.category]; done) | rfl
set_option maxRecDepth 65536 in
set_option maxHeartbeats 40000000 in
theorem rm3 (l : Launch) (Z : State) (a0 : Array Value) (hw : ∀ d ∈ tables_1, d.before a0 Z = true) (ws : List Jvm.Cond) (p1 : Int32) (p2 : Int32) (p3 : Int32) (h0 : Heap) (n0 : Nat) (Z0 : n0 ≤ h0.size) :
    Mt l Z mt15 (Jvm.Cond.code mt15 method_5_code 4 (some .int) :: ws) rmR3 #[(.int p1), (.int p2), (.int p3)] h0 (Q3 Z p1 p2 p3 h0 n0) := by
  refine Mt.of n0 (plainFor_of_name pn_com_example_tightfold_tightfold_FocusFilteringFilterPinLaw) ?_
  intro p e s m below meth c T0 X0 hx hZ hby hml hown hret hlk hnm hs0
  have hown : s.vm.findClass "com/example/tightfold/tightfold/FocusFilteringFilterPinLaw" = some m.cls := hown
  rw [ef_3]
  show Rt p e below s rmR3.cells rmR3.slots (Q3 Z p1 p2 p3 h0 n0) (T0.setTop (mkF m 0 #[.val (.int p1), .val (.int p2), .val (.int p3), .unset] []))
  refine Rt.iconst (pc' := 1) (v := (3 : Int32)) X0 hx (hb hby d3_0) rfl rfl ?_
  refine Rt.newP (pc' := 3) X0 hx hZ (ty := .int) rfl (own_g hw 6 rfl) (z := (3 : Int32)) (i := 3) (by decide) (by decide) (cap := 3) (by decide) (by decide) (hb hby d3_1) (by decide) (by decide) rfl ?_
  intro T1 h1 b1 ha1 X1 E1 A1
  have g2 : n0 ≤ b1 := by rw [ha1]; exact Z0
  have s3 : h0.size ≤ b1 := by rw [ha1]; exact (Keep.refl h0 []).1
  have K4 := (Keep.refl h0 []).ext E1
  have Z5 := Nat.le_trans Z0 E1.1
  have A1 : IA Z h1 b1 .int [(.int (0 : Int32)), (.int (0 : Int32)), (.int (0 : Int32))] := A1
  refine Rt.astoreN (pc' := 4) (v := (.ref b1)) (l' := #[.val (.int p1), .val (.int p2), .val (.int p3), .val (.ref b1)]) X1 hx (hb hby d3_3) rfl rfl rfl ?_
  refine Rt.aloadN (pc' := 5) X1 hx (hb hby d3_4) rfl rfl rfl ?_
  refine Rt.iloadN (pc' := 6) X1 hx (hb hby d3_5) rfl rfl ?_
  refine Rt.iconst (pc' := 7) (v := (0 : Int32)) X1 hx (hb hby d3_6) rfl rfl ?_
  refine Rt.iloadN (pc' := 8) X1 hx (hb hby d3_7) rfl rfl ?_
  refine Rt.iloadN (pc' := 9) X1 hx (hb hby d3_8) rfl rfl ?_
  refine Rt.callS (pc' := 12) X1 hx hZ (y := mt14) hown (own_g hw 14 rfl) (own_g hw 15 rfl) (own_g hw 9 rfl) (own_g hw 16 rfl) (by decide) (rm4 l Z a0 hw [] b1 p1 (0 : Int32) p2 p3 (0 : Int32) (0 : Int32) (0 : Int32) h1 n0 Z5 A1 g2) (fun _ _ _ q => q.2.1) (W := 0) (by decide) (by decide) (by decide) (by decide) (argsL := [(.ref b1), (.int p1), (.int (0 : Int32)), (.int p2), (.int p3)]) (rest := []) (by rw [hml]; rfl) (lenOf pd_10 rfl) rfl rfl (Nat.le_of_eq rfl) (hb hby d3_9) rfl ?_
  rintro _ T6 h6 L6 X6 ⟨rfl, N6, K6, F7⟩
  have K8 := K4.trans K6 (allS (Or.inr s3) all0)
  have Z9 := Nat.le_trans Z5 K6.1
  have F10 : IA Z h6 b1 .int [(.int (f3_c9_b10 p1 p2 p3)), (.int (f3_c9_b11 p1 p2 p3)), (.int (f3_c9_b12 p1 p2 p3))] := F7
  show Rt _ _ _ _ _ _ _ (T6.setTop (mkF m 12 #[.val (.int p1), .val (.int p2), .val (.int p3), .val (.ref b1)] []))
  refine Rt.aloadN (pc' := 13) X6 hx (hb hby d3_12) rfl rfl rfl ?_
  refine Rt.iloadN (pc' := 14) X6 hx (hb hby d3_13) rfl rfl ?_
  refine Rt.iconst (pc' := 15) (v := (1 : Int32)) X6 hx (hb hby d3_14) rfl rfl ?_
  refine Rt.iloadN (pc' := 16) X6 hx (hb hby d3_15) rfl rfl ?_
  refine Rt.iloadN (pc' := 17) X6 hx (hb hby d3_16) rfl rfl ?_
  refine Rt.callS (pc' := 20) X6 hx hZ (y := mt14) hown (own_g hw 14 rfl) (own_g hw 15 rfl) (own_g hw 9 rfl) (own_g hw 16 rfl) (by decide) (rm4 l Z a0 hw [] b1 p1 (1 : Int32) p2 p3 (f3_c9_b10 p1 p2 p3) (f3_c9_b11 p1 p2 p3) (f3_c9_b12 p1 p2 p3) h6 n0 Z9 F10 g2) (fun _ _ _ q => q.2.1) (W := 0) (by decide) (by decide) (by decide) (by decide) (argsL := [(.ref b1), (.int p1), (.int (1 : Int32)), (.int p2), (.int p3)]) (rest := []) (by rw [hml]; rfl) (lenOf pd_10 rfl) rfl rfl (Nat.le_of_eq rfl) (hb hby d3_17) rfl ?_
  rintro _ T11 h11 L11 X11 ⟨rfl, N11, K11, F12⟩
  have K13 := K8.trans K11 (allS (Or.inr s3) all0)
  have Z14 := Nat.le_trans Z9 K11.1
  have F15 : IA Z h11 b1 .int [(.int (f3_c17_b10 p1 p2 p3)), (.int (f3_c17_b11 p1 p2 p3)), (.int (f3_c17_b12 p1 p2 p3))] := F12
  show Rt _ _ _ _ _ _ _ (T11.setTop (mkF m 20 #[.val (.int p1), .val (.int p2), .val (.int p3), .val (.ref b1)] []))
  refine Rt.aloadN (pc' := 21) X11 hx (hb hby d3_20) rfl rfl rfl ?_
  refine Rt.iloadN (pc' := 22) X11 hx (hb hby d3_21) rfl rfl ?_
  refine Rt.iconst (pc' := 23) (v := (2 : Int32)) X11 hx (hb hby d3_22) rfl rfl ?_
  refine Rt.iloadN (pc' := 24) X11 hx (hb hby d3_23) rfl rfl ?_
  refine Rt.iloadN (pc' := 25) X11 hx (hb hby d3_24) rfl rfl ?_
  refine Rt.callS (pc' := 28) X11 hx hZ (y := mt14) hown (own_g hw 14 rfl) (own_g hw 15 rfl) (own_g hw 9 rfl) (own_g hw 16 rfl) (by decide) (rm4 l Z a0 hw [] b1 p1 (2 : Int32) p2 p3 (f3_c17_b10 p1 p2 p3) (f3_c17_b11 p1 p2 p3) (f3_c17_b12 p1 p2 p3) h11 n0 Z14 F15 g2) (fun _ _ _ q => q.2.1) (W := 0) (by decide) (by decide) (by decide) (by decide) (argsL := [(.ref b1), (.int p1), (.int (2 : Int32)), (.int p2), (.int p3)]) (rest := []) (by rw [hml]; rfl) (lenOf pd_10 rfl) rfl rfl (Nat.le_of_eq rfl) (hb hby d3_25) rfl ?_
  rintro _ T16 h16 L16 X16 ⟨rfl, N16, K16, F17⟩
  have K18 := K13.trans K16 (allS (Or.inr s3) all0)
  have Z19 := Nat.le_trans Z14 K16.1
  have F20 : IA Z h16 b1 .int [(.int (f3_c25_b10 p1 p2 p3)), (.int (f3_c25_b11 p1 p2 p3)), (.int (f3_c25_b12 p1 p2 p3))] := F17
  show Rt _ _ _ _ _ _ _ (T16.setTop (mkF m 28 #[.val (.int p1), .val (.int p2), .val (.int p3), .val (.ref b1)] []))
  refine Rt.aloadN (pc' := 29) X16 hx (hb hby d3_28) rfl rfl rfl ?_
  refine Rt.iloadN (pc' := 30) X16 hx (hb hby d3_29) rfl rfl ?_
  refine Rt.iconst (pc' := 31) (v := (3 : Int32)) X16 hx (hb hby d3_30) rfl rfl ?_
  refine Rt.iloadN (pc' := 32) X16 hx (hb hby d3_31) rfl rfl ?_
  refine Rt.iloadN (pc' := 33) X16 hx (hb hby d3_32) rfl rfl ?_
  refine Rt.callS (pc' := 36) X16 hx hZ (y := mt14) hown (own_g hw 14 rfl) (own_g hw 15 rfl) (own_g hw 9 rfl) (own_g hw 16 rfl) (by decide) (rm4 l Z a0 hw [] b1 p1 (3 : Int32) p2 p3 (f3_c25_b10 p1 p2 p3) (f3_c25_b11 p1 p2 p3) (f3_c25_b12 p1 p2 p3) h16 n0 Z19 F20 g2) (fun _ _ _ q => q.2.1) (W := 0) (by decide) (by decide) (by decide) (by decide) (argsL := [(.ref b1), (.int p1), (.int (3 : Int32)), (.int p2), (.int p3)]) (rest := []) (by rw [hml]; rfl) (lenOf pd_10 rfl) rfl rfl (Nat.le_of_eq rfl) (hb hby d3_33) rfl ?_
  rintro _ T21 h21 L21 X21 ⟨rfl, N21, K21, F22⟩
  have K23 := K18.trans K21 (allS (Or.inr s3) all0)
  have Z24 := Nat.le_trans Z19 K21.1
  have F25 : IA Z h21 b1 .int [(.int (f3_c33_b10 p1 p2 p3)), (.int (f3_c33_b11 p1 p2 p3)), (.int (f3_c33_b12 p1 p2 p3))] := F22
  show Rt _ _ _ _ _ _ _ (T21.setTop (mkF m 36 #[.val (.int p1), .val (.int p2), .val (.int p3), .val (.ref b1)] []))
  refine Rt.aloadN (pc' := 37) X21 hx (hb hby d3_36) rfl rfl rfl ?_
  refine Rt.iconst (pc' := 38) (v := (0 : Int32)) X21 hx (hb hby d3_37) rfl rfl ?_
  refine Rt.iaload (pc' := 39) X21 hx hZ F25 (i := 0) (by decide) (by decide) (v := (.int (f3_c33_b10 p1 p2 p3))) rfl (hb hby d3_38) rfl ?_
  exact Rt.retI X21 hx hlk hret (hb hby d3_39) (by decide) (by decide) (fun L N => ⟨congrArg some (congrArg Value.int (by rw [f3])), N, K23⟩)
theorem d2_0 : decode method_4_code 0 = .ok (.iload_n 1, 1) := by decide +kernel
theorem d2_1 : decode method_4_code 1 = .ok (.iconst (-1), 1) := by decide +kernel
theorem d2_2 : decode method_4_code 2 = .ok (.ixor, 1) := by decide +kernel
theorem d2_3 : decode method_4_code 3 = .ok (.bipush 15, 2) := by decide +kernel
theorem d2_5 : decode method_4_code 5 = .ok (.iand, 1) := by decide +kernel
theorem d2_6 : decode method_4_code 6 = .ok (.istore 7, 2) := by decide +kernel
theorem d2_8 : decode method_4_code 8 = .ok (.iload_n 1, 1) := by decide +kernel
theorem d2_9 : decode method_4_code 9 = .ok (.iload_n 3, 1) := by decide +kernel
theorem d2_10 : decode method_4_code 10 = .ok (.iconst (-1), 1) := by decide +kernel
theorem d2_11 : decode method_4_code 11 = .ok (.ixor, 1) := by decide +kernel
theorem d2_12 : decode method_4_code 12 = .ok (.iand, 1) := by decide +kernel
theorem d2_13 : decode method_4_code 13 = .ok (.ifCond .ne 12, 3) := by decide +kernel
theorem d2_16 : decode method_4_code 16 = .ok (.iload 7, 2) := by decide +kernel
theorem d2_18 : decode method_4_code 18 = .ok (.iload_n 2, 1) := by decide +kernel
theorem d2_19 : decode method_4_code 19 = .ok (.iconst (-1), 1) := by decide +kernel
theorem d2_20 : decode method_4_code 20 = .ok (.ixor, 1) := by decide +kernel
theorem d2_21 : decode method_4_code 21 = .ok (.iand, 1) := by decide +kernel
theorem d2_22 : decode method_4_code 22 = .ok (.ifCond .eq 4, 3) := by decide +kernel
theorem d2_26 : decode method_4_code 26 = .ok (.iload_n 1, 1) := by decide +kernel
theorem d2_27 : decode method_4_code 27 = .ok (.iload 4, 2) := by decide +kernel
theorem d2_29 : decode method_4_code 29 = .ok (.iload 5, 2) := by decide +kernel
theorem pd_11 : parseMethodDescriptor "(III)I" = some ⟨[.int, .int, .int], some .int⟩ := by decide +kernel
theorem d2_31 : decode method_4_code 31 = .ok (.invokestatic 33, 3) := by decide +kernel
theorem d2_34 : decode method_4_code 34 = .ok (.istore 8, 2) := by decide +kernel
theorem d2_36 : decode method_4_code 36 = .ok (.aload_n 0, 1) := by decide +kernel
theorem d2_37 : decode method_4_code 37 = .ok (.iconst 0, 1) := by decide +kernel
theorem d2_38 : decode method_4_code 38 = .ok (.aload_n 0, 1) := by decide +kernel
theorem d2_39 : decode method_4_code 39 = .ok (.iconst 0, 1) := by decide +kernel
theorem d2_40 : decode method_4_code 40 = .ok (.iaload, 1) := by decide +kernel
theorem d2_41 : decode method_4_code 41 = .ok (.iload 8, 2) := by decide +kernel
theorem d2_43 : decode method_4_code 43 = .ok (.invokestatic 37, 3) := by decide +kernel
theorem d2_46 : decode method_4_code 46 = .ok (.iastore, 1) := by decide +kernel
theorem d2_47 : decode method_4_code 47 = .ok (.iload 8, 2) := by decide +kernel
theorem d2_49 : decode method_4_code 49 = .ok (.iload 6, 2) := by decide +kernel
theorem d2_51 : decode method_4_code 51 = .ok (.if_icmp .gt 20, 3) := by decide +kernel
theorem d2_71 : decode method_4_code 71 = .ok (.return_, 1) := by decide +kernel
theorem d2_54 : decode method_4_code 54 = .ok (.aload_n 0, 1) := by decide +kernel
theorem d2_55 : decode method_4_code 55 = .ok (.iconst 1, 1) := by decide +kernel
theorem d2_56 : decode method_4_code 56 = .ok (.aload_n 0, 1) := by decide +kernel
theorem d2_57 : decode method_4_code 57 = .ok (.iconst 1, 1) := by decide +kernel
theorem d2_58 : decode method_4_code 58 = .ok (.iaload, 1) := by decide +kernel
theorem d2_59 : decode method_4_code 59 = .ok (.iload 7, 2) := by decide +kernel
theorem d2_61 : decode method_4_code 61 = .ok (.ior, 1) := by decide +kernel
theorem d2_62 : decode method_4_code 62 = .ok (.iastore, 1) := by decide +kernel
theorem d2_63 : decode method_4_code 63 = .ok (.aload_n 0, 1) := by decide +kernel
theorem d2_64 : decode method_4_code 64 = .ok (.iconst 2, 1) := by decide +kernel
theorem d2_65 : decode method_4_code 65 = .ok (.aload_n 0, 1) := by decide +kernel
theorem d2_66 : decode method_4_code 66 = .ok (.iconst 2, 1) := by decide +kernel
theorem d2_67 : decode method_4_code 67 = .ok (.iaload, 1) := by decide +kernel
theorem d2_68 : decode method_4_code 68 = .ok (.iload_n 1, 1) := by decide +kernel
theorem d2_69 : decode method_4_code 69 = .ok (.ior, 1) := by decide +kernel
theorem d2_70 : decode method_4_code 70 = .ok (.iastore, 1) := by decide +kernel
theorem d2_25 : decode method_4_code 25 = .ok (.return_, 1) := by decide +kernel
def f2_v6 (p2 : Int32) : Int32 := ((p2 ^^^ (-1 : Int32)) &&& (15 : Int32))
def f2_w46 (p2 : Int32) (p5 : Int32) (p6 : Int32) (x0 : Int32) : Int32 := (f5 x0 (f3 p2 p5 p6))
def f2_w62 (p2 : Int32) (x1 : Int32) : Int32 := (x1 ||| (f2_v6 p2))
def f2_o_A_a1_0 (p2 : Int32) (p3 : Int32) (p4 : Int32) (p5 : Int32) (p6 : Int32) (p7 : Int32) (x0 : Int32) : Int32 := (if (p2 &&& (p4 ^^^ (-1 : Int32))) = (0 : Int32) then (if ((f2_v6 p2) &&& (p3 ^^^ (-1 : Int32))) = (0 : Int32) then (if p7 < (f3 p2 p5 p6) then (f2_w46 p2 p5 p6 x0) else (f2_w46 p2 p5 p6 x0)) else x0) else x0)
def f2_o_A_a1_1 (p2 : Int32) (p3 : Int32) (p4 : Int32) (p5 : Int32) (p6 : Int32) (p7 : Int32) (x1 : Int32) : Int32 := (if (p2 &&& (p4 ^^^ (-1 : Int32))) = (0 : Int32) then (if ((f2_v6 p2) &&& (p3 ^^^ (-1 : Int32))) = (0 : Int32) then (if p7 < (f3 p2 p5 p6) then x1 else (f2_w62 p2 x1)) else x1) else x1)
def f2_o_A_a1_2 (p2 : Int32) (p3 : Int32) (p4 : Int32) (p5 : Int32) (p6 : Int32) (p7 : Int32) (x2 : Int32) : Int32 := (if (p2 &&& (p4 ^^^ (-1 : Int32))) = (0 : Int32) then (if ((f2_v6 p2) &&& (p3 ^^^ (-1 : Int32))) = (0 : Int32) then (if p7 < (f3 p2 p5 p6) then x2 else (x2 ||| p2)) else x2) else x2)
def Q2 (Z : State) (a1 : Addr) (p2 : Int32) (p3 : Int32) (p4 : Int32) (p5 : Int32) (p6 : Int32) (p7 : Int32) (x0 : Int32) (x1 : Int32) (x2 : Int32) (h0 : Heap) (n0 : Nat) (v : Option Value) (h : Heap) (L : List Loc) : Prop := v = none ∧ Fr n0 L ∧ Keep h0 h [a1] ∧ IA Z h a1 .int [(.int (f2_o_A_a1_0 p2 p3 p4 p5 p6 p7 x0)), (.int (f2_o_A_a1_1 p2 p3 p4 p5 p6 p7 x1)), (.int (f2_o_A_a1_2 p2 p3 p4 p5 p6 p7 x2))]
def rmR2 : Room := { frames := 2, cells := 1, slots := 3, locals := 33 }
theorem ef_2 (m : MethodId) (a1 : Addr) (p2 : Int32) (p3 : Int32) (p4 : Int32) (p5 : Int32) (p6 : Int32) (p7 : Int32) : entryFrame m #[(.ref a1), (.int p2), (.int p3), (.int p4), (.int p5), (.int p6), (.int p7)] 9 = mkF m 0 #[.val (.ref a1), .val (.int p2), .val (.int p3), .val (.int p4), .val (.int p5), .val (.int p6), .val (.int p7), .unset, .unset] [] := by first | (simp [entryFrame, mkF, argsToLocals, Value.category]; done) | rfl
set_option maxRecDepth 65536 in
set_option maxHeartbeats 40000000 in
theorem rm2 (l : Launch) (Z : State) (a0 : Array Value) (hw : ∀ d ∈ tables_1, d.before a0 Z = true) (ws : List Jvm.Cond) (a1 : Addr) (p2 : Int32) (p3 : Int32) (p4 : Int32) (p5 : Int32) (p6 : Int32) (p7 : Int32) (x0 : Int32) (x1 : Int32) (x2 : Int32) (h0 : Heap) (n0 : Nat) (Z0 : n0 ≤ h0.size) (F_A_a1 : IA Z h0 a1 .int [(.int x0), (.int x1), (.int x2)]) (g_a1 : n0 ≤ a1) :
    Mt l Z mt16 (Jvm.Cond.code mt16 method_4_code 9 none :: ws) rmR2 #[(.ref a1), (.int p2), (.int p3), (.int p4), (.int p5), (.int p6), (.int p7)] h0 (Q2 Z a1 p2 p3 p4 p5 p6 p7 x0 x1 x2 h0 n0) := by
  refine Mt.of n0 (plainFor_of_name pn_com_example_tightfold_tightfold_FocusFilteringFilterPinLaw) ?_
  intro p e s m below meth c T0 X0 hx hZ hby hml hown hret hlk hnm hs0
  have hown : s.vm.findClass "com/example/tightfold/tightfold/FocusFilteringFilterPinLaw" = some m.cls := hown
  rw [ef_2]
  show Rt p e below s rmR2.cells rmR2.slots (Q2 Z a1 p2 p3 p4 p5 p6 p7 x0 x1 x2 h0 n0) (T0.setTop (mkF m 0 #[.val (.ref a1), .val (.int p2), .val (.int p3), .val (.int p4), .val (.int p5), .val (.int p6), .val (.int p7), .unset, .unset] []))
  refine Rt.iloadN (pc' := 1) X0 hx (hb hby d2_0) rfl rfl ?_
  refine Rt.iconst (pc' := 2) (v := (-1 : Int32)) X0 hx (hb hby d2_1) rfl rfl ?_
  refine Rt.ixor (pc' := 3) (r := (p2 ^^^ (-1 : Int32))) X0 hx (hb hby d2_2) rfl rfl ?_
  refine Rt.bipush (pc' := 5) (v := (15 : Int32)) X0 hx (hb hby d2_3) rfl rfl ?_
  refine Rt.iand (pc' := 6) (r := ((p2 ^^^ (-1 : Int32)) &&& (15 : Int32))) X0 hx (hb hby d2_5) rfl rfl ?_
  refine Rt.istore (pc' := 8) (v := (f2_v6 p2)) (l' := #[.val (.ref a1), .val (.int p2), .val (.int p3), .val (.int p4), .val (.int p5), .val (.int p6), .val (.int p7), .val (.int (f2_v6 p2)), .unset]) X0 hx (hb hby d2_6) rfl rfl ?_
  refine Rt.iloadN (pc' := 9) X0 hx (hb hby d2_8) rfl rfl ?_
  refine Rt.iloadN (pc' := 10) X0 hx (hb hby d2_9) rfl rfl ?_
  refine Rt.iconst (pc' := 11) (v := (-1 : Int32)) X0 hx (hb hby d2_10) rfl rfl ?_
  refine Rt.ixor (pc' := 12) (r := (p4 ^^^ (-1 : Int32))) X0 hx (hb hby d2_11) rfl rfl ?_
  refine Rt.iand (pc' := 13) (r := (p2 &&& (p4 ^^^ (-1 : Int32)))) X0 hx (hb hby d2_12) rfl rfl ?_
  by_cases hc13_1 : (p2 &&& (p4 ^^^ (-1 : Int32))) = (0 : Int32)
  · refine Rt.ifN (pc' := 16) X0 hx (hb hby d2_13) ((if0 _ _).trans (teq hc13_1).2) rfl ?_
    refine Rt.iload (pc' := 18) X0 hx (hb hby d2_16) rfl rfl ?_
    refine Rt.iloadN (pc' := 19) X0 hx (hb hby d2_18) rfl rfl ?_
    refine Rt.iconst (pc' := 20) (v := (-1 : Int32)) X0 hx (hb hby d2_19) rfl rfl ?_
    refine Rt.ixor (pc' := 21) (r := (p3 ^^^ (-1 : Int32))) X0 hx (hb hby d2_20) rfl rfl ?_
    refine Rt.iand (pc' := 22) (r := ((f2_v6 p2) &&& (p3 ^^^ (-1 : Int32)))) X0 hx (hb hby d2_21) rfl rfl ?_
    by_cases hc22_2 : ((f2_v6 p2) &&& (p3 ^^^ (-1 : Int32))) = (0 : Int32)
    · refine Rt.ifY (pc' := 26) X0 hx (hb hby d2_22) ((if0 _ _).trans (teq hc22_2).1) (by decide) (by decide) ?_
      refine Rt.iloadN (pc' := 27) X0 hx (hb hby d2_26) rfl rfl ?_
      refine Rt.iload (pc' := 29) X0 hx (hb hby d2_27) rfl rfl ?_
      refine Rt.iload (pc' := 31) X0 hx (hb hby d2_29) rfl rfl ?_
      refine Rt.callS (pc' := 34) X0 hx hZ (y := mt15) hown (own_g hw 11 rfl) (own_g hw 12 rfl) (own_g hw 9 rfl) (own_g hw 13 rfl) (by decide) (rm3 l Z a0 hw [] p2 p5 p6 h0 n0 Z0) (fun _ _ _ q => q.2.1) (W := 0) (by decide) (by decide) (by decide) (by decide) (argsL := [(.int p2), (.int p5), (.int p6)]) (rest := []) (by rw [hml]; rfl) (lenOf pd_11 rfl) rfl rfl (Nat.le_of_eq rfl) (hb hby d2_31) rfl ?_
      rintro _ T3 h3 L3 X3 ⟨rfl, N3, K3⟩
      have F4 := F_A_a1.keep K3 nin0
      have K5 := (Keep.refl h0 [a1]).trans K3 all0
      have Z6 := Nat.le_trans Z0 K3.1
      show Rt _ _ _ _ _ _ _ (T3.setTop (mkF m 34 #[.val (.ref a1), .val (.int p2), .val (.int p3), .val (.int p4), .val (.int p5), .val (.int p6), .val (.int p7), .val (.int (f2_v6 p2)), .unset] [(.int (f3 p2 p5 p6))]))
      refine Rt.istore (pc' := 36) (v := (f3 p2 p5 p6)) (l' := #[.val (.ref a1), .val (.int p2), .val (.int p3), .val (.int p4), .val (.int p5), .val (.int p6), .val (.int p7), .val (.int (f2_v6 p2)), .val (.int (f3 p2 p5 p6))]) X3 hx (hb hby d2_34) rfl rfl ?_
      refine Rt.aloadN (pc' := 37) X3 hx (hb hby d2_36) rfl rfl rfl ?_
      refine Rt.iconst (pc' := 38) (v := (0 : Int32)) X3 hx (hb hby d2_37) rfl rfl ?_
      refine Rt.aloadN (pc' := 39) X3 hx (hb hby d2_38) rfl rfl rfl ?_
      refine Rt.iconst (pc' := 40) (v := (0 : Int32)) X3 hx (hb hby d2_39) rfl rfl ?_
      refine Rt.iaload (pc' := 41) X3 hx hZ F4 (i := 0) (by decide) (by decide) (v := (.int x0)) rfl (hb hby d2_40) rfl ?_
      refine Rt.iload (pc' := 43) X3 hx (hb hby d2_41) rfl rfl ?_
      refine Rt.callP (pc' := 46) (r := (.int (f5 x0 (f3 p2 p5 p6)))) X3 hx hZ (y := mt1) hown (own_g hw 17 rfl) (own_g hw 18 rfl) (own_g hw 3 rfl) (own_g hw 19 rfl) (by decide) (rm5 l Z a0 hw [] x0 (f3 p2 p5 p6) h3 n0) (W := 2) (by decide) (by decide) (by decide) (by decide) rfl rfl (argsL := [(.int x0), (.int (f3 p2 p5 p6))]) (rest := [(.int (0 : Int32)), (.ref a1)]) (by rw [hml]; rfl) (lenOf pd_0 rfl) rfl rfl (Nat.le_of_eq rfl) (hb hby d2_43) rfl ?_
      intro T7 X7
      refine Rt.iastore (pc' := 47) X7 hx hZ F4 (i := 0) (by decide) (by decide) (Nat.le_of_ble_eq_true rfl) (w := (.int (f2_w46 p2 p5 p6 x0))) rfl g_a1 (hb hby d2_46) rfl ?_
      intro T8 h8 X8 W8 F8
      have F8 : IA Z h8 a1 .int [(.int (f2_w46 p2 p5 p6 x0)), (.int x1), (.int x2)] := F8
      have K9 := K5.wr W8 (Or.inl (List.mem_of_getElem? (i := 0) rfl))
      have Z10 := Nat.le_trans Z6 (Keep.of_wr W8).1
      refine Rt.iload (pc' := 49) X8 hx (hb hby d2_47) rfl rfl ?_
      refine Rt.iload (pc' := 51) X8 hx (hb hby d2_49) rfl rfl ?_
      by_cases hc51_11 : p7 < (f3 p2 p5 p6)
      · refine Rt.icmpY (pc' := 71) X8 hx (hb hby d2_51) (tlt hc51_11).2.2.1 (by decide) (by decide) ?_
        have F12 : IA Z h8 a1 .int [(.int (f2_o_A_a1_0 p2 p3 p4 p5 p6 p7 x0)), (.int x1), (.int x2)] := by rw [show (f2_o_A_a1_0 p2 p3 p4 p5 p6 p7 x0) = (f2_w46 p2 p5 p6 x0) from by rw [f2_o_A_a1_0, if_pos hc13_1, if_pos hc22_2, if_pos hc51_11]]; exact F8
        have F13 : IA Z h8 a1 .int [(.int (f2_o_A_a1_0 p2 p3 p4 p5 p6 p7 x0)), (.int (f2_o_A_a1_1 p2 p3 p4 p5 p6 p7 x1)), (.int x2)] := by rw [show (f2_o_A_a1_1 p2 p3 p4 p5 p6 p7 x1) = x1 from by rw [f2_o_A_a1_1, if_pos hc13_1, if_pos hc22_2, if_pos hc51_11]]; exact F12
        have F14 : IA Z h8 a1 .int [(.int (f2_o_A_a1_0 p2 p3 p4 p5 p6 p7 x0)), (.int (f2_o_A_a1_1 p2 p3 p4 p5 p6 p7 x1)), (.int (f2_o_A_a1_2 p2 p3 p4 p5 p6 p7 x2))] := by rw [show (f2_o_A_a1_2 p2 p3 p4 p5 p6 p7 x2) = x2 from by rw [f2_o_A_a1_2, if_pos hc13_1, if_pos hc22_2, if_pos hc51_11]]; exact F13
        exact Rt.retV X8 hx hlk hret (hb hby d2_71) (by decide) (by decide) (fun L N => ⟨rfl, N, K9, F14⟩)
      · refine Rt.icmpN (pc' := 54) X8 hx (hb hby d2_51) (flt hc51_11).2.2.1 rfl ?_
        refine Rt.aloadN (pc' := 55) X8 hx (hb hby d2_54) rfl rfl rfl ?_
        refine Rt.iconst (pc' := 56) (v := (1 : Int32)) X8 hx (hb hby d2_55) rfl rfl ?_
        refine Rt.aloadN (pc' := 57) X8 hx (hb hby d2_56) rfl rfl rfl ?_
        refine Rt.iconst (pc' := 58) (v := (1 : Int32)) X8 hx (hb hby d2_57) rfl rfl ?_
        refine Rt.iaload (pc' := 59) X8 hx hZ F8 (i := 1) (by decide) (by decide) (v := (.int x1)) rfl (hb hby d2_58) rfl ?_
        refine Rt.iload (pc' := 61) X8 hx (hb hby d2_59) rfl rfl ?_
        refine Rt.ior (pc' := 62) (r := (x1 ||| (f2_v6 p2))) X8 hx (hb hby d2_61) rfl rfl ?_
        refine Rt.iastore (pc' := 63) X8 hx hZ F8 (i := 1) (by decide) (by decide) (Nat.le_of_ble_eq_true rfl) (w := (.int (f2_w62 p2 x1))) rfl g_a1 (hb hby d2_62) rfl ?_
        intro T15 h15 X15 W15 F15
        have F15 : IA Z h15 a1 .int [(.int (f2_w46 p2 p5 p6 x0)), (.int (f2_w62 p2 x1)), (.int x2)] := F15
        have K16 := K9.wr W15 (Or.inl (List.mem_of_getElem? (i := 0) rfl))
        have Z17 := Nat.le_trans Z10 (Keep.of_wr W15).1
        refine Rt.aloadN (pc' := 64) X15 hx (hb hby d2_63) rfl rfl rfl ?_
        refine Rt.iconst (pc' := 65) (v := (2 : Int32)) X15 hx (hb hby d2_64) rfl rfl ?_
        refine Rt.aloadN (pc' := 66) X15 hx (hb hby d2_65) rfl rfl rfl ?_
        refine Rt.iconst (pc' := 67) (v := (2 : Int32)) X15 hx (hb hby d2_66) rfl rfl ?_
        refine Rt.iaload (pc' := 68) X15 hx hZ F15 (i := 2) (by decide) (by decide) (v := (.int x2)) rfl (hb hby d2_67) rfl ?_
        refine Rt.iloadN (pc' := 69) X15 hx (hb hby d2_68) rfl rfl ?_
        refine Rt.ior (pc' := 70) (r := (x2 ||| p2)) X15 hx (hb hby d2_69) rfl rfl ?_
        refine Rt.iastore (pc' := 71) X15 hx hZ F15 (i := 2) (by decide) (by decide) (Nat.le_of_ble_eq_true rfl) (w := (.int (x2 ||| p2))) rfl g_a1 (hb hby d2_70) rfl ?_
        intro T18 h18 X18 W18 F18
        have F18 : IA Z h18 a1 .int [(.int (f2_w46 p2 p5 p6 x0)), (.int (f2_w62 p2 x1)), (.int (x2 ||| p2))] := F18
        have K19 := K16.wr W18 (Or.inl (List.mem_of_getElem? (i := 0) rfl))
        have Z20 := Nat.le_trans Z17 (Keep.of_wr W18).1
        have F21 : IA Z h18 a1 .int [(.int (f2_o_A_a1_0 p2 p3 p4 p5 p6 p7 x0)), (.int (f2_w62 p2 x1)), (.int (x2 ||| p2))] := by rw [show (f2_o_A_a1_0 p2 p3 p4 p5 p6 p7 x0) = (f2_w46 p2 p5 p6 x0) from by rw [f2_o_A_a1_0, if_pos hc13_1, if_pos hc22_2, if_neg hc51_11]]; exact F18
        have F22 : IA Z h18 a1 .int [(.int (f2_o_A_a1_0 p2 p3 p4 p5 p6 p7 x0)), (.int (f2_o_A_a1_1 p2 p3 p4 p5 p6 p7 x1)), (.int (x2 ||| p2))] := by rw [show (f2_o_A_a1_1 p2 p3 p4 p5 p6 p7 x1) = (f2_w62 p2 x1) from by rw [f2_o_A_a1_1, if_pos hc13_1, if_pos hc22_2, if_neg hc51_11]]; exact F21
        have F23 : IA Z h18 a1 .int [(.int (f2_o_A_a1_0 p2 p3 p4 p5 p6 p7 x0)), (.int (f2_o_A_a1_1 p2 p3 p4 p5 p6 p7 x1)), (.int (f2_o_A_a1_2 p2 p3 p4 p5 p6 p7 x2))] := by rw [show (f2_o_A_a1_2 p2 p3 p4 p5 p6 p7 x2) = (x2 ||| p2) from by rw [f2_o_A_a1_2, if_pos hc13_1, if_pos hc22_2, if_neg hc51_11]]; exact F22
        exact Rt.retV X18 hx hlk hret (hb hby d2_71) (by decide) (by decide) (fun L N => ⟨rfl, N, K19, F23⟩)
    · refine Rt.ifN (pc' := 25) X0 hx (hb hby d2_22) ((if0 _ _).trans (feq hc22_2).1) rfl ?_
      have F24 : IA Z h0 a1 .int [(.int (f2_o_A_a1_0 p2 p3 p4 p5 p6 p7 x0)), (.int x1), (.int x2)] := by rw [show (f2_o_A_a1_0 p2 p3 p4 p5 p6 p7 x0) = x0 from by rw [f2_o_A_a1_0, if_pos hc13_1, if_neg hc22_2]]; exact F_A_a1
      have F25 : IA Z h0 a1 .int [(.int (f2_o_A_a1_0 p2 p3 p4 p5 p6 p7 x0)), (.int (f2_o_A_a1_1 p2 p3 p4 p5 p6 p7 x1)), (.int x2)] := by rw [show (f2_o_A_a1_1 p2 p3 p4 p5 p6 p7 x1) = x1 from by rw [f2_o_A_a1_1, if_pos hc13_1, if_neg hc22_2]]; exact F24
      have F26 : IA Z h0 a1 .int [(.int (f2_o_A_a1_0 p2 p3 p4 p5 p6 p7 x0)), (.int (f2_o_A_a1_1 p2 p3 p4 p5 p6 p7 x1)), (.int (f2_o_A_a1_2 p2 p3 p4 p5 p6 p7 x2))] := by rw [show (f2_o_A_a1_2 p2 p3 p4 p5 p6 p7 x2) = x2 from by rw [f2_o_A_a1_2, if_pos hc13_1, if_neg hc22_2]]; exact F25
      exact Rt.retV X0 hx hlk hret (hb hby d2_25) (by decide) (by decide) (fun L N => ⟨rfl, N, (Keep.refl h0 [a1]), F26⟩)
  · refine Rt.ifY (pc' := 25) X0 hx (hb hby d2_13) ((if0 _ _).trans (feq hc13_1).2) (by decide) (by decide) ?_
    have F27 : IA Z h0 a1 .int [(.int (f2_o_A_a1_0 p2 p3 p4 p5 p6 p7 x0)), (.int x1), (.int x2)] := by rw [show (f2_o_A_a1_0 p2 p3 p4 p5 p6 p7 x0) = x0 from by rw [f2_o_A_a1_0, if_neg hc13_1]]; exact F_A_a1
    have F28 : IA Z h0 a1 .int [(.int (f2_o_A_a1_0 p2 p3 p4 p5 p6 p7 x0)), (.int (f2_o_A_a1_1 p2 p3 p4 p5 p6 p7 x1)), (.int x2)] := by rw [show (f2_o_A_a1_1 p2 p3 p4 p5 p6 p7 x1) = x1 from by rw [f2_o_A_a1_1, if_neg hc13_1]]; exact F27
    have F29 : IA Z h0 a1 .int [(.int (f2_o_A_a1_0 p2 p3 p4 p5 p6 p7 x0)), (.int (f2_o_A_a1_1 p2 p3 p4 p5 p6 p7 x1)), (.int (f2_o_A_a1_2 p2 p3 p4 p5 p6 p7 x2))] := by rw [show (f2_o_A_a1_2 p2 p3 p4 p5 p6 p7 x2) = x2 from by rw [f2_o_A_a1_2, if_neg hc13_1]]; exact F28
    exact Rt.retV X0 hx hlk hret (hb hby d2_25) (by decide) (by decide) (fun L N => ⟨rfl, N, (Keep.refl h0 [a1]), F29⟩)
theorem d16_0 : decode method_3_code 0 = .ok (.aload_n 0, 1) := by decide +kernel
theorem d16_1 : decode method_3_code 1 = .ok (.iconst 0, 1) := by decide +kernel
theorem d16_2 : decode method_3_code 2 = .ok (.baload, 1) := by decide +kernel
theorem d16_3 : decode method_3_code 3 = .ok (.iload_n 1, 1) := by decide +kernel
theorem d16_4 : decode method_3_code 4 = .ok (.iconst 1, 1) := by decide +kernel
theorem d16_5 : decode method_3_code 5 = .ok (.iand, 1) := by decide +kernel
theorem d16_14 : decode method_3_code 14 = .ok (.if_icmp .ne 59, 3) := by decide +kernel
theorem d16_17 : decode method_3_code 17 = .ok (.aload_n 0, 1) := by decide +kernel
theorem d16_18 : decode method_3_code 18 = .ok (.iconst 1, 1) := by decide +kernel
theorem d16_19 : decode method_3_code 19 = .ok (.baload, 1) := by decide +kernel
theorem d16_20 : decode method_3_code 20 = .ok (.iload_n 1, 1) := by decide +kernel
theorem d16_21 : decode method_3_code 21 = .ok (.iconst 2, 1) := by decide +kernel
theorem d16_22 : decode method_3_code 22 = .ok (.iand, 1) := by decide +kernel
theorem d16_31 : decode method_3_code 31 = .ok (.if_icmp .ne 42, 3) := by decide +kernel
theorem d16_34 : decode method_3_code 34 = .ok (.aload_n 0, 1) := by decide +kernel
theorem d16_35 : decode method_3_code 35 = .ok (.iconst 2, 1) := by decide +kernel
theorem d16_36 : decode method_3_code 36 = .ok (.baload, 1) := by decide +kernel
theorem d16_37 : decode method_3_code 37 = .ok (.iload_n 1, 1) := by decide +kernel
theorem d16_38 : decode method_3_code 38 = .ok (.iconst 4, 1) := by decide +kernel
theorem d16_39 : decode method_3_code 39 = .ok (.iand, 1) := by decide +kernel
theorem d16_48 : decode method_3_code 48 = .ok (.if_icmp .ne 25, 3) := by decide +kernel
theorem d16_51 : decode method_3_code 51 = .ok (.aload_n 0, 1) := by decide +kernel
theorem d16_52 : decode method_3_code 52 = .ok (.iconst 3, 1) := by decide +kernel
theorem d16_53 : decode method_3_code 53 = .ok (.baload, 1) := by decide +kernel
theorem d16_54 : decode method_3_code 54 = .ok (.iload_n 1, 1) := by decide +kernel
theorem d16_55 : decode method_3_code 55 = .ok (.bipush 8, 2) := by decide +kernel
theorem d16_57 : decode method_3_code 57 = .ok (.iand, 1) := by decide +kernel
theorem d16_66 : decode method_3_code 66 = .ok (.if_icmp .ne 7, 3) := by decide +kernel
theorem d16_69 : decode method_3_code 69 = .ok (.iconst 1, 1) := by decide +kernel
theorem d16_70 : decode method_3_code 70 = .ok (.goto 4, 3) := by decide +kernel
theorem d16_74 : decode method_3_code 74 = .ok (.ireturn, 1) := by decide +kernel
theorem d16_73 : decode method_3_code 73 = .ok (.iconst 0, 1) := by decide +kernel
theorem d16_58 : decode method_3_code 58 = .ok (.ifCond .eq 7, 3) := by decide +kernel
theorem d16_65 : decode method_3_code 65 = .ok (.iconst 0, 1) := by decide +kernel
theorem d16_61 : decode method_3_code 61 = .ok (.iconst 1, 1) := by decide +kernel
theorem d16_62 : decode method_3_code 62 = .ok (.goto 4, 3) := by decide +kernel
theorem d16_40 : decode method_3_code 40 = .ok (.ifCond .eq 7, 3) := by decide +kernel
theorem d16_47 : decode method_3_code 47 = .ok (.iconst 0, 1) := by decide +kernel
theorem d16_43 : decode method_3_code 43 = .ok (.iconst 1, 1) := by decide +kernel
theorem d16_44 : decode method_3_code 44 = .ok (.goto 4, 3) := by decide +kernel
theorem d16_23 : decode method_3_code 23 = .ok (.ifCond .eq 7, 3) := by decide +kernel
theorem d16_30 : decode method_3_code 30 = .ok (.iconst 0, 1) := by decide +kernel
theorem d16_26 : decode method_3_code 26 = .ok (.iconst 1, 1) := by decide +kernel
theorem d16_27 : decode method_3_code 27 = .ok (.goto 4, 3) := by decide +kernel
theorem d16_6 : decode method_3_code 6 = .ok (.ifCond .eq 7, 3) := by decide +kernel
theorem d16_13 : decode method_3_code 13 = .ok (.iconst 0, 1) := by decide +kernel
theorem d16_9 : decode method_3_code 9 = .ok (.iconst 1, 1) := by decide +kernel
theorem d16_10 : decode method_3_code 10 = .ok (.goto 4, 3) := by decide +kernel
def f16_j14_s0 (p2 : Int32) : Int32 := (if (p2 &&& (1 : Int32)) = (0 : Int32) then (0 : Int32) else (1 : Int32))
def f16_j31_s0 (p2 : Int32) : Int32 := (if (p2 &&& (2 : Int32)) = (0 : Int32) then (0 : Int32) else (1 : Int32))
def f16_j48_s0 (p2 : Int32) : Int32 := (if (p2 &&& (4 : Int32)) = (0 : Int32) then (0 : Int32) else (1 : Int32))
def f16_j66_s0 (p2 : Int32) : Int32 := (if (p2 &&& (8 : Int32)) = (0 : Int32) then (0 : Int32) else (1 : Int32))
def f16 (p2 : Int32) (b0_ : Int32) (b1_ : Int32) (b2_ : Int32) (b3_ : Int32) : Int32 := (if b0_ = (f16_j14_s0 p2) then (if b1_ = (f16_j31_s0 p2) then (if b2_ = (f16_j48_s0 p2) then (if b3_ = (f16_j66_s0 p2) then (1 : Int32) else (0 : Int32)) else (0 : Int32)) else (0 : Int32)) else (0 : Int32))
def Q16 (a1 : Addr) (p2 : Int32) (b0_ : Int32) (b1_ : Int32) (b2_ : Int32) (b3_ : Int32) (h0 : Heap) (n0 : Nat) (v : Option Value) (h : Heap) (L : List Loc) : Prop := v = some (.int (f16 p2 b0_ b1_ b2_ b3_)) ∧ Fr n0 L ∧ h = h0
def rmR16 : Room := { frames := 0, cells := 0, slots := 0, locals := 0 }
theorem ef_16 (m : MethodId) (a1 : Addr) (p2 : Int32) : entryFrame m #[(.ref a1), (.int p2)] 2 = mkF m 0 #[.val (.ref a1), .val (.int p2)] [] := by first | (simp [entryFrame, mkF, argsToLocals, Value.category]; done) | rfl
set_option maxRecDepth 65536 in
set_option maxHeartbeats 40000000 in
theorem rm16 (l : Launch) (Z : State) (a0 : Array Value) (hw : ∀ d ∈ tables_1, d.before a0 Z = true) (ws : List Jvm.Cond) (a1 : Addr) (p2 : Int32) (b0_ : Int32) (b1_ : Int32) (b2_ : Int32) (b3_ : Int32) (h0 : Heap) (n0 : Nat) (F_A_a1 : IA Z h0 a1 .boolean [(.int b0_), (.int b1_), (.int b2_), (.int b3_)]) :
    Mt l Z mt17 (Jvm.Cond.code mt17 method_3_code 2 (some .boolean) :: ws) rmR16 #[(.ref a1), (.int p2)] h0 (Q16 a1 p2 b0_ b1_ b2_ b3_ h0 n0) := by
  refine Mt.of n0 (plainFor_of_name pn_com_example_tightfold_tightfold_FocusFilteringFilterPinLaw) ?_
  intro p e s m below meth c T0 X0 hx hZ hby hml hown hret hlk hnm hs0
  have hown : s.vm.findClass "com/example/tightfold/tightfold/FocusFilteringFilterPinLaw" = some m.cls := hown
  rw [ef_16]
  show Rt p e below s rmR16.cells rmR16.slots (Q16 a1 p2 b0_ b1_ b2_ b3_ h0 n0) (T0.setTop (mkF m 0 #[.val (.ref a1), .val (.int p2)] []))
  refine Rt.aloadN (pc' := 1) X0 hx (hb hby d16_0) rfl rfl rfl ?_
  refine Rt.iconst (pc' := 2) (v := (0 : Int32)) X0 hx (hb hby d16_1) rfl rfl ?_
  refine Rt.zaload (pc' := 3) X0 hx hZ F_A_a1 (i := 0) (by decide) (by decide) (v := (.int b0_)) rfl (hb hby d16_2) rfl ?_
  refine Rt.iloadN (pc' := 4) X0 hx (hb hby d16_3) rfl rfl ?_
  refine Rt.iconst (pc' := 5) (v := (1 : Int32)) X0 hx (hb hby d16_4) rfl rfl ?_
  refine Rt.iand (pc' := 6) (r := (p2 &&& (1 : Int32))) X0 hx (hb hby d16_5) rfl rfl ?_
  have J6_1 : ∀ T1  , Sd p l e rmR16 s m #[(.ref a1), (.int p2)] below meth c T1 n0 0 0 h0 → Rt p e below s rmR16.cells rmR16.slots (Q16 a1 p2 b0_ b1_ b2_ b3_ h0 n0) (T1.setTop (mkF m 14 #[.val (.ref a1), .val (.int p2)] [(.int (f16_j14_s0 p2)), (.int b0_)])) := by
    intro T1   X1 
    by_cases hc14_2 : b0_ = (f16_j14_s0 p2)
    · refine Rt.icmpN (pc' := 17) X1 hx (hb hby d16_14) (teq hc14_2).2 rfl ?_
      refine Rt.aloadN (pc' := 18) X1 hx (hb hby d16_17) rfl rfl rfl ?_
      refine Rt.iconst (pc' := 19) (v := (1 : Int32)) X1 hx (hb hby d16_18) rfl rfl ?_
      refine Rt.zaload (pc' := 20) X1 hx hZ F_A_a1 (i := 1) (by decide) (by decide) (v := (.int b1_)) rfl (hb hby d16_19) rfl ?_
      refine Rt.iloadN (pc' := 21) X1 hx (hb hby d16_20) rfl rfl ?_
      refine Rt.iconst (pc' := 22) (v := (2 : Int32)) X1 hx (hb hby d16_21) rfl rfl ?_
      refine Rt.iand (pc' := 23) (r := (p2 &&& (2 : Int32))) X1 hx (hb hby d16_22) rfl rfl ?_
      have J23_3 : ∀ T3  , Sd p l e rmR16 s m #[(.ref a1), (.int p2)] below meth c T3 n0 0 0 h0 → Rt p e below s rmR16.cells rmR16.slots (Q16 a1 p2 b0_ b1_ b2_ b3_ h0 n0) (T3.setTop (mkF m 31 #[.val (.ref a1), .val (.int p2)] [(.int (f16_j31_s0 p2)), (.int b1_)])) := by
        intro T3   X3 
        by_cases hc31_4 : b1_ = (f16_j31_s0 p2)
        · refine Rt.icmpN (pc' := 34) X3 hx (hb hby d16_31) (teq hc31_4).2 rfl ?_
          refine Rt.aloadN (pc' := 35) X3 hx (hb hby d16_34) rfl rfl rfl ?_
          refine Rt.iconst (pc' := 36) (v := (2 : Int32)) X3 hx (hb hby d16_35) rfl rfl ?_
          refine Rt.zaload (pc' := 37) X3 hx hZ F_A_a1 (i := 2) (by decide) (by decide) (v := (.int b2_)) rfl (hb hby d16_36) rfl ?_
          refine Rt.iloadN (pc' := 38) X3 hx (hb hby d16_37) rfl rfl ?_
          refine Rt.iconst (pc' := 39) (v := (4 : Int32)) X3 hx (hb hby d16_38) rfl rfl ?_
          refine Rt.iand (pc' := 40) (r := (p2 &&& (4 : Int32))) X3 hx (hb hby d16_39) rfl rfl ?_
          have J40_5 : ∀ T5  , Sd p l e rmR16 s m #[(.ref a1), (.int p2)] below meth c T5 n0 0 0 h0 → Rt p e below s rmR16.cells rmR16.slots (Q16 a1 p2 b0_ b1_ b2_ b3_ h0 n0) (T5.setTop (mkF m 48 #[.val (.ref a1), .val (.int p2)] [(.int (f16_j48_s0 p2)), (.int b2_)])) := by
            intro T5   X5 
            by_cases hc48_6 : b2_ = (f16_j48_s0 p2)
            · refine Rt.icmpN (pc' := 51) X5 hx (hb hby d16_48) (teq hc48_6).2 rfl ?_
              refine Rt.aloadN (pc' := 52) X5 hx (hb hby d16_51) rfl rfl rfl ?_
              refine Rt.iconst (pc' := 53) (v := (3 : Int32)) X5 hx (hb hby d16_52) rfl rfl ?_
              refine Rt.zaload (pc' := 54) X5 hx hZ F_A_a1 (i := 3) (by decide) (by decide) (v := (.int b3_)) rfl (hb hby d16_53) rfl ?_
              refine Rt.iloadN (pc' := 55) X5 hx (hb hby d16_54) rfl rfl ?_
              refine Rt.bipush (pc' := 57) (v := (8 : Int32)) X5 hx (hb hby d16_55) rfl rfl ?_
              refine Rt.iand (pc' := 58) (r := (p2 &&& (8 : Int32))) X5 hx (hb hby d16_57) rfl rfl ?_
              have J58_7 : ∀ T7  , Sd p l e rmR16 s m #[(.ref a1), (.int p2)] below meth c T7 n0 0 0 h0 → Rt p e below s rmR16.cells rmR16.slots (Q16 a1 p2 b0_ b1_ b2_ b3_ h0 n0) (T7.setTop (mkF m 66 #[.val (.ref a1), .val (.int p2)] [(.int (f16_j66_s0 p2)), (.int b3_)])) := by
                intro T7   X7 
                by_cases hc66_8 : b3_ = (f16_j66_s0 p2)
                · refine Rt.icmpN (pc' := 69) X7 hx (hb hby d16_66) (teq hc66_8).2 rfl ?_
                  refine Rt.iconst (pc' := 70) (v := (1 : Int32)) X7 hx (hb hby d16_69) rfl rfl ?_
                  refine Rt.goto (pc' := 74) X7 hx (hb hby d16_70) (by decide) (by decide) ?_
                  exact Rt.retZ (w := (1 : Int32)) X7 hx hlk hret (by simp) (hb hby d16_74) (by decide) (by decide) (by decide) (fun L N => ⟨congrArg some (congrArg Value.int (by rw [f16, if_pos hc14_2, if_pos hc31_4, if_pos hc48_6, if_pos hc66_8])), N, rfl⟩)
                · refine Rt.icmpY (pc' := 73) X7 hx (hb hby d16_66) (feq hc66_8).2 (by decide) (by decide) ?_
                  refine Rt.iconst (pc' := 74) (v := (0 : Int32)) X7 hx (hb hby d16_73) rfl rfl ?_
                  exact Rt.retZ (w := (0 : Int32)) X7 hx hlk hret (by simp) (hb hby d16_74) (by decide) (by decide) (by decide) (fun L N => ⟨congrArg some (congrArg Value.int (by rw [f16, if_pos hc14_2, if_pos hc31_4, if_pos hc48_6, if_neg hc66_8])), N, rfl⟩)
              by_cases hc58_9 : (p2 &&& (8 : Int32)) = (0 : Int32)
              · refine Rt.ifY (pc' := 65) X5 hx (hb hby d16_58) ((if0 _ _).trans (teq hc58_9).1) (by decide) (by decide) ?_
                refine Rt.iconst (pc' := 66) (v := (0 : Int32)) X5 hx (hb hby d16_65) rfl rfl ?_
                have q := J58_7 T5   X5
                rw [show (f16_j66_s0 p2) = (0 : Int32) from by rw [f16_j66_s0, if_pos hc58_9]] at q
                exact q
              · refine Rt.ifN (pc' := 61) X5 hx (hb hby d16_58) ((if0 _ _).trans (feq hc58_9).1) rfl ?_
                refine Rt.iconst (pc' := 62) (v := (1 : Int32)) X5 hx (hb hby d16_61) rfl rfl ?_
                refine Rt.goto (pc' := 66) X5 hx (hb hby d16_62) (by decide) (by decide) ?_
                have q := J58_7 T5   X5
                rw [show (f16_j66_s0 p2) = (1 : Int32) from by rw [f16_j66_s0, if_neg hc58_9]] at q
                exact q
            · refine Rt.icmpY (pc' := 73) X5 hx (hb hby d16_48) (feq hc48_6).2 (by decide) (by decide) ?_
              refine Rt.iconst (pc' := 74) (v := (0 : Int32)) X5 hx (hb hby d16_73) rfl rfl ?_
              exact Rt.retZ (w := (0 : Int32)) X5 hx hlk hret (by simp) (hb hby d16_74) (by decide) (by decide) (by decide) (fun L N => ⟨congrArg some (congrArg Value.int (by rw [f16, if_pos hc14_2, if_pos hc31_4, if_neg hc48_6])), N, rfl⟩)
          by_cases hc40_10 : (p2 &&& (4 : Int32)) = (0 : Int32)
          · refine Rt.ifY (pc' := 47) X3 hx (hb hby d16_40) ((if0 _ _).trans (teq hc40_10).1) (by decide) (by decide) ?_
            refine Rt.iconst (pc' := 48) (v := (0 : Int32)) X3 hx (hb hby d16_47) rfl rfl ?_
            have q := J40_5 T3   X3
            rw [show (f16_j48_s0 p2) = (0 : Int32) from by rw [f16_j48_s0, if_pos hc40_10]] at q
            exact q
          · refine Rt.ifN (pc' := 43) X3 hx (hb hby d16_40) ((if0 _ _).trans (feq hc40_10).1) rfl ?_
            refine Rt.iconst (pc' := 44) (v := (1 : Int32)) X3 hx (hb hby d16_43) rfl rfl ?_
            refine Rt.goto (pc' := 48) X3 hx (hb hby d16_44) (by decide) (by decide) ?_
            have q := J40_5 T3   X3
            rw [show (f16_j48_s0 p2) = (1 : Int32) from by rw [f16_j48_s0, if_neg hc40_10]] at q
            exact q
        · refine Rt.icmpY (pc' := 73) X3 hx (hb hby d16_31) (feq hc31_4).2 (by decide) (by decide) ?_
          refine Rt.iconst (pc' := 74) (v := (0 : Int32)) X3 hx (hb hby d16_73) rfl rfl ?_
          exact Rt.retZ (w := (0 : Int32)) X3 hx hlk hret (by simp) (hb hby d16_74) (by decide) (by decide) (by decide) (fun L N => ⟨congrArg some (congrArg Value.int (by rw [f16, if_pos hc14_2, if_neg hc31_4])), N, rfl⟩)
      by_cases hc23_11 : (p2 &&& (2 : Int32)) = (0 : Int32)
      · refine Rt.ifY (pc' := 30) X1 hx (hb hby d16_23) ((if0 _ _).trans (teq hc23_11).1) (by decide) (by decide) ?_
        refine Rt.iconst (pc' := 31) (v := (0 : Int32)) X1 hx (hb hby d16_30) rfl rfl ?_
        have q := J23_3 T1   X1
        rw [show (f16_j31_s0 p2) = (0 : Int32) from by rw [f16_j31_s0, if_pos hc23_11]] at q
        exact q
      · refine Rt.ifN (pc' := 26) X1 hx (hb hby d16_23) ((if0 _ _).trans (feq hc23_11).1) rfl ?_
        refine Rt.iconst (pc' := 27) (v := (1 : Int32)) X1 hx (hb hby d16_26) rfl rfl ?_
        refine Rt.goto (pc' := 31) X1 hx (hb hby d16_27) (by decide) (by decide) ?_
        have q := J23_3 T1   X1
        rw [show (f16_j31_s0 p2) = (1 : Int32) from by rw [f16_j31_s0, if_neg hc23_11]] at q
        exact q
    · refine Rt.icmpY (pc' := 73) X1 hx (hb hby d16_14) (feq hc14_2).2 (by decide) (by decide) ?_
      refine Rt.iconst (pc' := 74) (v := (0 : Int32)) X1 hx (hb hby d16_73) rfl rfl ?_
      exact Rt.retZ (w := (0 : Int32)) X1 hx hlk hret (by simp) (hb hby d16_74) (by decide) (by decide) (by decide) (fun L N => ⟨congrArg some (congrArg Value.int (by rw [f16, if_neg hc14_2])), N, rfl⟩)
  by_cases hc6_12 : (p2 &&& (1 : Int32)) = (0 : Int32)
  · refine Rt.ifY (pc' := 13) X0 hx (hb hby d16_6) ((if0 _ _).trans (teq hc6_12).1) (by decide) (by decide) ?_
    refine Rt.iconst (pc' := 14) (v := (0 : Int32)) X0 hx (hb hby d16_13) rfl rfl ?_
    have q := J6_1 T0   X0
    rw [show (f16_j14_s0 p2) = (0 : Int32) from by rw [f16_j14_s0, if_pos hc6_12]] at q
    exact q
  · refine Rt.ifN (pc' := 9) X0 hx (hb hby d16_6) ((if0 _ _).trans (feq hc6_12).1) rfl ?_
    refine Rt.iconst (pc' := 10) (v := (1 : Int32)) X0 hx (hb hby d16_9) rfl rfl ?_
    refine Rt.goto (pc' := 14) X0 hx (hb hby d16_10) (by decide) (by decide) ?_
    have q := J6_1 T0   X0
    rw [show (f16_j14_s0 p2) = (1 : Int32) from by rw [f16_j14_s0, if_neg hc6_12]] at q
    exact q
theorem pd_12 : parseMethodDescriptor "([IIIIIII)V" = some ⟨[(.array .int), .int, .int, .int, .int, .int, .int], none⟩ := by decide +kernel
theorem pd_13 : parseMethodDescriptor "([Z[ZII)I" = some ⟨[(.array .boolean), (.array .boolean), .int, .int], some .int⟩ := by decide +kernel
theorem pd_14 : parseMethodDescriptor "([ZI)Z" = some ⟨[(.array .boolean), .int], some .boolean⟩ := by decide +kernel
def f0_v4 (p1 : Int32) : Int32 := (p1 &&& (2147483647 : Int32))
def f0_v10 (p1 : Int32) : Int32 := ((f0_v4 p1) % (3 : Int32))
def f0_v18 (p1 : Int32) : Int32 := (((f0_v4 p1) / (3 : Int32)) % (3 : Int32))
def f0_v27 (p1 : Int32) : Int32 := (((f0_v4 p1) / (9 : Int32)) % (3 : Int32))
def f0_v36 (p1 : Int32) : Int32 := (((f0_v4 p1) / (27 : Int32)) % (3 : Int32))
def f0_a43_1 (p2 : Int32) : Int32 := (p2 &&& (2147483647 : Int32))
def f0_v46 (p2 : Int32) : Int32 := (f1 (1 : Int32) (f0_a43_1 p2))
def f0_v52 (p3 : Int32) : Int32 := (p3 &&& (2147483647 : Int32))
def f0_v58 (p4 : Int32) : Int32 := (p4 &&& (7 : Int32))
def f0_j84_s0 (p1 : Int32) : Int32 := (if (f0_v10 p1) = (1 : Int32) then (0 : Int32) else (1 : Int32))
def f0_w84 (p1 : Int32) : Int32 := (nar .boolean (f0_j84_s0 p1))
def f0_j98_s0 (p1 : Int32) : Int32 := (if (f0_v10 p1) = (0 : Int32) then (0 : Int32) else (1 : Int32))
def f0_w98 (p1 : Int32) : Int32 := (nar .boolean (f0_j98_s0 p1))
def f0_j113_s0 (p1 : Int32) : Int32 := (if (f0_v18 p1) = (1 : Int32) then (0 : Int32) else (1 : Int32))
def f0_w113 (p1 : Int32) : Int32 := (nar .boolean (f0_j113_s0 p1))
def f0_j127_s0 (p1 : Int32) : Int32 := (if (f0_v18 p1) = (0 : Int32) then (0 : Int32) else (1 : Int32))
def f0_w127 (p1 : Int32) : Int32 := (nar .boolean (f0_j127_s0 p1))
def f0_j142_s0 (p1 : Int32) : Int32 := (if (f0_v27 p1) = (1 : Int32) then (0 : Int32) else (1 : Int32))
def f0_w142 (p1 : Int32) : Int32 := (nar .boolean (f0_j142_s0 p1))
def f0_j156_s0 (p1 : Int32) : Int32 := (if (f0_v27 p1) = (0 : Int32) then (0 : Int32) else (1 : Int32))
def f0_w156 (p1 : Int32) : Int32 := (nar .boolean (f0_j156_s0 p1))
def f0_j171_s0 (p1 : Int32) : Int32 := (if (f0_v36 p1) = (1 : Int32) then (0 : Int32) else (1 : Int32))
def f0_w171 (p1 : Int32) : Int32 := (nar .boolean (f0_j171_s0 p1))
def f0_j185_s0 (p1 : Int32) : Int32 := (if (f0_v36 p1) = (0 : Int32) then (0 : Int32) else (1 : Int32))
def f0_w185 (p1 : Int32) : Int32 := (nar .boolean (f0_j185_s0 p1))
def f0_j197_s0 (p1 : Int32) : Int32 := (if (f0_v10 p1) = (1 : Int32) then (0 : Int32) else (1 : Int32))
def f0_j208_s0 (p1 : Int32) : Int32 := (if (f0_v18 p1) = (1 : Int32) then (0 : Int32) else (2 : Int32))
def f0_j220_s0 (p1 : Int32) : Int32 := (if (f0_v27 p1) = (1 : Int32) then (0 : Int32) else (4 : Int32))
def f0_j233_s0 (p1 : Int32) : Int32 := (if (f0_v36 p1) = (1 : Int32) then (0 : Int32) else (8 : Int32))
def f0_v234 (p1 : Int32) : Int32 := ((((f0_j197_s0 p1) ||| (f0_j208_s0 p1)) ||| (f0_j220_s0 p1)) ||| (f0_j233_s0 p1))
def f0_j246_s0 (p1 : Int32) : Int32 := (if (f0_v10 p1) = (0 : Int32) then (0 : Int32) else (1 : Int32))
def f0_j256_s0 (p1 : Int32) : Int32 := (if (f0_v18 p1) = (0 : Int32) then (0 : Int32) else (2 : Int32))
def f0_j267_s0 (p1 : Int32) : Int32 := (if (f0_v27 p1) = (0 : Int32) then (0 : Int32) else (4 : Int32))
def f0_j279_s0 (p1 : Int32) : Int32 := (if (f0_v36 p1) = (0 : Int32) then (0 : Int32) else (8 : Int32))
def f0_v280 (p1 : Int32) : Int32 := ((((f0_j246_s0 p1) ||| (f0_j256_s0 p1)) ||| (f0_j267_s0 p1)) ||| (f0_j279_s0 p1))
def f0_c306_b2830 (p1 : Int32) (p2 : Int32) (p3 : Int32) (p4 : Int32) : Int32 := (f2_o_A_a1_0 (0 : Int32) (f0_v234 p1) (f0_v280 p1) (f0_v46 p2) (f0_v52 p3) (f0_v58 p4) (99 : Int32))
def f0_c306_b2831 (p1 : Int32) (p2 : Int32) (p3 : Int32) (p4 : Int32) : Int32 := (f2_o_A_a1_1 (0 : Int32) (f0_v234 p1) (f0_v280 p1) (f0_v46 p2) (f0_v52 p3) (f0_v58 p4) (0 : Int32))
def f0_c306_b2832 (p1 : Int32) (p2 : Int32) (p3 : Int32) (p4 : Int32) : Int32 := (f2_o_A_a1_2 (0 : Int32) (f0_v234 p1) (f0_v280 p1) (f0_v46 p2) (f0_v52 p3) (f0_v58 p4) (0 : Int32))
def f0_c322_b2830 (p1 : Int32) (p2 : Int32) (p3 : Int32) (p4 : Int32) : Int32 := (f2_o_A_a1_0 (1 : Int32) (f0_v234 p1) (f0_v280 p1) (f0_v46 p2) (f0_v52 p3) (f0_v58 p4) (f0_c306_b2830 p1 p2 p3 p4))
def f0_c322_b2831 (p1 : Int32) (p2 : Int32) (p3 : Int32) (p4 : Int32) : Int32 := (f2_o_A_a1_1 (1 : Int32) (f0_v234 p1) (f0_v280 p1) (f0_v46 p2) (f0_v52 p3) (f0_v58 p4) (f0_c306_b2831 p1 p2 p3 p4))
def f0_c322_b2832 (p1 : Int32) (p2 : Int32) (p3 : Int32) (p4 : Int32) : Int32 := (f2_o_A_a1_2 (1 : Int32) (f0_v234 p1) (f0_v280 p1) (f0_v46 p2) (f0_v52 p3) (f0_v58 p4) (f0_c306_b2832 p1 p2 p3 p4))
def f0_c338_b2830 (p1 : Int32) (p2 : Int32) (p3 : Int32) (p4 : Int32) : Int32 := (f2_o_A_a1_0 (2 : Int32) (f0_v234 p1) (f0_v280 p1) (f0_v46 p2) (f0_v52 p3) (f0_v58 p4) (f0_c322_b2830 p1 p2 p3 p4))
def f0_c338_b2831 (p1 : Int32) (p2 : Int32) (p3 : Int32) (p4 : Int32) : Int32 := (f2_o_A_a1_1 (2 : Int32) (f0_v234 p1) (f0_v280 p1) (f0_v46 p2) (f0_v52 p3) (f0_v58 p4) (f0_c322_b2831 p1 p2 p3 p4))
def f0_c338_b2832 (p1 : Int32) (p2 : Int32) (p3 : Int32) (p4 : Int32) : Int32 := (f2_o_A_a1_2 (2 : Int32) (f0_v234 p1) (f0_v280 p1) (f0_v46 p2) (f0_v52 p3) (f0_v58 p4) (f0_c322_b2832 p1 p2 p3 p4))
def f0_c354_b2830 (p1 : Int32) (p2 : Int32) (p3 : Int32) (p4 : Int32) : Int32 := (f2_o_A_a1_0 (3 : Int32) (f0_v234 p1) (f0_v280 p1) (f0_v46 p2) (f0_v52 p3) (f0_v58 p4) (f0_c338_b2830 p1 p2 p3 p4))
def f0_c354_b2831 (p1 : Int32) (p2 : Int32) (p3 : Int32) (p4 : Int32) : Int32 := (f2_o_A_a1_1 (3 : Int32) (f0_v234 p1) (f0_v280 p1) (f0_v46 p2) (f0_v52 p3) (f0_v58 p4) (f0_c338_b2831 p1 p2 p3 p4))
def f0_c354_b2832 (p1 : Int32) (p2 : Int32) (p3 : Int32) (p4 : Int32) : Int32 := (f2_o_A_a1_2 (3 : Int32) (f0_v234 p1) (f0_v280 p1) (f0_v46 p2) (f0_v52 p3) (f0_v58 p4) (f0_c338_b2832 p1 p2 p3 p4))
def f0_c370_b2830 (p1 : Int32) (p2 : Int32) (p3 : Int32) (p4 : Int32) : Int32 := (f2_o_A_a1_0 (4 : Int32) (f0_v234 p1) (f0_v280 p1) (f0_v46 p2) (f0_v52 p3) (f0_v58 p4) (f0_c354_b2830 p1 p2 p3 p4))
def f0_c370_b2831 (p1 : Int32) (p2 : Int32) (p3 : Int32) (p4 : Int32) : Int32 := (f2_o_A_a1_1 (4 : Int32) (f0_v234 p1) (f0_v280 p1) (f0_v46 p2) (f0_v52 p3) (f0_v58 p4) (f0_c354_b2831 p1 p2 p3 p4))
def f0_c370_b2832 (p1 : Int32) (p2 : Int32) (p3 : Int32) (p4 : Int32) : Int32 := (f2_o_A_a1_2 (4 : Int32) (f0_v234 p1) (f0_v280 p1) (f0_v46 p2) (f0_v52 p3) (f0_v58 p4) (f0_c354_b2832 p1 p2 p3 p4))
def f0_c386_b2830 (p1 : Int32) (p2 : Int32) (p3 : Int32) (p4 : Int32) : Int32 := (f2_o_A_a1_0 (5 : Int32) (f0_v234 p1) (f0_v280 p1) (f0_v46 p2) (f0_v52 p3) (f0_v58 p4) (f0_c370_b2830 p1 p2 p3 p4))
def f0_c386_b2831 (p1 : Int32) (p2 : Int32) (p3 : Int32) (p4 : Int32) : Int32 := (f2_o_A_a1_1 (5 : Int32) (f0_v234 p1) (f0_v280 p1) (f0_v46 p2) (f0_v52 p3) (f0_v58 p4) (f0_c370_b2831 p1 p2 p3 p4))
def f0_c386_b2832 (p1 : Int32) (p2 : Int32) (p3 : Int32) (p4 : Int32) : Int32 := (f2_o_A_a1_2 (5 : Int32) (f0_v234 p1) (f0_v280 p1) (f0_v46 p2) (f0_v52 p3) (f0_v58 p4) (f0_c370_b2832 p1 p2 p3 p4))
def f0_c403_b2830 (p1 : Int32) (p2 : Int32) (p3 : Int32) (p4 : Int32) : Int32 := (f2_o_A_a1_0 (6 : Int32) (f0_v234 p1) (f0_v280 p1) (f0_v46 p2) (f0_v52 p3) (f0_v58 p4) (f0_c386_b2830 p1 p2 p3 p4))
def f0_c403_b2831 (p1 : Int32) (p2 : Int32) (p3 : Int32) (p4 : Int32) : Int32 := (f2_o_A_a1_1 (6 : Int32) (f0_v234 p1) (f0_v280 p1) (f0_v46 p2) (f0_v52 p3) (f0_v58 p4) (f0_c386_b2831 p1 p2 p3 p4))
def f0_c403_b2832 (p1 : Int32) (p2 : Int32) (p3 : Int32) (p4 : Int32) : Int32 := (f2_o_A_a1_2 (6 : Int32) (f0_v234 p1) (f0_v280 p1) (f0_v46 p2) (f0_v52 p3) (f0_v58 p4) (f0_c386_b2832 p1 p2 p3 p4))
def f0_c420_b2830 (p1 : Int32) (p2 : Int32) (p3 : Int32) (p4 : Int32) : Int32 := (f2_o_A_a1_0 (7 : Int32) (f0_v234 p1) (f0_v280 p1) (f0_v46 p2) (f0_v52 p3) (f0_v58 p4) (f0_c403_b2830 p1 p2 p3 p4))
def f0_c420_b2831 (p1 : Int32) (p2 : Int32) (p3 : Int32) (p4 : Int32) : Int32 := (f2_o_A_a1_1 (7 : Int32) (f0_v234 p1) (f0_v280 p1) (f0_v46 p2) (f0_v52 p3) (f0_v58 p4) (f0_c403_b2831 p1 p2 p3 p4))
def f0_c420_b2832 (p1 : Int32) (p2 : Int32) (p3 : Int32) (p4 : Int32) : Int32 := (f2_o_A_a1_2 (7 : Int32) (f0_v234 p1) (f0_v280 p1) (f0_v46 p2) (f0_v52 p3) (f0_v58 p4) (f0_c403_b2832 p1 p2 p3 p4))
def f0_c437_b2830 (p1 : Int32) (p2 : Int32) (p3 : Int32) (p4 : Int32) : Int32 := (f2_o_A_a1_0 (8 : Int32) (f0_v234 p1) (f0_v280 p1) (f0_v46 p2) (f0_v52 p3) (f0_v58 p4) (f0_c420_b2830 p1 p2 p3 p4))
def f0_c437_b2831 (p1 : Int32) (p2 : Int32) (p3 : Int32) (p4 : Int32) : Int32 := (f2_o_A_a1_1 (8 : Int32) (f0_v234 p1) (f0_v280 p1) (f0_v46 p2) (f0_v52 p3) (f0_v58 p4) (f0_c420_b2831 p1 p2 p3 p4))
def f0_c437_b2832 (p1 : Int32) (p2 : Int32) (p3 : Int32) (p4 : Int32) : Int32 := (f2_o_A_a1_2 (8 : Int32) (f0_v234 p1) (f0_v280 p1) (f0_v46 p2) (f0_v52 p3) (f0_v58 p4) (f0_c420_b2832 p1 p2 p3 p4))
def f0_c454_b2830 (p1 : Int32) (p2 : Int32) (p3 : Int32) (p4 : Int32) : Int32 := (f2_o_A_a1_0 (9 : Int32) (f0_v234 p1) (f0_v280 p1) (f0_v46 p2) (f0_v52 p3) (f0_v58 p4) (f0_c437_b2830 p1 p2 p3 p4))
def f0_c454_b2831 (p1 : Int32) (p2 : Int32) (p3 : Int32) (p4 : Int32) : Int32 := (f2_o_A_a1_1 (9 : Int32) (f0_v234 p1) (f0_v280 p1) (f0_v46 p2) (f0_v52 p3) (f0_v58 p4) (f0_c437_b2831 p1 p2 p3 p4))
def f0_c454_b2832 (p1 : Int32) (p2 : Int32) (p3 : Int32) (p4 : Int32) : Int32 := (f2_o_A_a1_2 (9 : Int32) (f0_v234 p1) (f0_v280 p1) (f0_v46 p2) (f0_v52 p3) (f0_v58 p4) (f0_c437_b2832 p1 p2 p3 p4))
def f0_c471_b2830 (p1 : Int32) (p2 : Int32) (p3 : Int32) (p4 : Int32) : Int32 := (f2_o_A_a1_0 (10 : Int32) (f0_v234 p1) (f0_v280 p1) (f0_v46 p2) (f0_v52 p3) (f0_v58 p4) (f0_c454_b2830 p1 p2 p3 p4))
def f0_c471_b2831 (p1 : Int32) (p2 : Int32) (p3 : Int32) (p4 : Int32) : Int32 := (f2_o_A_a1_1 (10 : Int32) (f0_v234 p1) (f0_v280 p1) (f0_v46 p2) (f0_v52 p3) (f0_v58 p4) (f0_c454_b2831 p1 p2 p3 p4))
def f0_c471_b2832 (p1 : Int32) (p2 : Int32) (p3 : Int32) (p4 : Int32) : Int32 := (f2_o_A_a1_2 (10 : Int32) (f0_v234 p1) (f0_v280 p1) (f0_v46 p2) (f0_v52 p3) (f0_v58 p4) (f0_c454_b2832 p1 p2 p3 p4))
def f0_c488_b2830 (p1 : Int32) (p2 : Int32) (p3 : Int32) (p4 : Int32) : Int32 := (f2_o_A_a1_0 (11 : Int32) (f0_v234 p1) (f0_v280 p1) (f0_v46 p2) (f0_v52 p3) (f0_v58 p4) (f0_c471_b2830 p1 p2 p3 p4))
def f0_c488_b2831 (p1 : Int32) (p2 : Int32) (p3 : Int32) (p4 : Int32) : Int32 := (f2_o_A_a1_1 (11 : Int32) (f0_v234 p1) (f0_v280 p1) (f0_v46 p2) (f0_v52 p3) (f0_v58 p4) (f0_c471_b2831 p1 p2 p3 p4))
def f0_c488_b2832 (p1 : Int32) (p2 : Int32) (p3 : Int32) (p4 : Int32) : Int32 := (f2_o_A_a1_2 (11 : Int32) (f0_v234 p1) (f0_v280 p1) (f0_v46 p2) (f0_v52 p3) (f0_v58 p4) (f0_c471_b2832 p1 p2 p3 p4))
def f0_c505_b2830 (p1 : Int32) (p2 : Int32) (p3 : Int32) (p4 : Int32) : Int32 := (f2_o_A_a1_0 (12 : Int32) (f0_v234 p1) (f0_v280 p1) (f0_v46 p2) (f0_v52 p3) (f0_v58 p4) (f0_c488_b2830 p1 p2 p3 p4))
def f0_c505_b2831 (p1 : Int32) (p2 : Int32) (p3 : Int32) (p4 : Int32) : Int32 := (f2_o_A_a1_1 (12 : Int32) (f0_v234 p1) (f0_v280 p1) (f0_v46 p2) (f0_v52 p3) (f0_v58 p4) (f0_c488_b2831 p1 p2 p3 p4))
def f0_c505_b2832 (p1 : Int32) (p2 : Int32) (p3 : Int32) (p4 : Int32) : Int32 := (f2_o_A_a1_2 (12 : Int32) (f0_v234 p1) (f0_v280 p1) (f0_v46 p2) (f0_v52 p3) (f0_v58 p4) (f0_c488_b2832 p1 p2 p3 p4))
def f0_c522_b2830 (p1 : Int32) (p2 : Int32) (p3 : Int32) (p4 : Int32) : Int32 := (f2_o_A_a1_0 (13 : Int32) (f0_v234 p1) (f0_v280 p1) (f0_v46 p2) (f0_v52 p3) (f0_v58 p4) (f0_c505_b2830 p1 p2 p3 p4))
def f0_c522_b2831 (p1 : Int32) (p2 : Int32) (p3 : Int32) (p4 : Int32) : Int32 := (f2_o_A_a1_1 (13 : Int32) (f0_v234 p1) (f0_v280 p1) (f0_v46 p2) (f0_v52 p3) (f0_v58 p4) (f0_c505_b2831 p1 p2 p3 p4))
def f0_c522_b2832 (p1 : Int32) (p2 : Int32) (p3 : Int32) (p4 : Int32) : Int32 := (f2_o_A_a1_2 (13 : Int32) (f0_v234 p1) (f0_v280 p1) (f0_v46 p2) (f0_v52 p3) (f0_v58 p4) (f0_c505_b2832 p1 p2 p3 p4))
def f0_c539_b2830 (p1 : Int32) (p2 : Int32) (p3 : Int32) (p4 : Int32) : Int32 := (f2_o_A_a1_0 (14 : Int32) (f0_v234 p1) (f0_v280 p1) (f0_v46 p2) (f0_v52 p3) (f0_v58 p4) (f0_c522_b2830 p1 p2 p3 p4))
def f0_c539_b2831 (p1 : Int32) (p2 : Int32) (p3 : Int32) (p4 : Int32) : Int32 := (f2_o_A_a1_1 (14 : Int32) (f0_v234 p1) (f0_v280 p1) (f0_v46 p2) (f0_v52 p3) (f0_v58 p4) (f0_c522_b2831 p1 p2 p3 p4))
def f0_c539_b2832 (p1 : Int32) (p2 : Int32) (p3 : Int32) (p4 : Int32) : Int32 := (f2_o_A_a1_2 (14 : Int32) (f0_v234 p1) (f0_v280 p1) (f0_v46 p2) (f0_v52 p3) (f0_v58 p4) (f0_c522_b2832 p1 p2 p3 p4))
def f0_c556_b2830 (p1 : Int32) (p2 : Int32) (p3 : Int32) (p4 : Int32) : Int32 := (f2_o_A_a1_0 (15 : Int32) (f0_v234 p1) (f0_v280 p1) (f0_v46 p2) (f0_v52 p3) (f0_v58 p4) (f0_c539_b2830 p1 p2 p3 p4))
def f0_c556_b2831 (p1 : Int32) (p2 : Int32) (p3 : Int32) (p4 : Int32) : Int32 := (f2_o_A_a1_1 (15 : Int32) (f0_v234 p1) (f0_v280 p1) (f0_v46 p2) (f0_v52 p3) (f0_v58 p4) (f0_c539_b2831 p1 p2 p3 p4))
def f0_c556_b2832 (p1 : Int32) (p2 : Int32) (p3 : Int32) (p4 : Int32) : Int32 := (f2_o_A_a1_2 (15 : Int32) (f0_v234 p1) (f0_v280 p1) (f0_v46 p2) (f0_v52 p3) (f0_v58 p4) (f0_c539_b2832 p1 p2 p3 p4))
def f0_c581_b610 (p1 : Int32) (p2 : Int32) (p3 : Int32) (p4 : Int32) : Int32 := (f8_o_A_a2_0 (f0_v46 p2) (f0_v58 p4) (f0_v52 p3) (f0_w84 p1) (f0_w113 p1) (f0_w142 p1) (f0_w171 p1) (f0_w98 p1) (f0_w127 p1) (f0_w156 p1) (f0_w185 p1))
def f0_c581_b611 (p1 : Int32) (p2 : Int32) (p3 : Int32) (p4 : Int32) : Int32 := (f8_o_A_a2_1 (f0_v46 p2) (f0_v58 p4) (f0_v52 p3) (f0_w84 p1) (f0_w113 p1) (f0_w142 p1) (f0_w171 p1) (f0_w98 p1) (f0_w127 p1) (f0_w156 p1) (f0_w185 p1))
def f0_c581_b612 (p1 : Int32) (p2 : Int32) (p3 : Int32) (p4 : Int32) : Int32 := (f8_o_A_a2_2 (f0_v46 p2) (f0_v58 p4) (f0_v52 p3) (f0_w84 p1) (f0_w113 p1) (f0_w142 p1) (f0_w171 p1) (f0_w98 p1) (f0_w127 p1) (f0_w156 p1) (f0_w185 p1))
def f0_c581_b613 (p1 : Int32) (p2 : Int32) (p3 : Int32) (p4 : Int32) : Int32 := (f8_o_A_a2_3 (f0_v46 p2) (f0_v58 p4) (f0_v52 p3) (f0_w84 p1) (f0_w113 p1) (f0_w142 p1) (f0_w171 p1) (f0_w98 p1) (f0_w127 p1) (f0_w156 p1) (f0_w185 p1))
def f0_c581_b660 (p1 : Int32) (p2 : Int32) (p3 : Int32) (p4 : Int32) : Int32 := (f8_o_A_a3_0 (f0_v46 p2) (f0_v58 p4) (f0_v52 p3) (f0_w84 p1) (f0_w113 p1) (f0_w142 p1) (f0_w171 p1) (f0_w98 p1) (f0_w127 p1) (f0_w156 p1) (f0_w185 p1))
def f0_c581_b661 (p1 : Int32) (p2 : Int32) (p3 : Int32) (p4 : Int32) : Int32 := (f8_o_A_a3_1 (f0_v46 p2) (f0_v58 p4) (f0_v52 p3) (f0_w84 p1) (f0_w113 p1) (f0_w142 p1) (f0_w171 p1) (f0_w98 p1) (f0_w127 p1) (f0_w156 p1) (f0_w185 p1))
def f0_c581_b662 (p1 : Int32) (p2 : Int32) (p3 : Int32) (p4 : Int32) : Int32 := (f8_o_A_a3_2 (f0_v46 p2) (f0_v58 p4) (f0_v52 p3) (f0_w84 p1) (f0_w113 p1) (f0_w142 p1) (f0_w171 p1) (f0_w98 p1) (f0_w127 p1) (f0_w156 p1) (f0_w185 p1))
def f0_c581_b663 (p1 : Int32) (p2 : Int32) (p3 : Int32) (p4 : Int32) : Int32 := (f8_o_A_a3_3 (f0_v46 p2) (f0_v58 p4) (f0_v52 p3) (f0_w84 p1) (f0_w113 p1) (f0_w142 p1) (f0_w171 p1) (f0_w98 p1) (f0_w127 p1) (f0_w156 p1) (f0_w185 p1))
def f0_v584 (p1 : Int32) (p2 : Int32) (p3 : Int32) (p4 : Int32) : Int32 := (f8 (f0_v46 p2) (f0_v58 p4) (f0_v52 p3) (f0_w84 p1) (f0_w113 p1) (f0_w142 p1) (f0_w171 p1) (f0_w98 p1) (f0_w127 p1) (f0_w156 p1) (f0_w185 p1))
def f0_j617_s0 (p1 : Int32) (p2 : Int32) (p3 : Int32) (p4 : Int32) : Int32 := (if (f0_v58 p4) < (f0_c556_b2830 p1 p2 p3 p4) then (f0_v234 p1) else (f0_c556_b2831 p1 p2 p3 p4))
def f0_j635_s0 (p1 : Int32) (p2 : Int32) (p3 : Int32) (p4 : Int32) : Int32 := (if (f0_v58 p4) < (f0_c556_b2830 p1 p2 p3 p4) then (f0_v280 p1) else (f0_c556_b2832 p1 p2 p3 p4))
def f0 (p1 : Int32) (p2 : Int32) (p3 : Int32) (p4 : Int32) : Int32 := (if (f0_v584 p1 p2 p3 p4) = (f0_c556_b2830 p1 p2 p3 p4) then (if (f16 (f0_j617_s0 p1 p2 p3 p4) (f0_c581_b610 p1 p2 p3 p4) (f0_c581_b611 p1 p2 p3 p4) (f0_c581_b612 p1 p2 p3 p4) (f0_c581_b613 p1 p2 p3 p4)) = (0 : Int32) then (0 : Int32) else (if (f16 (f0_j635_s0 p1 p2 p3 p4) (f0_c581_b660 p1 p2 p3 p4) (f0_c581_b661 p1 p2 p3 p4) (f0_c581_b662 p1 p2 p3 p4) (f0_c581_b663 p1 p2 p3 p4)) = (0 : Int32) then (0 : Int32) else (1 : Int32))) else (0 : Int32))
def Q0 (Z : State) (p1 : Int32) (p2 : Int32) (p3 : Int32) (p4 : Int32) (h0 : Heap) (n0 : Nat) (v : Option Value) (h : Heap) (L : List Loc) : Prop := v = some (.int (f0 p1 p2 p3 p4)) ∧ Fr n0 L ∧ Keep h0 h []
theorem ef_0 (m : MethodId) (p1 : Int32) (p2 : Int32) (p3 : Int32) (p4 : Int32) : entryFrame m #[(.int p1), (.int p2), (.int p3), (.int p4)] maxLocals = mkF m 0 #[.val (.int p1), .val (.int p2), .val (.int p3), .val (.int p4), .unset, .unset, .unset, .unset, .unset, .unset, .unset, .unset, .unset, .unset, .unset, .unset, .unset, .unset, .unset, .unset, .unset, .unset] [] := by first | (simp [entryFrame, mkF, argsToLocals, Value.category, maxLocals]; done) | rfl
set_option maxRecDepth 65536 in
set_option maxHeartbeats 40000000 in
theorem rm0 (l : Launch) (Z : State) (a0 : Array Value) (hw : ∀ d ∈ tables_1, d.before a0 Z = true) (ws : List Jvm.Cond) (p1 : Int32) (p2 : Int32) (p3 : Int32) (p4 : Int32) (h0 : Heap) (n0 : Nat) (Z0 : n0 ≤ h0.size) :
    Mt l Z x (Jvm.Cond.code x code maxLocals ret :: ws) room_1 #[(.int p1), (.int p2), (.int p3), (.int p4)] h0 (Q0 Z p1 p2 p3 p4 h0 n0) := by
  refine Mt.of n0 (plainFor_of_name pn_com_example_tightfold_tightfold_FocusFilteringFilterPinLaw) ?_
  intro p e s m below meth c T0 X0 hx hZ hby hml hown hret hlk hnm hs0
  have hml : c.maxLocals = 22 := hml
  have hret : meth.sig.returnType = some .boolean := hret
  have hown : s.vm.findClass "com/example/tightfold/tightfold/FocusFilteringFilterPinLaw" = some m.cls := hown
  rw [ef_0]
  show Rt p e below s room_1.cells room_1.slots (Q0 Z p1 p2 p3 p4 h0 n0) (T0.setTop (mkF m 0 #[.val (.int p1), .val (.int p2), .val (.int p3), .val (.int p4), .unset, .unset, .unset, .unset, .unset, .unset, .unset, .unset, .unset, .unset, .unset, .unset, .unset, .unset, .unset, .unset, .unset, .unset] []))
  refine Rt.iloadN (pc' := 1) X0 hx (hb hby at_0) rfl rfl ?_
  refine Rt.ldcInt (pc' := 3) X0 hx hZ hown (own_g hw 0 rfl) (hb hby at_1) rfl ?_
  refine Rt.iand (pc' := 4) (r := (p1 &&& (2147483647 : Int32))) X0 hx (hb hby at_3) rfl rfl ?_
  refine Rt.istore (pc' := 6) (v := (f0_v4 p1)) (l' := #[.val (.int p1), .val (.int p2), .val (.int p3), .val (.int p4), .val (.int (f0_v4 p1)), .unset, .unset, .unset, .unset, .unset, .unset, .unset, .unset, .unset, .unset, .unset, .unset, .unset, .unset, .unset, .unset, .unset]) X0 hx (hb hby at_4) rfl rfl ?_
  refine Rt.iload (pc' := 8) X0 hx (hb hby at_6) rfl rfl ?_
  refine Rt.iconst (pc' := 9) (v := (3 : Int32)) X0 hx (hb hby at_8) rfl rfl ?_
  refine Rt.irem (pc' := 10) X0 hx (hb hby at_9) (by decide) rfl rfl ?_
  refine Rt.istore (pc' := 12) (v := (f0_v10 p1)) (l' := #[.val (.int p1), .val (.int p2), .val (.int p3), .val (.int p4), .val (.int (f0_v4 p1)), .val (.int (f0_v10 p1)), .unset, .unset, .unset, .unset, .unset, .unset, .unset, .unset, .unset, .unset, .unset, .unset, .unset, .unset, .unset, .unset]) X0 hx (hb hby at_10) rfl rfl ?_
  refine Rt.iload (pc' := 14) X0 hx (hb hby at_12) rfl rfl ?_
  refine Rt.iconst (pc' := 15) (v := (3 : Int32)) X0 hx (hb hby at_14) rfl rfl ?_
  refine Rt.idiv (pc' := 16) X0 hx (hb hby at_15) (by decide) rfl rfl ?_
  refine Rt.iconst (pc' := 17) (v := (3 : Int32)) X0 hx (hb hby at_16) rfl rfl ?_
  refine Rt.irem (pc' := 18) X0 hx (hb hby at_17) (by decide) rfl rfl ?_
  refine Rt.istore (pc' := 20) (v := (f0_v18 p1)) (l' := #[.val (.int p1), .val (.int p2), .val (.int p3), .val (.int p4), .val (.int (f0_v4 p1)), .val (.int (f0_v10 p1)), .val (.int (f0_v18 p1)), .unset, .unset, .unset, .unset, .unset, .unset, .unset, .unset, .unset, .unset, .unset, .unset, .unset, .unset, .unset]) X0 hx (hb hby at_18) rfl rfl ?_
  refine Rt.iload (pc' := 22) X0 hx (hb hby at_20) rfl rfl ?_
  refine Rt.bipush (pc' := 24) (v := (9 : Int32)) X0 hx (hb hby at_22) rfl rfl ?_
  refine Rt.idiv (pc' := 25) X0 hx (hb hby at_24) (by decide) rfl rfl ?_
  refine Rt.iconst (pc' := 26) (v := (3 : Int32)) X0 hx (hb hby at_25) rfl rfl ?_
  refine Rt.irem (pc' := 27) X0 hx (hb hby at_26) (by decide) rfl rfl ?_
  refine Rt.istore (pc' := 29) (v := (f0_v27 p1)) (l' := #[.val (.int p1), .val (.int p2), .val (.int p3), .val (.int p4), .val (.int (f0_v4 p1)), .val (.int (f0_v10 p1)), .val (.int (f0_v18 p1)), .val (.int (f0_v27 p1)), .unset, .unset, .unset, .unset, .unset, .unset, .unset, .unset, .unset, .unset, .unset, .unset, .unset, .unset]) X0 hx (hb hby at_27) rfl rfl ?_
  refine Rt.iload (pc' := 31) X0 hx (hb hby at_29) rfl rfl ?_
  refine Rt.bipush (pc' := 33) (v := (27 : Int32)) X0 hx (hb hby at_31) rfl rfl ?_
  refine Rt.idiv (pc' := 34) X0 hx (hb hby at_33) (by decide) rfl rfl ?_
  refine Rt.iconst (pc' := 35) (v := (3 : Int32)) X0 hx (hb hby at_34) rfl rfl ?_
  refine Rt.irem (pc' := 36) X0 hx (hb hby at_35) (by decide) rfl rfl ?_
  refine Rt.istore (pc' := 38) (v := (f0_v36 p1)) (l' := #[.val (.int p1), .val (.int p2), .val (.int p3), .val (.int p4), .val (.int (f0_v4 p1)), .val (.int (f0_v10 p1)), .val (.int (f0_v18 p1)), .val (.int (f0_v27 p1)), .val (.int (f0_v36 p1)), .unset, .unset, .unset, .unset, .unset, .unset, .unset, .unset, .unset, .unset, .unset, .unset, .unset]) X0 hx (hb hby at_36) rfl rfl ?_
  refine Rt.iconst (pc' := 39) (v := (1 : Int32)) X0 hx (hb hby at_38) rfl rfl ?_
  refine Rt.iloadN (pc' := 40) X0 hx (hb hby at_39) rfl rfl ?_
  refine Rt.ldcInt (pc' := 42) X0 hx hZ hown (own_g hw 0 rfl) (hb hby at_40) rfl ?_
  refine Rt.iand (pc' := 43) (r := (p2 &&& (2147483647 : Int32))) X0 hx (hb hby at_42) rfl rfl ?_
  refine Rt.callP (pc' := 46) (r := (.int (f1 (1 : Int32) (f0_a43_1 p2)))) X0 hx hZ (y := mt2) hown (own_g hw 1 rfl) (own_g hw 2 rfl) (own_g hw 3 rfl) (own_g hw 4 rfl) (by decide) (rm1 l Z a0 hw [] (1 : Int32) (f0_a43_1 p2) h0 n0) (W := 0) (by decide) (by decide) (by decide) (by decide) rfl rfl (argsL := [(.int (1 : Int32)), (.int (f0_a43_1 p2))]) (rest := []) (by rw [hml]; rfl) (lenOf pd_0 rfl) rfl rfl (Nat.le_of_eq rfl) (hb hby at_43) rfl ?_
  intro T1 X1
  refine Rt.istore (pc' := 48) (v := (f0_v46 p2)) (l' := #[.val (.int p1), .val (.int p2), .val (.int p3), .val (.int p4), .val (.int (f0_v4 p1)), .val (.int (f0_v10 p1)), .val (.int (f0_v18 p1)), .val (.int (f0_v27 p1)), .val (.int (f0_v36 p1)), .val (.int (f0_v46 p2)), .unset, .unset, .unset, .unset, .unset, .unset, .unset, .unset, .unset, .unset, .unset, .unset]) X1 hx (hb hby at_46) rfl rfl ?_
  refine Rt.iloadN (pc' := 49) X1 hx (hb hby at_48) rfl rfl ?_
  refine Rt.ldcInt (pc' := 51) X1 hx hZ hown (own_g hw 0 rfl) (hb hby at_49) rfl ?_
  refine Rt.iand (pc' := 52) (r := (p3 &&& (2147483647 : Int32))) X1 hx (hb hby at_51) rfl rfl ?_
  refine Rt.istore (pc' := 54) (v := (f0_v52 p3)) (l' := #[.val (.int p1), .val (.int p2), .val (.int p3), .val (.int p4), .val (.int (f0_v4 p1)), .val (.int (f0_v10 p1)), .val (.int (f0_v18 p1)), .val (.int (f0_v27 p1)), .val (.int (f0_v36 p1)), .val (.int (f0_v46 p2)), .val (.int (f0_v52 p3)), .unset, .unset, .unset, .unset, .unset, .unset, .unset, .unset, .unset, .unset, .unset]) X1 hx (hb hby at_52) rfl rfl ?_
  refine Rt.iloadN (pc' := 55) X1 hx (hb hby at_54) rfl rfl ?_
  refine Rt.bipush (pc' := 57) (v := (7 : Int32)) X1 hx (hb hby at_55) rfl rfl ?_
  refine Rt.iand (pc' := 58) (r := (p4 &&& (7 : Int32))) X1 hx (hb hby at_57) rfl rfl ?_
  refine Rt.istore (pc' := 60) (v := (f0_v58 p4)) (l' := #[.val (.int p1), .val (.int p2), .val (.int p3), .val (.int p4), .val (.int (f0_v4 p1)), .val (.int (f0_v10 p1)), .val (.int (f0_v18 p1)), .val (.int (f0_v27 p1)), .val (.int (f0_v36 p1)), .val (.int (f0_v46 p2)), .val (.int (f0_v52 p3)), .val (.int (f0_v58 p4)), .unset, .unset, .unset, .unset, .unset, .unset, .unset, .unset, .unset, .unset]) X1 hx (hb hby at_58) rfl rfl ?_
  refine Rt.iconst (pc' := 61) (v := (4 : Int32)) X1 hx (hb hby at_60) rfl rfl ?_
  refine Rt.newP (pc' := 63) X1 hx hZ (ty := .boolean) rfl (own_g hw 5 rfl) (z := (4 : Int32)) (i := 4) (by decide) (by decide) (cap := 4) (by decide) (by decide) (hb hby at_61) (by decide) (by decide) rfl ?_
  intro T2 h2 b61 ha2 X2 E2 A2
  have g3 : n0 ≤ b61 := by rw [ha2]; exact Z0
  have s4 : h0.size ≤ b61 := by rw [ha2]; exact (Keep.refl h0 []).1
  have K5 := (Keep.refl h0 []).ext E2
  have Z6 := Nat.le_trans Z0 E2.1
  have A2 : IA Z h2 b61 .boolean [(.int (0 : Int32)), (.int (0 : Int32)), (.int (0 : Int32)), (.int (0 : Int32))] := A2
  refine Rt.astore (pc' := 65) (v := (.ref b61)) (l' := #[.val (.int p1), .val (.int p2), .val (.int p3), .val (.int p4), .val (.int (f0_v4 p1)), .val (.int (f0_v10 p1)), .val (.int (f0_v18 p1)), .val (.int (f0_v27 p1)), .val (.int (f0_v36 p1)), .val (.int (f0_v46 p2)), .val (.int (f0_v52 p3)), .val (.int (f0_v58 p4)), .val (.ref b61), .unset, .unset, .unset, .unset, .unset, .unset, .unset, .unset, .unset]) X2 hx (hb hby at_63) rfl rfl rfl ?_
  refine Rt.iconst (pc' := 66) (v := (4 : Int32)) X2 hx (hb hby at_65) rfl rfl ?_
  refine Rt.newP (pc' := 68) X2 hx hZ (ty := .boolean) rfl (own_g hw 5 rfl) (z := (4 : Int32)) (i := 4) (by decide) (by decide) (cap := 4) (by decide) (by decide) (hb hby at_66) (by decide) (by decide) rfl ?_
  intro T7 h7 b66 ha7 X7 E7 A7
  have g8 : n0 ≤ b66 := by rw [ha7]; exact Z6
  have s9 : h0.size ≤ b66 := by rw [ha7]; exact K5.1
  have ne10 : b61 ≠ b66 := by rw [ha7]; exact Nat.ne_of_lt A2.lt
  have F11 := A2.ext E7
  have K12 := K5.ext E7
  have Z13 := Nat.le_trans Z6 E7.1
  have A7 : IA Z h7 b66 .boolean [(.int (0 : Int32)), (.int (0 : Int32)), (.int (0 : Int32)), (.int (0 : Int32))] := A7
  refine Rt.astore (pc' := 70) (v := (.ref b66)) (l' := #[.val (.int p1), .val (.int p2), .val (.int p3), .val (.int p4), .val (.int (f0_v4 p1)), .val (.int (f0_v10 p1)), .val (.int (f0_v18 p1)), .val (.int (f0_v27 p1)), .val (.int (f0_v36 p1)), .val (.int (f0_v46 p2)), .val (.int (f0_v52 p3)), .val (.int (f0_v58 p4)), .val (.ref b61), .val (.ref b66), .unset, .unset, .unset, .unset, .unset, .unset, .unset, .unset]) X7 hx (hb hby at_68) rfl rfl rfl ?_
  refine Rt.aload (pc' := 72) X7 hx (hb hby at_70) rfl rfl rfl ?_
  refine Rt.iconst (pc' := 73) (v := (0 : Int32)) X7 hx (hb hby at_72) rfl rfl ?_
  refine Rt.iload (pc' := 75) X7 hx (hb hby at_73) rfl rfl ?_
  refine Rt.iconst (pc' := 76) (v := (1 : Int32)) X7 hx (hb hby at_75) rfl rfl ?_
  have J76_14 : ∀ T14  , Sd p l e room_1 s m #[(.int p1), (.int p2), (.int p3), (.int p4)] below meth c T14 n0 2 8 h7 → Rt p e below s room_1.cells room_1.slots (Q0 Z p1 p2 p3 p4 h0 n0) (T14.setTop (mkF m 84 #[.val (.int p1), .val (.int p2), .val (.int p3), .val (.int p4), .val (.int (f0_v4 p1)), .val (.int (f0_v10 p1)), .val (.int (f0_v18 p1)), .val (.int (f0_v27 p1)), .val (.int (f0_v36 p1)), .val (.int (f0_v46 p2)), .val (.int (f0_v52 p3)), .val (.int (f0_v58 p4)), .val (.ref b61), .val (.ref b66), .unset, .unset, .unset, .unset, .unset, .unset, .unset, .unset] [(.int (f0_j84_s0 p1)), (.int (0 : Int32)), (.ref b61)])) := by
    intro T14   X14 
    refine Rt.zastore (pc' := 85) X14 hx hZ F11 (i := 0) (by decide) (by decide) (Nat.le_of_ble_eq_true rfl) (w := (.int (f0_w84 p1))) rfl g3 (hb hby at_84) rfl ?_
    intro T15 h15 X15 W15 F15
    have F15 : IA Z h15 b61 .boolean [(.int (f0_w84 p1)), (.int (0 : Int32)), (.int (0 : Int32)), (.int (0 : Int32))] := F15
    have F16 := A7.other W15 (Ne.symm ne10)
    have K17 := K12.wr W15 (Or.inr s4)
    have Z18 := Nat.le_trans Z13 (Keep.of_wr W15).1
    refine Rt.aload (pc' := 87) X15 hx (hb hby at_85) rfl rfl rfl ?_
    refine Rt.iconst (pc' := 88) (v := (0 : Int32)) X15 hx (hb hby at_87) rfl rfl ?_
    refine Rt.iload (pc' := 90) X15 hx (hb hby at_88) rfl rfl ?_
    have J90_19 : ∀ T19  , Sd p l e room_1 s m #[(.int p1), (.int p2), (.int p3), (.int p4)] below meth c T19 n0 2 8 h15 → Rt p e below s room_1.cells room_1.slots (Q0 Z p1 p2 p3 p4 h0 n0) (T19.setTop (mkF m 98 #[.val (.int p1), .val (.int p2), .val (.int p3), .val (.int p4), .val (.int (f0_v4 p1)), .val (.int (f0_v10 p1)), .val (.int (f0_v18 p1)), .val (.int (f0_v27 p1)), .val (.int (f0_v36 p1)), .val (.int (f0_v46 p2)), .val (.int (f0_v52 p3)), .val (.int (f0_v58 p4)), .val (.ref b61), .val (.ref b66), .unset, .unset, .unset, .unset, .unset, .unset, .unset, .unset] [(.int (f0_j98_s0 p1)), (.int (0 : Int32)), (.ref b66)])) := by
      intro T19   X19 
      refine Rt.zastore (pc' := 99) X19 hx hZ F16 (i := 0) (by decide) (by decide) (Nat.le_of_ble_eq_true rfl) (w := (.int (f0_w98 p1))) rfl g8 (hb hby at_98) rfl ?_
      intro T20 h20 X20 W20 F20
      have F20 : IA Z h20 b66 .boolean [(.int (f0_w98 p1)), (.int (0 : Int32)), (.int (0 : Int32)), (.int (0 : Int32))] := F20
      have F21 := F15.other W20 ne10
      have K22 := K17.wr W20 (Or.inr s9)
      have Z23 := Nat.le_trans Z18 (Keep.of_wr W20).1
      refine Rt.aload (pc' := 101) X20 hx (hb hby at_99) rfl rfl rfl ?_
      refine Rt.iconst (pc' := 102) (v := (1 : Int32)) X20 hx (hb hby at_101) rfl rfl ?_
      refine Rt.iload (pc' := 104) X20 hx (hb hby at_102) rfl rfl ?_
      refine Rt.iconst (pc' := 105) (v := (1 : Int32)) X20 hx (hb hby at_104) rfl rfl ?_
      have J105_24 : ∀ T24  , Sd p l e room_1 s m #[(.int p1), (.int p2), (.int p3), (.int p4)] below meth c T24 n0 2 8 h20 → Rt p e below s room_1.cells room_1.slots (Q0 Z p1 p2 p3 p4 h0 n0) (T24.setTop (mkF m 113 #[.val (.int p1), .val (.int p2), .val (.int p3), .val (.int p4), .val (.int (f0_v4 p1)), .val (.int (f0_v10 p1)), .val (.int (f0_v18 p1)), .val (.int (f0_v27 p1)), .val (.int (f0_v36 p1)), .val (.int (f0_v46 p2)), .val (.int (f0_v52 p3)), .val (.int (f0_v58 p4)), .val (.ref b61), .val (.ref b66), .unset, .unset, .unset, .unset, .unset, .unset, .unset, .unset] [(.int (f0_j113_s0 p1)), (.int (1 : Int32)), (.ref b61)])) := by
        intro T24   X24 
        refine Rt.zastore (pc' := 114) X24 hx hZ F21 (i := 1) (by decide) (by decide) (Nat.le_of_ble_eq_true rfl) (w := (.int (f0_w113 p1))) rfl g3 (hb hby at_113) rfl ?_
        intro T25 h25 X25 W25 F25
        have F25 : IA Z h25 b61 .boolean [(.int (f0_w84 p1)), (.int (f0_w113 p1)), (.int (0 : Int32)), (.int (0 : Int32))] := F25
        have F26 := F20.other W25 (Ne.symm ne10)
        have K27 := K22.wr W25 (Or.inr s4)
        have Z28 := Nat.le_trans Z23 (Keep.of_wr W25).1
        refine Rt.aload (pc' := 116) X25 hx (hb hby at_114) rfl rfl rfl ?_
        refine Rt.iconst (pc' := 117) (v := (1 : Int32)) X25 hx (hb hby at_116) rfl rfl ?_
        refine Rt.iload (pc' := 119) X25 hx (hb hby at_117) rfl rfl ?_
        have J119_29 : ∀ T29  , Sd p l e room_1 s m #[(.int p1), (.int p2), (.int p3), (.int p4)] below meth c T29 n0 2 8 h25 → Rt p e below s room_1.cells room_1.slots (Q0 Z p1 p2 p3 p4 h0 n0) (T29.setTop (mkF m 127 #[.val (.int p1), .val (.int p2), .val (.int p3), .val (.int p4), .val (.int (f0_v4 p1)), .val (.int (f0_v10 p1)), .val (.int (f0_v18 p1)), .val (.int (f0_v27 p1)), .val (.int (f0_v36 p1)), .val (.int (f0_v46 p2)), .val (.int (f0_v52 p3)), .val (.int (f0_v58 p4)), .val (.ref b61), .val (.ref b66), .unset, .unset, .unset, .unset, .unset, .unset, .unset, .unset] [(.int (f0_j127_s0 p1)), (.int (1 : Int32)), (.ref b66)])) := by
          intro T29   X29 
          refine Rt.zastore (pc' := 128) X29 hx hZ F26 (i := 1) (by decide) (by decide) (Nat.le_of_ble_eq_true rfl) (w := (.int (f0_w127 p1))) rfl g8 (hb hby at_127) rfl ?_
          intro T30 h30 X30 W30 F30
          have F30 : IA Z h30 b66 .boolean [(.int (f0_w98 p1)), (.int (f0_w127 p1)), (.int (0 : Int32)), (.int (0 : Int32))] := F30
          have F31 := F25.other W30 ne10
          have K32 := K27.wr W30 (Or.inr s9)
          have Z33 := Nat.le_trans Z28 (Keep.of_wr W30).1
          refine Rt.aload (pc' := 130) X30 hx (hb hby at_128) rfl rfl rfl ?_
          refine Rt.iconst (pc' := 131) (v := (2 : Int32)) X30 hx (hb hby at_130) rfl rfl ?_
          refine Rt.iload (pc' := 133) X30 hx (hb hby at_131) rfl rfl ?_
          refine Rt.iconst (pc' := 134) (v := (1 : Int32)) X30 hx (hb hby at_133) rfl rfl ?_
          have J134_34 : ∀ T34  , Sd p l e room_1 s m #[(.int p1), (.int p2), (.int p3), (.int p4)] below meth c T34 n0 2 8 h30 → Rt p e below s room_1.cells room_1.slots (Q0 Z p1 p2 p3 p4 h0 n0) (T34.setTop (mkF m 142 #[.val (.int p1), .val (.int p2), .val (.int p3), .val (.int p4), .val (.int (f0_v4 p1)), .val (.int (f0_v10 p1)), .val (.int (f0_v18 p1)), .val (.int (f0_v27 p1)), .val (.int (f0_v36 p1)), .val (.int (f0_v46 p2)), .val (.int (f0_v52 p3)), .val (.int (f0_v58 p4)), .val (.ref b61), .val (.ref b66), .unset, .unset, .unset, .unset, .unset, .unset, .unset, .unset] [(.int (f0_j142_s0 p1)), (.int (2 : Int32)), (.ref b61)])) := by
            intro T34   X34 
            refine Rt.zastore (pc' := 143) X34 hx hZ F31 (i := 2) (by decide) (by decide) (Nat.le_of_ble_eq_true rfl) (w := (.int (f0_w142 p1))) rfl g3 (hb hby at_142) rfl ?_
            intro T35 h35 X35 W35 F35
            have F35 : IA Z h35 b61 .boolean [(.int (f0_w84 p1)), (.int (f0_w113 p1)), (.int (f0_w142 p1)), (.int (0 : Int32))] := F35
            have F36 := F30.other W35 (Ne.symm ne10)
            have K37 := K32.wr W35 (Or.inr s4)
            have Z38 := Nat.le_trans Z33 (Keep.of_wr W35).1
            refine Rt.aload (pc' := 145) X35 hx (hb hby at_143) rfl rfl rfl ?_
            refine Rt.iconst (pc' := 146) (v := (2 : Int32)) X35 hx (hb hby at_145) rfl rfl ?_
            refine Rt.iload (pc' := 148) X35 hx (hb hby at_146) rfl rfl ?_
            have J148_39 : ∀ T39  , Sd p l e room_1 s m #[(.int p1), (.int p2), (.int p3), (.int p4)] below meth c T39 n0 2 8 h35 → Rt p e below s room_1.cells room_1.slots (Q0 Z p1 p2 p3 p4 h0 n0) (T39.setTop (mkF m 156 #[.val (.int p1), .val (.int p2), .val (.int p3), .val (.int p4), .val (.int (f0_v4 p1)), .val (.int (f0_v10 p1)), .val (.int (f0_v18 p1)), .val (.int (f0_v27 p1)), .val (.int (f0_v36 p1)), .val (.int (f0_v46 p2)), .val (.int (f0_v52 p3)), .val (.int (f0_v58 p4)), .val (.ref b61), .val (.ref b66), .unset, .unset, .unset, .unset, .unset, .unset, .unset, .unset] [(.int (f0_j156_s0 p1)), (.int (2 : Int32)), (.ref b66)])) := by
              intro T39   X39 
              refine Rt.zastore (pc' := 157) X39 hx hZ F36 (i := 2) (by decide) (by decide) (Nat.le_of_ble_eq_true rfl) (w := (.int (f0_w156 p1))) rfl g8 (hb hby at_156) rfl ?_
              intro T40 h40 X40 W40 F40
              have F40 : IA Z h40 b66 .boolean [(.int (f0_w98 p1)), (.int (f0_w127 p1)), (.int (f0_w156 p1)), (.int (0 : Int32))] := F40
              have F41 := F35.other W40 ne10
              have K42 := K37.wr W40 (Or.inr s9)
              have Z43 := Nat.le_trans Z38 (Keep.of_wr W40).1
              refine Rt.aload (pc' := 159) X40 hx (hb hby at_157) rfl rfl rfl ?_
              refine Rt.iconst (pc' := 160) (v := (3 : Int32)) X40 hx (hb hby at_159) rfl rfl ?_
              refine Rt.iload (pc' := 162) X40 hx (hb hby at_160) rfl rfl ?_
              refine Rt.iconst (pc' := 163) (v := (1 : Int32)) X40 hx (hb hby at_162) rfl rfl ?_
              have J163_44 : ∀ T44  , Sd p l e room_1 s m #[(.int p1), (.int p2), (.int p3), (.int p4)] below meth c T44 n0 2 8 h40 → Rt p e below s room_1.cells room_1.slots (Q0 Z p1 p2 p3 p4 h0 n0) (T44.setTop (mkF m 171 #[.val (.int p1), .val (.int p2), .val (.int p3), .val (.int p4), .val (.int (f0_v4 p1)), .val (.int (f0_v10 p1)), .val (.int (f0_v18 p1)), .val (.int (f0_v27 p1)), .val (.int (f0_v36 p1)), .val (.int (f0_v46 p2)), .val (.int (f0_v52 p3)), .val (.int (f0_v58 p4)), .val (.ref b61), .val (.ref b66), .unset, .unset, .unset, .unset, .unset, .unset, .unset, .unset] [(.int (f0_j171_s0 p1)), (.int (3 : Int32)), (.ref b61)])) := by
                intro T44   X44 
                refine Rt.zastore (pc' := 172) X44 hx hZ F41 (i := 3) (by decide) (by decide) (Nat.le_of_ble_eq_true rfl) (w := (.int (f0_w171 p1))) rfl g3 (hb hby at_171) rfl ?_
                intro T45 h45 X45 W45 F45
                have F45 : IA Z h45 b61 .boolean [(.int (f0_w84 p1)), (.int (f0_w113 p1)), (.int (f0_w142 p1)), (.int (f0_w171 p1))] := F45
                have F46 := F40.other W45 (Ne.symm ne10)
                have K47 := K42.wr W45 (Or.inr s4)
                have Z48 := Nat.le_trans Z43 (Keep.of_wr W45).1
                refine Rt.aload (pc' := 174) X45 hx (hb hby at_172) rfl rfl rfl ?_
                refine Rt.iconst (pc' := 175) (v := (3 : Int32)) X45 hx (hb hby at_174) rfl rfl ?_
                refine Rt.iload (pc' := 177) X45 hx (hb hby at_175) rfl rfl ?_
                have J177_49 : ∀ T49  , Sd p l e room_1 s m #[(.int p1), (.int p2), (.int p3), (.int p4)] below meth c T49 n0 2 8 h45 → Rt p e below s room_1.cells room_1.slots (Q0 Z p1 p2 p3 p4 h0 n0) (T49.setTop (mkF m 185 #[.val (.int p1), .val (.int p2), .val (.int p3), .val (.int p4), .val (.int (f0_v4 p1)), .val (.int (f0_v10 p1)), .val (.int (f0_v18 p1)), .val (.int (f0_v27 p1)), .val (.int (f0_v36 p1)), .val (.int (f0_v46 p2)), .val (.int (f0_v52 p3)), .val (.int (f0_v58 p4)), .val (.ref b61), .val (.ref b66), .unset, .unset, .unset, .unset, .unset, .unset, .unset, .unset] [(.int (f0_j185_s0 p1)), (.int (3 : Int32)), (.ref b66)])) := by
                  intro T49   X49 
                  refine Rt.zastore (pc' := 186) X49 hx hZ F46 (i := 3) (by decide) (by decide) (Nat.le_of_ble_eq_true rfl) (w := (.int (f0_w185 p1))) rfl g8 (hb hby at_185) rfl ?_
                  intro T50 h50 X50 W50 F50
                  have F50 : IA Z h50 b66 .boolean [(.int (f0_w98 p1)), (.int (f0_w127 p1)), (.int (f0_w156 p1)), (.int (f0_w185 p1))] := F50
                  have F51 := F45.other W50 ne10
                  have K52 := K47.wr W50 (Or.inr s9)
                  have Z53 := Nat.le_trans Z48 (Keep.of_wr W50).1
                  refine Rt.iload (pc' := 188) X50 hx (hb hby at_186) rfl rfl ?_
                  refine Rt.iconst (pc' := 189) (v := (1 : Int32)) X50 hx (hb hby at_188) rfl rfl ?_
                  have J189_54 : ∀ T54  , Sd p l e room_1 s m #[(.int p1), (.int p2), (.int p3), (.int p4)] below meth c T54 n0 2 8 h50 → Rt p e below s room_1.cells room_1.slots (Q0 Z p1 p2 p3 p4 h0 n0) (T54.setTop (mkF m 197 #[.val (.int p1), .val (.int p2), .val (.int p3), .val (.int p4), .val (.int (f0_v4 p1)), .val (.int (f0_v10 p1)), .val (.int (f0_v18 p1)), .val (.int (f0_v27 p1)), .val (.int (f0_v36 p1)), .val (.int (f0_v46 p2)), .val (.int (f0_v52 p3)), .val (.int (f0_v58 p4)), .val (.ref b61), .val (.ref b66), .unset, .unset, .unset, .unset, .unset, .unset, .unset, .unset] [(.int (f0_j197_s0 p1))])) := by
                    intro T54   X54 
                    refine Rt.iload (pc' := 199) X54 hx (hb hby at_197) rfl rfl ?_
                    refine Rt.iconst (pc' := 200) (v := (1 : Int32)) X54 hx (hb hby at_199) rfl rfl ?_
                    have J200_55 : ∀ T55  , Sd p l e room_1 s m #[(.int p1), (.int p2), (.int p3), (.int p4)] below meth c T55 n0 2 8 h50 → Rt p e below s room_1.cells room_1.slots (Q0 Z p1 p2 p3 p4 h0 n0) (T55.setTop (mkF m 208 #[.val (.int p1), .val (.int p2), .val (.int p3), .val (.int p4), .val (.int (f0_v4 p1)), .val (.int (f0_v10 p1)), .val (.int (f0_v18 p1)), .val (.int (f0_v27 p1)), .val (.int (f0_v36 p1)), .val (.int (f0_v46 p2)), .val (.int (f0_v52 p3)), .val (.int (f0_v58 p4)), .val (.ref b61), .val (.ref b66), .unset, .unset, .unset, .unset, .unset, .unset, .unset, .unset] [(.int (f0_j208_s0 p1)), (.int (f0_j197_s0 p1))])) := by
                      intro T55   X55 
                      refine Rt.ior (pc' := 209) (r := ((f0_j197_s0 p1) ||| (f0_j208_s0 p1))) X55 hx (hb hby at_208) rfl rfl ?_
                      refine Rt.iload (pc' := 211) X55 hx (hb hby at_209) rfl rfl ?_
                      refine Rt.iconst (pc' := 212) (v := (1 : Int32)) X55 hx (hb hby at_211) rfl rfl ?_
                      have J212_56 : ∀ T56  , Sd p l e room_1 s m #[(.int p1), (.int p2), (.int p3), (.int p4)] below meth c T56 n0 2 8 h50 → Rt p e below s room_1.cells room_1.slots (Q0 Z p1 p2 p3 p4 h0 n0) (T56.setTop (mkF m 220 #[.val (.int p1), .val (.int p2), .val (.int p3), .val (.int p4), .val (.int (f0_v4 p1)), .val (.int (f0_v10 p1)), .val (.int (f0_v18 p1)), .val (.int (f0_v27 p1)), .val (.int (f0_v36 p1)), .val (.int (f0_v46 p2)), .val (.int (f0_v52 p3)), .val (.int (f0_v58 p4)), .val (.ref b61), .val (.ref b66), .unset, .unset, .unset, .unset, .unset, .unset, .unset, .unset] [(.int (f0_j220_s0 p1)), (.int ((f0_j197_s0 p1) ||| (f0_j208_s0 p1)))])) := by
                        intro T56   X56 
                        refine Rt.ior (pc' := 221) (r := (((f0_j197_s0 p1) ||| (f0_j208_s0 p1)) ||| (f0_j220_s0 p1))) X56 hx (hb hby at_220) rfl rfl ?_
                        refine Rt.iload (pc' := 223) X56 hx (hb hby at_221) rfl rfl ?_
                        refine Rt.iconst (pc' := 224) (v := (1 : Int32)) X56 hx (hb hby at_223) rfl rfl ?_
                        have J224_57 : ∀ T57  , Sd p l e room_1 s m #[(.int p1), (.int p2), (.int p3), (.int p4)] below meth c T57 n0 2 8 h50 → Rt p e below s room_1.cells room_1.slots (Q0 Z p1 p2 p3 p4 h0 n0) (T57.setTop (mkF m 233 #[.val (.int p1), .val (.int p2), .val (.int p3), .val (.int p4), .val (.int (f0_v4 p1)), .val (.int (f0_v10 p1)), .val (.int (f0_v18 p1)), .val (.int (f0_v27 p1)), .val (.int (f0_v36 p1)), .val (.int (f0_v46 p2)), .val (.int (f0_v52 p3)), .val (.int (f0_v58 p4)), .val (.ref b61), .val (.ref b66), .unset, .unset, .unset, .unset, .unset, .unset, .unset, .unset] [(.int (f0_j233_s0 p1)), (.int (((f0_j197_s0 p1) ||| (f0_j208_s0 p1)) ||| (f0_j220_s0 p1)))])) := by
                          intro T57   X57 
                          refine Rt.ior (pc' := 234) (r := ((((f0_j197_s0 p1) ||| (f0_j208_s0 p1)) ||| (f0_j220_s0 p1)) ||| (f0_j233_s0 p1))) X57 hx (hb hby at_233) rfl rfl ?_
                          refine Rt.istore (pc' := 236) (v := (f0_v234 p1)) (l' := #[.val (.int p1), .val (.int p2), .val (.int p3), .val (.int p4), .val (.int (f0_v4 p1)), .val (.int (f0_v10 p1)), .val (.int (f0_v18 p1)), .val (.int (f0_v27 p1)), .val (.int (f0_v36 p1)), .val (.int (f0_v46 p2)), .val (.int (f0_v52 p3)), .val (.int (f0_v58 p4)), .val (.ref b61), .val (.ref b66), .val (.int (f0_v234 p1)), .unset, .unset, .unset, .unset, .unset, .unset, .unset]) X57 hx (hb hby at_234) rfl rfl ?_
                          refine Rt.iload (pc' := 238) X57 hx (hb hby at_236) rfl rfl ?_
                          have J238_58 : ∀ T58  , Sd p l e room_1 s m #[(.int p1), (.int p2), (.int p3), (.int p4)] below meth c T58 n0 2 8 h50 → Rt p e below s room_1.cells room_1.slots (Q0 Z p1 p2 p3 p4 h0 n0) (T58.setTop (mkF m 246 #[.val (.int p1), .val (.int p2), .val (.int p3), .val (.int p4), .val (.int (f0_v4 p1)), .val (.int (f0_v10 p1)), .val (.int (f0_v18 p1)), .val (.int (f0_v27 p1)), .val (.int (f0_v36 p1)), .val (.int (f0_v46 p2)), .val (.int (f0_v52 p3)), .val (.int (f0_v58 p4)), .val (.ref b61), .val (.ref b66), .val (.int (f0_v234 p1)), .unset, .unset, .unset, .unset, .unset, .unset, .unset] [(.int (f0_j246_s0 p1))])) := by
                            intro T58   X58 
                            refine Rt.iload (pc' := 248) X58 hx (hb hby at_246) rfl rfl ?_
                            have J248_59 : ∀ T59  , Sd p l e room_1 s m #[(.int p1), (.int p2), (.int p3), (.int p4)] below meth c T59 n0 2 8 h50 → Rt p e below s room_1.cells room_1.slots (Q0 Z p1 p2 p3 p4 h0 n0) (T59.setTop (mkF m 256 #[.val (.int p1), .val (.int p2), .val (.int p3), .val (.int p4), .val (.int (f0_v4 p1)), .val (.int (f0_v10 p1)), .val (.int (f0_v18 p1)), .val (.int (f0_v27 p1)), .val (.int (f0_v36 p1)), .val (.int (f0_v46 p2)), .val (.int (f0_v52 p3)), .val (.int (f0_v58 p4)), .val (.ref b61), .val (.ref b66), .val (.int (f0_v234 p1)), .unset, .unset, .unset, .unset, .unset, .unset, .unset] [(.int (f0_j256_s0 p1)), (.int (f0_j246_s0 p1))])) := by
                              intro T59   X59 
                              refine Rt.ior (pc' := 257) (r := ((f0_j246_s0 p1) ||| (f0_j256_s0 p1))) X59 hx (hb hby at_256) rfl rfl ?_
                              refine Rt.iload (pc' := 259) X59 hx (hb hby at_257) rfl rfl ?_
                              have J259_60 : ∀ T60  , Sd p l e room_1 s m #[(.int p1), (.int p2), (.int p3), (.int p4)] below meth c T60 n0 2 8 h50 → Rt p e below s room_1.cells room_1.slots (Q0 Z p1 p2 p3 p4 h0 n0) (T60.setTop (mkF m 267 #[.val (.int p1), .val (.int p2), .val (.int p3), .val (.int p4), .val (.int (f0_v4 p1)), .val (.int (f0_v10 p1)), .val (.int (f0_v18 p1)), .val (.int (f0_v27 p1)), .val (.int (f0_v36 p1)), .val (.int (f0_v46 p2)), .val (.int (f0_v52 p3)), .val (.int (f0_v58 p4)), .val (.ref b61), .val (.ref b66), .val (.int (f0_v234 p1)), .unset, .unset, .unset, .unset, .unset, .unset, .unset] [(.int (f0_j267_s0 p1)), (.int ((f0_j246_s0 p1) ||| (f0_j256_s0 p1)))])) := by
                                intro T60   X60 
                                refine Rt.ior (pc' := 268) (r := (((f0_j246_s0 p1) ||| (f0_j256_s0 p1)) ||| (f0_j267_s0 p1))) X60 hx (hb hby at_267) rfl rfl ?_
                                refine Rt.iload (pc' := 270) X60 hx (hb hby at_268) rfl rfl ?_
                                have J270_61 : ∀ T61  , Sd p l e room_1 s m #[(.int p1), (.int p2), (.int p3), (.int p4)] below meth c T61 n0 2 8 h50 → Rt p e below s room_1.cells room_1.slots (Q0 Z p1 p2 p3 p4 h0 n0) (T61.setTop (mkF m 279 #[.val (.int p1), .val (.int p2), .val (.int p3), .val (.int p4), .val (.int (f0_v4 p1)), .val (.int (f0_v10 p1)), .val (.int (f0_v18 p1)), .val (.int (f0_v27 p1)), .val (.int (f0_v36 p1)), .val (.int (f0_v46 p2)), .val (.int (f0_v52 p3)), .val (.int (f0_v58 p4)), .val (.ref b61), .val (.ref b66), .val (.int (f0_v234 p1)), .unset, .unset, .unset, .unset, .unset, .unset, .unset] [(.int (f0_j279_s0 p1)), (.int (((f0_j246_s0 p1) ||| (f0_j256_s0 p1)) ||| (f0_j267_s0 p1)))])) := by
                                  intro T61   X61 
                                  refine Rt.ior (pc' := 280) (r := ((((f0_j246_s0 p1) ||| (f0_j256_s0 p1)) ||| (f0_j267_s0 p1)) ||| (f0_j279_s0 p1))) X61 hx (hb hby at_279) rfl rfl ?_
                                  refine Rt.istore (pc' := 282) (v := (f0_v280 p1)) (l' := #[.val (.int p1), .val (.int p2), .val (.int p3), .val (.int p4), .val (.int (f0_v4 p1)), .val (.int (f0_v10 p1)), .val (.int (f0_v18 p1)), .val (.int (f0_v27 p1)), .val (.int (f0_v36 p1)), .val (.int (f0_v46 p2)), .val (.int (f0_v52 p3)), .val (.int (f0_v58 p4)), .val (.ref b61), .val (.ref b66), .val (.int (f0_v234 p1)), .val (.int (f0_v280 p1)), .unset, .unset, .unset, .unset, .unset, .unset]) X61 hx (hb hby at_280) rfl rfl ?_
                                  refine Rt.iconst (pc' := 283) (v := (3 : Int32)) X61 hx (hb hby at_282) rfl rfl ?_
                                  refine Rt.newP (pc' := 285) X61 hx hZ (ty := .int) rfl (own_g hw 6 rfl) (z := (3 : Int32)) (i := 3) (by decide) (by decide) (cap := 3) (by decide) (by decide) (hb hby at_283) (by decide) (by decide) rfl ?_
                                  intro T62 h62 b283 ha62 X62 E62 A62
                                  have g63 : n0 ≤ b283 := by rw [ha62]; exact Z53
                                  have s64 : h0.size ≤ b283 := by rw [ha62]; exact K52.1
                                  have ne65 : b61 ≠ b283 := by rw [ha62]; exact Nat.ne_of_lt F51.lt
                                  have ne66 : b66 ≠ b283 := by rw [ha62]; exact Nat.ne_of_lt F50.lt
                                  have F67 := F51.ext E62
                                  have F68 := F50.ext E62
                                  have K69 := K52.ext E62
                                  have Z70 := Nat.le_trans Z53 E62.1
                                  have A62 : IA Z h62 b283 .int [(.int (0 : Int32)), (.int (0 : Int32)), (.int (0 : Int32))] := A62
                                  refine Rt.astore (pc' := 287) (v := (.ref b283)) (l' := #[.val (.int p1), .val (.int p2), .val (.int p3), .val (.int p4), .val (.int (f0_v4 p1)), .val (.int (f0_v10 p1)), .val (.int (f0_v18 p1)), .val (.int (f0_v27 p1)), .val (.int (f0_v36 p1)), .val (.int (f0_v46 p2)), .val (.int (f0_v52 p3)), .val (.int (f0_v58 p4)), .val (.ref b61), .val (.ref b66), .val (.int (f0_v234 p1)), .val (.int (f0_v280 p1)), .val (.ref b283), .unset, .unset, .unset, .unset, .unset]) X62 hx (hb hby at_285) rfl rfl rfl ?_
                                  refine Rt.aload (pc' := 289) X62 hx (hb hby at_287) rfl rfl rfl ?_
                                  refine Rt.iconst (pc' := 290) (v := (0 : Int32)) X62 hx (hb hby at_289) rfl rfl ?_
                                  refine Rt.bipush (pc' := 292) (v := (99 : Int32)) X62 hx (hb hby at_290) rfl rfl ?_
                                  refine Rt.iastore (pc' := 293) X62 hx hZ A62 (i := 0) (by decide) (by decide) (Nat.le_of_ble_eq_true rfl) (w := (.int (99 : Int32))) rfl g63 (hb hby at_292) rfl ?_
                                  intro T71 h71 X71 W71 F71
                                  have F71 : IA Z h71 b283 .int [(.int (99 : Int32)), (.int (0 : Int32)), (.int (0 : Int32))] := F71
                                  have F72 := F67.other W71 ne65
                                  have F73 := F68.other W71 ne66
                                  have K74 := K69.wr W71 (Or.inr s64)
                                  have Z75 := Nat.le_trans Z70 (Keep.of_wr W71).1
                                  refine Rt.aload (pc' := 295) X71 hx (hb hby at_293) rfl rfl rfl ?_
                                  refine Rt.iconst (pc' := 296) (v := (0 : Int32)) X71 hx (hb hby at_295) rfl rfl ?_
                                  refine Rt.iload (pc' := 298) X71 hx (hb hby at_296) rfl rfl ?_
                                  refine Rt.iload (pc' := 300) X71 hx (hb hby at_298) rfl rfl ?_
                                  refine Rt.iload (pc' := 302) X71 hx (hb hby at_300) rfl rfl ?_
                                  refine Rt.iload (pc' := 304) X71 hx (hb hby at_302) rfl rfl ?_
                                  refine Rt.iload (pc' := 306) X71 hx (hb hby at_304) rfl rfl ?_
                                  refine Rt.callS (pc' := 309) X71 hx hZ (y := mt16) hown (own_g hw 7 rfl) (own_g hw 8 rfl) (own_g hw 9 rfl) (own_g hw 10 rfl) (by decide) (rm2 l Z a0 hw [] b283 (0 : Int32) (f0_v234 p1) (f0_v280 p1) (f0_v46 p2) (f0_v52 p3) (f0_v58 p4) (99 : Int32) (0 : Int32) (0 : Int32) h71 n0 Z75 F71 g63) (fun _ _ _ q => q.2.1) (W := 0) (by decide) (by decide) (by decide) (by decide) (argsL := [(.ref b283), (.int (0 : Int32)), (.int (f0_v234 p1)), (.int (f0_v280 p1)), (.int (f0_v46 p2)), (.int (f0_v52 p3)), (.int (f0_v58 p4))]) (rest := []) (by rw [hml]; rfl) (lenOf pd_12 rfl) rfl rfl (Nat.le_of_eq rfl) (hb hby at_306) rfl ?_
                                  rintro _ T76 h76 L76 X76 ⟨rfl, N76, K76, F77⟩
                                  have F78 := F72.keep K76 (ninS ne65 nin0)
                                  have F79 := F73.keep K76 (ninS ne66 nin0)
                                  have K80 := K74.trans K76 (allS (Or.inr s64) all0)
                                  have Z81 := Nat.le_trans Z75 K76.1
                                  have F82 : IA Z h76 b283 .int [(.int (f0_c306_b2830 p1 p2 p3 p4)), (.int (f0_c306_b2831 p1 p2 p3 p4)), (.int (f0_c306_b2832 p1 p2 p3 p4))] := F77
                                  show Rt _ _ _ _ _ _ _ (T76.setTop (mkF m 309 #[.val (.int p1), .val (.int p2), .val (.int p3), .val (.int p4), .val (.int (f0_v4 p1)), .val (.int (f0_v10 p1)), .val (.int (f0_v18 p1)), .val (.int (f0_v27 p1)), .val (.int (f0_v36 p1)), .val (.int (f0_v46 p2)), .val (.int (f0_v52 p3)), .val (.int (f0_v58 p4)), .val (.ref b61), .val (.ref b66), .val (.int (f0_v234 p1)), .val (.int (f0_v280 p1)), .val (.ref b283), .unset, .unset, .unset, .unset, .unset] []))
                                  refine Rt.aload (pc' := 311) X76 hx (hb hby at_309) rfl rfl rfl ?_
                                  refine Rt.iconst (pc' := 312) (v := (1 : Int32)) X76 hx (hb hby at_311) rfl rfl ?_
                                  refine Rt.iload (pc' := 314) X76 hx (hb hby at_312) rfl rfl ?_
                                  refine Rt.iload (pc' := 316) X76 hx (hb hby at_314) rfl rfl ?_
                                  refine Rt.iload (pc' := 318) X76 hx (hb hby at_316) rfl rfl ?_
                                  refine Rt.iload (pc' := 320) X76 hx (hb hby at_318) rfl rfl ?_
                                  refine Rt.iload (pc' := 322) X76 hx (hb hby at_320) rfl rfl ?_
                                  refine Rt.callS (pc' := 325) X76 hx hZ (y := mt16) hown (own_g hw 7 rfl) (own_g hw 8 rfl) (own_g hw 9 rfl) (own_g hw 10 rfl) (by decide) (rm2 l Z a0 hw [] b283 (1 : Int32) (f0_v234 p1) (f0_v280 p1) (f0_v46 p2) (f0_v52 p3) (f0_v58 p4) (f0_c306_b2830 p1 p2 p3 p4) (f0_c306_b2831 p1 p2 p3 p4) (f0_c306_b2832 p1 p2 p3 p4) h76 n0 Z81 F82 g63) (fun _ _ _ q => q.2.1) (W := 0) (by decide) (by decide) (by decide) (by decide) (argsL := [(.ref b283), (.int (1 : Int32)), (.int (f0_v234 p1)), (.int (f0_v280 p1)), (.int (f0_v46 p2)), (.int (f0_v52 p3)), (.int (f0_v58 p4))]) (rest := []) (by rw [hml]; rfl) (lenOf pd_12 rfl) rfl rfl (Nat.le_of_eq rfl) (hb hby at_322) rfl ?_
                                  rintro _ T83 h83 L83 X83 ⟨rfl, N83, K83, F84⟩
                                  have F85 := F78.keep K83 (ninS ne65 nin0)
                                  have F86 := F79.keep K83 (ninS ne66 nin0)
                                  have K87 := K80.trans K83 (allS (Or.inr s64) all0)
                                  have Z88 := Nat.le_trans Z81 K83.1
                                  have F89 : IA Z h83 b283 .int [(.int (f0_c322_b2830 p1 p2 p3 p4)), (.int (f0_c322_b2831 p1 p2 p3 p4)), (.int (f0_c322_b2832 p1 p2 p3 p4))] := F84
                                  show Rt _ _ _ _ _ _ _ (T83.setTop (mkF m 325 #[.val (.int p1), .val (.int p2), .val (.int p3), .val (.int p4), .val (.int (f0_v4 p1)), .val (.int (f0_v10 p1)), .val (.int (f0_v18 p1)), .val (.int (f0_v27 p1)), .val (.int (f0_v36 p1)), .val (.int (f0_v46 p2)), .val (.int (f0_v52 p3)), .val (.int (f0_v58 p4)), .val (.ref b61), .val (.ref b66), .val (.int (f0_v234 p1)), .val (.int (f0_v280 p1)), .val (.ref b283), .unset, .unset, .unset, .unset, .unset] []))
                                  refine Rt.aload (pc' := 327) X83 hx (hb hby at_325) rfl rfl rfl ?_
                                  refine Rt.iconst (pc' := 328) (v := (2 : Int32)) X83 hx (hb hby at_327) rfl rfl ?_
                                  refine Rt.iload (pc' := 330) X83 hx (hb hby at_328) rfl rfl ?_
                                  refine Rt.iload (pc' := 332) X83 hx (hb hby at_330) rfl rfl ?_
                                  refine Rt.iload (pc' := 334) X83 hx (hb hby at_332) rfl rfl ?_
                                  refine Rt.iload (pc' := 336) X83 hx (hb hby at_334) rfl rfl ?_
                                  refine Rt.iload (pc' := 338) X83 hx (hb hby at_336) rfl rfl ?_
                                  refine Rt.callS (pc' := 341) X83 hx hZ (y := mt16) hown (own_g hw 7 rfl) (own_g hw 8 rfl) (own_g hw 9 rfl) (own_g hw 10 rfl) (by decide) (rm2 l Z a0 hw [] b283 (2 : Int32) (f0_v234 p1) (f0_v280 p1) (f0_v46 p2) (f0_v52 p3) (f0_v58 p4) (f0_c322_b2830 p1 p2 p3 p4) (f0_c322_b2831 p1 p2 p3 p4) (f0_c322_b2832 p1 p2 p3 p4) h83 n0 Z88 F89 g63) (fun _ _ _ q => q.2.1) (W := 0) (by decide) (by decide) (by decide) (by decide) (argsL := [(.ref b283), (.int (2 : Int32)), (.int (f0_v234 p1)), (.int (f0_v280 p1)), (.int (f0_v46 p2)), (.int (f0_v52 p3)), (.int (f0_v58 p4))]) (rest := []) (by rw [hml]; rfl) (lenOf pd_12 rfl) rfl rfl (Nat.le_of_eq rfl) (hb hby at_338) rfl ?_
                                  rintro _ T90 h90 L90 X90 ⟨rfl, N90, K90, F91⟩
                                  have F92 := F85.keep K90 (ninS ne65 nin0)
                                  have F93 := F86.keep K90 (ninS ne66 nin0)
                                  have K94 := K87.trans K90 (allS (Or.inr s64) all0)
                                  have Z95 := Nat.le_trans Z88 K90.1
                                  have F96 : IA Z h90 b283 .int [(.int (f0_c338_b2830 p1 p2 p3 p4)), (.int (f0_c338_b2831 p1 p2 p3 p4)), (.int (f0_c338_b2832 p1 p2 p3 p4))] := F91
                                  show Rt _ _ _ _ _ _ _ (T90.setTop (mkF m 341 #[.val (.int p1), .val (.int p2), .val (.int p3), .val (.int p4), .val (.int (f0_v4 p1)), .val (.int (f0_v10 p1)), .val (.int (f0_v18 p1)), .val (.int (f0_v27 p1)), .val (.int (f0_v36 p1)), .val (.int (f0_v46 p2)), .val (.int (f0_v52 p3)), .val (.int (f0_v58 p4)), .val (.ref b61), .val (.ref b66), .val (.int (f0_v234 p1)), .val (.int (f0_v280 p1)), .val (.ref b283), .unset, .unset, .unset, .unset, .unset] []))
                                  refine Rt.aload (pc' := 343) X90 hx (hb hby at_341) rfl rfl rfl ?_
                                  refine Rt.iconst (pc' := 344) (v := (3 : Int32)) X90 hx (hb hby at_343) rfl rfl ?_
                                  refine Rt.iload (pc' := 346) X90 hx (hb hby at_344) rfl rfl ?_
                                  refine Rt.iload (pc' := 348) X90 hx (hb hby at_346) rfl rfl ?_
                                  refine Rt.iload (pc' := 350) X90 hx (hb hby at_348) rfl rfl ?_
                                  refine Rt.iload (pc' := 352) X90 hx (hb hby at_350) rfl rfl ?_
                                  refine Rt.iload (pc' := 354) X90 hx (hb hby at_352) rfl rfl ?_
                                  refine Rt.callS (pc' := 357) X90 hx hZ (y := mt16) hown (own_g hw 7 rfl) (own_g hw 8 rfl) (own_g hw 9 rfl) (own_g hw 10 rfl) (by decide) (rm2 l Z a0 hw [] b283 (3 : Int32) (f0_v234 p1) (f0_v280 p1) (f0_v46 p2) (f0_v52 p3) (f0_v58 p4) (f0_c338_b2830 p1 p2 p3 p4) (f0_c338_b2831 p1 p2 p3 p4) (f0_c338_b2832 p1 p2 p3 p4) h90 n0 Z95 F96 g63) (fun _ _ _ q => q.2.1) (W := 0) (by decide) (by decide) (by decide) (by decide) (argsL := [(.ref b283), (.int (3 : Int32)), (.int (f0_v234 p1)), (.int (f0_v280 p1)), (.int (f0_v46 p2)), (.int (f0_v52 p3)), (.int (f0_v58 p4))]) (rest := []) (by rw [hml]; rfl) (lenOf pd_12 rfl) rfl rfl (Nat.le_of_eq rfl) (hb hby at_354) rfl ?_
                                  rintro _ T97 h97 L97 X97 ⟨rfl, N97, K97, F98⟩
                                  have F99 := F92.keep K97 (ninS ne65 nin0)
                                  have F100 := F93.keep K97 (ninS ne66 nin0)
                                  have K101 := K94.trans K97 (allS (Or.inr s64) all0)
                                  have Z102 := Nat.le_trans Z95 K97.1
                                  have F103 : IA Z h97 b283 .int [(.int (f0_c354_b2830 p1 p2 p3 p4)), (.int (f0_c354_b2831 p1 p2 p3 p4)), (.int (f0_c354_b2832 p1 p2 p3 p4))] := F98
                                  show Rt _ _ _ _ _ _ _ (T97.setTop (mkF m 357 #[.val (.int p1), .val (.int p2), .val (.int p3), .val (.int p4), .val (.int (f0_v4 p1)), .val (.int (f0_v10 p1)), .val (.int (f0_v18 p1)), .val (.int (f0_v27 p1)), .val (.int (f0_v36 p1)), .val (.int (f0_v46 p2)), .val (.int (f0_v52 p3)), .val (.int (f0_v58 p4)), .val (.ref b61), .val (.ref b66), .val (.int (f0_v234 p1)), .val (.int (f0_v280 p1)), .val (.ref b283), .unset, .unset, .unset, .unset, .unset] []))
                                  refine Rt.aload (pc' := 359) X97 hx (hb hby at_357) rfl rfl rfl ?_
                                  refine Rt.iconst (pc' := 360) (v := (4 : Int32)) X97 hx (hb hby at_359) rfl rfl ?_
                                  refine Rt.iload (pc' := 362) X97 hx (hb hby at_360) rfl rfl ?_
                                  refine Rt.iload (pc' := 364) X97 hx (hb hby at_362) rfl rfl ?_
                                  refine Rt.iload (pc' := 366) X97 hx (hb hby at_364) rfl rfl ?_
                                  refine Rt.iload (pc' := 368) X97 hx (hb hby at_366) rfl rfl ?_
                                  refine Rt.iload (pc' := 370) X97 hx (hb hby at_368) rfl rfl ?_
                                  refine Rt.callS (pc' := 373) X97 hx hZ (y := mt16) hown (own_g hw 7 rfl) (own_g hw 8 rfl) (own_g hw 9 rfl) (own_g hw 10 rfl) (by decide) (rm2 l Z a0 hw [] b283 (4 : Int32) (f0_v234 p1) (f0_v280 p1) (f0_v46 p2) (f0_v52 p3) (f0_v58 p4) (f0_c354_b2830 p1 p2 p3 p4) (f0_c354_b2831 p1 p2 p3 p4) (f0_c354_b2832 p1 p2 p3 p4) h97 n0 Z102 F103 g63) (fun _ _ _ q => q.2.1) (W := 0) (by decide) (by decide) (by decide) (by decide) (argsL := [(.ref b283), (.int (4 : Int32)), (.int (f0_v234 p1)), (.int (f0_v280 p1)), (.int (f0_v46 p2)), (.int (f0_v52 p3)), (.int (f0_v58 p4))]) (rest := []) (by rw [hml]; rfl) (lenOf pd_12 rfl) rfl rfl (Nat.le_of_eq rfl) (hb hby at_370) rfl ?_
                                  rintro _ T104 h104 L104 X104 ⟨rfl, N104, K104, F105⟩
                                  have F106 := F99.keep K104 (ninS ne65 nin0)
                                  have F107 := F100.keep K104 (ninS ne66 nin0)
                                  have K108 := K101.trans K104 (allS (Or.inr s64) all0)
                                  have Z109 := Nat.le_trans Z102 K104.1
                                  have F110 : IA Z h104 b283 .int [(.int (f0_c370_b2830 p1 p2 p3 p4)), (.int (f0_c370_b2831 p1 p2 p3 p4)), (.int (f0_c370_b2832 p1 p2 p3 p4))] := F105
                                  show Rt _ _ _ _ _ _ _ (T104.setTop (mkF m 373 #[.val (.int p1), .val (.int p2), .val (.int p3), .val (.int p4), .val (.int (f0_v4 p1)), .val (.int (f0_v10 p1)), .val (.int (f0_v18 p1)), .val (.int (f0_v27 p1)), .val (.int (f0_v36 p1)), .val (.int (f0_v46 p2)), .val (.int (f0_v52 p3)), .val (.int (f0_v58 p4)), .val (.ref b61), .val (.ref b66), .val (.int (f0_v234 p1)), .val (.int (f0_v280 p1)), .val (.ref b283), .unset, .unset, .unset, .unset, .unset] []))
                                  refine Rt.aload (pc' := 375) X104 hx (hb hby at_373) rfl rfl rfl ?_
                                  refine Rt.iconst (pc' := 376) (v := (5 : Int32)) X104 hx (hb hby at_375) rfl rfl ?_
                                  refine Rt.iload (pc' := 378) X104 hx (hb hby at_376) rfl rfl ?_
                                  refine Rt.iload (pc' := 380) X104 hx (hb hby at_378) rfl rfl ?_
                                  refine Rt.iload (pc' := 382) X104 hx (hb hby at_380) rfl rfl ?_
                                  refine Rt.iload (pc' := 384) X104 hx (hb hby at_382) rfl rfl ?_
                                  refine Rt.iload (pc' := 386) X104 hx (hb hby at_384) rfl rfl ?_
                                  refine Rt.callS (pc' := 389) X104 hx hZ (y := mt16) hown (own_g hw 7 rfl) (own_g hw 8 rfl) (own_g hw 9 rfl) (own_g hw 10 rfl) (by decide) (rm2 l Z a0 hw [] b283 (5 : Int32) (f0_v234 p1) (f0_v280 p1) (f0_v46 p2) (f0_v52 p3) (f0_v58 p4) (f0_c370_b2830 p1 p2 p3 p4) (f0_c370_b2831 p1 p2 p3 p4) (f0_c370_b2832 p1 p2 p3 p4) h104 n0 Z109 F110 g63) (fun _ _ _ q => q.2.1) (W := 0) (by decide) (by decide) (by decide) (by decide) (argsL := [(.ref b283), (.int (5 : Int32)), (.int (f0_v234 p1)), (.int (f0_v280 p1)), (.int (f0_v46 p2)), (.int (f0_v52 p3)), (.int (f0_v58 p4))]) (rest := []) (by rw [hml]; rfl) (lenOf pd_12 rfl) rfl rfl (Nat.le_of_eq rfl) (hb hby at_386) rfl ?_
                                  rintro _ T111 h111 L111 X111 ⟨rfl, N111, K111, F112⟩
                                  have F113 := F106.keep K111 (ninS ne65 nin0)
                                  have F114 := F107.keep K111 (ninS ne66 nin0)
                                  have K115 := K108.trans K111 (allS (Or.inr s64) all0)
                                  have Z116 := Nat.le_trans Z109 K111.1
                                  have F117 : IA Z h111 b283 .int [(.int (f0_c386_b2830 p1 p2 p3 p4)), (.int (f0_c386_b2831 p1 p2 p3 p4)), (.int (f0_c386_b2832 p1 p2 p3 p4))] := F112
                                  show Rt _ _ _ _ _ _ _ (T111.setTop (mkF m 389 #[.val (.int p1), .val (.int p2), .val (.int p3), .val (.int p4), .val (.int (f0_v4 p1)), .val (.int (f0_v10 p1)), .val (.int (f0_v18 p1)), .val (.int (f0_v27 p1)), .val (.int (f0_v36 p1)), .val (.int (f0_v46 p2)), .val (.int (f0_v52 p3)), .val (.int (f0_v58 p4)), .val (.ref b61), .val (.ref b66), .val (.int (f0_v234 p1)), .val (.int (f0_v280 p1)), .val (.ref b283), .unset, .unset, .unset, .unset, .unset] []))
                                  refine Rt.aload (pc' := 391) X111 hx (hb hby at_389) rfl rfl rfl ?_
                                  refine Rt.bipush (pc' := 393) (v := (6 : Int32)) X111 hx (hb hby at_391) rfl rfl ?_
                                  refine Rt.iload (pc' := 395) X111 hx (hb hby at_393) rfl rfl ?_
                                  refine Rt.iload (pc' := 397) X111 hx (hb hby at_395) rfl rfl ?_
                                  refine Rt.iload (pc' := 399) X111 hx (hb hby at_397) rfl rfl ?_
                                  refine Rt.iload (pc' := 401) X111 hx (hb hby at_399) rfl rfl ?_
                                  refine Rt.iload (pc' := 403) X111 hx (hb hby at_401) rfl rfl ?_
                                  refine Rt.callS (pc' := 406) X111 hx hZ (y := mt16) hown (own_g hw 7 rfl) (own_g hw 8 rfl) (own_g hw 9 rfl) (own_g hw 10 rfl) (by decide) (rm2 l Z a0 hw [] b283 (6 : Int32) (f0_v234 p1) (f0_v280 p1) (f0_v46 p2) (f0_v52 p3) (f0_v58 p4) (f0_c386_b2830 p1 p2 p3 p4) (f0_c386_b2831 p1 p2 p3 p4) (f0_c386_b2832 p1 p2 p3 p4) h111 n0 Z116 F117 g63) (fun _ _ _ q => q.2.1) (W := 0) (by decide) (by decide) (by decide) (by decide) (argsL := [(.ref b283), (.int (6 : Int32)), (.int (f0_v234 p1)), (.int (f0_v280 p1)), (.int (f0_v46 p2)), (.int (f0_v52 p3)), (.int (f0_v58 p4))]) (rest := []) (by rw [hml]; rfl) (lenOf pd_12 rfl) rfl rfl (Nat.le_of_eq rfl) (hb hby at_403) rfl ?_
                                  rintro _ T118 h118 L118 X118 ⟨rfl, N118, K118, F119⟩
                                  have F120 := F113.keep K118 (ninS ne65 nin0)
                                  have F121 := F114.keep K118 (ninS ne66 nin0)
                                  have K122 := K115.trans K118 (allS (Or.inr s64) all0)
                                  have Z123 := Nat.le_trans Z116 K118.1
                                  have F124 : IA Z h118 b283 .int [(.int (f0_c403_b2830 p1 p2 p3 p4)), (.int (f0_c403_b2831 p1 p2 p3 p4)), (.int (f0_c403_b2832 p1 p2 p3 p4))] := F119
                                  show Rt _ _ _ _ _ _ _ (T118.setTop (mkF m 406 #[.val (.int p1), .val (.int p2), .val (.int p3), .val (.int p4), .val (.int (f0_v4 p1)), .val (.int (f0_v10 p1)), .val (.int (f0_v18 p1)), .val (.int (f0_v27 p1)), .val (.int (f0_v36 p1)), .val (.int (f0_v46 p2)), .val (.int (f0_v52 p3)), .val (.int (f0_v58 p4)), .val (.ref b61), .val (.ref b66), .val (.int (f0_v234 p1)), .val (.int (f0_v280 p1)), .val (.ref b283), .unset, .unset, .unset, .unset, .unset] []))
                                  refine Rt.aload (pc' := 408) X118 hx (hb hby at_406) rfl rfl rfl ?_
                                  refine Rt.bipush (pc' := 410) (v := (7 : Int32)) X118 hx (hb hby at_408) rfl rfl ?_
                                  refine Rt.iload (pc' := 412) X118 hx (hb hby at_410) rfl rfl ?_
                                  refine Rt.iload (pc' := 414) X118 hx (hb hby at_412) rfl rfl ?_
                                  refine Rt.iload (pc' := 416) X118 hx (hb hby at_414) rfl rfl ?_
                                  refine Rt.iload (pc' := 418) X118 hx (hb hby at_416) rfl rfl ?_
                                  refine Rt.iload (pc' := 420) X118 hx (hb hby at_418) rfl rfl ?_
                                  refine Rt.callS (pc' := 423) X118 hx hZ (y := mt16) hown (own_g hw 7 rfl) (own_g hw 8 rfl) (own_g hw 9 rfl) (own_g hw 10 rfl) (by decide) (rm2 l Z a0 hw [] b283 (7 : Int32) (f0_v234 p1) (f0_v280 p1) (f0_v46 p2) (f0_v52 p3) (f0_v58 p4) (f0_c403_b2830 p1 p2 p3 p4) (f0_c403_b2831 p1 p2 p3 p4) (f0_c403_b2832 p1 p2 p3 p4) h118 n0 Z123 F124 g63) (fun _ _ _ q => q.2.1) (W := 0) (by decide) (by decide) (by decide) (by decide) (argsL := [(.ref b283), (.int (7 : Int32)), (.int (f0_v234 p1)), (.int (f0_v280 p1)), (.int (f0_v46 p2)), (.int (f0_v52 p3)), (.int (f0_v58 p4))]) (rest := []) (by rw [hml]; rfl) (lenOf pd_12 rfl) rfl rfl (Nat.le_of_eq rfl) (hb hby at_420) rfl ?_
                                  rintro _ T125 h125 L125 X125 ⟨rfl, N125, K125, F126⟩
                                  have F127 := F120.keep K125 (ninS ne65 nin0)
                                  have F128 := F121.keep K125 (ninS ne66 nin0)
                                  have K129 := K122.trans K125 (allS (Or.inr s64) all0)
                                  have Z130 := Nat.le_trans Z123 K125.1
                                  have F131 : IA Z h125 b283 .int [(.int (f0_c420_b2830 p1 p2 p3 p4)), (.int (f0_c420_b2831 p1 p2 p3 p4)), (.int (f0_c420_b2832 p1 p2 p3 p4))] := F126
                                  show Rt _ _ _ _ _ _ _ (T125.setTop (mkF m 423 #[.val (.int p1), .val (.int p2), .val (.int p3), .val (.int p4), .val (.int (f0_v4 p1)), .val (.int (f0_v10 p1)), .val (.int (f0_v18 p1)), .val (.int (f0_v27 p1)), .val (.int (f0_v36 p1)), .val (.int (f0_v46 p2)), .val (.int (f0_v52 p3)), .val (.int (f0_v58 p4)), .val (.ref b61), .val (.ref b66), .val (.int (f0_v234 p1)), .val (.int (f0_v280 p1)), .val (.ref b283), .unset, .unset, .unset, .unset, .unset] []))
                                  refine Rt.aload (pc' := 425) X125 hx (hb hby at_423) rfl rfl rfl ?_
                                  refine Rt.bipush (pc' := 427) (v := (8 : Int32)) X125 hx (hb hby at_425) rfl rfl ?_
                                  refine Rt.iload (pc' := 429) X125 hx (hb hby at_427) rfl rfl ?_
                                  refine Rt.iload (pc' := 431) X125 hx (hb hby at_429) rfl rfl ?_
                                  refine Rt.iload (pc' := 433) X125 hx (hb hby at_431) rfl rfl ?_
                                  refine Rt.iload (pc' := 435) X125 hx (hb hby at_433) rfl rfl ?_
                                  refine Rt.iload (pc' := 437) X125 hx (hb hby at_435) rfl rfl ?_
                                  refine Rt.callS (pc' := 440) X125 hx hZ (y := mt16) hown (own_g hw 7 rfl) (own_g hw 8 rfl) (own_g hw 9 rfl) (own_g hw 10 rfl) (by decide) (rm2 l Z a0 hw [] b283 (8 : Int32) (f0_v234 p1) (f0_v280 p1) (f0_v46 p2) (f0_v52 p3) (f0_v58 p4) (f0_c420_b2830 p1 p2 p3 p4) (f0_c420_b2831 p1 p2 p3 p4) (f0_c420_b2832 p1 p2 p3 p4) h125 n0 Z130 F131 g63) (fun _ _ _ q => q.2.1) (W := 0) (by decide) (by decide) (by decide) (by decide) (argsL := [(.ref b283), (.int (8 : Int32)), (.int (f0_v234 p1)), (.int (f0_v280 p1)), (.int (f0_v46 p2)), (.int (f0_v52 p3)), (.int (f0_v58 p4))]) (rest := []) (by rw [hml]; rfl) (lenOf pd_12 rfl) rfl rfl (Nat.le_of_eq rfl) (hb hby at_437) rfl ?_
                                  rintro _ T132 h132 L132 X132 ⟨rfl, N132, K132, F133⟩
                                  have F134 := F127.keep K132 (ninS ne65 nin0)
                                  have F135 := F128.keep K132 (ninS ne66 nin0)
                                  have K136 := K129.trans K132 (allS (Or.inr s64) all0)
                                  have Z137 := Nat.le_trans Z130 K132.1
                                  have F138 : IA Z h132 b283 .int [(.int (f0_c437_b2830 p1 p2 p3 p4)), (.int (f0_c437_b2831 p1 p2 p3 p4)), (.int (f0_c437_b2832 p1 p2 p3 p4))] := F133
                                  show Rt _ _ _ _ _ _ _ (T132.setTop (mkF m 440 #[.val (.int p1), .val (.int p2), .val (.int p3), .val (.int p4), .val (.int (f0_v4 p1)), .val (.int (f0_v10 p1)), .val (.int (f0_v18 p1)), .val (.int (f0_v27 p1)), .val (.int (f0_v36 p1)), .val (.int (f0_v46 p2)), .val (.int (f0_v52 p3)), .val (.int (f0_v58 p4)), .val (.ref b61), .val (.ref b66), .val (.int (f0_v234 p1)), .val (.int (f0_v280 p1)), .val (.ref b283), .unset, .unset, .unset, .unset, .unset] []))
                                  refine Rt.aload (pc' := 442) X132 hx (hb hby at_440) rfl rfl rfl ?_
                                  refine Rt.bipush (pc' := 444) (v := (9 : Int32)) X132 hx (hb hby at_442) rfl rfl ?_
                                  refine Rt.iload (pc' := 446) X132 hx (hb hby at_444) rfl rfl ?_
                                  refine Rt.iload (pc' := 448) X132 hx (hb hby at_446) rfl rfl ?_
                                  refine Rt.iload (pc' := 450) X132 hx (hb hby at_448) rfl rfl ?_
                                  refine Rt.iload (pc' := 452) X132 hx (hb hby at_450) rfl rfl ?_
                                  refine Rt.iload (pc' := 454) X132 hx (hb hby at_452) rfl rfl ?_
                                  refine Rt.callS (pc' := 457) X132 hx hZ (y := mt16) hown (own_g hw 7 rfl) (own_g hw 8 rfl) (own_g hw 9 rfl) (own_g hw 10 rfl) (by decide) (rm2 l Z a0 hw [] b283 (9 : Int32) (f0_v234 p1) (f0_v280 p1) (f0_v46 p2) (f0_v52 p3) (f0_v58 p4) (f0_c437_b2830 p1 p2 p3 p4) (f0_c437_b2831 p1 p2 p3 p4) (f0_c437_b2832 p1 p2 p3 p4) h132 n0 Z137 F138 g63) (fun _ _ _ q => q.2.1) (W := 0) (by decide) (by decide) (by decide) (by decide) (argsL := [(.ref b283), (.int (9 : Int32)), (.int (f0_v234 p1)), (.int (f0_v280 p1)), (.int (f0_v46 p2)), (.int (f0_v52 p3)), (.int (f0_v58 p4))]) (rest := []) (by rw [hml]; rfl) (lenOf pd_12 rfl) rfl rfl (Nat.le_of_eq rfl) (hb hby at_454) rfl ?_
                                  rintro _ T139 h139 L139 X139 ⟨rfl, N139, K139, F140⟩
                                  have F141 := F134.keep K139 (ninS ne65 nin0)
                                  have F142 := F135.keep K139 (ninS ne66 nin0)
                                  have K143 := K136.trans K139 (allS (Or.inr s64) all0)
                                  have Z144 := Nat.le_trans Z137 K139.1
                                  have F145 : IA Z h139 b283 .int [(.int (f0_c454_b2830 p1 p2 p3 p4)), (.int (f0_c454_b2831 p1 p2 p3 p4)), (.int (f0_c454_b2832 p1 p2 p3 p4))] := F140
                                  show Rt _ _ _ _ _ _ _ (T139.setTop (mkF m 457 #[.val (.int p1), .val (.int p2), .val (.int p3), .val (.int p4), .val (.int (f0_v4 p1)), .val (.int (f0_v10 p1)), .val (.int (f0_v18 p1)), .val (.int (f0_v27 p1)), .val (.int (f0_v36 p1)), .val (.int (f0_v46 p2)), .val (.int (f0_v52 p3)), .val (.int (f0_v58 p4)), .val (.ref b61), .val (.ref b66), .val (.int (f0_v234 p1)), .val (.int (f0_v280 p1)), .val (.ref b283), .unset, .unset, .unset, .unset, .unset] []))
                                  refine Rt.aload (pc' := 459) X139 hx (hb hby at_457) rfl rfl rfl ?_
                                  refine Rt.bipush (pc' := 461) (v := (10 : Int32)) X139 hx (hb hby at_459) rfl rfl ?_
                                  refine Rt.iload (pc' := 463) X139 hx (hb hby at_461) rfl rfl ?_
                                  refine Rt.iload (pc' := 465) X139 hx (hb hby at_463) rfl rfl ?_
                                  refine Rt.iload (pc' := 467) X139 hx (hb hby at_465) rfl rfl ?_
                                  refine Rt.iload (pc' := 469) X139 hx (hb hby at_467) rfl rfl ?_
                                  refine Rt.iload (pc' := 471) X139 hx (hb hby at_469) rfl rfl ?_
                                  refine Rt.callS (pc' := 474) X139 hx hZ (y := mt16) hown (own_g hw 7 rfl) (own_g hw 8 rfl) (own_g hw 9 rfl) (own_g hw 10 rfl) (by decide) (rm2 l Z a0 hw [] b283 (10 : Int32) (f0_v234 p1) (f0_v280 p1) (f0_v46 p2) (f0_v52 p3) (f0_v58 p4) (f0_c454_b2830 p1 p2 p3 p4) (f0_c454_b2831 p1 p2 p3 p4) (f0_c454_b2832 p1 p2 p3 p4) h139 n0 Z144 F145 g63) (fun _ _ _ q => q.2.1) (W := 0) (by decide) (by decide) (by decide) (by decide) (argsL := [(.ref b283), (.int (10 : Int32)), (.int (f0_v234 p1)), (.int (f0_v280 p1)), (.int (f0_v46 p2)), (.int (f0_v52 p3)), (.int (f0_v58 p4))]) (rest := []) (by rw [hml]; rfl) (lenOf pd_12 rfl) rfl rfl (Nat.le_of_eq rfl) (hb hby at_471) rfl ?_
                                  rintro _ T146 h146 L146 X146 ⟨rfl, N146, K146, F147⟩
                                  have F148 := F141.keep K146 (ninS ne65 nin0)
                                  have F149 := F142.keep K146 (ninS ne66 nin0)
                                  have K150 := K143.trans K146 (allS (Or.inr s64) all0)
                                  have Z151 := Nat.le_trans Z144 K146.1
                                  have F152 : IA Z h146 b283 .int [(.int (f0_c471_b2830 p1 p2 p3 p4)), (.int (f0_c471_b2831 p1 p2 p3 p4)), (.int (f0_c471_b2832 p1 p2 p3 p4))] := F147
                                  show Rt _ _ _ _ _ _ _ (T146.setTop (mkF m 474 #[.val (.int p1), .val (.int p2), .val (.int p3), .val (.int p4), .val (.int (f0_v4 p1)), .val (.int (f0_v10 p1)), .val (.int (f0_v18 p1)), .val (.int (f0_v27 p1)), .val (.int (f0_v36 p1)), .val (.int (f0_v46 p2)), .val (.int (f0_v52 p3)), .val (.int (f0_v58 p4)), .val (.ref b61), .val (.ref b66), .val (.int (f0_v234 p1)), .val (.int (f0_v280 p1)), .val (.ref b283), .unset, .unset, .unset, .unset, .unset] []))
                                  refine Rt.aload (pc' := 476) X146 hx (hb hby at_474) rfl rfl rfl ?_
                                  refine Rt.bipush (pc' := 478) (v := (11 : Int32)) X146 hx (hb hby at_476) rfl rfl ?_
                                  refine Rt.iload (pc' := 480) X146 hx (hb hby at_478) rfl rfl ?_
                                  refine Rt.iload (pc' := 482) X146 hx (hb hby at_480) rfl rfl ?_
                                  refine Rt.iload (pc' := 484) X146 hx (hb hby at_482) rfl rfl ?_
                                  refine Rt.iload (pc' := 486) X146 hx (hb hby at_484) rfl rfl ?_
                                  refine Rt.iload (pc' := 488) X146 hx (hb hby at_486) rfl rfl ?_
                                  refine Rt.callS (pc' := 491) X146 hx hZ (y := mt16) hown (own_g hw 7 rfl) (own_g hw 8 rfl) (own_g hw 9 rfl) (own_g hw 10 rfl) (by decide) (rm2 l Z a0 hw [] b283 (11 : Int32) (f0_v234 p1) (f0_v280 p1) (f0_v46 p2) (f0_v52 p3) (f0_v58 p4) (f0_c471_b2830 p1 p2 p3 p4) (f0_c471_b2831 p1 p2 p3 p4) (f0_c471_b2832 p1 p2 p3 p4) h146 n0 Z151 F152 g63) (fun _ _ _ q => q.2.1) (W := 0) (by decide) (by decide) (by decide) (by decide) (argsL := [(.ref b283), (.int (11 : Int32)), (.int (f0_v234 p1)), (.int (f0_v280 p1)), (.int (f0_v46 p2)), (.int (f0_v52 p3)), (.int (f0_v58 p4))]) (rest := []) (by rw [hml]; rfl) (lenOf pd_12 rfl) rfl rfl (Nat.le_of_eq rfl) (hb hby at_488) rfl ?_
                                  rintro _ T153 h153 L153 X153 ⟨rfl, N153, K153, F154⟩
                                  have F155 := F148.keep K153 (ninS ne65 nin0)
                                  have F156 := F149.keep K153 (ninS ne66 nin0)
                                  have K157 := K150.trans K153 (allS (Or.inr s64) all0)
                                  have Z158 := Nat.le_trans Z151 K153.1
                                  have F159 : IA Z h153 b283 .int [(.int (f0_c488_b2830 p1 p2 p3 p4)), (.int (f0_c488_b2831 p1 p2 p3 p4)), (.int (f0_c488_b2832 p1 p2 p3 p4))] := F154
                                  show Rt _ _ _ _ _ _ _ (T153.setTop (mkF m 491 #[.val (.int p1), .val (.int p2), .val (.int p3), .val (.int p4), .val (.int (f0_v4 p1)), .val (.int (f0_v10 p1)), .val (.int (f0_v18 p1)), .val (.int (f0_v27 p1)), .val (.int (f0_v36 p1)), .val (.int (f0_v46 p2)), .val (.int (f0_v52 p3)), .val (.int (f0_v58 p4)), .val (.ref b61), .val (.ref b66), .val (.int (f0_v234 p1)), .val (.int (f0_v280 p1)), .val (.ref b283), .unset, .unset, .unset, .unset, .unset] []))
                                  refine Rt.aload (pc' := 493) X153 hx (hb hby at_491) rfl rfl rfl ?_
                                  refine Rt.bipush (pc' := 495) (v := (12 : Int32)) X153 hx (hb hby at_493) rfl rfl ?_
                                  refine Rt.iload (pc' := 497) X153 hx (hb hby at_495) rfl rfl ?_
                                  refine Rt.iload (pc' := 499) X153 hx (hb hby at_497) rfl rfl ?_
                                  refine Rt.iload (pc' := 501) X153 hx (hb hby at_499) rfl rfl ?_
                                  refine Rt.iload (pc' := 503) X153 hx (hb hby at_501) rfl rfl ?_
                                  refine Rt.iload (pc' := 505) X153 hx (hb hby at_503) rfl rfl ?_
                                  refine Rt.callS (pc' := 508) X153 hx hZ (y := mt16) hown (own_g hw 7 rfl) (own_g hw 8 rfl) (own_g hw 9 rfl) (own_g hw 10 rfl) (by decide) (rm2 l Z a0 hw [] b283 (12 : Int32) (f0_v234 p1) (f0_v280 p1) (f0_v46 p2) (f0_v52 p3) (f0_v58 p4) (f0_c488_b2830 p1 p2 p3 p4) (f0_c488_b2831 p1 p2 p3 p4) (f0_c488_b2832 p1 p2 p3 p4) h153 n0 Z158 F159 g63) (fun _ _ _ q => q.2.1) (W := 0) (by decide) (by decide) (by decide) (by decide) (argsL := [(.ref b283), (.int (12 : Int32)), (.int (f0_v234 p1)), (.int (f0_v280 p1)), (.int (f0_v46 p2)), (.int (f0_v52 p3)), (.int (f0_v58 p4))]) (rest := []) (by rw [hml]; rfl) (lenOf pd_12 rfl) rfl rfl (Nat.le_of_eq rfl) (hb hby at_505) rfl ?_
                                  rintro _ T160 h160 L160 X160 ⟨rfl, N160, K160, F161⟩
                                  have F162 := F155.keep K160 (ninS ne65 nin0)
                                  have F163 := F156.keep K160 (ninS ne66 nin0)
                                  have K164 := K157.trans K160 (allS (Or.inr s64) all0)
                                  have Z165 := Nat.le_trans Z158 K160.1
                                  have F166 : IA Z h160 b283 .int [(.int (f0_c505_b2830 p1 p2 p3 p4)), (.int (f0_c505_b2831 p1 p2 p3 p4)), (.int (f0_c505_b2832 p1 p2 p3 p4))] := F161
                                  show Rt _ _ _ _ _ _ _ (T160.setTop (mkF m 508 #[.val (.int p1), .val (.int p2), .val (.int p3), .val (.int p4), .val (.int (f0_v4 p1)), .val (.int (f0_v10 p1)), .val (.int (f0_v18 p1)), .val (.int (f0_v27 p1)), .val (.int (f0_v36 p1)), .val (.int (f0_v46 p2)), .val (.int (f0_v52 p3)), .val (.int (f0_v58 p4)), .val (.ref b61), .val (.ref b66), .val (.int (f0_v234 p1)), .val (.int (f0_v280 p1)), .val (.ref b283), .unset, .unset, .unset, .unset, .unset] []))
                                  refine Rt.aload (pc' := 510) X160 hx (hb hby at_508) rfl rfl rfl ?_
                                  refine Rt.bipush (pc' := 512) (v := (13 : Int32)) X160 hx (hb hby at_510) rfl rfl ?_
                                  refine Rt.iload (pc' := 514) X160 hx (hb hby at_512) rfl rfl ?_
                                  refine Rt.iload (pc' := 516) X160 hx (hb hby at_514) rfl rfl ?_
                                  refine Rt.iload (pc' := 518) X160 hx (hb hby at_516) rfl rfl ?_
                                  refine Rt.iload (pc' := 520) X160 hx (hb hby at_518) rfl rfl ?_
                                  refine Rt.iload (pc' := 522) X160 hx (hb hby at_520) rfl rfl ?_
                                  refine Rt.callS (pc' := 525) X160 hx hZ (y := mt16) hown (own_g hw 7 rfl) (own_g hw 8 rfl) (own_g hw 9 rfl) (own_g hw 10 rfl) (by decide) (rm2 l Z a0 hw [] b283 (13 : Int32) (f0_v234 p1) (f0_v280 p1) (f0_v46 p2) (f0_v52 p3) (f0_v58 p4) (f0_c505_b2830 p1 p2 p3 p4) (f0_c505_b2831 p1 p2 p3 p4) (f0_c505_b2832 p1 p2 p3 p4) h160 n0 Z165 F166 g63) (fun _ _ _ q => q.2.1) (W := 0) (by decide) (by decide) (by decide) (by decide) (argsL := [(.ref b283), (.int (13 : Int32)), (.int (f0_v234 p1)), (.int (f0_v280 p1)), (.int (f0_v46 p2)), (.int (f0_v52 p3)), (.int (f0_v58 p4))]) (rest := []) (by rw [hml]; rfl) (lenOf pd_12 rfl) rfl rfl (Nat.le_of_eq rfl) (hb hby at_522) rfl ?_
                                  rintro _ T167 h167 L167 X167 ⟨rfl, N167, K167, F168⟩
                                  have F169 := F162.keep K167 (ninS ne65 nin0)
                                  have F170 := F163.keep K167 (ninS ne66 nin0)
                                  have K171 := K164.trans K167 (allS (Or.inr s64) all0)
                                  have Z172 := Nat.le_trans Z165 K167.1
                                  have F173 : IA Z h167 b283 .int [(.int (f0_c522_b2830 p1 p2 p3 p4)), (.int (f0_c522_b2831 p1 p2 p3 p4)), (.int (f0_c522_b2832 p1 p2 p3 p4))] := F168
                                  show Rt _ _ _ _ _ _ _ (T167.setTop (mkF m 525 #[.val (.int p1), .val (.int p2), .val (.int p3), .val (.int p4), .val (.int (f0_v4 p1)), .val (.int (f0_v10 p1)), .val (.int (f0_v18 p1)), .val (.int (f0_v27 p1)), .val (.int (f0_v36 p1)), .val (.int (f0_v46 p2)), .val (.int (f0_v52 p3)), .val (.int (f0_v58 p4)), .val (.ref b61), .val (.ref b66), .val (.int (f0_v234 p1)), .val (.int (f0_v280 p1)), .val (.ref b283), .unset, .unset, .unset, .unset, .unset] []))
                                  refine Rt.aload (pc' := 527) X167 hx (hb hby at_525) rfl rfl rfl ?_
                                  refine Rt.bipush (pc' := 529) (v := (14 : Int32)) X167 hx (hb hby at_527) rfl rfl ?_
                                  refine Rt.iload (pc' := 531) X167 hx (hb hby at_529) rfl rfl ?_
                                  refine Rt.iload (pc' := 533) X167 hx (hb hby at_531) rfl rfl ?_
                                  refine Rt.iload (pc' := 535) X167 hx (hb hby at_533) rfl rfl ?_
                                  refine Rt.iload (pc' := 537) X167 hx (hb hby at_535) rfl rfl ?_
                                  refine Rt.iload (pc' := 539) X167 hx (hb hby at_537) rfl rfl ?_
                                  refine Rt.callS (pc' := 542) X167 hx hZ (y := mt16) hown (own_g hw 7 rfl) (own_g hw 8 rfl) (own_g hw 9 rfl) (own_g hw 10 rfl) (by decide) (rm2 l Z a0 hw [] b283 (14 : Int32) (f0_v234 p1) (f0_v280 p1) (f0_v46 p2) (f0_v52 p3) (f0_v58 p4) (f0_c522_b2830 p1 p2 p3 p4) (f0_c522_b2831 p1 p2 p3 p4) (f0_c522_b2832 p1 p2 p3 p4) h167 n0 Z172 F173 g63) (fun _ _ _ q => q.2.1) (W := 0) (by decide) (by decide) (by decide) (by decide) (argsL := [(.ref b283), (.int (14 : Int32)), (.int (f0_v234 p1)), (.int (f0_v280 p1)), (.int (f0_v46 p2)), (.int (f0_v52 p3)), (.int (f0_v58 p4))]) (rest := []) (by rw [hml]; rfl) (lenOf pd_12 rfl) rfl rfl (Nat.le_of_eq rfl) (hb hby at_539) rfl ?_
                                  rintro _ T174 h174 L174 X174 ⟨rfl, N174, K174, F175⟩
                                  have F176 := F169.keep K174 (ninS ne65 nin0)
                                  have F177 := F170.keep K174 (ninS ne66 nin0)
                                  have K178 := K171.trans K174 (allS (Or.inr s64) all0)
                                  have Z179 := Nat.le_trans Z172 K174.1
                                  have F180 : IA Z h174 b283 .int [(.int (f0_c539_b2830 p1 p2 p3 p4)), (.int (f0_c539_b2831 p1 p2 p3 p4)), (.int (f0_c539_b2832 p1 p2 p3 p4))] := F175
                                  show Rt _ _ _ _ _ _ _ (T174.setTop (mkF m 542 #[.val (.int p1), .val (.int p2), .val (.int p3), .val (.int p4), .val (.int (f0_v4 p1)), .val (.int (f0_v10 p1)), .val (.int (f0_v18 p1)), .val (.int (f0_v27 p1)), .val (.int (f0_v36 p1)), .val (.int (f0_v46 p2)), .val (.int (f0_v52 p3)), .val (.int (f0_v58 p4)), .val (.ref b61), .val (.ref b66), .val (.int (f0_v234 p1)), .val (.int (f0_v280 p1)), .val (.ref b283), .unset, .unset, .unset, .unset, .unset] []))
                                  refine Rt.aload (pc' := 544) X174 hx (hb hby at_542) rfl rfl rfl ?_
                                  refine Rt.bipush (pc' := 546) (v := (15 : Int32)) X174 hx (hb hby at_544) rfl rfl ?_
                                  refine Rt.iload (pc' := 548) X174 hx (hb hby at_546) rfl rfl ?_
                                  refine Rt.iload (pc' := 550) X174 hx (hb hby at_548) rfl rfl ?_
                                  refine Rt.iload (pc' := 552) X174 hx (hb hby at_550) rfl rfl ?_
                                  refine Rt.iload (pc' := 554) X174 hx (hb hby at_552) rfl rfl ?_
                                  refine Rt.iload (pc' := 556) X174 hx (hb hby at_554) rfl rfl ?_
                                  refine Rt.callS (pc' := 559) X174 hx hZ (y := mt16) hown (own_g hw 7 rfl) (own_g hw 8 rfl) (own_g hw 9 rfl) (own_g hw 10 rfl) (by decide) (rm2 l Z a0 hw [] b283 (15 : Int32) (f0_v234 p1) (f0_v280 p1) (f0_v46 p2) (f0_v52 p3) (f0_v58 p4) (f0_c539_b2830 p1 p2 p3 p4) (f0_c539_b2831 p1 p2 p3 p4) (f0_c539_b2832 p1 p2 p3 p4) h174 n0 Z179 F180 g63) (fun _ _ _ q => q.2.1) (W := 0) (by decide) (by decide) (by decide) (by decide) (argsL := [(.ref b283), (.int (15 : Int32)), (.int (f0_v234 p1)), (.int (f0_v280 p1)), (.int (f0_v46 p2)), (.int (f0_v52 p3)), (.int (f0_v58 p4))]) (rest := []) (by rw [hml]; rfl) (lenOf pd_12 rfl) rfl rfl (Nat.le_of_eq rfl) (hb hby at_556) rfl ?_
                                  rintro _ T181 h181 L181 X181 ⟨rfl, N181, K181, F182⟩
                                  have F183 := F176.keep K181 (ninS ne65 nin0)
                                  have F184 := F177.keep K181 (ninS ne66 nin0)
                                  have K185 := K178.trans K181 (allS (Or.inr s64) all0)
                                  have Z186 := Nat.le_trans Z179 K181.1
                                  have F187 : IA Z h181 b283 .int [(.int (f0_c556_b2830 p1 p2 p3 p4)), (.int (f0_c556_b2831 p1 p2 p3 p4)), (.int (f0_c556_b2832 p1 p2 p3 p4))] := F182
                                  show Rt _ _ _ _ _ _ _ (T181.setTop (mkF m 559 #[.val (.int p1), .val (.int p2), .val (.int p3), .val (.int p4), .val (.int (f0_v4 p1)), .val (.int (f0_v10 p1)), .val (.int (f0_v18 p1)), .val (.int (f0_v27 p1)), .val (.int (f0_v36 p1)), .val (.int (f0_v46 p2)), .val (.int (f0_v52 p3)), .val (.int (f0_v58 p4)), .val (.ref b61), .val (.ref b66), .val (.int (f0_v234 p1)), .val (.int (f0_v280 p1)), .val (.ref b283), .unset, .unset, .unset, .unset, .unset] []))
                                  refine Rt.newO (pc' := 562) X181 hx hZ hown (own_g hw 20 rfl) (own_g hw 21 rfl) (own_g hw 22 rfl) (hb hby at_559) (by decide) (by decide) rfl ?_
                                  intro T188 h188 b559 ha188 X188 E188 A188 D188
                                  have g189 : n0 ≤ b559 := by rw [ha188]; exact Z186
                                  have s190 : h0.size ≤ b559 := by rw [ha188]; exact K185.1
                                  have ne191 : b61 ≠ b559 := by rw [ha188]; exact Nat.ne_of_lt F183.lt
                                  have ne192 : b66 ≠ b559 := by rw [ha188]; exact Nat.ne_of_lt F184.lt
                                  have ne193 : b283 ≠ b559 := by rw [ha188]; exact Nat.ne_of_lt F187.lt
                                  have F194 := F183.ext E188
                                  have F195 := F184.ext E188
                                  have F196 := F187.ext E188
                                  have K197 := K185.ext E188
                                  have Z198 := Nat.le_trans Z186 E188.1
                                  have F199 : Fld Z h188 b559 nm4 "impossible" "I" (.int (0 : Int32)) := D188 (Or.inr (own_g hw 30 rfl)) (ty := .int) (by decide)
                                  have F200 : Fld Z h188 b559 nm4 "h" "I" (.int (0 : Int32)) := D188 (Or.inr (own_g hw 32 rfl)) (ty := .int) (by decide)
                                  have F201 : Fld Z h188 b559 nm4 "lowOut" "[I" .null := D188 (Or.inr (own_g hw 34 rfl)) (ty := (.array .int)) (by decide)
                                  have F202 : Fld Z h188 b559 nm4 "lowIn" "[I" .null := D188 (Or.inr (own_g hw 36 rfl)) (ty := (.array .int)) (by decide)
                                  have F203 : Fld Z h188 b559 nm4 "lowInLength" "[I" .null := D188 (Or.inr (own_g hw 38 rfl)) (ty := (.array .int)) (by decide)
                                  have F204 : Fld Z h188 b559 nm4 "lowInLows" "[I" .null := D188 (Or.inr (own_g hw 40 rfl)) (ty := (.array .int)) (by decide)
                                  have F205 : Fld Z h188 b559 nm4 "high" "[I" .null := D188 (Or.inr (own_g hw 42 rfl)) (ty := (.array .int)) (by decide)
                                  have F206 : Fld Z h188 b559 nm4 "highLength" "[I" .null := D188 (Or.inr (own_g hw 44 rfl)) (ty := (.array .int)) (by decide)
                                  have F207 : Fld Z h188 b559 nm4 "highLows" "[I" .null := D188 (Or.inr (own_g hw 46 rfl)) (ty := (.array .int)) (by decide)
                                  refine Rt.dup (pc' := 563) X188 hx (hb hby at_562) rfl rfl ?_
                                  refine Rt.iconst (pc' := 564) (v := (4 : Int32)) X188 hx (hb hby at_563) rfl rfl ?_
                                  refine Rt.iload (pc' := 566) X188 hx (hb hby at_564) rfl rfl ?_
                                  refine Rt.callI (pc' := 569) X188 hx hZ (y := mt10) rfl hown (own_g hw 23 rfl) (own_g hw 24 rfl) (own_g hw 22 rfl) (own_g hw 25 rfl) (by decide) (rm6 l Z a0 hw [] b559 (f0_v52 p3) h188 n0 Z198 A188 F199 F200 F201 F202 F203 F204 F205 F206 F207 g189) (fun _ _ _ q => (by obtain ⟨_, _, _, _, _, _, _, _, _, _, _, _, _, _, _, _, _, _, _, _, _, _, _, _, _, _, _, _, _, _, _, _, _, _, _, _, q, _⟩ := q; exact q)) (W := 1) (by decide) (by decide) (by decide) (by decide) (argsL := [(.int (4 : Int32)), (.int (f0_v52 p3))]) (rest := [(.ref b559)]) (by rw [hml]; rfl) (lenOf pd_6 rfl) rfl rfl (Nat.le_of_eq rfl) (hb hby at_566) rfl ?_
                                  rintro _ T208 h208 L208 X208 ⟨b566na1, b566na2, b566na3, b566na4, b566na5, b566na6, b566na7, sb566na1, sb566na2, sb566na3, sb566na4, sb566na5, sb566na6, sb566na7, ne226, ne227, ne228, ne229, ne230, ne231, ne232, ne233, ne234, ne235, ne236, ne237, ne238, ne239, ne240, ne241, ne242, ne243, ne244, ne245, ne246, rfl, N208, K208, F209, F210, F211, F212, F213, F214, F215, F216, F217, F218, F219, F220, F221, F222, F223, F224, F225⟩
                                  have g247 : n0 ≤ b566na1 := Nat.le_trans Z198 sb566na1
                                  have s248 : h0.size ≤ b566na1 := Nat.le_trans K197.1 sb566na1
                                  have ne249 := Nat.ne_of_lt (Nat.lt_of_lt_of_le F194.lt sb566na1)
                                  have ne250 := Nat.ne_of_lt (Nat.lt_of_lt_of_le F195.lt sb566na1)
                                  have ne251 := Nat.ne_of_lt (Nat.lt_of_lt_of_le F196.lt sb566na1)
                                  have ne252 := Nat.ne_of_lt (Nat.lt_of_lt_of_le A188.lt sb566na1)
                                  have g253 : n0 ≤ b566na2 := Nat.le_trans Z198 sb566na2
                                  have s254 : h0.size ≤ b566na2 := Nat.le_trans K197.1 sb566na2
                                  have ne255 := Nat.ne_of_lt (Nat.lt_of_lt_of_le F194.lt sb566na2)
                                  have ne256 := Nat.ne_of_lt (Nat.lt_of_lt_of_le F195.lt sb566na2)
                                  have ne257 := Nat.ne_of_lt (Nat.lt_of_lt_of_le F196.lt sb566na2)
                                  have ne258 := Nat.ne_of_lt (Nat.lt_of_lt_of_le A188.lt sb566na2)
                                  have g259 : n0 ≤ b566na3 := Nat.le_trans Z198 sb566na3
                                  have s260 : h0.size ≤ b566na3 := Nat.le_trans K197.1 sb566na3
                                  have ne261 := Nat.ne_of_lt (Nat.lt_of_lt_of_le F194.lt sb566na3)
                                  have ne262 := Nat.ne_of_lt (Nat.lt_of_lt_of_le F195.lt sb566na3)
                                  have ne263 := Nat.ne_of_lt (Nat.lt_of_lt_of_le F196.lt sb566na3)
                                  have ne264 := Nat.ne_of_lt (Nat.lt_of_lt_of_le A188.lt sb566na3)
                                  have g265 : n0 ≤ b566na4 := Nat.le_trans Z198 sb566na4
                                  have s266 : h0.size ≤ b566na4 := Nat.le_trans K197.1 sb566na4
                                  have ne267 := Nat.ne_of_lt (Nat.lt_of_lt_of_le F194.lt sb566na4)
                                  have ne268 := Nat.ne_of_lt (Nat.lt_of_lt_of_le F195.lt sb566na4)
                                  have ne269 := Nat.ne_of_lt (Nat.lt_of_lt_of_le F196.lt sb566na4)
                                  have ne270 := Nat.ne_of_lt (Nat.lt_of_lt_of_le A188.lt sb566na4)
                                  have g271 : n0 ≤ b566na5 := Nat.le_trans Z198 sb566na5
                                  have s272 : h0.size ≤ b566na5 := Nat.le_trans K197.1 sb566na5
                                  have ne273 := Nat.ne_of_lt (Nat.lt_of_lt_of_le F194.lt sb566na5)
                                  have ne274 := Nat.ne_of_lt (Nat.lt_of_lt_of_le F195.lt sb566na5)
                                  have ne275 := Nat.ne_of_lt (Nat.lt_of_lt_of_le F196.lt sb566na5)
                                  have ne276 := Nat.ne_of_lt (Nat.lt_of_lt_of_le A188.lt sb566na5)
                                  have g277 : n0 ≤ b566na6 := Nat.le_trans Z198 sb566na6
                                  have s278 : h0.size ≤ b566na6 := Nat.le_trans K197.1 sb566na6
                                  have ne279 := Nat.ne_of_lt (Nat.lt_of_lt_of_le F194.lt sb566na6)
                                  have ne280 := Nat.ne_of_lt (Nat.lt_of_lt_of_le F195.lt sb566na6)
                                  have ne281 := Nat.ne_of_lt (Nat.lt_of_lt_of_le F196.lt sb566na6)
                                  have ne282 := Nat.ne_of_lt (Nat.lt_of_lt_of_le A188.lt sb566na6)
                                  have g283 : n0 ≤ b566na7 := Nat.le_trans Z198 sb566na7
                                  have s284 : h0.size ≤ b566na7 := Nat.le_trans K197.1 sb566na7
                                  have ne285 := Nat.ne_of_lt (Nat.lt_of_lt_of_le F194.lt sb566na7)
                                  have ne286 := Nat.ne_of_lt (Nat.lt_of_lt_of_le F195.lt sb566na7)
                                  have ne287 := Nat.ne_of_lt (Nat.lt_of_lt_of_le F196.lt sb566na7)
                                  have ne288 := Nat.ne_of_lt (Nat.lt_of_lt_of_le A188.lt sb566na7)
                                  have F289 := F194.keep K208 (ninS ne191 nin0)
                                  have F290 := F195.keep K208 (ninS ne192 nin0)
                                  have F291 := F196.keep K208 (ninS ne193 nin0)
                                  have F292 := A188.keep K208
                                  have K293 := K197.trans K208 (allS (Or.inr s190) all0)
                                  have Z294 := Nat.le_trans Z198 K208.1
                                  show Rt _ _ _ _ _ _ _ (T208.setTop (mkF m 569 #[.val (.int p1), .val (.int p2), .val (.int p3), .val (.int p4), .val (.int (f0_v4 p1)), .val (.int (f0_v10 p1)), .val (.int (f0_v18 p1)), .val (.int (f0_v27 p1)), .val (.int (f0_v36 p1)), .val (.int (f0_v46 p2)), .val (.int (f0_v52 p3)), .val (.int (f0_v58 p4)), .val (.ref b61), .val (.ref b66), .val (.int (f0_v234 p1)), .val (.int (f0_v280 p1)), .val (.ref b283), .unset, .unset, .unset, .unset, .unset] [(.ref b559)]))
                                  refine Rt.astore (pc' := 571) (v := (.ref b559)) (l' := #[.val (.int p1), .val (.int p2), .val (.int p3), .val (.int p4), .val (.int (f0_v4 p1)), .val (.int (f0_v10 p1)), .val (.int (f0_v18 p1)), .val (.int (f0_v27 p1)), .val (.int (f0_v36 p1)), .val (.int (f0_v46 p2)), .val (.int (f0_v52 p3)), .val (.int (f0_v58 p4)), .val (.ref b61), .val (.ref b66), .val (.int (f0_v234 p1)), .val (.int (f0_v280 p1)), .val (.ref b283), .val (.ref b559), .unset, .unset, .unset, .unset]) X208 hx (hb hby at_569) rfl rfl rfl ?_
                                  refine Rt.aload (pc' := 573) X208 hx (hb hby at_571) rfl rfl rfl ?_
                                  refine Rt.aload (pc' := 575) X208 hx (hb hby at_573) rfl rfl rfl ?_
                                  refine Rt.aload (pc' := 577) X208 hx (hb hby at_575) rfl rfl rfl ?_
                                  refine Rt.iload (pc' := 579) X208 hx (hb hby at_577) rfl rfl ?_
                                  refine Rt.iload (pc' := 581) X208 hx (hb hby at_579) rfl rfl ?_
                                  refine Rt.callV (pc' := 584) X208 hx hZ (y := mt13) (yz := mt13) hown (own_g hw 47 rfl) (own_g hw 48 rfl) (notFace_of_selects (args := #[]) (mvT hZ (own_g hw 50 rfl))) (own_g hw 50 rfl) (own_g hw 49 rfl) (own_g hw 22 rfl) (own_g hw 51 rfl) (by decide) F209 (rm8 l Z a0 hw [] b559 b61 b66 (f0_v46 p2) (f0_v58 p4) b566na1 b566na2 b566na3 b566na4 b566na5 b566na6 b566na7 (f0_v52 p3) (f0_w84 p1) (f0_w113 p1) (f0_w142 p1) (f0_w171 p1) (f0_w98 p1) (f0_w127 p1) (f0_w156 p1) (f0_w185 p1) h208 n0 Z294 F209 F210 F211 F212 F213 F214 F215 F216 F217 F218 F219 F220 F221 F222 F223 F224 F225 F289 F290 g247 g253 g259 g265 g271 g277 g283 g3 g8 ne252 ne249 ne250 ne258 ne255 ne256 ne264 ne261 ne262 ne270 ne267 ne268 ne276 ne273 ne274 ne282 ne279 ne280 ne288 ne285 ne286 ne226 ne227 ne228 ne229 ne230 ne231 ne232 ne233 ne234 ne235 ne236 ne237 ne238 ne239 ne240 ne241 ne242 ne243 ne244 ne245 ne246 (Ne.symm ne191) (Ne.symm ne192) ne10) (fun _ _ _ q => q.2.1) (W := 0) (by decide) (by decide) (by decide) (by decide) (argsL := [(.ref b61), (.ref b66), (.int (f0_v46 p2)), (.int (f0_v58 p4))]) (rest := []) (by rw [hml]; rfl) (lenOf pd_13 rfl) rfl rfl (Nat.le_of_eq rfl) (hb hby at_581) rfl ?_
                                  rintro _ T295 h295 L295 X295 ⟨rfl, N295, K295, F296, F297⟩
                                  have F298 := F291.keep K295 (ninS (Ne.symm ne65) (ninS (Ne.symm ne66) (ninS ne251 (ninS ne257 (ninS ne263 (ninS ne269 (ninS ne275 (ninS ne281 (ninS ne287 nin0)))))))))
                                  have F299 := F209.keep K295
                                  have F300 := F210.keep K295 (ninS (Ne.symm ne191) (ninS (Ne.symm ne192) (ninS ne252 (ninS ne258 (ninS ne264 (ninS ne270 (ninS ne276 (ninS ne282 (ninS ne288 nin0)))))))))
                                  have F301 := F211.keep K295 (ninS (Ne.symm ne191) (ninS (Ne.symm ne192) (ninS ne252 (ninS ne258 (ninS ne264 (ninS ne270 (ninS ne276 (ninS ne282 (ninS ne288 nin0)))))))))
                                  have F302 := F212.keep K295 (ninS (Ne.symm ne191) (ninS (Ne.symm ne192) (ninS ne252 (ninS ne258 (ninS ne264 (ninS ne270 (ninS ne276 (ninS ne282 (ninS ne288 nin0)))))))))
                                  have F303 := F213.keep K295 (ninS (Ne.symm ne191) (ninS (Ne.symm ne192) (ninS ne252 (ninS ne258 (ninS ne264 (ninS ne270 (ninS ne276 (ninS ne282 (ninS ne288 nin0)))))))))
                                  have F304 := F214.keep K295 (ninS (Ne.symm ne191) (ninS (Ne.symm ne192) (ninS ne252 (ninS ne258 (ninS ne264 (ninS ne270 (ninS ne276 (ninS ne282 (ninS ne288 nin0)))))))))
                                  have F305 := F215.keep K295 (ninS (Ne.symm ne191) (ninS (Ne.symm ne192) (ninS ne252 (ninS ne258 (ninS ne264 (ninS ne270 (ninS ne276 (ninS ne282 (ninS ne288 nin0)))))))))
                                  have F306 := F216.keep K295 (ninS (Ne.symm ne191) (ninS (Ne.symm ne192) (ninS ne252 (ninS ne258 (ninS ne264 (ninS ne270 (ninS ne276 (ninS ne282 (ninS ne288 nin0)))))))))
                                  have F307 := F217.keep K295 (ninS (Ne.symm ne191) (ninS (Ne.symm ne192) (ninS ne252 (ninS ne258 (ninS ne264 (ninS ne270 (ninS ne276 (ninS ne282 (ninS ne288 nin0)))))))))
                                  have F308 := F218.keep K295 (ninS (Ne.symm ne191) (ninS (Ne.symm ne192) (ninS ne252 (ninS ne258 (ninS ne264 (ninS ne270 (ninS ne276 (ninS ne282 (ninS ne288 nin0)))))))))
                                  have K309 := K293.trans K295 (allS (Or.inr s4) (allS (Or.inr s9) (allS (Or.inr s248) (allS (Or.inr s254) (allS (Or.inr s260) (allS (Or.inr s266) (allS (Or.inr s272) (allS (Or.inr s278) (allS (Or.inr s284) all0)))))))))
                                  have Z310 := Nat.le_trans Z294 K295.1
                                  have F311 : IA Z h295 b61 .boolean [(.int (f0_c581_b610 p1 p2 p3 p4)), (.int (f0_c581_b611 p1 p2 p3 p4)), (.int (f0_c581_b612 p1 p2 p3 p4)), (.int (f0_c581_b613 p1 p2 p3 p4))] := F296
                                  have F312 : IA Z h295 b66 .boolean [(.int (f0_c581_b660 p1 p2 p3 p4)), (.int (f0_c581_b661 p1 p2 p3 p4)), (.int (f0_c581_b662 p1 p2 p3 p4)), (.int (f0_c581_b663 p1 p2 p3 p4))] := F297
                                  show Rt _ _ _ _ _ _ _ (T295.setTop (mkF m 584 #[.val (.int p1), .val (.int p2), .val (.int p3), .val (.int p4), .val (.int (f0_v4 p1)), .val (.int (f0_v10 p1)), .val (.int (f0_v18 p1)), .val (.int (f0_v27 p1)), .val (.int (f0_v36 p1)), .val (.int (f0_v46 p2)), .val (.int (f0_v52 p3)), .val (.int (f0_v58 p4)), .val (.ref b61), .val (.ref b66), .val (.int (f0_v234 p1)), .val (.int (f0_v280 p1)), .val (.ref b283), .val (.ref b559), .unset, .unset, .unset, .unset] [(.int (f8 (f0_v46 p2) (f0_v58 p4) (f0_v52 p3) (f0_w84 p1) (f0_w113 p1) (f0_w142 p1) (f0_w171 p1) (f0_w98 p1) (f0_w127 p1) (f0_w156 p1) (f0_w185 p1)))]))
                                  refine Rt.istore (pc' := 586) (v := (f0_v584 p1 p2 p3 p4)) (l' := #[.val (.int p1), .val (.int p2), .val (.int p3), .val (.int p4), .val (.int (f0_v4 p1)), .val (.int (f0_v10 p1)), .val (.int (f0_v18 p1)), .val (.int (f0_v27 p1)), .val (.int (f0_v36 p1)), .val (.int (f0_v46 p2)), .val (.int (f0_v52 p3)), .val (.int (f0_v58 p4)), .val (.ref b61), .val (.ref b66), .val (.int (f0_v234 p1)), .val (.int (f0_v280 p1)), .val (.ref b283), .val (.ref b559), .val (.int (f0_v584 p1 p2 p3 p4)), .unset, .unset, .unset]) X295 hx (hb hby at_584) rfl rfl ?_
                                  refine Rt.aload (pc' := 588) X295 hx (hb hby at_586) rfl rfl rfl ?_
                                  refine Rt.iconst (pc' := 589) (v := (0 : Int32)) X295 hx (hb hby at_588) rfl rfl ?_
                                  refine Rt.iaload (pc' := 590) X295 hx hZ F298 (i := 0) (by decide) (by decide) (v := (.int (f0_c556_b2830 p1 p2 p3 p4))) rfl (hb hby at_589) rfl ?_
                                  refine Rt.istore (pc' := 592) (v := (f0_c556_b2830 p1 p2 p3 p4)) (l' := #[.val (.int p1), .val (.int p2), .val (.int p3), .val (.int p4), .val (.int (f0_v4 p1)), .val (.int (f0_v10 p1)), .val (.int (f0_v18 p1)), .val (.int (f0_v27 p1)), .val (.int (f0_v36 p1)), .val (.int (f0_v46 p2)), .val (.int (f0_v52 p3)), .val (.int (f0_v58 p4)), .val (.ref b61), .val (.ref b66), .val (.int (f0_v234 p1)), .val (.int (f0_v280 p1)), .val (.ref b283), .val (.ref b559), .val (.int (f0_v584 p1 p2 p3 p4)), .val (.int (f0_c556_b2830 p1 p2 p3 p4)), .unset, .unset]) X295 hx (hb hby at_590) rfl rfl ?_
                                  refine Rt.iload (pc' := 594) X295 hx (hb hby at_592) rfl rfl ?_
                                  refine Rt.iload (pc' := 596) X295 hx (hb hby at_594) rfl rfl ?_
                                  by_cases hc596_313 : (f0_v584 p1 p2 p3 p4) = (f0_c556_b2830 p1 p2 p3 p4)
                                  · refine Rt.icmpY (pc' := 601) X295 hx (hb hby at_596) (teq hc596_313).1 (by decide) (by decide) ?_
                                    refine Rt.iload (pc' := 603) X295 hx (hb hby at_601) rfl rfl ?_
                                    refine Rt.iload (pc' := 605) X295 hx (hb hby at_603) rfl rfl ?_
                                    have J605_314 : ∀ T314  , Sd p l e room_1 s m #[(.int p1), (.int p2), (.int p3), (.int p4)] below meth c T314 n0 37 134 h295 → Rt p e below s room_1.cells room_1.slots (Q0 Z p1 p2 p3 p4 h0 n0) (T314.setTop (mkF m 617 #[.val (.int p1), .val (.int p2), .val (.int p3), .val (.int p4), .val (.int (f0_v4 p1)), .val (.int (f0_v10 p1)), .val (.int (f0_v18 p1)), .val (.int (f0_v27 p1)), .val (.int (f0_v36 p1)), .val (.int (f0_v46 p2)), .val (.int (f0_v52 p3)), .val (.int (f0_v58 p4)), .val (.ref b61), .val (.ref b66), .val (.int (f0_v234 p1)), .val (.int (f0_v280 p1)), .val (.ref b283), .val (.ref b559), .val (.int (f0_v584 p1 p2 p3 p4)), .val (.int (f0_c556_b2830 p1 p2 p3 p4)), .unset, .unset] [(.int (f0_j617_s0 p1 p2 p3 p4))])) := by
                                      intro T314   X314 
                                      refine Rt.istore (pc' := 619) (v := (f0_j617_s0 p1 p2 p3 p4)) (l' := #[.val (.int p1), .val (.int p2), .val (.int p3), .val (.int p4), .val (.int (f0_v4 p1)), .val (.int (f0_v10 p1)), .val (.int (f0_v18 p1)), .val (.int (f0_v27 p1)), .val (.int (f0_v36 p1)), .val (.int (f0_v46 p2)), .val (.int (f0_v52 p3)), .val (.int (f0_v58 p4)), .val (.ref b61), .val (.ref b66), .val (.int (f0_v234 p1)), .val (.int (f0_v280 p1)), .val (.ref b283), .val (.ref b559), .val (.int (f0_v584 p1 p2 p3 p4)), .val (.int (f0_c556_b2830 p1 p2 p3 p4)), .val (.int (f0_j617_s0 p1 p2 p3 p4)), .unset]) X314 hx (hb hby at_617) rfl rfl ?_
                                      refine Rt.iload (pc' := 621) X314 hx (hb hby at_619) rfl rfl ?_
                                      refine Rt.iload (pc' := 623) X314 hx (hb hby at_621) rfl rfl ?_
                                      have J623_315 : ∀ T315  , Sd p l e room_1 s m #[(.int p1), (.int p2), (.int p3), (.int p4)] below meth c T315 n0 37 134 h295 → Rt p e below s room_1.cells room_1.slots (Q0 Z p1 p2 p3 p4 h0 n0) (T315.setTop (mkF m 635 #[.val (.int p1), .val (.int p2), .val (.int p3), .val (.int p4), .val (.int (f0_v4 p1)), .val (.int (f0_v10 p1)), .val (.int (f0_v18 p1)), .val (.int (f0_v27 p1)), .val (.int (f0_v36 p1)), .val (.int (f0_v46 p2)), .val (.int (f0_v52 p3)), .val (.int (f0_v58 p4)), .val (.ref b61), .val (.ref b66), .val (.int (f0_v234 p1)), .val (.int (f0_v280 p1)), .val (.ref b283), .val (.ref b559), .val (.int (f0_v584 p1 p2 p3 p4)), .val (.int (f0_c556_b2830 p1 p2 p3 p4)), .val (.int (f0_j617_s0 p1 p2 p3 p4)), .unset] [(.int (f0_j635_s0 p1 p2 p3 p4))])) := by
                                        intro T315   X315 
                                        refine Rt.istore (pc' := 637) (v := (f0_j635_s0 p1 p2 p3 p4)) (l' := #[.val (.int p1), .val (.int p2), .val (.int p3), .val (.int p4), .val (.int (f0_v4 p1)), .val (.int (f0_v10 p1)), .val (.int (f0_v18 p1)), .val (.int (f0_v27 p1)), .val (.int (f0_v36 p1)), .val (.int (f0_v46 p2)), .val (.int (f0_v52 p3)), .val (.int (f0_v58 p4)), .val (.ref b61), .val (.ref b66), .val (.int (f0_v234 p1)), .val (.int (f0_v280 p1)), .val (.ref b283), .val (.ref b559), .val (.int (f0_v584 p1 p2 p3 p4)), .val (.int (f0_c556_b2830 p1 p2 p3 p4)), .val (.int (f0_j617_s0 p1 p2 p3 p4)), .val (.int (f0_j635_s0 p1 p2 p3 p4))]) X315 hx (hb hby at_635) rfl rfl ?_
                                        refine Rt.aload (pc' := 639) X315 hx (hb hby at_637) rfl rfl rfl ?_
                                        refine Rt.iload (pc' := 641) X315 hx (hb hby at_639) rfl rfl ?_
                                        refine Rt.callP (pc' := 644) (r := (.int (f16 (f0_j617_s0 p1 p2 p3 p4) (f0_c581_b610 p1 p2 p3 p4) (f0_c581_b611 p1 p2 p3 p4) (f0_c581_b612 p1 p2 p3 p4) (f0_c581_b613 p1 p2 p3 p4)))) X315 hx hZ (y := mt17) hown (own_g hw 119 rfl) (own_g hw 120 rfl) (own_g hw 9 rfl) (own_g hw 121 rfl) (by decide) (rm16 l Z a0 hw [] b61 (f0_j617_s0 p1 p2 p3 p4) (f0_c581_b610 p1 p2 p3 p4) (f0_c581_b611 p1 p2 p3 p4) (f0_c581_b612 p1 p2 p3 p4) (f0_c581_b613 p1 p2 p3 p4) h295 n0 F311) (W := 0) (by decide) (by decide) (by decide) (by decide) rfl rfl (argsL := [(.ref b61), (.int (f0_j617_s0 p1 p2 p3 p4))]) (rest := []) (by rw [hml]; rfl) (lenOf pd_14 rfl) rfl rfl (Nat.le_of_eq rfl) (hb hby at_641) rfl ?_
                                        intro T316 X316
                                        by_cases hc644_317 : (f16 (f0_j617_s0 p1 p2 p3 p4) (f0_c581_b610 p1 p2 p3 p4) (f0_c581_b611 p1 p2 p3 p4) (f0_c581_b612 p1 p2 p3 p4) (f0_c581_b613 p1 p2 p3 p4)) = (0 : Int32)
                                        · refine Rt.ifY (pc' := 661) X316 hx (hb hby at_644) ((if0 _ _).trans (teq hc644_317).1) (by decide) (by decide) ?_
                                          refine Rt.iconst (pc' := 662) (v := (0 : Int32)) X316 hx (hb hby at_661) rfl rfl ?_
                                          exact Rt.retZ (w := (0 : Int32)) X316 hx hlk hret (by simp) (hb hby at_662) (by decide) (by decide) (by decide) (fun L N => ⟨congrArg some (congrArg Value.int (by rw [f0, if_pos hc596_313, if_pos hc644_317])), N, K309⟩)
                                        · refine Rt.ifN (pc' := 647) X316 hx (hb hby at_644) ((if0 _ _).trans (feq hc644_317).1) rfl ?_
                                          refine Rt.aload (pc' := 649) X316 hx (hb hby at_647) rfl rfl rfl ?_
                                          refine Rt.iload (pc' := 651) X316 hx (hb hby at_649) rfl rfl ?_
                                          refine Rt.callP (pc' := 654) (r := (.int (f16 (f0_j635_s0 p1 p2 p3 p4) (f0_c581_b660 p1 p2 p3 p4) (f0_c581_b661 p1 p2 p3 p4) (f0_c581_b662 p1 p2 p3 p4) (f0_c581_b663 p1 p2 p3 p4)))) X316 hx hZ (y := mt17) hown (own_g hw 119 rfl) (own_g hw 120 rfl) (own_g hw 9 rfl) (own_g hw 121 rfl) (by decide) (rm16 l Z a0 hw [] b66 (f0_j635_s0 p1 p2 p3 p4) (f0_c581_b660 p1 p2 p3 p4) (f0_c581_b661 p1 p2 p3 p4) (f0_c581_b662 p1 p2 p3 p4) (f0_c581_b663 p1 p2 p3 p4) h295 n0 F312) (W := 0) (by decide) (by decide) (by decide) (by decide) rfl rfl (argsL := [(.ref b66), (.int (f0_j635_s0 p1 p2 p3 p4))]) (rest := []) (by rw [hml]; rfl) (lenOf pd_14 rfl) rfl rfl (Nat.le_of_eq rfl) (hb hby at_651) rfl ?_
                                          intro T318 X318
                                          by_cases hc654_319 : (f16 (f0_j635_s0 p1 p2 p3 p4) (f0_c581_b660 p1 p2 p3 p4) (f0_c581_b661 p1 p2 p3 p4) (f0_c581_b662 p1 p2 p3 p4) (f0_c581_b663 p1 p2 p3 p4)) = (0 : Int32)
                                          · refine Rt.ifY (pc' := 661) X318 hx (hb hby at_654) ((if0 _ _).trans (teq hc654_319).1) (by decide) (by decide) ?_
                                            refine Rt.iconst (pc' := 662) (v := (0 : Int32)) X318 hx (hb hby at_661) rfl rfl ?_
                                            exact Rt.retZ (w := (0 : Int32)) X318 hx hlk hret (by simp) (hb hby at_662) (by decide) (by decide) (by decide) (fun L N => ⟨congrArg some (congrArg Value.int (by rw [f0, if_pos hc596_313, if_neg hc644_317, if_pos hc654_319])), N, K309⟩)
                                          · refine Rt.ifN (pc' := 657) X318 hx (hb hby at_654) ((if0 _ _).trans (feq hc654_319).1) rfl ?_
                                            refine Rt.iconst (pc' := 658) (v := (1 : Int32)) X318 hx (hb hby at_657) rfl rfl ?_
                                            refine Rt.goto (pc' := 662) X318 hx (hb hby at_658) (by decide) (by decide) ?_
                                            exact Rt.retZ (w := (1 : Int32)) X318 hx hlk hret (by simp) (hb hby at_662) (by decide) (by decide) (by decide) (fun L N => ⟨congrArg some (congrArg Value.int (by rw [f0, if_pos hc596_313, if_neg hc644_317, if_neg hc654_319])), N, K309⟩)
                                      by_cases hc623_320 : (f0_v58 p4) < (f0_c556_b2830 p1 p2 p3 p4)
                                      · refine Rt.icmpN (pc' := 626) X314 hx (hb hby at_623) (tlt hc623_320).2.2.2 rfl ?_
                                        refine Rt.iload (pc' := 628) X314 hx (hb hby at_626) rfl rfl ?_
                                        refine Rt.goto (pc' := 635) X314 hx (hb hby at_628) (by decide) (by decide) ?_
                                        have q := J623_315 T314   X314
                                        rw [show (f0_j635_s0 p1 p2 p3 p4) = (f0_v280 p1) from by rw [f0_j635_s0, if_pos hc623_320]] at q
                                        exact q
                                      · refine Rt.icmpY (pc' := 631) X314 hx (hb hby at_623) (flt hc623_320).2.2.2 (by decide) (by decide) ?_
                                        refine Rt.aload (pc' := 633) X314 hx (hb hby at_631) rfl rfl rfl ?_
                                        refine Rt.iconst (pc' := 634) (v := (2 : Int32)) X314 hx (hb hby at_633) rfl rfl ?_
                                        refine Rt.iaload (pc' := 635) X314 hx hZ F298 (i := 2) (by decide) (by decide) (v := (.int (f0_c556_b2832 p1 p2 p3 p4))) rfl (hb hby at_634) rfl ?_
                                        have q := J623_315 T314   X314
                                        rw [show (f0_j635_s0 p1 p2 p3 p4) = (f0_c556_b2832 p1 p2 p3 p4) from by rw [f0_j635_s0, if_neg hc623_320]] at q
                                        exact q
                                    by_cases hc605_321 : (f0_v58 p4) < (f0_c556_b2830 p1 p2 p3 p4)
                                    · refine Rt.icmpN (pc' := 608) X295 hx (hb hby at_605) (tlt hc605_321).2.2.2 rfl ?_
                                      refine Rt.iload (pc' := 610) X295 hx (hb hby at_608) rfl rfl ?_
                                      refine Rt.goto (pc' := 617) X295 hx (hb hby at_610) (by decide) (by decide) ?_
                                      have q := J605_314 T295   X295
                                      rw [show (f0_j617_s0 p1 p2 p3 p4) = (f0_v234 p1) from by rw [f0_j617_s0, if_pos hc605_321]] at q
                                      exact q
                                    · refine Rt.icmpY (pc' := 613) X295 hx (hb hby at_605) (flt hc605_321).2.2.2 (by decide) (by decide) ?_
                                      refine Rt.aload (pc' := 615) X295 hx (hb hby at_613) rfl rfl rfl ?_
                                      refine Rt.iconst (pc' := 616) (v := (1 : Int32)) X295 hx (hb hby at_615) rfl rfl ?_
                                      refine Rt.iaload (pc' := 617) X295 hx hZ F298 (i := 1) (by decide) (by decide) (v := (.int (f0_c556_b2831 p1 p2 p3 p4))) rfl (hb hby at_616) rfl ?_
                                      have q := J605_314 T295   X295
                                      rw [show (f0_j617_s0 p1 p2 p3 p4) = (f0_c556_b2831 p1 p2 p3 p4) from by rw [f0_j617_s0, if_neg hc605_321]] at q
                                      exact q
                                  · refine Rt.icmpN (pc' := 599) X295 hx (hb hby at_596) (feq hc596_313).1 rfl ?_
                                    refine Rt.iconst (pc' := 600) (v := (0 : Int32)) X295 hx (hb hby at_599) rfl rfl ?_
                                    exact Rt.retZ (w := (0 : Int32)) X295 hx hlk hret (by simp) (hb hby at_600) (by decide) (by decide) (by decide) (fun L N => ⟨congrArg some (congrArg Value.int (by rw [f0, if_neg hc596_313])), N, K309⟩)
                                by_cases hc270_322 : (f0_v36 p1) = (0 : Int32)
                                · refine Rt.ifY (pc' := 278) X60 hx (hb hby at_270) ((if0 _ _).trans (teq hc270_322).1) (by decide) (by decide) ?_
                                  refine Rt.iconst (pc' := 279) (v := (0 : Int32)) X60 hx (hb hby at_278) rfl rfl ?_
                                  have q := J270_61 T60   X60
                                  rw [show (f0_j279_s0 p1) = (0 : Int32) from by rw [f0_j279_s0, if_pos hc270_322]] at q
                                  exact q
                                · refine Rt.ifN (pc' := 273) X60 hx (hb hby at_270) ((if0 _ _).trans (feq hc270_322).1) rfl ?_
                                  refine Rt.bipush (pc' := 275) (v := (8 : Int32)) X60 hx (hb hby at_273) rfl rfl ?_
                                  refine Rt.goto (pc' := 279) X60 hx (hb hby at_275) (by decide) (by decide) ?_
                                  have q := J270_61 T60   X60
                                  rw [show (f0_j279_s0 p1) = (8 : Int32) from by rw [f0_j279_s0, if_neg hc270_322]] at q
                                  exact q
                              by_cases hc259_323 : (f0_v27 p1) = (0 : Int32)
                              · refine Rt.ifY (pc' := 266) X59 hx (hb hby at_259) ((if0 _ _).trans (teq hc259_323).1) (by decide) (by decide) ?_
                                refine Rt.iconst (pc' := 267) (v := (0 : Int32)) X59 hx (hb hby at_266) rfl rfl ?_
                                have q := J259_60 T59   X59
                                rw [show (f0_j267_s0 p1) = (0 : Int32) from by rw [f0_j267_s0, if_pos hc259_323]] at q
                                exact q
                              · refine Rt.ifN (pc' := 262) X59 hx (hb hby at_259) ((if0 _ _).trans (feq hc259_323).1) rfl ?_
                                refine Rt.iconst (pc' := 263) (v := (4 : Int32)) X59 hx (hb hby at_262) rfl rfl ?_
                                refine Rt.goto (pc' := 267) X59 hx (hb hby at_263) (by decide) (by decide) ?_
                                have q := J259_60 T59   X59
                                rw [show (f0_j267_s0 p1) = (4 : Int32) from by rw [f0_j267_s0, if_neg hc259_323]] at q
                                exact q
                            by_cases hc248_324 : (f0_v18 p1) = (0 : Int32)
                            · refine Rt.ifY (pc' := 255) X58 hx (hb hby at_248) ((if0 _ _).trans (teq hc248_324).1) (by decide) (by decide) ?_
                              refine Rt.iconst (pc' := 256) (v := (0 : Int32)) X58 hx (hb hby at_255) rfl rfl ?_
                              have q := J248_59 T58   X58
                              rw [show (f0_j256_s0 p1) = (0 : Int32) from by rw [f0_j256_s0, if_pos hc248_324]] at q
                              exact q
                            · refine Rt.ifN (pc' := 251) X58 hx (hb hby at_248) ((if0 _ _).trans (feq hc248_324).1) rfl ?_
                              refine Rt.iconst (pc' := 252) (v := (2 : Int32)) X58 hx (hb hby at_251) rfl rfl ?_
                              refine Rt.goto (pc' := 256) X58 hx (hb hby at_252) (by decide) (by decide) ?_
                              have q := J248_59 T58   X58
                              rw [show (f0_j256_s0 p1) = (2 : Int32) from by rw [f0_j256_s0, if_neg hc248_324]] at q
                              exact q
                          by_cases hc238_325 : (f0_v10 p1) = (0 : Int32)
                          · refine Rt.ifY (pc' := 245) X57 hx (hb hby at_238) ((if0 _ _).trans (teq hc238_325).1) (by decide) (by decide) ?_
                            refine Rt.iconst (pc' := 246) (v := (0 : Int32)) X57 hx (hb hby at_245) rfl rfl ?_
                            have q := J238_58 T57   X57
                            rw [show (f0_j246_s0 p1) = (0 : Int32) from by rw [f0_j246_s0, if_pos hc238_325]] at q
                            exact q
                          · refine Rt.ifN (pc' := 241) X57 hx (hb hby at_238) ((if0 _ _).trans (feq hc238_325).1) rfl ?_
                            refine Rt.iconst (pc' := 242) (v := (1 : Int32)) X57 hx (hb hby at_241) rfl rfl ?_
                            refine Rt.goto (pc' := 246) X57 hx (hb hby at_242) (by decide) (by decide) ?_
                            have q := J238_58 T57   X57
                            rw [show (f0_j246_s0 p1) = (1 : Int32) from by rw [f0_j246_s0, if_neg hc238_325]] at q
                            exact q
                        by_cases hc224_326 : (f0_v36 p1) = (1 : Int32)
                        · refine Rt.icmpY (pc' := 232) X56 hx (hb hby at_224) (teq hc224_326).1 (by decide) (by decide) ?_
                          refine Rt.iconst (pc' := 233) (v := (0 : Int32)) X56 hx (hb hby at_232) rfl rfl ?_
                          have q := J224_57 T56   X56
                          rw [show (f0_j233_s0 p1) = (0 : Int32) from by rw [f0_j233_s0, if_pos hc224_326]] at q
                          exact q
                        · refine Rt.icmpN (pc' := 227) X56 hx (hb hby at_224) (feq hc224_326).1 rfl ?_
                          refine Rt.bipush (pc' := 229) (v := (8 : Int32)) X56 hx (hb hby at_227) rfl rfl ?_
                          refine Rt.goto (pc' := 233) X56 hx (hb hby at_229) (by decide) (by decide) ?_
                          have q := J224_57 T56   X56
                          rw [show (f0_j233_s0 p1) = (8 : Int32) from by rw [f0_j233_s0, if_neg hc224_326]] at q
                          exact q
                      by_cases hc212_327 : (f0_v27 p1) = (1 : Int32)
                      · refine Rt.icmpY (pc' := 219) X55 hx (hb hby at_212) (teq hc212_327).1 (by decide) (by decide) ?_
                        refine Rt.iconst (pc' := 220) (v := (0 : Int32)) X55 hx (hb hby at_219) rfl rfl ?_
                        have q := J212_56 T55   X55
                        rw [show (f0_j220_s0 p1) = (0 : Int32) from by rw [f0_j220_s0, if_pos hc212_327]] at q
                        exact q
                      · refine Rt.icmpN (pc' := 215) X55 hx (hb hby at_212) (feq hc212_327).1 rfl ?_
                        refine Rt.iconst (pc' := 216) (v := (4 : Int32)) X55 hx (hb hby at_215) rfl rfl ?_
                        refine Rt.goto (pc' := 220) X55 hx (hb hby at_216) (by decide) (by decide) ?_
                        have q := J212_56 T55   X55
                        rw [show (f0_j220_s0 p1) = (4 : Int32) from by rw [f0_j220_s0, if_neg hc212_327]] at q
                        exact q
                    by_cases hc200_328 : (f0_v18 p1) = (1 : Int32)
                    · refine Rt.icmpY (pc' := 207) X54 hx (hb hby at_200) (teq hc200_328).1 (by decide) (by decide) ?_
                      refine Rt.iconst (pc' := 208) (v := (0 : Int32)) X54 hx (hb hby at_207) rfl rfl ?_
                      have q := J200_55 T54   X54
                      rw [show (f0_j208_s0 p1) = (0 : Int32) from by rw [f0_j208_s0, if_pos hc200_328]] at q
                      exact q
                    · refine Rt.icmpN (pc' := 203) X54 hx (hb hby at_200) (feq hc200_328).1 rfl ?_
                      refine Rt.iconst (pc' := 204) (v := (2 : Int32)) X54 hx (hb hby at_203) rfl rfl ?_
                      refine Rt.goto (pc' := 208) X54 hx (hb hby at_204) (by decide) (by decide) ?_
                      have q := J200_55 T54   X54
                      rw [show (f0_j208_s0 p1) = (2 : Int32) from by rw [f0_j208_s0, if_neg hc200_328]] at q
                      exact q
                  by_cases hc189_329 : (f0_v10 p1) = (1 : Int32)
                  · refine Rt.icmpY (pc' := 196) X50 hx (hb hby at_189) (teq hc189_329).1 (by decide) (by decide) ?_
                    refine Rt.iconst (pc' := 197) (v := (0 : Int32)) X50 hx (hb hby at_196) rfl rfl ?_
                    have q := J189_54 T50   X50
                    rw [show (f0_j197_s0 p1) = (0 : Int32) from by rw [f0_j197_s0, if_pos hc189_329]] at q
                    exact q
                  · refine Rt.icmpN (pc' := 192) X50 hx (hb hby at_189) (feq hc189_329).1 rfl ?_
                    refine Rt.iconst (pc' := 193) (v := (1 : Int32)) X50 hx (hb hby at_192) rfl rfl ?_
                    refine Rt.goto (pc' := 197) X50 hx (hb hby at_193) (by decide) (by decide) ?_
                    have q := J189_54 T50   X50
                    rw [show (f0_j197_s0 p1) = (1 : Int32) from by rw [f0_j197_s0, if_neg hc189_329]] at q
                    exact q
                by_cases hc177_330 : (f0_v36 p1) = (0 : Int32)
                · refine Rt.ifY (pc' := 184) X45 hx (hb hby at_177) ((if0 _ _).trans (teq hc177_330).1) (by decide) (by decide) ?_
                  refine Rt.iconst (pc' := 185) (v := (0 : Int32)) X45 hx (hb hby at_184) rfl rfl ?_
                  have q := J177_49 T45   X45
                  rw [show (f0_j185_s0 p1) = (0 : Int32) from by rw [f0_j185_s0, if_pos hc177_330]] at q
                  exact q
                · refine Rt.ifN (pc' := 180) X45 hx (hb hby at_177) ((if0 _ _).trans (feq hc177_330).1) rfl ?_
                  refine Rt.iconst (pc' := 181) (v := (1 : Int32)) X45 hx (hb hby at_180) rfl rfl ?_
                  refine Rt.goto (pc' := 185) X45 hx (hb hby at_181) (by decide) (by decide) ?_
                  have q := J177_49 T45   X45
                  rw [show (f0_j185_s0 p1) = (1 : Int32) from by rw [f0_j185_s0, if_neg hc177_330]] at q
                  exact q
              by_cases hc163_331 : (f0_v36 p1) = (1 : Int32)
              · refine Rt.icmpY (pc' := 170) X40 hx (hb hby at_163) (teq hc163_331).1 (by decide) (by decide) ?_
                refine Rt.iconst (pc' := 171) (v := (0 : Int32)) X40 hx (hb hby at_170) rfl rfl ?_
                have q := J163_44 T40   X40
                rw [show (f0_j171_s0 p1) = (0 : Int32) from by rw [f0_j171_s0, if_pos hc163_331]] at q
                exact q
              · refine Rt.icmpN (pc' := 166) X40 hx (hb hby at_163) (feq hc163_331).1 rfl ?_
                refine Rt.iconst (pc' := 167) (v := (1 : Int32)) X40 hx (hb hby at_166) rfl rfl ?_
                refine Rt.goto (pc' := 171) X40 hx (hb hby at_167) (by decide) (by decide) ?_
                have q := J163_44 T40   X40
                rw [show (f0_j171_s0 p1) = (1 : Int32) from by rw [f0_j171_s0, if_neg hc163_331]] at q
                exact q
            by_cases hc148_332 : (f0_v27 p1) = (0 : Int32)
            · refine Rt.ifY (pc' := 155) X35 hx (hb hby at_148) ((if0 _ _).trans (teq hc148_332).1) (by decide) (by decide) ?_
              refine Rt.iconst (pc' := 156) (v := (0 : Int32)) X35 hx (hb hby at_155) rfl rfl ?_
              have q := J148_39 T35   X35
              rw [show (f0_j156_s0 p1) = (0 : Int32) from by rw [f0_j156_s0, if_pos hc148_332]] at q
              exact q
            · refine Rt.ifN (pc' := 151) X35 hx (hb hby at_148) ((if0 _ _).trans (feq hc148_332).1) rfl ?_
              refine Rt.iconst (pc' := 152) (v := (1 : Int32)) X35 hx (hb hby at_151) rfl rfl ?_
              refine Rt.goto (pc' := 156) X35 hx (hb hby at_152) (by decide) (by decide) ?_
              have q := J148_39 T35   X35
              rw [show (f0_j156_s0 p1) = (1 : Int32) from by rw [f0_j156_s0, if_neg hc148_332]] at q
              exact q
          by_cases hc134_333 : (f0_v27 p1) = (1 : Int32)
          · refine Rt.icmpY (pc' := 141) X30 hx (hb hby at_134) (teq hc134_333).1 (by decide) (by decide) ?_
            refine Rt.iconst (pc' := 142) (v := (0 : Int32)) X30 hx (hb hby at_141) rfl rfl ?_
            have q := J134_34 T30   X30
            rw [show (f0_j142_s0 p1) = (0 : Int32) from by rw [f0_j142_s0, if_pos hc134_333]] at q
            exact q
          · refine Rt.icmpN (pc' := 137) X30 hx (hb hby at_134) (feq hc134_333).1 rfl ?_
            refine Rt.iconst (pc' := 138) (v := (1 : Int32)) X30 hx (hb hby at_137) rfl rfl ?_
            refine Rt.goto (pc' := 142) X30 hx (hb hby at_138) (by decide) (by decide) ?_
            have q := J134_34 T30   X30
            rw [show (f0_j142_s0 p1) = (1 : Int32) from by rw [f0_j142_s0, if_neg hc134_333]] at q
            exact q
        by_cases hc119_334 : (f0_v18 p1) = (0 : Int32)
        · refine Rt.ifY (pc' := 126) X25 hx (hb hby at_119) ((if0 _ _).trans (teq hc119_334).1) (by decide) (by decide) ?_
          refine Rt.iconst (pc' := 127) (v := (0 : Int32)) X25 hx (hb hby at_126) rfl rfl ?_
          have q := J119_29 T25   X25
          rw [show (f0_j127_s0 p1) = (0 : Int32) from by rw [f0_j127_s0, if_pos hc119_334]] at q
          exact q
        · refine Rt.ifN (pc' := 122) X25 hx (hb hby at_119) ((if0 _ _).trans (feq hc119_334).1) rfl ?_
          refine Rt.iconst (pc' := 123) (v := (1 : Int32)) X25 hx (hb hby at_122) rfl rfl ?_
          refine Rt.goto (pc' := 127) X25 hx (hb hby at_123) (by decide) (by decide) ?_
          have q := J119_29 T25   X25
          rw [show (f0_j127_s0 p1) = (1 : Int32) from by rw [f0_j127_s0, if_neg hc119_334]] at q
          exact q
      by_cases hc105_335 : (f0_v18 p1) = (1 : Int32)
      · refine Rt.icmpY (pc' := 112) X20 hx (hb hby at_105) (teq hc105_335).1 (by decide) (by decide) ?_
        refine Rt.iconst (pc' := 113) (v := (0 : Int32)) X20 hx (hb hby at_112) rfl rfl ?_
        have q := J105_24 T20   X20
        rw [show (f0_j113_s0 p1) = (0 : Int32) from by rw [f0_j113_s0, if_pos hc105_335]] at q
        exact q
      · refine Rt.icmpN (pc' := 108) X20 hx (hb hby at_105) (feq hc105_335).1 rfl ?_
        refine Rt.iconst (pc' := 109) (v := (1 : Int32)) X20 hx (hb hby at_108) rfl rfl ?_
        refine Rt.goto (pc' := 113) X20 hx (hb hby at_109) (by decide) (by decide) ?_
        have q := J105_24 T20   X20
        rw [show (f0_j113_s0 p1) = (1 : Int32) from by rw [f0_j113_s0, if_neg hc105_335]] at q
        exact q
    by_cases hc90_336 : (f0_v10 p1) = (0 : Int32)
    · refine Rt.ifY (pc' := 97) X15 hx (hb hby at_90) ((if0 _ _).trans (teq hc90_336).1) (by decide) (by decide) ?_
      refine Rt.iconst (pc' := 98) (v := (0 : Int32)) X15 hx (hb hby at_97) rfl rfl ?_
      have q := J90_19 T15   X15
      rw [show (f0_j98_s0 p1) = (0 : Int32) from by rw [f0_j98_s0, if_pos hc90_336]] at q
      exact q
    · refine Rt.ifN (pc' := 93) X15 hx (hb hby at_90) ((if0 _ _).trans (feq hc90_336).1) rfl ?_
      refine Rt.iconst (pc' := 94) (v := (1 : Int32)) X15 hx (hb hby at_93) rfl rfl ?_
      refine Rt.goto (pc' := 98) X15 hx (hb hby at_94) (by decide) (by decide) ?_
      have q := J90_19 T15   X15
      rw [show (f0_j98_s0 p1) = (1 : Int32) from by rw [f0_j98_s0, if_neg hc90_336]] at q
      exact q
  by_cases hc76_337 : (f0_v10 p1) = (1 : Int32)
  · refine Rt.icmpY (pc' := 83) X7 hx (hb hby at_76) (teq hc76_337).1 (by decide) (by decide) ?_
    refine Rt.iconst (pc' := 84) (v := (0 : Int32)) X7 hx (hb hby at_83) rfl rfl ?_
    have q := J76_14 T7   X7
    rw [show (f0_j84_s0 p1) = (0 : Int32) from by rw [f0_j84_s0, if_pos hc76_337]] at q
    exact q
  · refine Rt.icmpN (pc' := 79) X7 hx (hb hby at_76) (feq hc76_337).1 rfl ?_
    refine Rt.iconst (pc' := 80) (v := (1 : Int32)) X7 hx (hb hby at_79) rfl rfl ?_
    refine Rt.goto (pc' := 84) X7 hx (hb hby at_80) (by decide) (by decide) ?_
    have q := J76_14 T7   X7
    rw [show (f0_j84_s0 p1) = (1 : Int32) from by rw [f0_j84_s0, if_neg hc76_337]] at q
    exact q
def bd (i : Int) (x : Int32) : Prop := 0 ≤ x.toInt ∧ x.toInt ≤ i
theorem bd_mono {i j : Int} {x : Int32} (q : bd i x) (h : i ≤ j) : bd j x := ⟨q.1, Int.le_trans q.2 h⟩
theorem bd_0 {i : Int} (h : 0 ≤ i) : bd i (0 : Int32) := ⟨by decide, h⟩
theorem bd_1 {i : Int} (h : 1 ≤ i) : bd i (1 : Int32) := ⟨by decide, h⟩
theorem bd_add1 {i : Int} {x : Int32} (q : bd i x) (h : i ≤ 1000) : bd (i + 1) (x + 1) := by
  have g := c_iadd x 1
  have l : (1 : Int32).toInt = 1 := by decide
  have b1 := (x + 1).le_toInt
  have b2 := (x + 1).toInt_lt
  unfold bd at *
  omega
theorem bd_add0 {i : Int} {x : Int32} (q : bd i x) : bd i (x + 0) := by rw [Int32.add_zero]; exact q
theorem own_Ol (p2 : Int32) (p3 : Int32) (p4 : Int32) (x : Int32) (y : Int32) (z : Int32) : f17_o_F_a1_length_0 p2 p3 p4 x y z = y ∨ f17_o_F_a1_length_0 p2 p3 p4 x y z = p3 := by unfold f17_o_F_a1_length_0; split; exact Or.inl rfl; exact Or.inr rfl
theorem own_Ow (p2 : Int32) (p3 : Int32) (p4 : Int32) (x : Int32) (y : Int32) (z : Int32) : f17_o_F_a1_lows_0 p2 p3 p4 x y z = z ∨ f17_o_F_a1_lows_0 p2 p3 p4 x y z = p4 := by unfold f17_o_F_a1_lows_0; split; exact Or.inl rfl; exact Or.inr rfl
theorem own_El (p4 : Int32) (p5 : Int32) (imp : Int32) (hm : Int32) (x2 : Int32) (y2 : Int32) (z2 : Int32) (x3 : Int32) (y3 : Int32) (z3 : Int32) : f15_o_F_a2_length_0 p4 p5 imp hm x2 y2 z2 x3 y3 z3 = y2 ∨ f15_o_F_a2_length_0 p4 p5 imp hm x2 y2 z2 x3 y3 z3 = y3 + 1 := by
  unfold f15_o_F_a2_length_0; repeat' split
  all_goals first | exact Or.inl rfl | (unfold f15_c51_a2_length0; exact own_Ol ..)
theorem own_Ew (p4 : Int32) (p5 : Int32) (imp : Int32) (hm : Int32) (x2 : Int32) (y2 : Int32) (z2 : Int32) (x3 : Int32) (y3 : Int32) (z3 : Int32) : f15_o_F_a2_lows_0 p4 p5 imp hm x2 y2 z2 x3 y3 z3 = z2 ∨ f15_o_F_a2_lows_0 p4 p5 imp hm x2 y2 z2 x3 y3 z3 = z3 + p5 := by
  unfold f15_o_F_a2_lows_0; repeat' split
  all_goals first | exact Or.inl rfl | (unfold f15_c51_a2_lows0; exact own_Ow ..)
theorem own_cr {p4 p4' p5 imp hm hm' x2 y2 z2 x3 y3 z3 : Int32} (h1 : y3 < p4 ↔ y3 < p4') (h2 : hm < z3 + p5 ↔ hm' < z3 + p5) : f15_o_F_a2_runs_0 p4 p5 imp hm x2 y2 z2 x3 y3 z3 = f15_o_F_a2_runs_0 p4' p5 imp hm' x2 y2 z2 x3 y3 z3 := by unfold f15_o_F_a2_runs_0; simp only [h1, h2]
theorem own_cl {p4 p4' p5 imp hm hm' x2 y2 z2 x3 y3 z3 : Int32} (h1 : y3 < p4 ↔ y3 < p4') (h2 : hm < z3 + p5 ↔ hm' < z3 + p5) : f15_o_F_a2_length_0 p4 p5 imp hm x2 y2 z2 x3 y3 z3 = f15_o_F_a2_length_0 p4' p5 imp hm' x2 y2 z2 x3 y3 z3 := by unfold f15_o_F_a2_length_0; simp only [h1, h2]
theorem own_cw {p4 p4' p5 imp hm hm' x2 y2 z2 x3 y3 z3 : Int32} (h1 : y3 < p4 ↔ y3 < p4') (h2 : hm < z3 + p5 ↔ hm' < z3 + p5) : f15_o_F_a2_lows_0 p4 p5 imp hm x2 y2 z2 x3 y3 z3 = f15_o_F_a2_lows_0 p4' p5 imp hm' x2 y2 z2 x3 y3 z3 := by unfold f15_o_F_a2_lows_0; simp only [h1, h2]
theorem own_b3length (p2 : Int32) (p4 : Int32) (imp : Int32) (hm : Int32) (x1 : Int32) (y1 : Int32) (z1 : Int32) (x2 : Int32) (y2 : Int32) (z2 : Int32) {i : Int} (h1 : bd i y1) (h2 : bd i y2) (h0 : 0 ≤ i) (h3 : i ≤ 1000) : bd (i + 1) (f13_j64_F_r3_length_0 p2 p4 imp hm x1 y1 z1 x2 y2 z2) := by
  unfold f13_j64_F_r3_length_0
  split
  · exact bd_0 (by omega)
  · unfold f13_c61_r3_length0
    rcases own_El .. with e | e <;> rw [e]
    · unfold f13_c45_r3_length0
      rcases own_El .. with e | e <;> rw [e]
      · exact bd_0 (by omega)
      · exact bd_add1 h1 h3
    · exact bd_add1 h2 h3
theorem own_b3lows (p2 : Int32) (p4 : Int32) (imp : Int32) (hm : Int32) (x1 : Int32) (y1 : Int32) (z1 : Int32) (x2 : Int32) (y2 : Int32) (z2 : Int32) {i : Int} (h1 : bd i z1) (h2 : bd i z2) (h0 : 0 ≤ i) (h3 : i ≤ 1000) : bd (i + 1) (f13_j64_F_r3_lows_0 p2 p4 imp hm x1 y1 z1 x2 y2 z2) := by
  unfold f13_j64_F_r3_lows_0
  split
  · exact bd_0 (by omega)
  · unfold f13_c61_r3_lows0
    rcases own_Ew .. with e | e <;> rw [e]
    · unfold f13_c45_r3_lows0
      rcases own_Ew .. with e | e <;> rw [e]
      · exact bd_0 (by omega)
      · exact bd_add1 h1 h3
    · exact bd_add1 h2 h3
theorem own_b4length (p3 : Int32) (p4 : Int32) (imp : Int32) (hm : Int32) (lo : Int32) (x1 : Int32) (y1 : Int32) (z1 : Int32) (x2 : Int32) (y2 : Int32) (z2 : Int32) {i : Int} (h1 : bd i y1) (h2 : bd i y2) (h0 : 0 ≤ i) (h3 : i ≤ 1000) : bd (i + 1) (f13_j109_F_r4_length_0 p3 p4 imp hm lo x1 y1 z1 x2 y2 z2) := by
  unfold f13_j109_F_r4_length_0
  split
  · exact bd_0 (by omega)
  · unfold f13_c106_r4_length0
    rcases own_Ol .. with e | e <;> rw [e]
    · unfold f13_c93_r4_length0
      rcases own_El .. with e | e <;> rw [e]
      · unfold f13_c79_r4_length0
        rcases own_El .. with e | e <;> rw [e]
        · exact bd_0 (by omega)
        · exact bd_add1 h1 h3
      · exact bd_add1 h2 h3
    · exact bd_1 (by omega)
theorem own_b4lows (p3 : Int32) (p4 : Int32) (imp : Int32) (hm : Int32) (lo : Int32) (x1 : Int32) (y1 : Int32) (z1 : Int32) (x2 : Int32) (y2 : Int32) (z2 : Int32) {i : Int} (h1 : bd i z1) (h2 : bd i z2) (h0 : 0 ≤ i) (h3 : i ≤ 1000) : bd i (f13_j109_F_r4_lows_0 p3 p4 imp hm lo x1 y1 z1 x2 y2 z2) := by
  unfold f13_j109_F_r4_lows_0
  split
  · exact bd_0 (by omega)
  · unfold f13_c106_r4_lows0
    rcases own_Ow .. with e | e <;> rw [e]
    · unfold f13_c93_r4_lows0
      rcases own_Ew .. with e | e <;> rw [e]
      · unfold f13_c79_r4_lows0
        rcases own_Ew .. with e | e <;> rw [e]
        · exact bd_0 (by omega)
        · exact bd_add0 h1
      · exact bd_add0 h2
    · exact bd_0 (by omega)
theorem own_k3r {L L' H H' : Int32} (PL : ∀ y, bd 3 y → ((y < L ↔ y < L') ∧ (y < L - 1 ↔ y < L' - 1))) (PH : ∀ z, bd 4 z → (H < z ↔ H' < z)) {p2 : Int32} {imp : Int32} {x1 : Int32} {y1 : Int32} {z1 : Int32} {x2 : Int32} {y2 : Int32} {z2 : Int32}  (b1 : bd 3 y1) (b2 : bd 3 y2) (c1 : bd 3 z1) (c2 : bd 3 z2) : (f13_j64_F_r3_runs_0 p2 L imp H x1 y1 z1 x2 y2 z2) = (f13_j64_F_r3_runs_0 p2 L' imp H' x1 y1 z1 x2 y2 z2) := by
  have q1 := (PL y1 b1).2
  have q2 := (PL y2 b2).2
  have r1 := PH (z1 + 1) (bd_add1 c1 (by omega))
  have r2 := PH (z2 + 1) (bd_add1 c2 (by omega))
  have kr : (f13_c45_r3_runs0 L imp H x1 y1 z1) = (f13_c45_r3_runs0 L' imp H' x1 y1 z1) := own_cr q1 r1
  have kl : (f13_c45_r3_length0 L imp H x1 y1 z1) = (f13_c45_r3_length0 L' imp H' x1 y1 z1) := own_cl q1 r1
  have kw : (f13_c45_r3_lows0 L imp H x1 y1 z1) = (f13_c45_r3_lows0 L' imp H' x1 y1 z1) := own_cw q1 r1
  have mr : (f13_c61_r3_runs0 L imp H x1 y1 z1 x2 y2 z2) = (f13_c61_r3_runs0 L' imp H' x1 y1 z1 x2 y2 z2) := by unfold f13_c61_r3_runs0; rw [kr, kl, kw]; exact own_cr q2 r2
  have ml : (f13_c61_r3_length0 L imp H x1 y1 z1 x2 y2 z2) = (f13_c61_r3_length0 L' imp H' x1 y1 z1 x2 y2 z2) := by unfold f13_c61_r3_length0; rw [kr, kl, kw]; exact own_cl q2 r2
  have mw : (f13_c61_r3_lows0 L imp H x1 y1 z1 x2 y2 z2) = (f13_c61_r3_lows0 L' imp H' x1 y1 z1 x2 y2 z2) := by unfold f13_c61_r3_lows0; rw [kr, kl, kw]; exact own_cw q2 r2
  unfold f13_j64_F_r3_runs_0; rw [mr]
theorem own_k3l {L L' H H' : Int32} (PL : ∀ y, bd 3 y → ((y < L ↔ y < L') ∧ (y < L - 1 ↔ y < L' - 1))) (PH : ∀ z, bd 4 z → (H < z ↔ H' < z)) {p2 : Int32} {imp : Int32} {x1 : Int32} {y1 : Int32} {z1 : Int32} {x2 : Int32} {y2 : Int32} {z2 : Int32}  (b1 : bd 3 y1) (b2 : bd 3 y2) (c1 : bd 3 z1) (c2 : bd 3 z2) : (f13_j64_F_r3_length_0 p2 L imp H x1 y1 z1 x2 y2 z2) = (f13_j64_F_r3_length_0 p2 L' imp H' x1 y1 z1 x2 y2 z2) := by
  have q1 := (PL y1 b1).2
  have q2 := (PL y2 b2).2
  have r1 := PH (z1 + 1) (bd_add1 c1 (by omega))
  have r2 := PH (z2 + 1) (bd_add1 c2 (by omega))
  have kr : (f13_c45_r3_runs0 L imp H x1 y1 z1) = (f13_c45_r3_runs0 L' imp H' x1 y1 z1) := own_cr q1 r1
  have kl : (f13_c45_r3_length0 L imp H x1 y1 z1) = (f13_c45_r3_length0 L' imp H' x1 y1 z1) := own_cl q1 r1
  have kw : (f13_c45_r3_lows0 L imp H x1 y1 z1) = (f13_c45_r3_lows0 L' imp H' x1 y1 z1) := own_cw q1 r1
  have mr : (f13_c61_r3_runs0 L imp H x1 y1 z1 x2 y2 z2) = (f13_c61_r3_runs0 L' imp H' x1 y1 z1 x2 y2 z2) := by unfold f13_c61_r3_runs0; rw [kr, kl, kw]; exact own_cr q2 r2
  have ml : (f13_c61_r3_length0 L imp H x1 y1 z1 x2 y2 z2) = (f13_c61_r3_length0 L' imp H' x1 y1 z1 x2 y2 z2) := by unfold f13_c61_r3_length0; rw [kr, kl, kw]; exact own_cl q2 r2
  have mw : (f13_c61_r3_lows0 L imp H x1 y1 z1 x2 y2 z2) = (f13_c61_r3_lows0 L' imp H' x1 y1 z1 x2 y2 z2) := by unfold f13_c61_r3_lows0; rw [kr, kl, kw]; exact own_cw q2 r2
  unfold f13_j64_F_r3_length_0; rw [ml]
theorem own_k3w {L L' H H' : Int32} (PL : ∀ y, bd 3 y → ((y < L ↔ y < L') ∧ (y < L - 1 ↔ y < L' - 1))) (PH : ∀ z, bd 4 z → (H < z ↔ H' < z)) {p2 : Int32} {imp : Int32} {x1 : Int32} {y1 : Int32} {z1 : Int32} {x2 : Int32} {y2 : Int32} {z2 : Int32}  (b1 : bd 3 y1) (b2 : bd 3 y2) (c1 : bd 3 z1) (c2 : bd 3 z2) : (f13_j64_F_r3_lows_0 p2 L imp H x1 y1 z1 x2 y2 z2) = (f13_j64_F_r3_lows_0 p2 L' imp H' x1 y1 z1 x2 y2 z2) := by
  have q1 := (PL y1 b1).2
  have q2 := (PL y2 b2).2
  have r1 := PH (z1 + 1) (bd_add1 c1 (by omega))
  have r2 := PH (z2 + 1) (bd_add1 c2 (by omega))
  have kr : (f13_c45_r3_runs0 L imp H x1 y1 z1) = (f13_c45_r3_runs0 L' imp H' x1 y1 z1) := own_cr q1 r1
  have kl : (f13_c45_r3_length0 L imp H x1 y1 z1) = (f13_c45_r3_length0 L' imp H' x1 y1 z1) := own_cl q1 r1
  have kw : (f13_c45_r3_lows0 L imp H x1 y1 z1) = (f13_c45_r3_lows0 L' imp H' x1 y1 z1) := own_cw q1 r1
  have mr : (f13_c61_r3_runs0 L imp H x1 y1 z1 x2 y2 z2) = (f13_c61_r3_runs0 L' imp H' x1 y1 z1 x2 y2 z2) := by unfold f13_c61_r3_runs0; rw [kr, kl, kw]; exact own_cr q2 r2
  have ml : (f13_c61_r3_length0 L imp H x1 y1 z1 x2 y2 z2) = (f13_c61_r3_length0 L' imp H' x1 y1 z1 x2 y2 z2) := by unfold f13_c61_r3_length0; rw [kr, kl, kw]; exact own_cl q2 r2
  have mw : (f13_c61_r3_lows0 L imp H x1 y1 z1 x2 y2 z2) = (f13_c61_r3_lows0 L' imp H' x1 y1 z1 x2 y2 z2) := by unfold f13_c61_r3_lows0; rw [kr, kl, kw]; exact own_cw q2 r2
  unfold f13_j64_F_r3_lows_0; rw [mw]
theorem own_k4r {L L' H H' : Int32} (PL : ∀ y, bd 3 y → ((y < L ↔ y < L') ∧ (y < L - 1 ↔ y < L' - 1))) (PH : ∀ z, bd 4 z → (H < z ↔ H' < z)) {p3 : Int32} {imp : Int32} {lo : Int32} {x1 : Int32} {y1 : Int32} {z1 : Int32} {x2 : Int32} {y2 : Int32} {z2 : Int32}  (b1 : bd 3 y1) (b2 : bd 3 y2) (c1 : bd 3 z1) (c2 : bd 3 z2) : (f13_j109_F_r4_runs_0 p3 L imp H lo x1 y1 z1 x2 y2 z2) = (f13_j109_F_r4_runs_0 p3 L' imp H' lo x1 y1 z1 x2 y2 z2) := by
  have q1 := (PL y1 b1).1
  have q2 := (PL y2 b2).1
  have r1 := PH (z1 + 0) (bd_add0 (bd_mono c1 (by omega)))
  have r2 := PH (z2 + 0) (bd_add0 (bd_mono c2 (by omega)))
  have kr : (f13_c79_r4_runs0 L imp H x1 y1 z1) = (f13_c79_r4_runs0 L' imp H' x1 y1 z1) := own_cr q1 r1
  have kl : (f13_c79_r4_length0 L imp H x1 y1 z1) = (f13_c79_r4_length0 L' imp H' x1 y1 z1) := own_cl q1 r1
  have kw : (f13_c79_r4_lows0 L imp H x1 y1 z1) = (f13_c79_r4_lows0 L' imp H' x1 y1 z1) := own_cw q1 r1
  have mr : (f13_c93_r4_runs0 L imp H x1 y1 z1 x2 y2 z2) = (f13_c93_r4_runs0 L' imp H' x1 y1 z1 x2 y2 z2) := by unfold f13_c93_r4_runs0; rw [kr, kl, kw]; exact own_cr q2 r2
  have ml : (f13_c93_r4_length0 L imp H x1 y1 z1 x2 y2 z2) = (f13_c93_r4_length0 L' imp H' x1 y1 z1 x2 y2 z2) := by unfold f13_c93_r4_length0; rw [kr, kl, kw]; exact own_cl q2 r2
  have mw : (f13_c93_r4_lows0 L imp H x1 y1 z1 x2 y2 z2) = (f13_c93_r4_lows0 L' imp H' x1 y1 z1 x2 y2 z2) := by unfold f13_c93_r4_lows0; rw [kr, kl, kw]; exact own_cw q2 r2
  unfold f13_j109_F_r4_runs_0 f13_c106_r4_runs0; rw [mr, ml, mw]
theorem own_k4l {L L' H H' : Int32} (PL : ∀ y, bd 3 y → ((y < L ↔ y < L') ∧ (y < L - 1 ↔ y < L' - 1))) (PH : ∀ z, bd 4 z → (H < z ↔ H' < z)) {p3 : Int32} {imp : Int32} {lo : Int32} {x1 : Int32} {y1 : Int32} {z1 : Int32} {x2 : Int32} {y2 : Int32} {z2 : Int32}  (b1 : bd 3 y1) (b2 : bd 3 y2) (c1 : bd 3 z1) (c2 : bd 3 z2) : (f13_j109_F_r4_length_0 p3 L imp H lo x1 y1 z1 x2 y2 z2) = (f13_j109_F_r4_length_0 p3 L' imp H' lo x1 y1 z1 x2 y2 z2) := by
  have q1 := (PL y1 b1).1
  have q2 := (PL y2 b2).1
  have r1 := PH (z1 + 0) (bd_add0 (bd_mono c1 (by omega)))
  have r2 := PH (z2 + 0) (bd_add0 (bd_mono c2 (by omega)))
  have kr : (f13_c79_r4_runs0 L imp H x1 y1 z1) = (f13_c79_r4_runs0 L' imp H' x1 y1 z1) := own_cr q1 r1
  have kl : (f13_c79_r4_length0 L imp H x1 y1 z1) = (f13_c79_r4_length0 L' imp H' x1 y1 z1) := own_cl q1 r1
  have kw : (f13_c79_r4_lows0 L imp H x1 y1 z1) = (f13_c79_r4_lows0 L' imp H' x1 y1 z1) := own_cw q1 r1
  have mr : (f13_c93_r4_runs0 L imp H x1 y1 z1 x2 y2 z2) = (f13_c93_r4_runs0 L' imp H' x1 y1 z1 x2 y2 z2) := by unfold f13_c93_r4_runs0; rw [kr, kl, kw]; exact own_cr q2 r2
  have ml : (f13_c93_r4_length0 L imp H x1 y1 z1 x2 y2 z2) = (f13_c93_r4_length0 L' imp H' x1 y1 z1 x2 y2 z2) := by unfold f13_c93_r4_length0; rw [kr, kl, kw]; exact own_cl q2 r2
  have mw : (f13_c93_r4_lows0 L imp H x1 y1 z1 x2 y2 z2) = (f13_c93_r4_lows0 L' imp H' x1 y1 z1 x2 y2 z2) := by unfold f13_c93_r4_lows0; rw [kr, kl, kw]; exact own_cw q2 r2
  unfold f13_j109_F_r4_length_0 f13_c106_r4_length0; rw [mr, ml, mw]
theorem own_k4w {L L' H H' : Int32} (PL : ∀ y, bd 3 y → ((y < L ↔ y < L') ∧ (y < L - 1 ↔ y < L' - 1))) (PH : ∀ z, bd 4 z → (H < z ↔ H' < z)) {p3 : Int32} {imp : Int32} {lo : Int32} {x1 : Int32} {y1 : Int32} {z1 : Int32} {x2 : Int32} {y2 : Int32} {z2 : Int32}  (b1 : bd 3 y1) (b2 : bd 3 y2) (c1 : bd 3 z1) (c2 : bd 3 z2) : (f13_j109_F_r4_lows_0 p3 L imp H lo x1 y1 z1 x2 y2 z2) = (f13_j109_F_r4_lows_0 p3 L' imp H' lo x1 y1 z1 x2 y2 z2) := by
  have q1 := (PL y1 b1).1
  have q2 := (PL y2 b2).1
  have r1 := PH (z1 + 0) (bd_add0 (bd_mono c1 (by omega)))
  have r2 := PH (z2 + 0) (bd_add0 (bd_mono c2 (by omega)))
  have kr : (f13_c79_r4_runs0 L imp H x1 y1 z1) = (f13_c79_r4_runs0 L' imp H' x1 y1 z1) := own_cr q1 r1
  have kl : (f13_c79_r4_length0 L imp H x1 y1 z1) = (f13_c79_r4_length0 L' imp H' x1 y1 z1) := own_cl q1 r1
  have kw : (f13_c79_r4_lows0 L imp H x1 y1 z1) = (f13_c79_r4_lows0 L' imp H' x1 y1 z1) := own_cw q1 r1
  have mr : (f13_c93_r4_runs0 L imp H x1 y1 z1 x2 y2 z2) = (f13_c93_r4_runs0 L' imp H' x1 y1 z1 x2 y2 z2) := by unfold f13_c93_r4_runs0; rw [kr, kl, kw]; exact own_cr q2 r2
  have ml : (f13_c93_r4_length0 L imp H x1 y1 z1 x2 y2 z2) = (f13_c93_r4_length0 L' imp H' x1 y1 z1 x2 y2 z2) := by unfold f13_c93_r4_length0; rw [kr, kl, kw]; exact own_cl q2 r2
  have mw : (f13_c93_r4_lows0 L imp H x1 y1 z1 x2 y2 z2) = (f13_c93_r4_lows0 L' imp H' x1 y1 z1 x2 y2 z2) := by unfold f13_c93_r4_lows0; rw [kr, kl, kw]; exact own_cw q2 r2
  unfold f13_j109_F_r4_lows_0 f13_c106_r4_lows0; rw [mr, ml, mw]
theorem own_e_f9_c41_b12nr3_runs0 {L L' H H' : Int32} (PL : ∀ y, bd 3 y → ((y < L ↔ y < L') ∧ (y < L - 1 ↔ y < L' - 1))) (PH : ∀ z, bd 4 z → (H < z ↔ H' < z)) {cl0 : Int32} : (f9_c41_b12nr3_runs0 L H cl0) = (f9_c41_b12nr3_runs0 L' H' cl0) := by
  unfold f9_c41_b12nr3_runs0
  exact own_k3r PL PH (bd_0 (by decide)) (bd_0 (by decide)) (bd_0 (by decide)) (bd_0 (by decide))
theorem own_e_f9_c41_b12nr3_length0 {L L' H H' : Int32} (PL : ∀ y, bd 3 y → ((y < L ↔ y < L') ∧ (y < L - 1 ↔ y < L' - 1))) (PH : ∀ z, bd 4 z → (H < z ↔ H' < z)) {cl0 : Int32} : (f9_c41_b12nr3_length0 L H cl0) = (f9_c41_b12nr3_length0 L' H' cl0) := by
  unfold f9_c41_b12nr3_length0
  exact own_k3l PL PH (bd_0 (by decide)) (bd_0 (by decide)) (bd_0 (by decide)) (bd_0 (by decide))
theorem own_d_f9_c41_b12nr3_length0 {p4 : Int32} {hm : Int32} {cl0 : Int32} : bd 1 (f9_c41_b12nr3_length0 p4 hm cl0) := by
  unfold f9_c41_b12nr3_length0; exact bd_mono (own_b3length _ _ _ _ _ _ _ _ _ _ (i := 0) (bd_0 (by decide)) (bd_0 (by decide)) (by decide) (by decide)) (by decide)
theorem own_e_f9_c41_b12nr3_lows0 {L L' H H' : Int32} (PL : ∀ y, bd 3 y → ((y < L ↔ y < L') ∧ (y < L - 1 ↔ y < L' - 1))) (PH : ∀ z, bd 4 z → (H < z ↔ H' < z)) {cl0 : Int32} : (f9_c41_b12nr3_lows0 L H cl0) = (f9_c41_b12nr3_lows0 L' H' cl0) := by
  unfold f9_c41_b12nr3_lows0
  exact own_k3w PL PH (bd_0 (by decide)) (bd_0 (by decide)) (bd_0 (by decide)) (bd_0 (by decide))
theorem own_d_f9_c41_b12nr3_lows0 {p4 : Int32} {hm : Int32} {cl0 : Int32} : bd 1 (f9_c41_b12nr3_lows0 p4 hm cl0) := by
  unfold f9_c41_b12nr3_lows0; exact bd_mono (own_b3lows _ _ _ _ _ _ _ _ _ _ (i := 0) (bd_0 (by decide)) (bd_0 (by decide)) (by decide) (by decide)) (by decide)
theorem own_e_f9_c41_b12nr4_runs0 {L L' H H' : Int32} (PL : ∀ y, bd 3 y → ((y < L ↔ y < L') ∧ (y < L - 1 ↔ y < L' - 1))) (PH : ∀ z, bd 4 z → (H < z ↔ H' < z)) {ch0 : Int32} : (f9_c41_b12nr4_runs0 L H ch0) = (f9_c41_b12nr4_runs0 L' H' ch0) := by
  unfold f9_c41_b12nr4_runs0
  exact own_k4r PL PH (bd_0 (by decide)) (bd_0 (by decide)) (bd_0 (by decide)) (bd_0 (by decide))
theorem own_e_f9_c41_b12nr4_length0 {L L' H H' : Int32} (PL : ∀ y, bd 3 y → ((y < L ↔ y < L') ∧ (y < L - 1 ↔ y < L' - 1))) (PH : ∀ z, bd 4 z → (H < z ↔ H' < z)) {ch0 : Int32} : (f9_c41_b12nr4_length0 L H ch0) = (f9_c41_b12nr4_length0 L' H' ch0) := by
  unfold f9_c41_b12nr4_length0
  exact own_k4l PL PH (bd_0 (by decide)) (bd_0 (by decide)) (bd_0 (by decide)) (bd_0 (by decide))
theorem own_d_f9_c41_b12nr4_length0 {p4 : Int32} {hm : Int32} {ch0 : Int32} : bd 1 (f9_c41_b12nr4_length0 p4 hm ch0) := by
  unfold f9_c41_b12nr4_length0; exact bd_mono (own_b4length _ _ _ _ _ _ _ _ _ _ _ (i := 0) (bd_0 (by decide)) (bd_0 (by decide)) (by decide) (by decide)) (by decide)
theorem own_e_f9_c41_b12nr4_lows0 {L L' H H' : Int32} (PL : ∀ y, bd 3 y → ((y < L ↔ y < L') ∧ (y < L - 1 ↔ y < L' - 1))) (PH : ∀ z, bd 4 z → (H < z ↔ H' < z)) {ch0 : Int32} : (f9_c41_b12nr4_lows0 L H ch0) = (f9_c41_b12nr4_lows0 L' H' ch0) := by
  unfold f9_c41_b12nr4_lows0
  exact own_k4w PL PH (bd_0 (by decide)) (bd_0 (by decide)) (bd_0 (by decide)) (bd_0 (by decide))
theorem own_d_f9_c41_b12nr4_lows0 {p4 : Int32} {hm : Int32} {ch0 : Int32} : bd 0 (f9_c41_b12nr4_lows0 p4 hm ch0) := by
  unfold f9_c41_b12nr4_lows0; exact bd_mono (own_b4lows _ _ _ _ _ _ _ _ _ _ _ (i := 0) (bd_0 (by decide)) (bd_0 (by decide)) (by decide) (by decide)) (by decide)
theorem own_e_f9_c41_b0_lowOut0_1 {L L' H H' : Int32} (PL : ∀ y, bd 3 y → ((y < L ↔ y < L') ∧ (y < L - 1 ↔ y < L' - 1))) (PH : ∀ z, bd 4 z → (H < z ↔ H' < z)) {cl0 : Int32} {cl1 : Int32} {ch0 : Int32} : (f9_c41_b0_lowOut0_1 L H cl0 cl1 ch0) = (f9_c41_b0_lowOut0_1 L' H' cl0 cl1 ch0) := by
  unfold f9_c41_b0_lowOut0_1
  rw [own_e_f9_c41_b12nr4_runs0 PL PH]
theorem own_e_f9_c41_b12nr1_runs0 {L L' H H' : Int32} (PL : ∀ y, bd 3 y → ((y < L ↔ y < L') ∧ (y < L - 1 ↔ y < L' - 1))) (PH : ∀ z, bd 4 z → (H < z ↔ H' < z)) {cl0 : Int32} {cl1 : Int32} {ch0 : Int32} : (f9_c41_b12nr1_runs0 L H cl0 cl1 ch0) = (f9_c41_b12nr1_runs0 L' H' cl0 cl1 ch0) := by
  unfold f9_c41_b12nr1_runs0
  rw [own_e_f9_c41_b12nr3_runs0 PL PH, own_e_f9_c41_b12nr3_length0 PL PH, own_e_f9_c41_b12nr3_lows0 PL PH, own_e_f9_c41_b12nr4_runs0 PL PH, own_e_f9_c41_b12nr4_length0 PL PH, own_e_f9_c41_b12nr4_lows0 PL PH]
  exact own_k3r PL PH (bd_mono own_d_f9_c41_b12nr3_length0 (by decide)) (bd_mono own_d_f9_c41_b12nr4_length0 (by decide)) (bd_mono own_d_f9_c41_b12nr3_lows0 (by decide)) (bd_mono own_d_f9_c41_b12nr4_lows0 (by decide))
theorem own_e_f9_c41_b12nr1_length0 {L L' H H' : Int32} (PL : ∀ y, bd 3 y → ((y < L ↔ y < L') ∧ (y < L - 1 ↔ y < L' - 1))) (PH : ∀ z, bd 4 z → (H < z ↔ H' < z)) {cl0 : Int32} {cl1 : Int32} {ch0 : Int32} : (f9_c41_b12nr1_length0 L H cl0 cl1 ch0) = (f9_c41_b12nr1_length0 L' H' cl0 cl1 ch0) := by
  unfold f9_c41_b12nr1_length0
  rw [own_e_f9_c41_b12nr3_runs0 PL PH, own_e_f9_c41_b12nr3_length0 PL PH, own_e_f9_c41_b12nr3_lows0 PL PH, own_e_f9_c41_b12nr4_runs0 PL PH, own_e_f9_c41_b12nr4_length0 PL PH, own_e_f9_c41_b12nr4_lows0 PL PH]
  exact own_k3l PL PH (bd_mono own_d_f9_c41_b12nr3_length0 (by decide)) (bd_mono own_d_f9_c41_b12nr4_length0 (by decide)) (bd_mono own_d_f9_c41_b12nr3_lows0 (by decide)) (bd_mono own_d_f9_c41_b12nr4_lows0 (by decide))
theorem own_d_f9_c41_b12nr1_length0 {p4 : Int32} {hm : Int32} {cl0 : Int32} {cl1 : Int32} {ch0 : Int32} : bd 2 (f9_c41_b12nr1_length0 p4 hm cl0 cl1 ch0) := by
  unfold f9_c41_b12nr1_length0; exact bd_mono (own_b3length _ _ _ _ _ _ _ _ _ _ (i := 1) (bd_mono own_d_f9_c41_b12nr3_length0 (by decide)) (bd_mono own_d_f9_c41_b12nr4_length0 (by decide)) (by decide) (by decide)) (by decide)
theorem own_e_f9_c41_b12nr1_lows0 {L L' H H' : Int32} (PL : ∀ y, bd 3 y → ((y < L ↔ y < L') ∧ (y < L - 1 ↔ y < L' - 1))) (PH : ∀ z, bd 4 z → (H < z ↔ H' < z)) {cl0 : Int32} {cl1 : Int32} {ch0 : Int32} : (f9_c41_b12nr1_lows0 L H cl0 cl1 ch0) = (f9_c41_b12nr1_lows0 L' H' cl0 cl1 ch0) := by
  unfold f9_c41_b12nr1_lows0
  rw [own_e_f9_c41_b12nr3_runs0 PL PH, own_e_f9_c41_b12nr3_length0 PL PH, own_e_f9_c41_b12nr3_lows0 PL PH, own_e_f9_c41_b12nr4_runs0 PL PH, own_e_f9_c41_b12nr4_length0 PL PH, own_e_f9_c41_b12nr4_lows0 PL PH]
  exact own_k3w PL PH (bd_mono own_d_f9_c41_b12nr3_length0 (by decide)) (bd_mono own_d_f9_c41_b12nr4_length0 (by decide)) (bd_mono own_d_f9_c41_b12nr3_lows0 (by decide)) (bd_mono own_d_f9_c41_b12nr4_lows0 (by decide))
theorem own_d_f9_c41_b12nr1_lows0 {p4 : Int32} {hm : Int32} {cl0 : Int32} {cl1 : Int32} {ch0 : Int32} : bd 2 (f9_c41_b12nr1_lows0 p4 hm cl0 cl1 ch0) := by
  unfold f9_c41_b12nr1_lows0; exact bd_mono (own_b3lows _ _ _ _ _ _ _ _ _ _ (i := 1) (bd_mono own_d_f9_c41_b12nr3_lows0 (by decide)) (bd_mono own_d_f9_c41_b12nr4_lows0 (by decide)) (by decide) (by decide)) (by decide)
theorem own_e_f9_c41_b12nr2_runs0 {L L' H H' : Int32} (PL : ∀ y, bd 3 y → ((y < L ↔ y < L') ∧ (y < L - 1 ↔ y < L' - 1))) (PH : ∀ z, bd 4 z → (H < z ↔ H' < z)) {cl0 : Int32} {ch0 : Int32} {ch1 : Int32} : (f9_c41_b12nr2_runs0 L H cl0 ch0 ch1) = (f9_c41_b12nr2_runs0 L' H' cl0 ch0 ch1) := by
  unfold f9_c41_b12nr2_runs0
  rw [own_e_f9_c41_b12nr3_runs0 PL PH, own_e_f9_c41_b12nr3_length0 PL PH, own_e_f9_c41_b12nr3_lows0 PL PH, own_e_f9_c41_b12nr4_runs0 PL PH, own_e_f9_c41_b12nr4_length0 PL PH, own_e_f9_c41_b12nr4_lows0 PL PH]
  exact own_k4r PL PH (bd_mono own_d_f9_c41_b12nr3_length0 (by decide)) (bd_mono own_d_f9_c41_b12nr4_length0 (by decide)) (bd_mono own_d_f9_c41_b12nr3_lows0 (by decide)) (bd_mono own_d_f9_c41_b12nr4_lows0 (by decide))
theorem own_e_f9_c41_b12nr2_length0 {L L' H H' : Int32} (PL : ∀ y, bd 3 y → ((y < L ↔ y < L') ∧ (y < L - 1 ↔ y < L' - 1))) (PH : ∀ z, bd 4 z → (H < z ↔ H' < z)) {cl0 : Int32} {ch0 : Int32} {ch1 : Int32} : (f9_c41_b12nr2_length0 L H cl0 ch0 ch1) = (f9_c41_b12nr2_length0 L' H' cl0 ch0 ch1) := by
  unfold f9_c41_b12nr2_length0
  rw [own_e_f9_c41_b12nr3_runs0 PL PH, own_e_f9_c41_b12nr3_length0 PL PH, own_e_f9_c41_b12nr3_lows0 PL PH, own_e_f9_c41_b12nr4_runs0 PL PH, own_e_f9_c41_b12nr4_length0 PL PH, own_e_f9_c41_b12nr4_lows0 PL PH]
  exact own_k4l PL PH (bd_mono own_d_f9_c41_b12nr3_length0 (by decide)) (bd_mono own_d_f9_c41_b12nr4_length0 (by decide)) (bd_mono own_d_f9_c41_b12nr3_lows0 (by decide)) (bd_mono own_d_f9_c41_b12nr4_lows0 (by decide))
theorem own_d_f9_c41_b12nr2_length0 {p4 : Int32} {hm : Int32} {cl0 : Int32} {ch0 : Int32} {ch1 : Int32} : bd 2 (f9_c41_b12nr2_length0 p4 hm cl0 ch0 ch1) := by
  unfold f9_c41_b12nr2_length0; exact bd_mono (own_b4length _ _ _ _ _ _ _ _ _ _ _ (i := 1) (bd_mono own_d_f9_c41_b12nr3_length0 (by decide)) (bd_mono own_d_f9_c41_b12nr4_length0 (by decide)) (by decide) (by decide)) (by decide)
theorem own_e_f9_c41_b12nr2_lows0 {L L' H H' : Int32} (PL : ∀ y, bd 3 y → ((y < L ↔ y < L') ∧ (y < L - 1 ↔ y < L' - 1))) (PH : ∀ z, bd 4 z → (H < z ↔ H' < z)) {cl0 : Int32} {ch0 : Int32} {ch1 : Int32} : (f9_c41_b12nr2_lows0 L H cl0 ch0 ch1) = (f9_c41_b12nr2_lows0 L' H' cl0 ch0 ch1) := by
  unfold f9_c41_b12nr2_lows0
  rw [own_e_f9_c41_b12nr3_runs0 PL PH, own_e_f9_c41_b12nr3_length0 PL PH, own_e_f9_c41_b12nr3_lows0 PL PH, own_e_f9_c41_b12nr4_runs0 PL PH, own_e_f9_c41_b12nr4_length0 PL PH, own_e_f9_c41_b12nr4_lows0 PL PH]
  exact own_k4w PL PH (bd_mono own_d_f9_c41_b12nr3_length0 (by decide)) (bd_mono own_d_f9_c41_b12nr4_length0 (by decide)) (bd_mono own_d_f9_c41_b12nr3_lows0 (by decide)) (bd_mono own_d_f9_c41_b12nr4_lows0 (by decide))
theorem own_d_f9_c41_b12nr2_lows0 {p4 : Int32} {hm : Int32} {cl0 : Int32} {ch0 : Int32} {ch1 : Int32} : bd 1 (f9_c41_b12nr2_lows0 p4 hm cl0 ch0 ch1) := by
  unfold f9_c41_b12nr2_lows0; exact bd_mono (own_b4lows _ _ _ _ _ _ _ _ _ _ _ (i := 1) (bd_mono own_d_f9_c41_b12nr3_lows0 (by decide)) (bd_mono own_d_f9_c41_b12nr4_lows0 (by decide)) (by decide) (by decide)) (by decide)
theorem own_e_f9_c41_b0_lowOut0_2 {L L' H H' : Int32} (PL : ∀ y, bd 3 y → ((y < L ↔ y < L') ∧ (y < L - 1 ↔ y < L' - 1))) (PH : ∀ z, bd 4 z → (H < z ↔ H' < z)) {cl0 : Int32} {cl1 : Int32} {cl2 : Int32} {ch0 : Int32} {ch1 : Int32} : (f9_c41_b0_lowOut0_2 L H cl0 cl1 cl2 ch0 ch1) = (f9_c41_b0_lowOut0_2 L' H' cl0 cl1 cl2 ch0 ch1) := by
  unfold f9_c41_b0_lowOut0_2
  rw [own_e_f9_c41_b0_lowOut0_1 PL PH, own_e_f9_c41_b12nr2_runs0 PL PH]
theorem own_e_f9_c41_b12nr3_runs0_1 {L L' H H' : Int32} (PL : ∀ y, bd 3 y → ((y < L ↔ y < L') ∧ (y < L - 1 ↔ y < L' - 1))) (PH : ∀ z, bd 4 z → (H < z ↔ H' < z)) {cl0 : Int32} {cl1 : Int32} {cl2 : Int32} {ch0 : Int32} {ch1 : Int32} : (f9_c41_b12nr3_runs0_1 L H cl0 cl1 cl2 ch0 ch1) = (f9_c41_b12nr3_runs0_1 L' H' cl0 cl1 cl2 ch0 ch1) := by
  unfold f9_c41_b12nr3_runs0_1
  rw [own_e_f9_c41_b12nr1_runs0 PL PH, own_e_f9_c41_b12nr1_length0 PL PH, own_e_f9_c41_b12nr1_lows0 PL PH, own_e_f9_c41_b12nr2_runs0 PL PH, own_e_f9_c41_b12nr2_length0 PL PH, own_e_f9_c41_b12nr2_lows0 PL PH]
  exact own_k3r PL PH (bd_mono own_d_f9_c41_b12nr1_length0 (by decide)) (bd_mono own_d_f9_c41_b12nr2_length0 (by decide)) (bd_mono own_d_f9_c41_b12nr1_lows0 (by decide)) (bd_mono own_d_f9_c41_b12nr2_lows0 (by decide))
theorem own_e_f9_c41_b12nr3_length0_1 {L L' H H' : Int32} (PL : ∀ y, bd 3 y → ((y < L ↔ y < L') ∧ (y < L - 1 ↔ y < L' - 1))) (PH : ∀ z, bd 4 z → (H < z ↔ H' < z)) {cl0 : Int32} {cl1 : Int32} {cl2 : Int32} {ch0 : Int32} {ch1 : Int32} : (f9_c41_b12nr3_length0_1 L H cl0 cl1 cl2 ch0 ch1) = (f9_c41_b12nr3_length0_1 L' H' cl0 cl1 cl2 ch0 ch1) := by
  unfold f9_c41_b12nr3_length0_1
  rw [own_e_f9_c41_b12nr1_runs0 PL PH, own_e_f9_c41_b12nr1_length0 PL PH, own_e_f9_c41_b12nr1_lows0 PL PH, own_e_f9_c41_b12nr2_runs0 PL PH, own_e_f9_c41_b12nr2_length0 PL PH, own_e_f9_c41_b12nr2_lows0 PL PH]
  exact own_k3l PL PH (bd_mono own_d_f9_c41_b12nr1_length0 (by decide)) (bd_mono own_d_f9_c41_b12nr2_length0 (by decide)) (bd_mono own_d_f9_c41_b12nr1_lows0 (by decide)) (bd_mono own_d_f9_c41_b12nr2_lows0 (by decide))
theorem own_d_f9_c41_b12nr3_length0_1 {p4 : Int32} {hm : Int32} {cl0 : Int32} {cl1 : Int32} {cl2 : Int32} {ch0 : Int32} {ch1 : Int32} : bd 3 (f9_c41_b12nr3_length0_1 p4 hm cl0 cl1 cl2 ch0 ch1) := by
  unfold f9_c41_b12nr3_length0_1; exact bd_mono (own_b3length _ _ _ _ _ _ _ _ _ _ (i := 2) (bd_mono own_d_f9_c41_b12nr1_length0 (by decide)) (bd_mono own_d_f9_c41_b12nr2_length0 (by decide)) (by decide) (by decide)) (by decide)
theorem own_e_f9_c41_b12nr3_lows0_1 {L L' H H' : Int32} (PL : ∀ y, bd 3 y → ((y < L ↔ y < L') ∧ (y < L - 1 ↔ y < L' - 1))) (PH : ∀ z, bd 4 z → (H < z ↔ H' < z)) {cl0 : Int32} {cl1 : Int32} {cl2 : Int32} {ch0 : Int32} {ch1 : Int32} : (f9_c41_b12nr3_lows0_1 L H cl0 cl1 cl2 ch0 ch1) = (f9_c41_b12nr3_lows0_1 L' H' cl0 cl1 cl2 ch0 ch1) := by
  unfold f9_c41_b12nr3_lows0_1
  rw [own_e_f9_c41_b12nr1_runs0 PL PH, own_e_f9_c41_b12nr1_length0 PL PH, own_e_f9_c41_b12nr1_lows0 PL PH, own_e_f9_c41_b12nr2_runs0 PL PH, own_e_f9_c41_b12nr2_length0 PL PH, own_e_f9_c41_b12nr2_lows0 PL PH]
  exact own_k3w PL PH (bd_mono own_d_f9_c41_b12nr1_length0 (by decide)) (bd_mono own_d_f9_c41_b12nr2_length0 (by decide)) (bd_mono own_d_f9_c41_b12nr1_lows0 (by decide)) (bd_mono own_d_f9_c41_b12nr2_lows0 (by decide))
theorem own_d_f9_c41_b12nr3_lows0_1 {p4 : Int32} {hm : Int32} {cl0 : Int32} {cl1 : Int32} {cl2 : Int32} {ch0 : Int32} {ch1 : Int32} : bd 3 (f9_c41_b12nr3_lows0_1 p4 hm cl0 cl1 cl2 ch0 ch1) := by
  unfold f9_c41_b12nr3_lows0_1; exact bd_mono (own_b3lows _ _ _ _ _ _ _ _ _ _ (i := 2) (bd_mono own_d_f9_c41_b12nr1_lows0 (by decide)) (bd_mono own_d_f9_c41_b12nr2_lows0 (by decide)) (by decide) (by decide)) (by decide)
theorem own_e_f9_c41_b12nr4_runs0_1 {L L' H H' : Int32} (PL : ∀ y, bd 3 y → ((y < L ↔ y < L') ∧ (y < L - 1 ↔ y < L' - 1))) (PH : ∀ z, bd 4 z → (H < z ↔ H' < z)) {cl0 : Int32} {cl1 : Int32} {ch0 : Int32} {ch1 : Int32} {ch2 : Int32} : (f9_c41_b12nr4_runs0_1 L H cl0 cl1 ch0 ch1 ch2) = (f9_c41_b12nr4_runs0_1 L' H' cl0 cl1 ch0 ch1 ch2) := by
  unfold f9_c41_b12nr4_runs0_1
  rw [own_e_f9_c41_b0_lowOut0_1 PL PH, own_e_f9_c41_b12nr1_runs0 PL PH, own_e_f9_c41_b12nr1_length0 PL PH, own_e_f9_c41_b12nr1_lows0 PL PH, own_e_f9_c41_b12nr2_runs0 PL PH, own_e_f9_c41_b12nr2_length0 PL PH, own_e_f9_c41_b12nr2_lows0 PL PH]
  exact own_k4r PL PH (bd_mono own_d_f9_c41_b12nr1_length0 (by decide)) (bd_mono own_d_f9_c41_b12nr2_length0 (by decide)) (bd_mono own_d_f9_c41_b12nr1_lows0 (by decide)) (bd_mono own_d_f9_c41_b12nr2_lows0 (by decide))
theorem own_e_f9_c41_b12nr4_length0_1 {L L' H H' : Int32} (PL : ∀ y, bd 3 y → ((y < L ↔ y < L') ∧ (y < L - 1 ↔ y < L' - 1))) (PH : ∀ z, bd 4 z → (H < z ↔ H' < z)) {cl0 : Int32} {cl1 : Int32} {ch0 : Int32} {ch1 : Int32} {ch2 : Int32} : (f9_c41_b12nr4_length0_1 L H cl0 cl1 ch0 ch1 ch2) = (f9_c41_b12nr4_length0_1 L' H' cl0 cl1 ch0 ch1 ch2) := by
  unfold f9_c41_b12nr4_length0_1
  rw [own_e_f9_c41_b0_lowOut0_1 PL PH, own_e_f9_c41_b12nr1_runs0 PL PH, own_e_f9_c41_b12nr1_length0 PL PH, own_e_f9_c41_b12nr1_lows0 PL PH, own_e_f9_c41_b12nr2_runs0 PL PH, own_e_f9_c41_b12nr2_length0 PL PH, own_e_f9_c41_b12nr2_lows0 PL PH]
  exact own_k4l PL PH (bd_mono own_d_f9_c41_b12nr1_length0 (by decide)) (bd_mono own_d_f9_c41_b12nr2_length0 (by decide)) (bd_mono own_d_f9_c41_b12nr1_lows0 (by decide)) (bd_mono own_d_f9_c41_b12nr2_lows0 (by decide))
theorem own_d_f9_c41_b12nr4_length0_1 {p4 : Int32} {hm : Int32} {cl0 : Int32} {cl1 : Int32} {ch0 : Int32} {ch1 : Int32} {ch2 : Int32} : bd 3 (f9_c41_b12nr4_length0_1 p4 hm cl0 cl1 ch0 ch1 ch2) := by
  unfold f9_c41_b12nr4_length0_1; exact bd_mono (own_b4length _ _ _ _ _ _ _ _ _ _ _ (i := 2) (bd_mono own_d_f9_c41_b12nr1_length0 (by decide)) (bd_mono own_d_f9_c41_b12nr2_length0 (by decide)) (by decide) (by decide)) (by decide)
theorem own_e_f9_c41_b12nr4_lows0_1 {L L' H H' : Int32} (PL : ∀ y, bd 3 y → ((y < L ↔ y < L') ∧ (y < L - 1 ↔ y < L' - 1))) (PH : ∀ z, bd 4 z → (H < z ↔ H' < z)) {cl0 : Int32} {cl1 : Int32} {ch0 : Int32} {ch1 : Int32} {ch2 : Int32} : (f9_c41_b12nr4_lows0_1 L H cl0 cl1 ch0 ch1 ch2) = (f9_c41_b12nr4_lows0_1 L' H' cl0 cl1 ch0 ch1 ch2) := by
  unfold f9_c41_b12nr4_lows0_1
  rw [own_e_f9_c41_b0_lowOut0_1 PL PH, own_e_f9_c41_b12nr1_runs0 PL PH, own_e_f9_c41_b12nr1_length0 PL PH, own_e_f9_c41_b12nr1_lows0 PL PH, own_e_f9_c41_b12nr2_runs0 PL PH, own_e_f9_c41_b12nr2_length0 PL PH, own_e_f9_c41_b12nr2_lows0 PL PH]
  exact own_k4w PL PH (bd_mono own_d_f9_c41_b12nr1_length0 (by decide)) (bd_mono own_d_f9_c41_b12nr2_length0 (by decide)) (bd_mono own_d_f9_c41_b12nr1_lows0 (by decide)) (bd_mono own_d_f9_c41_b12nr2_lows0 (by decide))
theorem own_d_f9_c41_b12nr4_lows0_1 {p4 : Int32} {hm : Int32} {cl0 : Int32} {cl1 : Int32} {ch0 : Int32} {ch1 : Int32} {ch2 : Int32} : bd 2 (f9_c41_b12nr4_lows0_1 p4 hm cl0 cl1 ch0 ch1 ch2) := by
  unfold f9_c41_b12nr4_lows0_1; exact bd_mono (own_b4lows _ _ _ _ _ _ _ _ _ _ _ (i := 2) (bd_mono own_d_f9_c41_b12nr1_lows0 (by decide)) (bd_mono own_d_f9_c41_b12nr2_lows0 (by decide)) (by decide) (by decide)) (by decide)
theorem own_e_f9_c41_b0_lowOut0_3 {L L' H H' : Int32} (PL : ∀ y, bd 3 y → ((y < L ↔ y < L') ∧ (y < L - 1 ↔ y < L' - 1))) (PH : ∀ z, bd 4 z → (H < z ↔ H' < z)) {cl0 : Int32} {cl1 : Int32} {cl2 : Int32} {cl3 : Int32} {ch0 : Int32} {ch1 : Int32} {ch2 : Int32} : (f9_c41_b0_lowOut0_3 L H cl0 cl1 cl2 cl3 ch0 ch1 ch2) = (f9_c41_b0_lowOut0_3 L' H' cl0 cl1 cl2 cl3 ch0 ch1 ch2) := by
  unfold f9_c41_b0_lowOut0_3
  rw [own_e_f9_c41_b0_lowOut0_2 PL PH, own_e_f9_c41_b12nr4_runs0_1 PL PH]
theorem own_e_f9_c41_b12nr1_runs0_1 {L L' H H' : Int32} (PL : ∀ y, bd 3 y → ((y < L ↔ y < L') ∧ (y < L - 1 ↔ y < L' - 1))) (PH : ∀ z, bd 4 z → (H < z ↔ H' < z)) {cl0 : Int32} {cl1 : Int32} {cl2 : Int32} {cl3 : Int32} {ch0 : Int32} {ch1 : Int32} {ch2 : Int32} : (f9_c41_b12nr1_runs0_1 L H cl0 cl1 cl2 cl3 ch0 ch1 ch2) = (f9_c41_b12nr1_runs0_1 L' H' cl0 cl1 cl2 cl3 ch0 ch1 ch2) := by
  unfold f9_c41_b12nr1_runs0_1
  rw [own_e_f9_c41_b12nr3_runs0_1 PL PH, own_e_f9_c41_b12nr3_length0_1 PL PH, own_e_f9_c41_b12nr3_lows0_1 PL PH, own_e_f9_c41_b12nr4_runs0_1 PL PH, own_e_f9_c41_b12nr4_length0_1 PL PH, own_e_f9_c41_b12nr4_lows0_1 PL PH]
  exact own_k3r PL PH (bd_mono own_d_f9_c41_b12nr3_length0_1 (by decide)) (bd_mono own_d_f9_c41_b12nr4_length0_1 (by decide)) (bd_mono own_d_f9_c41_b12nr3_lows0_1 (by decide)) (bd_mono own_d_f9_c41_b12nr4_lows0_1 (by decide))
theorem own_e_f9_c41_b12nr1_length0_1 {L L' H H' : Int32} (PL : ∀ y, bd 3 y → ((y < L ↔ y < L') ∧ (y < L - 1 ↔ y < L' - 1))) (PH : ∀ z, bd 4 z → (H < z ↔ H' < z)) {cl0 : Int32} {cl1 : Int32} {cl2 : Int32} {cl3 : Int32} {ch0 : Int32} {ch1 : Int32} {ch2 : Int32} : (f9_c41_b12nr1_length0_1 L H cl0 cl1 cl2 cl3 ch0 ch1 ch2) = (f9_c41_b12nr1_length0_1 L' H' cl0 cl1 cl2 cl3 ch0 ch1 ch2) := by
  unfold f9_c41_b12nr1_length0_1
  rw [own_e_f9_c41_b12nr3_runs0_1 PL PH, own_e_f9_c41_b12nr3_length0_1 PL PH, own_e_f9_c41_b12nr3_lows0_1 PL PH, own_e_f9_c41_b12nr4_runs0_1 PL PH, own_e_f9_c41_b12nr4_length0_1 PL PH, own_e_f9_c41_b12nr4_lows0_1 PL PH]
  exact own_k3l PL PH (bd_mono own_d_f9_c41_b12nr3_length0_1 (by decide)) (bd_mono own_d_f9_c41_b12nr4_length0_1 (by decide)) (bd_mono own_d_f9_c41_b12nr3_lows0_1 (by decide)) (bd_mono own_d_f9_c41_b12nr4_lows0_1 (by decide))
theorem own_d_f9_c41_b12nr1_length0_1 {p4 : Int32} {hm : Int32} {cl0 : Int32} {cl1 : Int32} {cl2 : Int32} {cl3 : Int32} {ch0 : Int32} {ch1 : Int32} {ch2 : Int32} : bd 4 (f9_c41_b12nr1_length0_1 p4 hm cl0 cl1 cl2 cl3 ch0 ch1 ch2) := by
  unfold f9_c41_b12nr1_length0_1; exact bd_mono (own_b3length _ _ _ _ _ _ _ _ _ _ (i := 3) (bd_mono own_d_f9_c41_b12nr3_length0_1 (by decide)) (bd_mono own_d_f9_c41_b12nr4_length0_1 (by decide)) (by decide) (by decide)) (by decide)
theorem own_e_f9_c41_b12nr1_lows0_1 {L L' H H' : Int32} (PL : ∀ y, bd 3 y → ((y < L ↔ y < L') ∧ (y < L - 1 ↔ y < L' - 1))) (PH : ∀ z, bd 4 z → (H < z ↔ H' < z)) {cl0 : Int32} {cl1 : Int32} {cl2 : Int32} {cl3 : Int32} {ch0 : Int32} {ch1 : Int32} {ch2 : Int32} : (f9_c41_b12nr1_lows0_1 L H cl0 cl1 cl2 cl3 ch0 ch1 ch2) = (f9_c41_b12nr1_lows0_1 L' H' cl0 cl1 cl2 cl3 ch0 ch1 ch2) := by
  unfold f9_c41_b12nr1_lows0_1
  rw [own_e_f9_c41_b12nr3_runs0_1 PL PH, own_e_f9_c41_b12nr3_length0_1 PL PH, own_e_f9_c41_b12nr3_lows0_1 PL PH, own_e_f9_c41_b12nr4_runs0_1 PL PH, own_e_f9_c41_b12nr4_length0_1 PL PH, own_e_f9_c41_b12nr4_lows0_1 PL PH]
  exact own_k3w PL PH (bd_mono own_d_f9_c41_b12nr3_length0_1 (by decide)) (bd_mono own_d_f9_c41_b12nr4_length0_1 (by decide)) (bd_mono own_d_f9_c41_b12nr3_lows0_1 (by decide)) (bd_mono own_d_f9_c41_b12nr4_lows0_1 (by decide))
theorem own_d_f9_c41_b12nr1_lows0_1 {p4 : Int32} {hm : Int32} {cl0 : Int32} {cl1 : Int32} {cl2 : Int32} {cl3 : Int32} {ch0 : Int32} {ch1 : Int32} {ch2 : Int32} : bd 4 (f9_c41_b12nr1_lows0_1 p4 hm cl0 cl1 cl2 cl3 ch0 ch1 ch2) := by
  unfold f9_c41_b12nr1_lows0_1; exact bd_mono (own_b3lows _ _ _ _ _ _ _ _ _ _ (i := 3) (bd_mono own_d_f9_c41_b12nr3_lows0_1 (by decide)) (bd_mono own_d_f9_c41_b12nr4_lows0_1 (by decide)) (by decide) (by decide)) (by decide)
theorem own_e_f9_c41_b12nr2_runs0_1 {L L' H H' : Int32} (PL : ∀ y, bd 3 y → ((y < L ↔ y < L') ∧ (y < L - 1 ↔ y < L' - 1))) (PH : ∀ z, bd 4 z → (H < z ↔ H' < z)) {cl0 : Int32} {cl1 : Int32} {cl2 : Int32} {ch0 : Int32} {ch1 : Int32} {ch2 : Int32} {ch3 : Int32} : (f9_c41_b12nr2_runs0_1 L H cl0 cl1 cl2 ch0 ch1 ch2 ch3) = (f9_c41_b12nr2_runs0_1 L' H' cl0 cl1 cl2 ch0 ch1 ch2 ch3) := by
  unfold f9_c41_b12nr2_runs0_1
  rw [own_e_f9_c41_b0_lowOut0_2 PL PH, own_e_f9_c41_b12nr3_runs0_1 PL PH, own_e_f9_c41_b12nr3_length0_1 PL PH, own_e_f9_c41_b12nr3_lows0_1 PL PH, own_e_f9_c41_b12nr4_runs0_1 PL PH, own_e_f9_c41_b12nr4_length0_1 PL PH, own_e_f9_c41_b12nr4_lows0_1 PL PH]
  exact own_k4r PL PH (bd_mono own_d_f9_c41_b12nr3_length0_1 (by decide)) (bd_mono own_d_f9_c41_b12nr4_length0_1 (by decide)) (bd_mono own_d_f9_c41_b12nr3_lows0_1 (by decide)) (bd_mono own_d_f9_c41_b12nr4_lows0_1 (by decide))
theorem own_e_f9_c41_b12nr2_length0_1 {L L' H H' : Int32} (PL : ∀ y, bd 3 y → ((y < L ↔ y < L') ∧ (y < L - 1 ↔ y < L' - 1))) (PH : ∀ z, bd 4 z → (H < z ↔ H' < z)) {cl0 : Int32} {cl1 : Int32} {cl2 : Int32} {ch0 : Int32} {ch1 : Int32} {ch2 : Int32} {ch3 : Int32} : (f9_c41_b12nr2_length0_1 L H cl0 cl1 cl2 ch0 ch1 ch2 ch3) = (f9_c41_b12nr2_length0_1 L' H' cl0 cl1 cl2 ch0 ch1 ch2 ch3) := by
  unfold f9_c41_b12nr2_length0_1
  rw [own_e_f9_c41_b0_lowOut0_2 PL PH, own_e_f9_c41_b12nr3_runs0_1 PL PH, own_e_f9_c41_b12nr3_length0_1 PL PH, own_e_f9_c41_b12nr3_lows0_1 PL PH, own_e_f9_c41_b12nr4_runs0_1 PL PH, own_e_f9_c41_b12nr4_length0_1 PL PH, own_e_f9_c41_b12nr4_lows0_1 PL PH]
  exact own_k4l PL PH (bd_mono own_d_f9_c41_b12nr3_length0_1 (by decide)) (bd_mono own_d_f9_c41_b12nr4_length0_1 (by decide)) (bd_mono own_d_f9_c41_b12nr3_lows0_1 (by decide)) (bd_mono own_d_f9_c41_b12nr4_lows0_1 (by decide))
theorem own_d_f9_c41_b12nr2_length0_1 {p4 : Int32} {hm : Int32} {cl0 : Int32} {cl1 : Int32} {cl2 : Int32} {ch0 : Int32} {ch1 : Int32} {ch2 : Int32} {ch3 : Int32} : bd 4 (f9_c41_b12nr2_length0_1 p4 hm cl0 cl1 cl2 ch0 ch1 ch2 ch3) := by
  unfold f9_c41_b12nr2_length0_1; exact bd_mono (own_b4length _ _ _ _ _ _ _ _ _ _ _ (i := 3) (bd_mono own_d_f9_c41_b12nr3_length0_1 (by decide)) (bd_mono own_d_f9_c41_b12nr4_length0_1 (by decide)) (by decide) (by decide)) (by decide)
theorem own_e_f9_c41_b12nr2_lows0_1 {L L' H H' : Int32} (PL : ∀ y, bd 3 y → ((y < L ↔ y < L') ∧ (y < L - 1 ↔ y < L' - 1))) (PH : ∀ z, bd 4 z → (H < z ↔ H' < z)) {cl0 : Int32} {cl1 : Int32} {cl2 : Int32} {ch0 : Int32} {ch1 : Int32} {ch2 : Int32} {ch3 : Int32} : (f9_c41_b12nr2_lows0_1 L H cl0 cl1 cl2 ch0 ch1 ch2 ch3) = (f9_c41_b12nr2_lows0_1 L' H' cl0 cl1 cl2 ch0 ch1 ch2 ch3) := by
  unfold f9_c41_b12nr2_lows0_1
  rw [own_e_f9_c41_b0_lowOut0_2 PL PH, own_e_f9_c41_b12nr3_runs0_1 PL PH, own_e_f9_c41_b12nr3_length0_1 PL PH, own_e_f9_c41_b12nr3_lows0_1 PL PH, own_e_f9_c41_b12nr4_runs0_1 PL PH, own_e_f9_c41_b12nr4_length0_1 PL PH, own_e_f9_c41_b12nr4_lows0_1 PL PH]
  exact own_k4w PL PH (bd_mono own_d_f9_c41_b12nr3_length0_1 (by decide)) (bd_mono own_d_f9_c41_b12nr4_length0_1 (by decide)) (bd_mono own_d_f9_c41_b12nr3_lows0_1 (by decide)) (bd_mono own_d_f9_c41_b12nr4_lows0_1 (by decide))
theorem own_d_f9_c41_b12nr2_lows0_1 {p4 : Int32} {hm : Int32} {cl0 : Int32} {cl1 : Int32} {cl2 : Int32} {ch0 : Int32} {ch1 : Int32} {ch2 : Int32} {ch3 : Int32} : bd 3 (f9_c41_b12nr2_lows0_1 p4 hm cl0 cl1 cl2 ch0 ch1 ch2 ch3) := by
  unfold f9_c41_b12nr2_lows0_1; exact bd_mono (own_b4lows _ _ _ _ _ _ _ _ _ _ _ (i := 3) (bd_mono own_d_f9_c41_b12nr3_lows0_1 (by decide)) (bd_mono own_d_f9_c41_b12nr4_lows0_1 (by decide)) (by decide) (by decide)) (by decide)
theorem own_e_f8_c61_b31nr3_runs0 {L L' H H' : Int32} (PL : ∀ y, bd 3 y → ((y < L ↔ y < L') ∧ (y < L - 1 ↔ y < L' - 1))) (PH : ∀ z, bd 4 z → (H < z ↔ H' < z)) {cl3 : Int32} : (f8_c61_b31nr3_runs0 L H cl3) = (f8_c61_b31nr3_runs0 L' H' cl3) := by
  unfold f8_c61_b31nr3_runs0
  exact own_k3r PL PH (bd_0 (by decide)) (bd_0 (by decide)) (bd_0 (by decide)) (bd_0 (by decide))
theorem own_e_f8_c61_b31nr3_length0 {L L' H H' : Int32} (PL : ∀ y, bd 3 y → ((y < L ↔ y < L') ∧ (y < L - 1 ↔ y < L' - 1))) (PH : ∀ z, bd 4 z → (H < z ↔ H' < z)) {cl3 : Int32} : (f8_c61_b31nr3_length0 L H cl3) = (f8_c61_b31nr3_length0 L' H' cl3) := by
  unfold f8_c61_b31nr3_length0
  exact own_k3l PL PH (bd_0 (by decide)) (bd_0 (by decide)) (bd_0 (by decide)) (bd_0 (by decide))
theorem own_d_f8_c61_b31nr3_length0 {p4 : Int32} {hm : Int32} {cl3 : Int32} : bd 1 (f8_c61_b31nr3_length0 p4 hm cl3) := by
  unfold f8_c61_b31nr3_length0; exact bd_mono (own_b3length _ _ _ _ _ _ _ _ _ _ (i := 0) (bd_0 (by decide)) (bd_0 (by decide)) (by decide) (by decide)) (by decide)
theorem own_e_f8_c61_b31nr3_lows0 {L L' H H' : Int32} (PL : ∀ y, bd 3 y → ((y < L ↔ y < L') ∧ (y < L - 1 ↔ y < L' - 1))) (PH : ∀ z, bd 4 z → (H < z ↔ H' < z)) {cl3 : Int32} : (f8_c61_b31nr3_lows0 L H cl3) = (f8_c61_b31nr3_lows0 L' H' cl3) := by
  unfold f8_c61_b31nr3_lows0
  exact own_k3w PL PH (bd_0 (by decide)) (bd_0 (by decide)) (bd_0 (by decide)) (bd_0 (by decide))
theorem own_d_f8_c61_b31nr3_lows0 {p4 : Int32} {hm : Int32} {cl3 : Int32} : bd 1 (f8_c61_b31nr3_lows0 p4 hm cl3) := by
  unfold f8_c61_b31nr3_lows0; exact bd_mono (own_b3lows _ _ _ _ _ _ _ _ _ _ (i := 0) (bd_0 (by decide)) (bd_0 (by decide)) (by decide) (by decide)) (by decide)
theorem own_e_f8_c61_b31nr4_runs0 {L L' H H' : Int32} (PL : ∀ y, bd 3 y → ((y < L ↔ y < L') ∧ (y < L - 1 ↔ y < L' - 1))) (PH : ∀ z, bd 4 z → (H < z ↔ H' < z)) {ch3 : Int32} : (f8_c61_b31nr4_runs0 L H ch3) = (f8_c61_b31nr4_runs0 L' H' ch3) := by
  unfold f8_c61_b31nr4_runs0
  exact own_k4r PL PH (bd_0 (by decide)) (bd_0 (by decide)) (bd_0 (by decide)) (bd_0 (by decide))
theorem own_e_f8_c61_b31nr4_length0 {L L' H H' : Int32} (PL : ∀ y, bd 3 y → ((y < L ↔ y < L') ∧ (y < L - 1 ↔ y < L' - 1))) (PH : ∀ z, bd 4 z → (H < z ↔ H' < z)) {ch3 : Int32} : (f8_c61_b31nr4_length0 L H ch3) = (f8_c61_b31nr4_length0 L' H' ch3) := by
  unfold f8_c61_b31nr4_length0
  exact own_k4l PL PH (bd_0 (by decide)) (bd_0 (by decide)) (bd_0 (by decide)) (bd_0 (by decide))
theorem own_d_f8_c61_b31nr4_length0 {p4 : Int32} {hm : Int32} {ch3 : Int32} : bd 1 (f8_c61_b31nr4_length0 p4 hm ch3) := by
  unfold f8_c61_b31nr4_length0; exact bd_mono (own_b4length _ _ _ _ _ _ _ _ _ _ _ (i := 0) (bd_0 (by decide)) (bd_0 (by decide)) (by decide) (by decide)) (by decide)
theorem own_e_f8_c61_b31nr4_lows0 {L L' H H' : Int32} (PL : ∀ y, bd 3 y → ((y < L ↔ y < L') ∧ (y < L - 1 ↔ y < L' - 1))) (PH : ∀ z, bd 4 z → (H < z ↔ H' < z)) {ch3 : Int32} : (f8_c61_b31nr4_lows0 L H ch3) = (f8_c61_b31nr4_lows0 L' H' ch3) := by
  unfold f8_c61_b31nr4_lows0
  exact own_k4w PL PH (bd_0 (by decide)) (bd_0 (by decide)) (bd_0 (by decide)) (bd_0 (by decide))
theorem own_d_f8_c61_b31nr4_lows0 {p4 : Int32} {hm : Int32} {ch3 : Int32} : bd 0 (f8_c61_b31nr4_lows0 p4 hm ch3) := by
  unfold f8_c61_b31nr4_lows0; exact bd_mono (own_b4lows _ _ _ _ _ _ _ _ _ _ _ (i := 0) (bd_0 (by decide)) (bd_0 (by decide)) (by decide) (by decide)) (by decide)
theorem own_e_f8_c61_b19_lowOut0_1 {L L' H H' : Int32} (PL : ∀ y, bd 3 y → ((y < L ↔ y < L') ∧ (y < L - 1 ↔ y < L' - 1))) (PH : ∀ z, bd 4 z → (H < z ↔ H' < z)) {cl2 : Int32} {cl3 : Int32} {ch3 : Int32} : (f8_c61_b19_lowOut0_1 L H cl2 cl3 ch3) = (f8_c61_b19_lowOut0_1 L' H' cl2 cl3 ch3) := by
  unfold f8_c61_b19_lowOut0_1
  rw [own_e_f8_c61_b31nr4_runs0 PL PH]
theorem own_e_f8_c61_b31nr1_runs0 {L L' H H' : Int32} (PL : ∀ y, bd 3 y → ((y < L ↔ y < L') ∧ (y < L - 1 ↔ y < L' - 1))) (PH : ∀ z, bd 4 z → (H < z ↔ H' < z)) {cl2 : Int32} {cl3 : Int32} {ch3 : Int32} : (f8_c61_b31nr1_runs0 L H cl2 cl3 ch3) = (f8_c61_b31nr1_runs0 L' H' cl2 cl3 ch3) := by
  unfold f8_c61_b31nr1_runs0
  rw [own_e_f8_c61_b31nr3_runs0 PL PH, own_e_f8_c61_b31nr3_length0 PL PH, own_e_f8_c61_b31nr3_lows0 PL PH, own_e_f8_c61_b31nr4_runs0 PL PH, own_e_f8_c61_b31nr4_length0 PL PH, own_e_f8_c61_b31nr4_lows0 PL PH]
  exact own_k3r PL PH (bd_mono own_d_f8_c61_b31nr3_length0 (by decide)) (bd_mono own_d_f8_c61_b31nr4_length0 (by decide)) (bd_mono own_d_f8_c61_b31nr3_lows0 (by decide)) (bd_mono own_d_f8_c61_b31nr4_lows0 (by decide))
theorem own_e_f8_c61_b31nr1_length0 {L L' H H' : Int32} (PL : ∀ y, bd 3 y → ((y < L ↔ y < L') ∧ (y < L - 1 ↔ y < L' - 1))) (PH : ∀ z, bd 4 z → (H < z ↔ H' < z)) {cl2 : Int32} {cl3 : Int32} {ch3 : Int32} : (f8_c61_b31nr1_length0 L H cl2 cl3 ch3) = (f8_c61_b31nr1_length0 L' H' cl2 cl3 ch3) := by
  unfold f8_c61_b31nr1_length0
  rw [own_e_f8_c61_b31nr3_runs0 PL PH, own_e_f8_c61_b31nr3_length0 PL PH, own_e_f8_c61_b31nr3_lows0 PL PH, own_e_f8_c61_b31nr4_runs0 PL PH, own_e_f8_c61_b31nr4_length0 PL PH, own_e_f8_c61_b31nr4_lows0 PL PH]
  exact own_k3l PL PH (bd_mono own_d_f8_c61_b31nr3_length0 (by decide)) (bd_mono own_d_f8_c61_b31nr4_length0 (by decide)) (bd_mono own_d_f8_c61_b31nr3_lows0 (by decide)) (bd_mono own_d_f8_c61_b31nr4_lows0 (by decide))
theorem own_d_f8_c61_b31nr1_length0 {p4 : Int32} {hm : Int32} {cl2 : Int32} {cl3 : Int32} {ch3 : Int32} : bd 2 (f8_c61_b31nr1_length0 p4 hm cl2 cl3 ch3) := by
  unfold f8_c61_b31nr1_length0; exact bd_mono (own_b3length _ _ _ _ _ _ _ _ _ _ (i := 1) (bd_mono own_d_f8_c61_b31nr3_length0 (by decide)) (bd_mono own_d_f8_c61_b31nr4_length0 (by decide)) (by decide) (by decide)) (by decide)
theorem own_e_f8_c61_b31nr1_lows0 {L L' H H' : Int32} (PL : ∀ y, bd 3 y → ((y < L ↔ y < L') ∧ (y < L - 1 ↔ y < L' - 1))) (PH : ∀ z, bd 4 z → (H < z ↔ H' < z)) {cl2 : Int32} {cl3 : Int32} {ch3 : Int32} : (f8_c61_b31nr1_lows0 L H cl2 cl3 ch3) = (f8_c61_b31nr1_lows0 L' H' cl2 cl3 ch3) := by
  unfold f8_c61_b31nr1_lows0
  rw [own_e_f8_c61_b31nr3_runs0 PL PH, own_e_f8_c61_b31nr3_length0 PL PH, own_e_f8_c61_b31nr3_lows0 PL PH, own_e_f8_c61_b31nr4_runs0 PL PH, own_e_f8_c61_b31nr4_length0 PL PH, own_e_f8_c61_b31nr4_lows0 PL PH]
  exact own_k3w PL PH (bd_mono own_d_f8_c61_b31nr3_length0 (by decide)) (bd_mono own_d_f8_c61_b31nr4_length0 (by decide)) (bd_mono own_d_f8_c61_b31nr3_lows0 (by decide)) (bd_mono own_d_f8_c61_b31nr4_lows0 (by decide))
theorem own_d_f8_c61_b31nr1_lows0 {p4 : Int32} {hm : Int32} {cl2 : Int32} {cl3 : Int32} {ch3 : Int32} : bd 2 (f8_c61_b31nr1_lows0 p4 hm cl2 cl3 ch3) := by
  unfold f8_c61_b31nr1_lows0; exact bd_mono (own_b3lows _ _ _ _ _ _ _ _ _ _ (i := 1) (bd_mono own_d_f8_c61_b31nr3_lows0 (by decide)) (bd_mono own_d_f8_c61_b31nr4_lows0 (by decide)) (by decide) (by decide)) (by decide)
theorem own_e_f8_c61_b31nr2_runs0 {L L' H H' : Int32} (PL : ∀ y, bd 3 y → ((y < L ↔ y < L') ∧ (y < L - 1 ↔ y < L' - 1))) (PH : ∀ z, bd 4 z → (H < z ↔ H' < z)) {cl3 : Int32} {ch2 : Int32} {ch3 : Int32} : (f8_c61_b31nr2_runs0 L H cl3 ch2 ch3) = (f8_c61_b31nr2_runs0 L' H' cl3 ch2 ch3) := by
  unfold f8_c61_b31nr2_runs0
  rw [own_e_f8_c61_b31nr3_runs0 PL PH, own_e_f8_c61_b31nr3_length0 PL PH, own_e_f8_c61_b31nr3_lows0 PL PH, own_e_f8_c61_b31nr4_runs0 PL PH, own_e_f8_c61_b31nr4_length0 PL PH, own_e_f8_c61_b31nr4_lows0 PL PH]
  exact own_k4r PL PH (bd_mono own_d_f8_c61_b31nr3_length0 (by decide)) (bd_mono own_d_f8_c61_b31nr4_length0 (by decide)) (bd_mono own_d_f8_c61_b31nr3_lows0 (by decide)) (bd_mono own_d_f8_c61_b31nr4_lows0 (by decide))
theorem own_e_f8_c61_b31nr2_length0 {L L' H H' : Int32} (PL : ∀ y, bd 3 y → ((y < L ↔ y < L') ∧ (y < L - 1 ↔ y < L' - 1))) (PH : ∀ z, bd 4 z → (H < z ↔ H' < z)) {cl3 : Int32} {ch2 : Int32} {ch3 : Int32} : (f8_c61_b31nr2_length0 L H cl3 ch2 ch3) = (f8_c61_b31nr2_length0 L' H' cl3 ch2 ch3) := by
  unfold f8_c61_b31nr2_length0
  rw [own_e_f8_c61_b31nr3_runs0 PL PH, own_e_f8_c61_b31nr3_length0 PL PH, own_e_f8_c61_b31nr3_lows0 PL PH, own_e_f8_c61_b31nr4_runs0 PL PH, own_e_f8_c61_b31nr4_length0 PL PH, own_e_f8_c61_b31nr4_lows0 PL PH]
  exact own_k4l PL PH (bd_mono own_d_f8_c61_b31nr3_length0 (by decide)) (bd_mono own_d_f8_c61_b31nr4_length0 (by decide)) (bd_mono own_d_f8_c61_b31nr3_lows0 (by decide)) (bd_mono own_d_f8_c61_b31nr4_lows0 (by decide))
theorem own_d_f8_c61_b31nr2_length0 {p4 : Int32} {hm : Int32} {cl3 : Int32} {ch2 : Int32} {ch3 : Int32} : bd 2 (f8_c61_b31nr2_length0 p4 hm cl3 ch2 ch3) := by
  unfold f8_c61_b31nr2_length0; exact bd_mono (own_b4length _ _ _ _ _ _ _ _ _ _ _ (i := 1) (bd_mono own_d_f8_c61_b31nr3_length0 (by decide)) (bd_mono own_d_f8_c61_b31nr4_length0 (by decide)) (by decide) (by decide)) (by decide)
theorem own_e_f8_c61_b31nr2_lows0 {L L' H H' : Int32} (PL : ∀ y, bd 3 y → ((y < L ↔ y < L') ∧ (y < L - 1 ↔ y < L' - 1))) (PH : ∀ z, bd 4 z → (H < z ↔ H' < z)) {cl3 : Int32} {ch2 : Int32} {ch3 : Int32} : (f8_c61_b31nr2_lows0 L H cl3 ch2 ch3) = (f8_c61_b31nr2_lows0 L' H' cl3 ch2 ch3) := by
  unfold f8_c61_b31nr2_lows0
  rw [own_e_f8_c61_b31nr3_runs0 PL PH, own_e_f8_c61_b31nr3_length0 PL PH, own_e_f8_c61_b31nr3_lows0 PL PH, own_e_f8_c61_b31nr4_runs0 PL PH, own_e_f8_c61_b31nr4_length0 PL PH, own_e_f8_c61_b31nr4_lows0 PL PH]
  exact own_k4w PL PH (bd_mono own_d_f8_c61_b31nr3_length0 (by decide)) (bd_mono own_d_f8_c61_b31nr4_length0 (by decide)) (bd_mono own_d_f8_c61_b31nr3_lows0 (by decide)) (bd_mono own_d_f8_c61_b31nr4_lows0 (by decide))
theorem own_d_f8_c61_b31nr2_lows0 {p4 : Int32} {hm : Int32} {cl3 : Int32} {ch2 : Int32} {ch3 : Int32} : bd 1 (f8_c61_b31nr2_lows0 p4 hm cl3 ch2 ch3) := by
  unfold f8_c61_b31nr2_lows0; exact bd_mono (own_b4lows _ _ _ _ _ _ _ _ _ _ _ (i := 1) (bd_mono own_d_f8_c61_b31nr3_lows0 (by decide)) (bd_mono own_d_f8_c61_b31nr4_lows0 (by decide)) (by decide) (by decide)) (by decide)
theorem own_e_f8_c61_b19_lowOut0_2 {L L' H H' : Int32} (PL : ∀ y, bd 3 y → ((y < L ↔ y < L') ∧ (y < L - 1 ↔ y < L' - 1))) (PH : ∀ z, bd 4 z → (H < z ↔ H' < z)) {cl1 : Int32} {cl2 : Int32} {cl3 : Int32} {ch2 : Int32} {ch3 : Int32} : (f8_c61_b19_lowOut0_2 L H cl1 cl2 cl3 ch2 ch3) = (f8_c61_b19_lowOut0_2 L' H' cl1 cl2 cl3 ch2 ch3) := by
  unfold f8_c61_b19_lowOut0_2
  rw [own_e_f8_c61_b19_lowOut0_1 PL PH, own_e_f8_c61_b31nr2_runs0 PL PH]
theorem own_e_f8_c61_b31nr3_runs0_1 {L L' H H' : Int32} (PL : ∀ y, bd 3 y → ((y < L ↔ y < L') ∧ (y < L - 1 ↔ y < L' - 1))) (PH : ∀ z, bd 4 z → (H < z ↔ H' < z)) {cl1 : Int32} {cl2 : Int32} {cl3 : Int32} {ch2 : Int32} {ch3 : Int32} : (f8_c61_b31nr3_runs0_1 L H cl1 cl2 cl3 ch2 ch3) = (f8_c61_b31nr3_runs0_1 L' H' cl1 cl2 cl3 ch2 ch3) := by
  unfold f8_c61_b31nr3_runs0_1
  rw [own_e_f8_c61_b31nr1_runs0 PL PH, own_e_f8_c61_b31nr1_length0 PL PH, own_e_f8_c61_b31nr1_lows0 PL PH, own_e_f8_c61_b31nr2_runs0 PL PH, own_e_f8_c61_b31nr2_length0 PL PH, own_e_f8_c61_b31nr2_lows0 PL PH]
  exact own_k3r PL PH (bd_mono own_d_f8_c61_b31nr1_length0 (by decide)) (bd_mono own_d_f8_c61_b31nr2_length0 (by decide)) (bd_mono own_d_f8_c61_b31nr1_lows0 (by decide)) (bd_mono own_d_f8_c61_b31nr2_lows0 (by decide))
theorem own_e_f8_c61_b31nr3_length0_1 {L L' H H' : Int32} (PL : ∀ y, bd 3 y → ((y < L ↔ y < L') ∧ (y < L - 1 ↔ y < L' - 1))) (PH : ∀ z, bd 4 z → (H < z ↔ H' < z)) {cl1 : Int32} {cl2 : Int32} {cl3 : Int32} {ch2 : Int32} {ch3 : Int32} : (f8_c61_b31nr3_length0_1 L H cl1 cl2 cl3 ch2 ch3) = (f8_c61_b31nr3_length0_1 L' H' cl1 cl2 cl3 ch2 ch3) := by
  unfold f8_c61_b31nr3_length0_1
  rw [own_e_f8_c61_b31nr1_runs0 PL PH, own_e_f8_c61_b31nr1_length0 PL PH, own_e_f8_c61_b31nr1_lows0 PL PH, own_e_f8_c61_b31nr2_runs0 PL PH, own_e_f8_c61_b31nr2_length0 PL PH, own_e_f8_c61_b31nr2_lows0 PL PH]
  exact own_k3l PL PH (bd_mono own_d_f8_c61_b31nr1_length0 (by decide)) (bd_mono own_d_f8_c61_b31nr2_length0 (by decide)) (bd_mono own_d_f8_c61_b31nr1_lows0 (by decide)) (bd_mono own_d_f8_c61_b31nr2_lows0 (by decide))
theorem own_d_f8_c61_b31nr3_length0_1 {p4 : Int32} {hm : Int32} {cl1 : Int32} {cl2 : Int32} {cl3 : Int32} {ch2 : Int32} {ch3 : Int32} : bd 3 (f8_c61_b31nr3_length0_1 p4 hm cl1 cl2 cl3 ch2 ch3) := by
  unfold f8_c61_b31nr3_length0_1; exact bd_mono (own_b3length _ _ _ _ _ _ _ _ _ _ (i := 2) (bd_mono own_d_f8_c61_b31nr1_length0 (by decide)) (bd_mono own_d_f8_c61_b31nr2_length0 (by decide)) (by decide) (by decide)) (by decide)
theorem own_e_f8_c61_b31nr3_lows0_1 {L L' H H' : Int32} (PL : ∀ y, bd 3 y → ((y < L ↔ y < L') ∧ (y < L - 1 ↔ y < L' - 1))) (PH : ∀ z, bd 4 z → (H < z ↔ H' < z)) {cl1 : Int32} {cl2 : Int32} {cl3 : Int32} {ch2 : Int32} {ch3 : Int32} : (f8_c61_b31nr3_lows0_1 L H cl1 cl2 cl3 ch2 ch3) = (f8_c61_b31nr3_lows0_1 L' H' cl1 cl2 cl3 ch2 ch3) := by
  unfold f8_c61_b31nr3_lows0_1
  rw [own_e_f8_c61_b31nr1_runs0 PL PH, own_e_f8_c61_b31nr1_length0 PL PH, own_e_f8_c61_b31nr1_lows0 PL PH, own_e_f8_c61_b31nr2_runs0 PL PH, own_e_f8_c61_b31nr2_length0 PL PH, own_e_f8_c61_b31nr2_lows0 PL PH]
  exact own_k3w PL PH (bd_mono own_d_f8_c61_b31nr1_length0 (by decide)) (bd_mono own_d_f8_c61_b31nr2_length0 (by decide)) (bd_mono own_d_f8_c61_b31nr1_lows0 (by decide)) (bd_mono own_d_f8_c61_b31nr2_lows0 (by decide))
theorem own_d_f8_c61_b31nr3_lows0_1 {p4 : Int32} {hm : Int32} {cl1 : Int32} {cl2 : Int32} {cl3 : Int32} {ch2 : Int32} {ch3 : Int32} : bd 3 (f8_c61_b31nr3_lows0_1 p4 hm cl1 cl2 cl3 ch2 ch3) := by
  unfold f8_c61_b31nr3_lows0_1; exact bd_mono (own_b3lows _ _ _ _ _ _ _ _ _ _ (i := 2) (bd_mono own_d_f8_c61_b31nr1_lows0 (by decide)) (bd_mono own_d_f8_c61_b31nr2_lows0 (by decide)) (by decide) (by decide)) (by decide)
theorem own_e_f8_c61_b31nr4_runs0_1 {L L' H H' : Int32} (PL : ∀ y, bd 3 y → ((y < L ↔ y < L') ∧ (y < L - 1 ↔ y < L' - 1))) (PH : ∀ z, bd 4 z → (H < z ↔ H' < z)) {cl2 : Int32} {cl3 : Int32} {ch1 : Int32} {ch2 : Int32} {ch3 : Int32} : (f8_c61_b31nr4_runs0_1 L H cl2 cl3 ch1 ch2 ch3) = (f8_c61_b31nr4_runs0_1 L' H' cl2 cl3 ch1 ch2 ch3) := by
  unfold f8_c61_b31nr4_runs0_1
  rw [own_e_f8_c61_b19_lowOut0_1 PL PH, own_e_f8_c61_b31nr1_runs0 PL PH, own_e_f8_c61_b31nr1_length0 PL PH, own_e_f8_c61_b31nr1_lows0 PL PH, own_e_f8_c61_b31nr2_runs0 PL PH, own_e_f8_c61_b31nr2_length0 PL PH, own_e_f8_c61_b31nr2_lows0 PL PH]
  exact own_k4r PL PH (bd_mono own_d_f8_c61_b31nr1_length0 (by decide)) (bd_mono own_d_f8_c61_b31nr2_length0 (by decide)) (bd_mono own_d_f8_c61_b31nr1_lows0 (by decide)) (bd_mono own_d_f8_c61_b31nr2_lows0 (by decide))
theorem own_e_f8_c61_b31nr4_length0_1 {L L' H H' : Int32} (PL : ∀ y, bd 3 y → ((y < L ↔ y < L') ∧ (y < L - 1 ↔ y < L' - 1))) (PH : ∀ z, bd 4 z → (H < z ↔ H' < z)) {cl2 : Int32} {cl3 : Int32} {ch1 : Int32} {ch2 : Int32} {ch3 : Int32} : (f8_c61_b31nr4_length0_1 L H cl2 cl3 ch1 ch2 ch3) = (f8_c61_b31nr4_length0_1 L' H' cl2 cl3 ch1 ch2 ch3) := by
  unfold f8_c61_b31nr4_length0_1
  rw [own_e_f8_c61_b19_lowOut0_1 PL PH, own_e_f8_c61_b31nr1_runs0 PL PH, own_e_f8_c61_b31nr1_length0 PL PH, own_e_f8_c61_b31nr1_lows0 PL PH, own_e_f8_c61_b31nr2_runs0 PL PH, own_e_f8_c61_b31nr2_length0 PL PH, own_e_f8_c61_b31nr2_lows0 PL PH]
  exact own_k4l PL PH (bd_mono own_d_f8_c61_b31nr1_length0 (by decide)) (bd_mono own_d_f8_c61_b31nr2_length0 (by decide)) (bd_mono own_d_f8_c61_b31nr1_lows0 (by decide)) (bd_mono own_d_f8_c61_b31nr2_lows0 (by decide))
theorem own_d_f8_c61_b31nr4_length0_1 {p4 : Int32} {hm : Int32} {cl2 : Int32} {cl3 : Int32} {ch1 : Int32} {ch2 : Int32} {ch3 : Int32} : bd 3 (f8_c61_b31nr4_length0_1 p4 hm cl2 cl3 ch1 ch2 ch3) := by
  unfold f8_c61_b31nr4_length0_1; exact bd_mono (own_b4length _ _ _ _ _ _ _ _ _ _ _ (i := 2) (bd_mono own_d_f8_c61_b31nr1_length0 (by decide)) (bd_mono own_d_f8_c61_b31nr2_length0 (by decide)) (by decide) (by decide)) (by decide)
theorem own_e_f8_c61_b31nr4_lows0_1 {L L' H H' : Int32} (PL : ∀ y, bd 3 y → ((y < L ↔ y < L') ∧ (y < L - 1 ↔ y < L' - 1))) (PH : ∀ z, bd 4 z → (H < z ↔ H' < z)) {cl2 : Int32} {cl3 : Int32} {ch1 : Int32} {ch2 : Int32} {ch3 : Int32} : (f8_c61_b31nr4_lows0_1 L H cl2 cl3 ch1 ch2 ch3) = (f8_c61_b31nr4_lows0_1 L' H' cl2 cl3 ch1 ch2 ch3) := by
  unfold f8_c61_b31nr4_lows0_1
  rw [own_e_f8_c61_b19_lowOut0_1 PL PH, own_e_f8_c61_b31nr1_runs0 PL PH, own_e_f8_c61_b31nr1_length0 PL PH, own_e_f8_c61_b31nr1_lows0 PL PH, own_e_f8_c61_b31nr2_runs0 PL PH, own_e_f8_c61_b31nr2_length0 PL PH, own_e_f8_c61_b31nr2_lows0 PL PH]
  exact own_k4w PL PH (bd_mono own_d_f8_c61_b31nr1_length0 (by decide)) (bd_mono own_d_f8_c61_b31nr2_length0 (by decide)) (bd_mono own_d_f8_c61_b31nr1_lows0 (by decide)) (bd_mono own_d_f8_c61_b31nr2_lows0 (by decide))
theorem own_d_f8_c61_b31nr4_lows0_1 {p4 : Int32} {hm : Int32} {cl2 : Int32} {cl3 : Int32} {ch1 : Int32} {ch2 : Int32} {ch3 : Int32} : bd 2 (f8_c61_b31nr4_lows0_1 p4 hm cl2 cl3 ch1 ch2 ch3) := by
  unfold f8_c61_b31nr4_lows0_1; exact bd_mono (own_b4lows _ _ _ _ _ _ _ _ _ _ _ (i := 2) (bd_mono own_d_f8_c61_b31nr1_lows0 (by decide)) (bd_mono own_d_f8_c61_b31nr2_lows0 (by decide)) (by decide) (by decide)) (by decide)
theorem own_e_f8_c61_b19_lowOut0_3 {L L' H H' : Int32} (PL : ∀ y, bd 3 y → ((y < L ↔ y < L') ∧ (y < L - 1 ↔ y < L' - 1))) (PH : ∀ z, bd 4 z → (H < z ↔ H' < z)) {cl0 : Int32} {cl1 : Int32} {cl2 : Int32} {cl3 : Int32} {ch1 : Int32} {ch2 : Int32} {ch3 : Int32} : (f8_c61_b19_lowOut0_3 L H cl0 cl1 cl2 cl3 ch1 ch2 ch3) = (f8_c61_b19_lowOut0_3 L' H' cl0 cl1 cl2 cl3 ch1 ch2 ch3) := by
  unfold f8_c61_b19_lowOut0_3
  rw [own_e_f8_c61_b19_lowOut0_2 PL PH, own_e_f8_c61_b31nr4_runs0_1 PL PH]
theorem own_e_f8_c61_b31nr1_runs0_1 {L L' H H' : Int32} (PL : ∀ y, bd 3 y → ((y < L ↔ y < L') ∧ (y < L - 1 ↔ y < L' - 1))) (PH : ∀ z, bd 4 z → (H < z ↔ H' < z)) {cl0 : Int32} {cl1 : Int32} {cl2 : Int32} {cl3 : Int32} {ch1 : Int32} {ch2 : Int32} {ch3 : Int32} : (f8_c61_b31nr1_runs0_1 L H cl0 cl1 cl2 cl3 ch1 ch2 ch3) = (f8_c61_b31nr1_runs0_1 L' H' cl0 cl1 cl2 cl3 ch1 ch2 ch3) := by
  unfold f8_c61_b31nr1_runs0_1
  rw [own_e_f8_c61_b31nr3_runs0_1 PL PH, own_e_f8_c61_b31nr3_length0_1 PL PH, own_e_f8_c61_b31nr3_lows0_1 PL PH, own_e_f8_c61_b31nr4_runs0_1 PL PH, own_e_f8_c61_b31nr4_length0_1 PL PH, own_e_f8_c61_b31nr4_lows0_1 PL PH]
  exact own_k3r PL PH (bd_mono own_d_f8_c61_b31nr3_length0_1 (by decide)) (bd_mono own_d_f8_c61_b31nr4_length0_1 (by decide)) (bd_mono own_d_f8_c61_b31nr3_lows0_1 (by decide)) (bd_mono own_d_f8_c61_b31nr4_lows0_1 (by decide))
theorem own_e_f8_c61_b31nr1_length0_1 {L L' H H' : Int32} (PL : ∀ y, bd 3 y → ((y < L ↔ y < L') ∧ (y < L - 1 ↔ y < L' - 1))) (PH : ∀ z, bd 4 z → (H < z ↔ H' < z)) {cl0 : Int32} {cl1 : Int32} {cl2 : Int32} {cl3 : Int32} {ch1 : Int32} {ch2 : Int32} {ch3 : Int32} : (f8_c61_b31nr1_length0_1 L H cl0 cl1 cl2 cl3 ch1 ch2 ch3) = (f8_c61_b31nr1_length0_1 L' H' cl0 cl1 cl2 cl3 ch1 ch2 ch3) := by
  unfold f8_c61_b31nr1_length0_1
  rw [own_e_f8_c61_b31nr3_runs0_1 PL PH, own_e_f8_c61_b31nr3_length0_1 PL PH, own_e_f8_c61_b31nr3_lows0_1 PL PH, own_e_f8_c61_b31nr4_runs0_1 PL PH, own_e_f8_c61_b31nr4_length0_1 PL PH, own_e_f8_c61_b31nr4_lows0_1 PL PH]
  exact own_k3l PL PH (bd_mono own_d_f8_c61_b31nr3_length0_1 (by decide)) (bd_mono own_d_f8_c61_b31nr4_length0_1 (by decide)) (bd_mono own_d_f8_c61_b31nr3_lows0_1 (by decide)) (bd_mono own_d_f8_c61_b31nr4_lows0_1 (by decide))
theorem own_d_f8_c61_b31nr1_length0_1 {p4 : Int32} {hm : Int32} {cl0 : Int32} {cl1 : Int32} {cl2 : Int32} {cl3 : Int32} {ch1 : Int32} {ch2 : Int32} {ch3 : Int32} : bd 4 (f8_c61_b31nr1_length0_1 p4 hm cl0 cl1 cl2 cl3 ch1 ch2 ch3) := by
  unfold f8_c61_b31nr1_length0_1; exact bd_mono (own_b3length _ _ _ _ _ _ _ _ _ _ (i := 3) (bd_mono own_d_f8_c61_b31nr3_length0_1 (by decide)) (bd_mono own_d_f8_c61_b31nr4_length0_1 (by decide)) (by decide) (by decide)) (by decide)
theorem own_e_f8_c61_b31nr1_lows0_1 {L L' H H' : Int32} (PL : ∀ y, bd 3 y → ((y < L ↔ y < L') ∧ (y < L - 1 ↔ y < L' - 1))) (PH : ∀ z, bd 4 z → (H < z ↔ H' < z)) {cl0 : Int32} {cl1 : Int32} {cl2 : Int32} {cl3 : Int32} {ch1 : Int32} {ch2 : Int32} {ch3 : Int32} : (f8_c61_b31nr1_lows0_1 L H cl0 cl1 cl2 cl3 ch1 ch2 ch3) = (f8_c61_b31nr1_lows0_1 L' H' cl0 cl1 cl2 cl3 ch1 ch2 ch3) := by
  unfold f8_c61_b31nr1_lows0_1
  rw [own_e_f8_c61_b31nr3_runs0_1 PL PH, own_e_f8_c61_b31nr3_length0_1 PL PH, own_e_f8_c61_b31nr3_lows0_1 PL PH, own_e_f8_c61_b31nr4_runs0_1 PL PH, own_e_f8_c61_b31nr4_length0_1 PL PH, own_e_f8_c61_b31nr4_lows0_1 PL PH]
  exact own_k3w PL PH (bd_mono own_d_f8_c61_b31nr3_length0_1 (by decide)) (bd_mono own_d_f8_c61_b31nr4_length0_1 (by decide)) (bd_mono own_d_f8_c61_b31nr3_lows0_1 (by decide)) (bd_mono own_d_f8_c61_b31nr4_lows0_1 (by decide))
theorem own_d_f8_c61_b31nr1_lows0_1 {p4 : Int32} {hm : Int32} {cl0 : Int32} {cl1 : Int32} {cl2 : Int32} {cl3 : Int32} {ch1 : Int32} {ch2 : Int32} {ch3 : Int32} : bd 4 (f8_c61_b31nr1_lows0_1 p4 hm cl0 cl1 cl2 cl3 ch1 ch2 ch3) := by
  unfold f8_c61_b31nr1_lows0_1; exact bd_mono (own_b3lows _ _ _ _ _ _ _ _ _ _ (i := 3) (bd_mono own_d_f8_c61_b31nr3_lows0_1 (by decide)) (bd_mono own_d_f8_c61_b31nr4_lows0_1 (by decide)) (by decide) (by decide)) (by decide)
theorem own_e_f8_c61_b31nr2_runs0_1 {L L' H H' : Int32} (PL : ∀ y, bd 3 y → ((y < L ↔ y < L') ∧ (y < L - 1 ↔ y < L' - 1))) (PH : ∀ z, bd 4 z → (H < z ↔ H' < z)) {cl1 : Int32} {cl2 : Int32} {cl3 : Int32} {ch0 : Int32} {ch1 : Int32} {ch2 : Int32} {ch3 : Int32} : (f8_c61_b31nr2_runs0_1 L H cl1 cl2 cl3 ch0 ch1 ch2 ch3) = (f8_c61_b31nr2_runs0_1 L' H' cl1 cl2 cl3 ch0 ch1 ch2 ch3) := by
  unfold f8_c61_b31nr2_runs0_1
  rw [own_e_f8_c61_b19_lowOut0_2 PL PH, own_e_f8_c61_b31nr3_runs0_1 PL PH, own_e_f8_c61_b31nr3_length0_1 PL PH, own_e_f8_c61_b31nr3_lows0_1 PL PH, own_e_f8_c61_b31nr4_runs0_1 PL PH, own_e_f8_c61_b31nr4_length0_1 PL PH, own_e_f8_c61_b31nr4_lows0_1 PL PH]
  exact own_k4r PL PH (bd_mono own_d_f8_c61_b31nr3_length0_1 (by decide)) (bd_mono own_d_f8_c61_b31nr4_length0_1 (by decide)) (bd_mono own_d_f8_c61_b31nr3_lows0_1 (by decide)) (bd_mono own_d_f8_c61_b31nr4_lows0_1 (by decide))
theorem own_e_f8_c61_b31nr2_length0_1 {L L' H H' : Int32} (PL : ∀ y, bd 3 y → ((y < L ↔ y < L') ∧ (y < L - 1 ↔ y < L' - 1))) (PH : ∀ z, bd 4 z → (H < z ↔ H' < z)) {cl1 : Int32} {cl2 : Int32} {cl3 : Int32} {ch0 : Int32} {ch1 : Int32} {ch2 : Int32} {ch3 : Int32} : (f8_c61_b31nr2_length0_1 L H cl1 cl2 cl3 ch0 ch1 ch2 ch3) = (f8_c61_b31nr2_length0_1 L' H' cl1 cl2 cl3 ch0 ch1 ch2 ch3) := by
  unfold f8_c61_b31nr2_length0_1
  rw [own_e_f8_c61_b19_lowOut0_2 PL PH, own_e_f8_c61_b31nr3_runs0_1 PL PH, own_e_f8_c61_b31nr3_length0_1 PL PH, own_e_f8_c61_b31nr3_lows0_1 PL PH, own_e_f8_c61_b31nr4_runs0_1 PL PH, own_e_f8_c61_b31nr4_length0_1 PL PH, own_e_f8_c61_b31nr4_lows0_1 PL PH]
  exact own_k4l PL PH (bd_mono own_d_f8_c61_b31nr3_length0_1 (by decide)) (bd_mono own_d_f8_c61_b31nr4_length0_1 (by decide)) (bd_mono own_d_f8_c61_b31nr3_lows0_1 (by decide)) (bd_mono own_d_f8_c61_b31nr4_lows0_1 (by decide))
theorem own_d_f8_c61_b31nr2_length0_1 {p4 : Int32} {hm : Int32} {cl1 : Int32} {cl2 : Int32} {cl3 : Int32} {ch0 : Int32} {ch1 : Int32} {ch2 : Int32} {ch3 : Int32} : bd 4 (f8_c61_b31nr2_length0_1 p4 hm cl1 cl2 cl3 ch0 ch1 ch2 ch3) := by
  unfold f8_c61_b31nr2_length0_1; exact bd_mono (own_b4length _ _ _ _ _ _ _ _ _ _ _ (i := 3) (bd_mono own_d_f8_c61_b31nr3_length0_1 (by decide)) (bd_mono own_d_f8_c61_b31nr4_length0_1 (by decide)) (by decide) (by decide)) (by decide)
theorem own_e_f8_c61_b31nr2_lows0_1 {L L' H H' : Int32} (PL : ∀ y, bd 3 y → ((y < L ↔ y < L') ∧ (y < L - 1 ↔ y < L' - 1))) (PH : ∀ z, bd 4 z → (H < z ↔ H' < z)) {cl1 : Int32} {cl2 : Int32} {cl3 : Int32} {ch0 : Int32} {ch1 : Int32} {ch2 : Int32} {ch3 : Int32} : (f8_c61_b31nr2_lows0_1 L H cl1 cl2 cl3 ch0 ch1 ch2 ch3) = (f8_c61_b31nr2_lows0_1 L' H' cl1 cl2 cl3 ch0 ch1 ch2 ch3) := by
  unfold f8_c61_b31nr2_lows0_1
  rw [own_e_f8_c61_b19_lowOut0_2 PL PH, own_e_f8_c61_b31nr3_runs0_1 PL PH, own_e_f8_c61_b31nr3_length0_1 PL PH, own_e_f8_c61_b31nr3_lows0_1 PL PH, own_e_f8_c61_b31nr4_runs0_1 PL PH, own_e_f8_c61_b31nr4_length0_1 PL PH, own_e_f8_c61_b31nr4_lows0_1 PL PH]
  exact own_k4w PL PH (bd_mono own_d_f8_c61_b31nr3_length0_1 (by decide)) (bd_mono own_d_f8_c61_b31nr4_length0_1 (by decide)) (bd_mono own_d_f8_c61_b31nr3_lows0_1 (by decide)) (bd_mono own_d_f8_c61_b31nr4_lows0_1 (by decide))
theorem own_d_f8_c61_b31nr2_lows0_1 {p4 : Int32} {hm : Int32} {cl1 : Int32} {cl2 : Int32} {cl3 : Int32} {ch0 : Int32} {ch1 : Int32} {ch2 : Int32} {ch3 : Int32} : bd 3 (f8_c61_b31nr2_lows0_1 p4 hm cl1 cl2 cl3 ch0 ch1 ch2 ch3) := by
  unfold f8_c61_b31nr2_lows0_1; exact bd_mono (own_b4lows _ _ _ _ _ _ _ _ _ _ _ (i := 3) (bd_mono own_d_f8_c61_b31nr3_lows0_1 (by decide)) (bd_mono own_d_f8_c61_b31nr4_lows0_1 (by decide)) (by decide) (by decide)) (by decide)
theorem own_e_f9 {L L' H H' : Int32} (PL : ∀ y, bd 3 y → ((y < L ↔ y < L') ∧ (y < L - 1 ↔ y < L' - 1))) (PH : ∀ z, bd 4 z → (H < z ↔ H' < z)) {cl0 : Int32} {cl1 : Int32} {cl2 : Int32} {cl3 : Int32} {ch0 : Int32} {ch1 : Int32} {ch2 : Int32} {ch3 : Int32} : (f9 L H cl0 cl1 cl2 cl3 ch0 ch1 ch2 ch3) = (f9 L' H' cl0 cl1 cl2 cl3 ch0 ch1 ch2 ch3) := by
  unfold f9; rw [own_e_f9_c41_b0_lowOut0_3 PL PH, own_e_f9_c41_b12nr2_runs0_1 PL PH]
def own_cap (L L' H H' : Int32) : Prop := (∀ y, bd 3 y → ((y < L ↔ y < L') ∧ (y < L - 1 ↔ y < L' - 1))) ∧ (∀ z, z.toInt ≤ 4 → (H < z ↔ H' < z)) ∧ (∀ (x y : Int32) (i j : Int), bd i x → bd j y → i + j ≤ 5 → ((L - y) < (x - 1) ↔ (L' - y) < (x - 1))) ∧ (∀ y, y.toInt ≤ 4 → (L < y ↔ L' < y))
theorem own_s1 {w z : Int32} {i j : Int} (a : bd i w) (b : bd j z) (h : i + j ≤ 5) : ((w + z) - 1).toInt ≤ 4 := by
  have g := c_iadd w z
  have g' := c_isub (w + z) 1
  have l : (1 : Int32).toInt = 1 := by decide
  have b1 := (w + z).le_toInt
  have b2 := (w + z).toInt_lt
  have b3 := ((w + z) - 1).le_toInt
  have b4 := ((w + z) - 1).toInt_lt
  unfold bd at *
  omega
theorem own_s2 {w z : Int32} {i j : Int} (a : bd i w) (b : bd j z) (h : i + j ≤ 4) : (w + z).toInt ≤ 4 := by
  have g := c_iadd w z
  have b1 := (w + z).le_toInt
  have b2 := (w + z).toInt_lt
  unfold bd at *
  omega
theorem own_f18_0 {L L' H H' p5 x3 y3 z3 u0 v0 w0 : Int32} (h1 : (L - y3) < (v0 - 1) ↔ (L' - y3) < (v0 - 1)) (h2 : H < ((w0 + z3) - 1) ↔ H' < ((w0 + z3) - 1)) : f18_0 L p5 H x3 y3 z3 u0 v0 w0 = f18_0 L' p5 H' x3 y3 z3 u0 v0 w0 := by unfold f18_0; simp only [h1, h2]
theorem own_f18_1 {L L' H H' p5 x3 y3 z3 u1 v1 w1 : Int32} (h1 : (L - y3) < (v1 - 1) ↔ (L' - y3) < (v1 - 1)) (h2 : H < ((w1 + z3) - 1) ↔ H' < ((w1 + z3) - 1)) : f18_1 L p5 H x3 y3 z3 u1 v1 w1 = f18_1 L' p5 H' x3 y3 z3 u1 v1 w1 := by unfold f18_1; simp only [h1, h2]
theorem own_f18_2 {L L' H H' p5 x3 y3 z3 u2 v2 w2 : Int32} (h1 : (L - y3) < (v2 - 1) ↔ (L' - y3) < (v2 - 1)) (h2 : H < ((w2 + z3) - 1) ↔ H' < ((w2 + z3) - 1)) : f18_2 L p5 H x3 y3 z3 u2 v2 w2 = f18_2 L' p5 H' x3 y3 z3 u2 v2 w2 := by unfold f18_2; simp only [h1, h2]
theorem own_f18_3 {L L' H H' p5 x3 y3 z3 u3 v3 w3 : Int32} (h1 : (L - y3) < (v3 - 1) ↔ (L' - y3) < (v3 - 1)) (h2 : H < ((w3 + z3) - 1) ↔ H' < ((w3 + z3) - 1)) : f18_3 L p5 H x3 y3 z3 u3 v3 w3 = f18_3 L' p5 H' x3 y3 z3 u3 v3 w3 := by unfold f18_3; simp only [h1, h2]
theorem own_e_f8_v7 {L L' H H' : Int32} (K : own_cap L L' H H') {cl0 : Int32} {cl1 : Int32} {cl2 : Int32} {cl3 : Int32} {ch0 : Int32} {ch1 : Int32} {ch2 : Int32} {ch3 : Int32} : (f8_v7 L H cl0 cl1 cl2 cl3 ch0 ch1 ch2 ch3) = (f8_v7 L' H' cl0 cl1 cl2 cl3 ch0 ch1 ch2 ch3) := by
  unfold f8_v7
  rw [own_e_f9 K.1 (fun _ b => K.2.1 _ b.2)]
theorem own_e_f8_j111_A_a2_3 {L L' H H' : Int32} (K : own_cap L L' H H') {p5 : Int32} {cl0 : Int32} {cl1 : Int32} {cl2 : Int32} {cl3 : Int32} {ch0 : Int32} {ch1 : Int32} {ch2 : Int32} : (f8_j111_A_a2_3 L p5 H cl0 cl1 cl2 cl3 ch0 ch1 ch2) = (f8_j111_A_a2_3 L' p5 H' cl0 cl1 cl2 cl3 ch0 ch1 ch2) := by
  unfold f8_j111_A_a2_3
  rw [own_e_f9_c41_b0_lowOut0_3 K.1 (fun _ b => K.2.1 _ b.2), own_e_f9_c41_b12nr1_runs0_1 K.1 (fun _ b => K.2.1 _ b.2), own_e_f9_c41_b12nr1_length0_1 K.1 (fun _ b => K.2.1 _ b.2), own_e_f9_c41_b12nr1_lows0_1 K.1 (fun _ b => K.2.1 _ b.2), own_e_f8_c61_b31nr3_runs0 K.1 (fun _ b => K.2.1 _ b.2), own_e_f8_c61_b31nr3_length0 K.1 (fun _ b => K.2.1 _ b.2), own_e_f8_c61_b31nr3_lows0 K.1 (fun _ b => K.2.1 _ b.2), own_f18_3 (K.2.2.1 _ _ _ _ own_d_f9_c41_b12nr1_length0_1 own_d_f8_c61_b31nr3_length0 (by decide)) (K.2.1 _ (own_s1 own_d_f9_c41_b12nr1_lows0_1 own_d_f8_c61_b31nr3_lows0 (by decide)))]
theorem own_e_f8_j161_s0 {L L' H H' : Int32} (K : own_cap L L' H H') {cl0 : Int32} {cl1 : Int32} {cl2 : Int32} {ch0 : Int32} {ch1 : Int32} {ch2 : Int32} {ch3 : Int32} : (f8_j161_s0 L H cl0 cl1 cl2 ch0 ch1 ch2 ch3) = (f8_j161_s0 L' H' cl0 cl1 cl2 ch0 ch1 ch2 ch3) := by
  unfold f8_j161_s0
  rw [own_e_f9_c41_b12nr2_length0_1 K.1 (fun _ b => K.2.1 _ b.2), own_e_f9_c41_b12nr2_lows0_1 K.1 (fun _ b => K.2.1 _ b.2), own_e_f8_c61_b31nr4_length0 K.1 (fun _ b => K.2.1 _ b.2), own_e_f8_c61_b31nr4_lows0 K.1 (fun _ b => K.2.1 _ b.2)]
  have q1 := K.2.2.1 (f9_c41_b12nr2_length0_1 L' H' cl0 cl1 cl2 ch0 ch1 ch2 ch3) (f8_c61_b31nr4_length0 L' H' ch3) _ _ own_d_f9_c41_b12nr2_length0_1 own_d_f8_c61_b31nr4_length0 (by decide)
  have q2 := K.2.1 _ (own_s2 (w := (f9_c41_b12nr2_lows0_1 L' H' cl0 cl1 cl2 ch0 ch1 ch2 ch3)) (z := (f8_c61_b31nr4_lows0 L' H' ch3)) own_d_f9_c41_b12nr2_lows0_1 own_d_f8_c61_b31nr4_lows0 (by decide))
  simp only [q1, q2]
theorem own_e_f8_j199_A_a3_3 {L L' H H' : Int32} (K : own_cap L L' H H') {p5 : Int32} {cl0 : Int32} {cl1 : Int32} {cl2 : Int32} {ch0 : Int32} {ch1 : Int32} {ch2 : Int32} {ch3 : Int32} : (f8_j199_A_a3_3 L p5 H cl0 cl1 cl2 ch0 ch1 ch2 ch3) = (f8_j199_A_a3_3 L' p5 H' cl0 cl1 cl2 ch0 ch1 ch2 ch3) := by
  unfold f8_j199_A_a3_3
  rw [own_e_f9_c41_b12nr2_runs0_1 K.1 (fun _ b => K.2.1 _ b.2), own_e_f8_c61_b31nr4_runs0 K.1 (fun _ b => K.2.1 _ b.2), own_e_f8_j161_s0 K]
theorem own_e_f8_j111_A_a2_2 {L L' H H' : Int32} (K : own_cap L L' H H') {p5 : Int32} {cl0 : Int32} {cl1 : Int32} {cl2 : Int32} {cl3 : Int32} {ch0 : Int32} {ch1 : Int32} {ch3 : Int32} : (f8_j111_A_a2_2 L p5 H cl0 cl1 cl2 cl3 ch0 ch1 ch3) = (f8_j111_A_a2_2 L' p5 H' cl0 cl1 cl2 cl3 ch0 ch1 ch3) := by
  unfold f8_j111_A_a2_2
  rw [own_e_f9_c41_b0_lowOut0_2 K.1 (fun _ b => K.2.1 _ b.2), own_e_f9_c41_b12nr3_runs0_1 K.1 (fun _ b => K.2.1 _ b.2), own_e_f9_c41_b12nr3_length0_1 K.1 (fun _ b => K.2.1 _ b.2), own_e_f9_c41_b12nr3_lows0_1 K.1 (fun _ b => K.2.1 _ b.2), own_e_f8_c61_b19_lowOut0_1 K.1 (fun _ b => K.2.1 _ b.2), own_e_f8_c61_b31nr1_runs0 K.1 (fun _ b => K.2.1 _ b.2), own_e_f8_c61_b31nr1_length0 K.1 (fun _ b => K.2.1 _ b.2), own_e_f8_c61_b31nr1_lows0 K.1 (fun _ b => K.2.1 _ b.2), own_f18_2 (K.2.2.1 _ _ _ _ own_d_f9_c41_b12nr3_length0_1 own_d_f8_c61_b31nr1_length0 (by decide)) (K.2.1 _ (own_s1 own_d_f9_c41_b12nr3_lows0_1 own_d_f8_c61_b31nr1_lows0 (by decide)))]
theorem own_e_f8_j161_s0_1 {L L' H H' : Int32} (K : own_cap L L' H H') {cl0 : Int32} {cl1 : Int32} {cl3 : Int32} {ch0 : Int32} {ch1 : Int32} {ch2 : Int32} {ch3 : Int32} : (f8_j161_s0_1 L H cl0 cl1 cl3 ch0 ch1 ch2 ch3) = (f8_j161_s0_1 L' H' cl0 cl1 cl3 ch0 ch1 ch2 ch3) := by
  unfold f8_j161_s0_1
  rw [own_e_f9_c41_b12nr4_length0_1 K.1 (fun _ b => K.2.1 _ b.2), own_e_f9_c41_b12nr4_lows0_1 K.1 (fun _ b => K.2.1 _ b.2), own_e_f8_c61_b31nr2_length0 K.1 (fun _ b => K.2.1 _ b.2), own_e_f8_c61_b31nr2_lows0 K.1 (fun _ b => K.2.1 _ b.2)]
  have q1 := K.2.2.1 (f9_c41_b12nr4_length0_1 L' H' cl0 cl1 ch0 ch1 ch2) (f8_c61_b31nr2_length0 L' H' cl3 ch2 ch3) _ _ own_d_f9_c41_b12nr4_length0_1 own_d_f8_c61_b31nr2_length0 (by decide)
  have q2 := K.2.1 _ (own_s2 (w := (f9_c41_b12nr4_lows0_1 L' H' cl0 cl1 ch0 ch1 ch2)) (z := (f8_c61_b31nr2_lows0 L' H' cl3 ch2 ch3)) own_d_f9_c41_b12nr4_lows0_1 own_d_f8_c61_b31nr2_lows0 (by decide))
  simp only [q1, q2]
theorem own_e_f8_j199_A_a3_2 {L L' H H' : Int32} (K : own_cap L L' H H') {p5 : Int32} {cl0 : Int32} {cl1 : Int32} {cl3 : Int32} {ch0 : Int32} {ch1 : Int32} {ch2 : Int32} {ch3 : Int32} : (f8_j199_A_a3_2 L p5 H cl0 cl1 cl3 ch0 ch1 ch2 ch3) = (f8_j199_A_a3_2 L' p5 H' cl0 cl1 cl3 ch0 ch1 ch2 ch3) := by
  unfold f8_j199_A_a3_2
  rw [own_e_f9_c41_b12nr4_runs0_1 K.1 (fun _ b => K.2.1 _ b.2), own_e_f8_c61_b31nr2_runs0 K.1 (fun _ b => K.2.1 _ b.2), own_e_f8_j161_s0_1 K]
theorem own_e_f8_j111_A_a2_1 {L L' H H' : Int32} (K : own_cap L L' H H') {p5 : Int32} {cl0 : Int32} {cl1 : Int32} {cl2 : Int32} {cl3 : Int32} {ch0 : Int32} {ch2 : Int32} {ch3 : Int32} : (f8_j111_A_a2_1 L p5 H cl0 cl1 cl2 cl3 ch0 ch2 ch3) = (f8_j111_A_a2_1 L' p5 H' cl0 cl1 cl2 cl3 ch0 ch2 ch3) := by
  unfold f8_j111_A_a2_1
  rw [own_e_f9_c41_b0_lowOut0_1 K.1 (fun _ b => K.2.1 _ b.2), own_e_f9_c41_b12nr1_runs0 K.1 (fun _ b => K.2.1 _ b.2), own_e_f9_c41_b12nr1_length0 K.1 (fun _ b => K.2.1 _ b.2), own_e_f9_c41_b12nr1_lows0 K.1 (fun _ b => K.2.1 _ b.2), own_e_f8_c61_b19_lowOut0_2 K.1 (fun _ b => K.2.1 _ b.2), own_e_f8_c61_b31nr3_runs0_1 K.1 (fun _ b => K.2.1 _ b.2), own_e_f8_c61_b31nr3_length0_1 K.1 (fun _ b => K.2.1 _ b.2), own_e_f8_c61_b31nr3_lows0_1 K.1 (fun _ b => K.2.1 _ b.2), own_f18_1 (K.2.2.1 _ _ _ _ own_d_f9_c41_b12nr1_length0 own_d_f8_c61_b31nr3_length0_1 (by decide)) (K.2.1 _ (own_s1 own_d_f9_c41_b12nr1_lows0 own_d_f8_c61_b31nr3_lows0_1 (by decide)))]
theorem own_e_f8_j161_s0_2 {L L' H H' : Int32} (K : own_cap L L' H H') {cl0 : Int32} {cl2 : Int32} {cl3 : Int32} {ch0 : Int32} {ch1 : Int32} {ch2 : Int32} {ch3 : Int32} : (f8_j161_s0_2 L H cl0 cl2 cl3 ch0 ch1 ch2 ch3) = (f8_j161_s0_2 L' H' cl0 cl2 cl3 ch0 ch1 ch2 ch3) := by
  unfold f8_j161_s0_2
  rw [own_e_f9_c41_b12nr2_length0 K.1 (fun _ b => K.2.1 _ b.2), own_e_f9_c41_b12nr2_lows0 K.1 (fun _ b => K.2.1 _ b.2), own_e_f8_c61_b31nr4_length0_1 K.1 (fun _ b => K.2.1 _ b.2), own_e_f8_c61_b31nr4_lows0_1 K.1 (fun _ b => K.2.1 _ b.2)]
  have q1 := K.2.2.1 (f9_c41_b12nr2_length0 L' H' cl0 ch0 ch1) (f8_c61_b31nr4_length0_1 L' H' cl2 cl3 ch1 ch2 ch3) _ _ own_d_f9_c41_b12nr2_length0 own_d_f8_c61_b31nr4_length0_1 (by decide)
  have q2 := K.2.1 _ (own_s2 (w := (f9_c41_b12nr2_lows0 L' H' cl0 ch0 ch1)) (z := (f8_c61_b31nr4_lows0_1 L' H' cl2 cl3 ch1 ch2 ch3)) own_d_f9_c41_b12nr2_lows0 own_d_f8_c61_b31nr4_lows0_1 (by decide))
  simp only [q1, q2]
theorem own_e_f8_j199_A_a3_1 {L L' H H' : Int32} (K : own_cap L L' H H') {p5 : Int32} {cl0 : Int32} {cl2 : Int32} {cl3 : Int32} {ch0 : Int32} {ch1 : Int32} {ch2 : Int32} {ch3 : Int32} : (f8_j199_A_a3_1 L p5 H cl0 cl2 cl3 ch0 ch1 ch2 ch3) = (f8_j199_A_a3_1 L' p5 H' cl0 cl2 cl3 ch0 ch1 ch2 ch3) := by
  unfold f8_j199_A_a3_1
  rw [own_e_f9_c41_b12nr2_runs0 K.1 (fun _ b => K.2.1 _ b.2), own_e_f8_c61_b31nr4_runs0_1 K.1 (fun _ b => K.2.1 _ b.2), own_e_f8_j161_s0_2 K]
theorem own_e_f8_j111_A_a2_0 {L L' H H' : Int32} (K : own_cap L L' H H') {p5 : Int32} {cl0 : Int32} {cl1 : Int32} {cl2 : Int32} {cl3 : Int32} {ch1 : Int32} {ch2 : Int32} {ch3 : Int32} : (f8_j111_A_a2_0 L p5 H cl0 cl1 cl2 cl3 ch1 ch2 ch3) = (f8_j111_A_a2_0 L' p5 H' cl0 cl1 cl2 cl3 ch1 ch2 ch3) := by
  unfold f8_j111_A_a2_0
  rw [own_e_f9_c41_b12nr3_runs0 K.1 (fun _ b => K.2.1 _ b.2), own_e_f9_c41_b12nr3_length0 K.1 (fun _ b => K.2.1 _ b.2), own_e_f9_c41_b12nr3_lows0 K.1 (fun _ b => K.2.1 _ b.2), own_e_f8_c61_b19_lowOut0_3 K.1 (fun _ b => K.2.1 _ b.2), own_e_f8_c61_b31nr1_runs0_1 K.1 (fun _ b => K.2.1 _ b.2), own_e_f8_c61_b31nr1_length0_1 K.1 (fun _ b => K.2.1 _ b.2), own_e_f8_c61_b31nr1_lows0_1 K.1 (fun _ b => K.2.1 _ b.2), own_f18_0 (K.2.2.1 _ _ _ _ own_d_f9_c41_b12nr3_length0 own_d_f8_c61_b31nr1_length0_1 (by decide)) (K.2.1 _ (own_s1 own_d_f9_c41_b12nr3_lows0 own_d_f8_c61_b31nr1_lows0_1 (by decide)))]
theorem own_e_f8_j161_s0_3 {L L' H H' : Int32} (K : own_cap L L' H H') {cl1 : Int32} {cl2 : Int32} {cl3 : Int32} {ch0 : Int32} {ch1 : Int32} {ch2 : Int32} {ch3 : Int32} : (f8_j161_s0_3 L H cl1 cl2 cl3 ch0 ch1 ch2 ch3) = (f8_j161_s0_3 L' H' cl1 cl2 cl3 ch0 ch1 ch2 ch3) := by
  unfold f8_j161_s0_3
  rw [own_e_f9_c41_b12nr4_length0 K.1 (fun _ b => K.2.1 _ b.2), own_e_f9_c41_b12nr4_lows0 K.1 (fun _ b => K.2.1 _ b.2), own_e_f8_c61_b31nr2_length0_1 K.1 (fun _ b => K.2.1 _ b.2), own_e_f8_c61_b31nr2_lows0_1 K.1 (fun _ b => K.2.1 _ b.2)]
  have q1 := K.2.2.1 (f9_c41_b12nr4_length0 L' H' ch0) (f8_c61_b31nr2_length0_1 L' H' cl1 cl2 cl3 ch0 ch1 ch2 ch3) _ _ own_d_f9_c41_b12nr4_length0 own_d_f8_c61_b31nr2_length0_1 (by decide)
  have q2 := K.2.1 _ (own_s2 (w := (f9_c41_b12nr4_lows0 L' H' ch0)) (z := (f8_c61_b31nr2_lows0_1 L' H' cl1 cl2 cl3 ch0 ch1 ch2 ch3)) own_d_f9_c41_b12nr4_lows0 own_d_f8_c61_b31nr2_lows0_1 (by decide))
  simp only [q1, q2]
theorem own_e_f8_j199_A_a3_0 {L L' H H' : Int32} (K : own_cap L L' H H') {p5 : Int32} {cl1 : Int32} {cl2 : Int32} {cl3 : Int32} {ch0 : Int32} {ch1 : Int32} {ch2 : Int32} {ch3 : Int32} : (f8_j199_A_a3_0 L p5 H cl1 cl2 cl3 ch0 ch1 ch2 ch3) = (f8_j199_A_a3_0 L' p5 H' cl1 cl2 cl3 ch0 ch1 ch2 ch3) := by
  unfold f8_j199_A_a3_0
  rw [own_e_f9_c41_b12nr4_runs0 K.1 (fun _ b => K.2.1 _ b.2), own_e_f8_c61_b31nr2_runs0_1 K.1 (fun _ b => K.2.1 _ b.2), own_e_f8_j161_s0_3 K]
theorem own_e_f8_o_A_a2_0 {L L' H H' : Int32} (K : own_cap L L' H H') {p5 : Int32} {cl0 : Int32} {cl1 : Int32} {cl2 : Int32} {cl3 : Int32} {ch0 : Int32} {ch1 : Int32} {ch2 : Int32} {ch3 : Int32} : (f8_o_A_a2_0 L p5 H cl0 cl1 cl2 cl3 ch0 ch1 ch2 ch3) = (f8_o_A_a2_0 L' p5 H' cl0 cl1 cl2 cl3 ch0 ch1 ch2 ch3) := by
  unfold f8_o_A_a2_0
  rw [own_e_f8_v7 K, own_e_f8_j111_A_a2_0 K]
theorem own_e_f8_o_A_a2_1 {L L' H H' : Int32} (K : own_cap L L' H H') {p5 : Int32} {cl0 : Int32} {cl1 : Int32} {cl2 : Int32} {cl3 : Int32} {ch0 : Int32} {ch1 : Int32} {ch2 : Int32} {ch3 : Int32} : (f8_o_A_a2_1 L p5 H cl0 cl1 cl2 cl3 ch0 ch1 ch2 ch3) = (f8_o_A_a2_1 L' p5 H' cl0 cl1 cl2 cl3 ch0 ch1 ch2 ch3) := by
  unfold f8_o_A_a2_1
  rw [own_e_f8_v7 K, own_e_f8_j111_A_a2_1 K]
theorem own_e_f8_o_A_a2_2 {L L' H H' : Int32} (K : own_cap L L' H H') {p5 : Int32} {cl0 : Int32} {cl1 : Int32} {cl2 : Int32} {cl3 : Int32} {ch0 : Int32} {ch1 : Int32} {ch2 : Int32} {ch3 : Int32} : (f8_o_A_a2_2 L p5 H cl0 cl1 cl2 cl3 ch0 ch1 ch2 ch3) = (f8_o_A_a2_2 L' p5 H' cl0 cl1 cl2 cl3 ch0 ch1 ch2 ch3) := by
  unfold f8_o_A_a2_2
  rw [own_e_f8_v7 K, own_e_f8_j111_A_a2_2 K]
theorem own_e_f8_o_A_a2_3 {L L' H H' : Int32} (K : own_cap L L' H H') {p5 : Int32} {cl0 : Int32} {cl1 : Int32} {cl2 : Int32} {cl3 : Int32} {ch0 : Int32} {ch1 : Int32} {ch2 : Int32} {ch3 : Int32} : (f8_o_A_a2_3 L p5 H cl0 cl1 cl2 cl3 ch0 ch1 ch2 ch3) = (f8_o_A_a2_3 L' p5 H' cl0 cl1 cl2 cl3 ch0 ch1 ch2 ch3) := by
  unfold f8_o_A_a2_3
  rw [own_e_f8_v7 K, own_e_f8_j111_A_a2_3 K]
theorem own_e_f8_o_A_a3_0 {L L' H H' : Int32} (K : own_cap L L' H H') {p5 : Int32} {cl0 : Int32} {cl1 : Int32} {cl2 : Int32} {cl3 : Int32} {ch0 : Int32} {ch1 : Int32} {ch2 : Int32} {ch3 : Int32} : (f8_o_A_a3_0 L p5 H cl0 cl1 cl2 cl3 ch0 ch1 ch2 ch3) = (f8_o_A_a3_0 L' p5 H' cl0 cl1 cl2 cl3 ch0 ch1 ch2 ch3) := by
  unfold f8_o_A_a3_0
  rw [own_e_f8_v7 K, own_e_f8_j199_A_a3_0 K]
theorem own_e_f8_o_A_a3_1 {L L' H H' : Int32} (K : own_cap L L' H H') {p5 : Int32} {cl0 : Int32} {cl1 : Int32} {cl2 : Int32} {cl3 : Int32} {ch0 : Int32} {ch1 : Int32} {ch2 : Int32} {ch3 : Int32} : (f8_o_A_a3_1 L p5 H cl0 cl1 cl2 cl3 ch0 ch1 ch2 ch3) = (f8_o_A_a3_1 L' p5 H' cl0 cl1 cl2 cl3 ch0 ch1 ch2 ch3) := by
  unfold f8_o_A_a3_1
  rw [own_e_f8_v7 K, own_e_f8_j199_A_a3_1 K]
theorem own_e_f8_o_A_a3_2 {L L' H H' : Int32} (K : own_cap L L' H H') {p5 : Int32} {cl0 : Int32} {cl1 : Int32} {cl2 : Int32} {cl3 : Int32} {ch0 : Int32} {ch1 : Int32} {ch2 : Int32} {ch3 : Int32} : (f8_o_A_a3_2 L p5 H cl0 cl1 cl2 cl3 ch0 ch1 ch2 ch3) = (f8_o_A_a3_2 L' p5 H' cl0 cl1 cl2 cl3 ch0 ch1 ch2 ch3) := by
  unfold f8_o_A_a3_2
  rw [own_e_f8_v7 K, own_e_f8_j199_A_a3_2 K]
theorem own_e_f8_o_A_a3_3 {L L' H H' : Int32} (K : own_cap L L' H H') {p5 : Int32} {cl0 : Int32} {cl1 : Int32} {cl2 : Int32} {cl3 : Int32} {ch0 : Int32} {ch1 : Int32} {ch2 : Int32} {ch3 : Int32} : (f8_o_A_a3_3 L p5 H cl0 cl1 cl2 cl3 ch0 ch1 ch2 ch3) = (f8_o_A_a3_3 L' p5 H' cl0 cl1 cl2 cl3 ch0 ch1 ch2 ch3) := by
  unfold f8_o_A_a3_3
  rw [own_e_f8_v7 K, own_e_f8_j199_A_a3_3 K]
theorem own_e_f8 {L L' H H' : Int32} (K : own_cap L L' H H') {p5 : Int32} {cl0 : Int32} {cl1 : Int32} {cl2 : Int32} {cl3 : Int32} {ch0 : Int32} {ch1 : Int32} {ch2 : Int32} {ch3 : Int32} : (f8 L p5 H cl0 cl1 cl2 cl3 ch0 ch1 ch2 ch3) = (f8 L' p5 H' cl0 cl1 cl2 cl3 ch0 ch1 ch2 ch3) := by
  unfold f8
  rw [own_e_f8_v7 K]
theorem own_t0 {L L' H H' p2 p3 s0 s1 s2 : Int32} (K : own_cap L L' H H') (b3 : bd 3 p3) (b1 : bd 3 s1) (b2 : bd 3 s2) : f4_o_A_a1_0 p2 p3 L H s0 s1 s2 = f4_o_A_a1_0 p2 p3 L' H' s0 s1 s2 ∧ f4_o_A_a1_1 p2 p3 L H s0 s1 s2 = f4_o_A_a1_1 p2 p3 L' H' s0 s1 s2 ∧ f4_o_A_a1_2 p2 p3 L H s0 s1 s2 = f4_o_A_a1_2 p2 p3 L' H' s0 s1 s2 := by
  have g1 := c_isub p3 s1
  have g2 := c_iadd (p3 - s1) 1
  have g3 := c_iadd s2 1
  have g4 := c_isub ((p3 - s1) + 1) (s2 + 1)
  have l : (1 : Int32).toInt = 1 := by decide
  have x1 := (p3 - s1).le_toInt
  have x2 := (p3 - s1).toInt_lt
  have x3 := ((p3 - s1) + 1).le_toInt
  have x4 := ((p3 - s1) + 1).toInt_lt
  have x5 := (s2 + 1).le_toInt
  have x6 := (s2 + 1).toInt_lt
  have x7 := (((p3 - s1) + 1) - (s2 + 1)).le_toInt
  have x8 := (((p3 - s1) + 1) - (s2 + 1)).toInt_lt
  unfold bd at *
  have h1 := K.2.2.2 (f4_v22 p3 s1) (by unfold f4_v22; omega)
  have h2 := K.2.1 (f4_v32 p3 s1 s2) (by unfold f4_v32 f4_v22; omega)
  unfold f4_o_A_a1_0 f4_o_A_a1_1 f4_o_A_a1_2
  simp only [h1, h2, and_self]
theorem own_t1 {L H p2 p3 s0 s1 s2 : Int32} (b3 : bd 3 p3) (b1 : bd 3 s1) : bd 3 (f4_o_A_a1_1 p2 p3 L H s0 s1 s2) := by
  unfold f4_o_A_a1_1
  repeat' split
  all_goals assumption
theorem own_t2 {L H p2 p3 s0 s1 s2 : Int32} {i : Int} (b2 : bd i s2) (h0 : 0 ≤ i) (h1 : i ≤ 1000) : bd (i + 1) (f4_o_A_a1_2 p2 p3 L H s0 s1 s2) := by
  unfold f4_o_A_a1_2 f4_w54
  repeat' split
  all_goals first | exact bd_mono b2 (by omega) | exact bd_1 (by omega) | exact bd_add1 b2 h1
instance own_bdD (i : Int) (x : Int32) : Decidable (bd i x) := by unfold bd; infer_instance
theorem own_cost {L L' H H' : Int32} (K : own_cap L L' H H') (a : Int32) : f3 a L H = f3 a L' H' := by
  have z0 := (own_t0 (p2 := a) (s0 := 0) K (p3 := 0) (s1 := 0) (s2 := 0) (bd_0 (by decide)) (bd_0 (by decide)) (bd_0 (by decide)))
  have e00 : f3_c9_b10 a L H = f3_c9_b10 a L' H' := z0.1
  have e01 : f3_c9_b11 a L H = f3_c9_b11 a L' H' := z0.2.1
  have e02 : f3_c9_b12 a L H = f3_c9_b12 a L' H' := z0.2.2
  have u0 : bd 3 (f3_c9_b11 a L' H') := own_t1 (by decide) (bd_0 (by decide))
  have w0 : bd 1 (f3_c9_b12 a L' H') := own_t2 (i := 0) (bd_0 (by decide)) (by decide) (by decide)
  have z1 := (own_t0 (p2 := a) (s0 := f3_c9_b10 a L' H') K (p3 := 1) (s1 := f3_c9_b11 a L' H') (s2 := f3_c9_b12 a L' H') (by decide) u0 (bd_mono w0 (by decide)))
  have e10 : f3_c17_b10 a L H = f3_c17_b10 a L' H' := by unfold f3_c17_b10; rw [e00, e01, e02]; exact z1.1
  have e11 : f3_c17_b11 a L H = f3_c17_b11 a L' H' := by unfold f3_c17_b11; rw [e00, e01, e02]; exact z1.2.1
  have e12 : f3_c17_b12 a L H = f3_c17_b12 a L' H' := by unfold f3_c17_b12; rw [e00, e01, e02]; exact z1.2.2
  have u1 : bd 3 (f3_c17_b11 a L' H') := own_t1 (by decide) u0
  have w1 : bd 2 (f3_c17_b12 a L' H') := own_t2 (i := 1) w0 (by decide) (by decide)
  have z2 := (own_t0 (p2 := a) (s0 := f3_c17_b10 a L' H') K (p3 := 2) (s1 := f3_c17_b11 a L' H') (s2 := f3_c17_b12 a L' H') (by decide) u1 (bd_mono w1 (by decide)))
  have e20 : f3_c25_b10 a L H = f3_c25_b10 a L' H' := by unfold f3_c25_b10; rw [e10, e11, e12]; exact z2.1
  have e21 : f3_c25_b11 a L H = f3_c25_b11 a L' H' := by unfold f3_c25_b11; rw [e10, e11, e12]; exact z2.2.1
  have e22 : f3_c25_b12 a L H = f3_c25_b12 a L' H' := by unfold f3_c25_b12; rw [e10, e11, e12]; exact z2.2.2
  have u2 : bd 3 (f3_c25_b11 a L' H') := own_t1 (by decide) u1
  have w2 : bd 3 (f3_c25_b12 a L' H') := own_t2 (i := 2) w1 (by decide) (by decide)
  have z3 := (own_t0 (p2 := a) (s0 := f3_c25_b10 a L' H') K (p3 := 3) (s1 := f3_c25_b11 a L' H') (s2 := f3_c25_b12 a L' H') (by decide) u2 (bd_mono w2 (by decide)))
  have e30 : f3_c33_b10 a L H = f3_c33_b10 a L' H' := by unfold f3_c33_b10; rw [e20, e21, e22]; exact z3.1
  have e31 : f3_c33_b11 a L H = f3_c33_b11 a L' H' := by unfold f3_c33_b11; rw [e20, e21, e22]; exact z3.2.1
  have e32 : f3_c33_b12 a L H = f3_c33_b12 a L' H' := by unfold f3_c33_b12; rw [e20, e21, e22]; exact z3.2.2
  exact e30
theorem own_f2_0 {L L' H H' : Int32} (K : own_cap L L' H H') (p2 p3 p4 p7 x : Int32) : f2_o_A_a1_0 p2 p3 p4 L H p7 x = f2_o_A_a1_0 p2 p3 p4 L' H' p7 x := by unfold f2_o_A_a1_0 f2_w46; rw [own_cost K]
theorem own_f2_1 {L L' H H' : Int32} (K : own_cap L L' H H') (p2 p3 p4 p7 x : Int32) : f2_o_A_a1_1 p2 p3 p4 L H p7 x = f2_o_A_a1_1 p2 p3 p4 L' H' p7 x := by unfold f2_o_A_a1_1; rw [own_cost K]
theorem own_f2_2 {L L' H H' : Int32} (K : own_cap L L' H H') (p2 p3 p4 p7 x : Int32) : f2_o_A_a1_2 p2 p3 p4 L H p7 x = f2_o_A_a1_2 p2 p3 p4 L' H' p7 x := by unfold f2_o_A_a1_2; rw [own_cost K]
def own_fl (k : Int32) : Int32 := nar .boolean (if k = 1 then 0 else 1)
def own_fh (k : Int32) : Int32 := nar .boolean (if k = 0 then 0 else 1)
def own_lo (a b c d : Int32) : Int32 := (((if a = 1 then 0 else 1) ||| (if b = 1 then 0 else 2)) ||| (if c = 1 then 0 else 4)) ||| (if d = 1 then 0 else 8)
def own_hi (a b c d : Int32) : Int32 := (((if a = 0 then 0 else 1) ||| (if b = 0 then 0 else 2)) ||| (if c = 0 then 0 else 4)) ||| (if d = 0 then 0 else 8)
def own_acc0 (L H m lo hi : Int32) : Int32 := f2_o_A_a1_0 15 lo hi L H m (f2_o_A_a1_0 14 lo hi L H m (f2_o_A_a1_0 13 lo hi L H m (f2_o_A_a1_0 12 lo hi L H m (f2_o_A_a1_0 11 lo hi L H m (f2_o_A_a1_0 10 lo hi L H m (f2_o_A_a1_0 9 lo hi L H m (f2_o_A_a1_0 8 lo hi L H m (f2_o_A_a1_0 7 lo hi L H m (f2_o_A_a1_0 6 lo hi L H m (f2_o_A_a1_0 5 lo hi L H m (f2_o_A_a1_0 4 lo hi L H m (f2_o_A_a1_0 3 lo hi L H m (f2_o_A_a1_0 2 lo hi L H m (f2_o_A_a1_0 1 lo hi L H m (f2_o_A_a1_0 0 lo hi L H m (99))))))))))))))))
def own_acc1 (L H m lo hi : Int32) : Int32 := f2_o_A_a1_1 15 lo hi L H m (f2_o_A_a1_1 14 lo hi L H m (f2_o_A_a1_1 13 lo hi L H m (f2_o_A_a1_1 12 lo hi L H m (f2_o_A_a1_1 11 lo hi L H m (f2_o_A_a1_1 10 lo hi L H m (f2_o_A_a1_1 9 lo hi L H m (f2_o_A_a1_1 8 lo hi L H m (f2_o_A_a1_1 7 lo hi L H m (f2_o_A_a1_1 6 lo hi L H m (f2_o_A_a1_1 5 lo hi L H m (f2_o_A_a1_1 4 lo hi L H m (f2_o_A_a1_1 3 lo hi L H m (f2_o_A_a1_1 2 lo hi L H m (f2_o_A_a1_1 1 lo hi L H m (f2_o_A_a1_1 0 lo hi L H m (0))))))))))))))))
def own_acc2 (L H m lo hi : Int32) : Int32 := f2_o_A_a1_2 15 lo hi L H m (f2_o_A_a1_2 14 lo hi L H m (f2_o_A_a1_2 13 lo hi L H m (f2_o_A_a1_2 12 lo hi L H m (f2_o_A_a1_2 11 lo hi L H m (f2_o_A_a1_2 10 lo hi L H m (f2_o_A_a1_2 9 lo hi L H m (f2_o_A_a1_2 8 lo hi L H m (f2_o_A_a1_2 7 lo hi L H m (f2_o_A_a1_2 6 lo hi L H m (f2_o_A_a1_2 5 lo hi L H m (f2_o_A_a1_2 4 lo hi L H m (f2_o_A_a1_2 3 lo hi L H m (f2_o_A_a1_2 2 lo hi L H m (f2_o_A_a1_2 1 lo hi L H m (f2_o_A_a1_2 0 lo hi L H m (0))))))))))))))))
def own_res (L H m a b c d : Int32) : Int32 := if f8 L m H (own_fl a) (own_fl b) (own_fl c) (own_fl d) (own_fh a) (own_fh b) (own_fh c) (own_fh d) = own_acc0 L H m (own_lo a b c d) (own_hi a b c d) then (if f16 (if m < own_acc0 L H m (own_lo a b c d) (own_hi a b c d) then own_lo a b c d else own_acc1 L H m (own_lo a b c d) (own_hi a b c d)) (f8_o_A_a2_0 L m H (own_fl a) (own_fl b) (own_fl c) (own_fl d) (own_fh a) (own_fh b) (own_fh c) (own_fh d)) (f8_o_A_a2_1 L m H (own_fl a) (own_fl b) (own_fl c) (own_fl d) (own_fh a) (own_fh b) (own_fh c) (own_fh d)) (f8_o_A_a2_2 L m H (own_fl a) (own_fl b) (own_fl c) (own_fl d) (own_fh a) (own_fh b) (own_fh c) (own_fh d)) (f8_o_A_a2_3 L m H (own_fl a) (own_fl b) (own_fl c) (own_fl d) (own_fh a) (own_fh b) (own_fh c) (own_fh d)) = 0 then 0 else (if f16 (if m < own_acc0 L H m (own_lo a b c d) (own_hi a b c d) then own_hi a b c d else own_acc2 L H m (own_lo a b c d) (own_hi a b c d)) (f8_o_A_a3_0 L m H (own_fl a) (own_fl b) (own_fl c) (own_fl d) (own_fh a) (own_fh b) (own_fh c) (own_fh d)) (f8_o_A_a3_1 L m H (own_fl a) (own_fl b) (own_fl c) (own_fl d) (own_fh a) (own_fh b) (own_fh c) (own_fh d)) (f8_o_A_a3_2 L m H (own_fl a) (own_fl b) (own_fl c) (own_fl d) (own_fh a) (own_fh b) (own_fh c) (own_fh d)) (f8_o_A_a3_3 L m H (own_fl a) (own_fl b) (own_fl c) (own_fl d) (own_fh a) (own_fh b) (own_fh c) (own_fh d)) = 0 then 0 else 1)) else 0
theorem own_resE (f l h w : Int32) : f0 f l h w = own_res (f0_v46 l) (f0_v52 h) (f0_v58 w) (f0_v10 f) (f0_v18 f) (f0_v27 f) (f0_v36 f) := rfl
def own_012 : List Int32 := [0, 1, 2]
def own_L : List Int32 := [1, 2, 3, 4, 5]
def own_H : List Int32 := [0, 1, 2, 3, 4]
def own_M : List Int32 := [0, 1, 2, 3, 4, 5, 6, 7]
def own_all (L H : Int32) : Bool := own_M.all fun m => own_012.all fun a => own_012.all fun b => own_012.all fun c => own_012.all fun d => own_res L H m a b c d == 1
theorem own_resC {L L' H H' : Int32} (K : own_cap L L' H H') (m a b c d : Int32) : own_res L H m a b c d = own_res L' H' m a b c d := by
  have e0 : ∀ lo hi, own_acc0 L H m lo hi = own_acc0 L' H' m lo hi := fun lo hi => by unfold own_acc0; simp only [own_f2_0 K]
  have e1 : ∀ lo hi, own_acc1 L H m lo hi = own_acc1 L' H' m lo hi := fun lo hi => by unfold own_acc1; simp only [own_f2_1 K]
  have e2 : ∀ lo hi, own_acc2 L H m lo hi = own_acc2 L' H' m lo hi := fun lo hi => by unfold own_acc2; simp only [own_f2_2 K]
  unfold own_res
  rw [e0, e1, e2, own_e_f8 K, own_e_f8_o_A_a2_0 K, own_e_f8_o_A_a2_1 K, own_e_f8_o_A_a2_2 K, own_e_f8_o_A_a2_3 K, own_e_f8_o_A_a3_0 K, own_e_f8_o_A_a3_1 K, own_e_f8_o_A_a3_2 K, own_e_f8_o_A_a3_3 K]
theorem own_all_1_0 : own_all 1 0 = true := by decide +kernel
theorem own_all_1_1 : own_all 1 1 = true := by decide +kernel
theorem own_all_1_2 : own_all 1 2 = true := by decide +kernel
theorem own_all_1_3 : own_all 1 3 = true := by decide +kernel
theorem own_all_1_4 : own_all 1 4 = true := by decide +kernel
theorem own_all_2_0 : own_all 2 0 = true := by decide +kernel
theorem own_all_2_1 : own_all 2 1 = true := by decide +kernel
theorem own_all_2_2 : own_all 2 2 = true := by decide +kernel
theorem own_all_2_3 : own_all 2 3 = true := by decide +kernel
theorem own_all_2_4 : own_all 2 4 = true := by decide +kernel
theorem own_all_3_0 : own_all 3 0 = true := by decide +kernel
theorem own_all_3_1 : own_all 3 1 = true := by decide +kernel
theorem own_all_3_2 : own_all 3 2 = true := by decide +kernel
theorem own_all_3_3 : own_all 3 3 = true := by decide +kernel
theorem own_all_3_4 : own_all 3 4 = true := by decide +kernel
theorem own_all_4_0 : own_all 4 0 = true := by decide +kernel
theorem own_all_4_1 : own_all 4 1 = true := by decide +kernel
theorem own_all_4_2 : own_all 4 2 = true := by decide +kernel
theorem own_all_4_3 : own_all 4 3 = true := by decide +kernel
theorem own_all_4_4 : own_all 4 4 = true := by decide +kernel
theorem own_all_5_0 : own_all 5 0 = true := by decide +kernel
theorem own_all_5_1 : own_all 5 1 = true := by decide +kernel
theorem own_all_5_2 : own_all 5 2 = true := by decide +kernel
theorem own_all_5_3 : own_all 5 3 = true := by decide +kernel
theorem own_all_5_4 : own_all 5 4 = true := by decide +kernel
theorem own_allL : ∀ L ∈ own_L, ∀ H ∈ own_H, own_all L H = true := by
  intro L hL H hH
  simp only [own_L, own_H, List.mem_cons, List.not_mem_nil, or_false] at hL hH
  rcases hL with rfl | rfl | rfl | rfl | rfl <;> rcases hH with rfl | rfl | rfl | rfl | rfl
  · exact own_all_1_0
  · exact own_all_1_1
  · exact own_all_1_2
  · exact own_all_1_3
  · exact own_all_1_4
  · exact own_all_2_0
  · exact own_all_2_1
  · exact own_all_2_2
  · exact own_all_2_3
  · exact own_all_2_4
  · exact own_all_3_0
  · exact own_all_3_1
  · exact own_all_3_2
  · exact own_all_3_3
  · exact own_all_3_4
  · exact own_all_4_0
  · exact own_all_4_1
  · exact own_all_4_2
  · exact own_all_4_3
  · exact own_all_4_4
  · exact own_all_5_0
  · exact own_all_5_1
  · exact own_all_5_2
  · exact own_all_5_3
  · exact own_all_5_4
theorem own_small (L H m a b c d : Int32) (hL : L ∈ own_L) (hH : H ∈ own_H) (hm : m ∈ own_M) (ha : a ∈ own_012) (hb : b ∈ own_012) (hc : c ∈ own_012) (hd : d ∈ own_012) : own_res L H m a b c d = 1 := by
  have q := own_allL L hL H hH
  unfold own_all at q
  rw [List.all_eq_true] at q
  have q := q m hm
  rw [List.all_eq_true] at q
  have q := q a ha
  rw [List.all_eq_true] at q
  have q := q b hb
  rw [List.all_eq_true] at q
  have q := q c hc
  rw [List.all_eq_true] at q
  have q := q d hd
  exact eq_of_beq q
theorem own_m3 (x : Int32) (h : 0 ≤ x.toInt) : x % 3 ∈ own_012 := by
  have b := c_irem x 3 3 (by decide)
  have l0 : (0 : Int32).toInt = 0 := by decide
  have l1 : (1 : Int32).toInt = 1 := by decide
  have l2 : (2 : Int32).toInt = 2 := by decide
  simp only [own_012, List.mem_cons, List.not_mem_nil, or_false, ← Int32.toInt_inj]
  omega
theorem own_law (f l h w : Int32) : f0 f l h w = 1 := by
  have l0 : (0 : Int32).toInt = 0 := by decide
  have l1 : (1 : Int32).toInt = 1 := by decide
  have l2 : (2 : Int32).toInt = 2 := by decide
  have l3 : (3 : Int32).toInt = 3 := by decide
  have l4 : (4 : Int32).toInt = 4 := by decide
  have l5 : (5 : Int32).toInt = 5 := by decide
  have l6 : (6 : Int32).toInt = 6 := by decide
  have l7 : (7 : Int32).toInt = 7 := by decide
  have bL : 1 ≤ (f0_v46 l).toInt := by
    unfold f0_v46 f1 f0_a43_1
    have g := c_mask l 2147483647 31 (by decide) (by decide)
    split
    · rename_i q
      rw [Int32.lt_iff_toInt_lt] at q
      omega
    · omega
  have bH : 0 ≤ (f0_v52 h).toInt := by
    unfold f0_v52
    have g := c_mask h 2147483647 31 (by decide) (by decide)
    omega
  have bM : f0_v58 w ∈ own_M := by
    unfold f0_v58
    have g := c_mask w 7 3 (by decide) (by decide)
    simp only [own_M, List.mem_cons, List.not_mem_nil, or_false, ← Int32.toInt_inj]
    omega
  have g := c_mask f 2147483647 31 (by decide) (by decide)
  have bf : 0 ≤ (f0_v4 f).toInt := by unfold f0_v4; omega
  have ba : f0_v10 f ∈ own_012 := own_m3 _ bf
  have bb : f0_v18 f ∈ own_012 := own_m3 _ (c_idivV (f0_v4 f) 3 bf (by decide)).1
  have bc : f0_v27 f ∈ own_012 := own_m3 _ (c_idivV (f0_v4 f) 9 bf (by decide)).1
  have bdd : f0_v36 f ∈ own_012 := own_m3 _ (c_idivV (f0_v4 f) 27 bf (by decide)).1
  rw [own_resE]
  generalize f0_v46 l = L at *
  generalize f0_v52 h = H at *
  obtain ⟨L', hL, PL, PD, QL⟩ : ∃ L' : Int32, L' ∈ own_L ∧ (∀ y, bd 3 y → ((y < L ↔ y < L') ∧ (y < L - 1 ↔ y < L' - 1))) ∧ (∀ (x y : Int32) (i j : Int), bd i x → bd j y → i + j ≤ 5 → ((L - y) < (x - 1) ↔ (L' - y) < (x - 1))) ∧ (∀ y, y.toInt ≤ 4 → (L < y ↔ L' < y)) := by
    by_cases q : L.toInt ≤ 5
    · refine ⟨L, ?_, fun _ _ => ⟨Iff.rfl, Iff.rfl⟩, fun _ _ _ _ _ _ _ => Iff.rfl, fun _ _ => Iff.rfl⟩
      simp only [own_L, List.mem_cons, List.not_mem_nil, or_false, ← Int32.toInt_inj]
      omega
    · refine ⟨5, by decide, fun y b => ?_, fun x y i j b1 b2 b3 => ?_, fun y b => ?_⟩ <;> simp only [Int32.lt_iff_toInt_lt]
      · have g := c_isub L 1
        have g2 := (L - 1).le_toInt
        have g3 := (L - 1).toInt_lt
        have g4 := L.toInt_lt
        have l4' : ((5 : Int32) - 1).toInt = 4 := by decide
        unfold bd at b
        omega
      · have g := c_isub L y
        have g2 := (L - y).le_toInt
        have g3 := (L - y).toInt_lt
        have g4 := L.toInt_lt
        have g5 := c_isub 5 y
        have g6 := (5 - y).le_toInt
        have g7 := (5 - y).toInt_lt
        have g8 := c_isub x 1
        have g9 := (x - 1).le_toInt
        have g0 := (x - 1).toInt_lt
        unfold bd at b1 b2
        omega
      · omega
  obtain ⟨H', hH, PH⟩ : ∃ H' : Int32, H' ∈ own_H ∧ (∀ z, z.toInt ≤ 4 → (H < z ↔ H' < z)) := by
    by_cases q : H.toInt ≤ 4
    · refine ⟨H, ?_, fun _ _ => Iff.rfl⟩
      simp only [own_H, List.mem_cons, List.not_mem_nil, or_false, ← Int32.toInt_inj]
      omega
    · refine ⟨4, by decide, fun y b => ?_⟩
      simp only [Int32.lt_iff_toInt_lt]
      omega
  rw [own_resC (⟨PL, PH, PD, QL⟩ : own_cap L L' H H')]
  exact own_small _ _ _ _ _ _ _ hL hH bM ba bb bc bdd
set_option maxRecDepth 65536 in
set_option maxHeartbeats 40000000 in
theorem comes_1 {Post : Tables → Env → Array Value → State → Outcome → State → Prop} (hpost : ∀ tb e args s v u, (limb_1_1.after args s (.returned v) u = true ∧ limb_1_2.after args s (.returned v) u = true ∧ True) → FrameEnd s (.returned v) u (Jvm.fieldLocs frame_1_writes args s ++ Jvm.arrayLocs frame_1_arrays args s ++ Jvm.staticLocs frame_1_statics s) 72 320 → Post tb e args s (.returned v) u) :
    ArmFor flags0 classFile x code maxLocals ret World_1 tables_1 room_1 Calls_1 rest_1 Pre_1 Post := by
  intro l hfl _ _ p e ha hc hk s m args below hf hA hF happ hP
  obtain ⟨hcalls, hrest, hpre⟩ := hP
  obtain ⟨-, -, -, hnamed, -, -, -, hat⟩ := (Spec.applies_iff hf).mp happ
  obtain ⟨hg, hn⟩ := and_e (Cond.before_iff.mp (show (Jvm.Cond.and given_1 narrow_1).before args s = true from hpre))
  obtain ⟨g1, g2⟩ := and_e hg
  obtain ⟨g3, g4⟩ := and_e g2
  obtain ⟨g5, g6⟩ := and_e g4
  obtain ⟨g7, g8⟩ := and_e g6
  obtain ⟨w0, w1, w2, w3, rfl⟩ : ∃ w0 w1 w2 w3 : Value, args = #[w0, w1, w2, w3] := by
    have hs : args.size = 4 := by simpa [Cond.value, given_1] using g1
    obtain ⟨L⟩ := args
    match L, hs with
    | [w0, w1, w2, w3], _ => exact ⟨w0, w1, w2, w3, rfl⟩
  have hw := fun d (hd : d ∈ tables_1) => atoms_spec (ws := Jvm.Cond.code x code maxLocals ret :: tables_1) hat d (List.mem_cons_of_mem _ hd)
  have hfit : Fit s := fun {y c} hc i hi => by
    obtain ⟨ha, rfl⟩ := Array.getElem?_eq_some_iff.mp hc
    have q := List.all_eq_true.mp ((Array.all_eq_true_iff_forall_mem.mp hF) _ (Array.getElem_mem ha)) i (List.mem_range.mpr hi)
    simpa [Array.getElem?_eq_getElem hi] using q
  obtain ⟨i0, ei0⟩ := is_v g3
  obtain rfl : w0 = (.int i0) := Option.some.inj ei0
  obtain ⟨i1, ei1⟩ := is_v g5
  obtain rfl : w1 = (.int i1) := Option.some.inj ei1
  obtain ⟨i2, ei2⟩ := is_v g7
  obtain rfl : w2 = (.int i2) := Option.some.inj ei2
  obtain ⟨i3, ei3⟩ := is_v g8
  obtain rfl : w3 = (.int i3) := Option.some.inj ei3
  obtain ⟨n, o, h1, h2, h3, _, L, rfl, ⟨rfl, N, -⟩, hq⟩ := rm0 l s _ hw tables_1 i0 i1 i2 i3 s.heap s.heap.size (Nat.le_refl _) p e ha hc hk s m _ below hf ((Spec.applies_iff_loose hf).mp happ).1 ⟨rfl, State.Warmed39.refl s, rfl⟩ trivial
  rw [own_law i0 i1 i2 i3] at *
  refine ⟨n, _, h1, h2, h3, hpost _ _ _ _ _ _ ⟨Cond.after_iff.mpr rfl, Cond.after_iff.mpr (eq_i res_at (Term.int_eval (1)) rfl), trivial⟩ ⟨hq.1, hq.2.1, (hq.2.2.sift fun y hy => Or.inr (N y hy)).mono (by decide) (by decide)⟩⟩
theorem main_1_1 : Claimed_1_1 := comes_1 fun _ _ _ _ _ _ h hF => ⟨h.1, hF⟩
theorem main_1_2 : Claimed_1_2 := comes_1 fun _ _ _ _ _ _ h hF => ⟨h.2.1, hF⟩
end Jvm.Pilot.@@N@@
namespace Jvm.Pilot.@@N@@
open Jvm Jvm.ClassFile Sem Op Lib Jvm.Free Jvm.Stand Jvm.Pilot.@@N@@.Jvm.D
/-! MADE BY PROGRAM (witnessworld.py) out of the Statement's table words and the real class files: 14 classes; the members and pool entries that the words name. The judged class is class 1, her method 1. -/
namespace start1
open Jvm.ClassFile
def u (s : String) : CpInfo := .utf8 (stringToUtf16 s)
/-- a pool by its gaps: so many unusable entries, then the entry; so many at the end -/
def gap : Nat → List CpInfo → List CpInfo
  | 0, r => r
  | n + 1, r => .unusable :: gap n r
def poolList (es : List (Nat × CpInfo)) (last : Nat) : List CpInfo := es.foldr (fun e r => gap e.1 (e.2 :: r)) (gap last [])
def pool (es : List (Nat × CpInfo)) (last : Nat) : Array CpInfo := ⟨poolList es last⟩
def fileOf (pool : Array CpInfo) (this : Nat) (attrs : Array Attribute := #[]) (ms : Array MethodInfo := #[]) (fl : Nat := 33) (sup : Nat := 0) (ifs : Array Nat := #[]) (fds : Array FieldInfo := #[]) : ClassFile where
  minorVersion := 0
  majorVersion := 65
  constantPool := pool
  accessFlags := fl
  thisClass := this
  superClass := sup
  interfaces := ifs
  fields := fds
  methods := ms
  attributes := attrs
def plain (name : String) (sup : Option ClassId) : Class where
  name := name
  kind := .ordinary
  loader := none
  accessFlags := 33
  super := sup
  interfaces := #[]
  cf := none
  fields := #[]
  methods := #[]
  instanceTypes := #[]
  staticTypes := #[]
  resolved := #[]
  callSites := []
  init := .initialized
  statics := none
  mirror := none

def pool0 : Array CpInfo := pool [(5, u "<init>"), (0, u "()V"), (1, .class_ 10), (1, u "java/lang/Object")] 113

def k0c0 : Code := { maxStack := 0, maxLocals := 1, code := object_method_1_code, exceptionTable := #[], attributes := #[] }
def k0m0 : Method := { name := "<init>", desc := "()V", sig := { parameters := [], returnType := none }, accessFlags := 1, code := some k0c0 }
/-- java/lang/Object -/
def k0 : Class := { plain "java/lang/Object" none with
  accessFlags := 33
  interfaces := #[]
  cf := some (fileOf pool0 8 #[] #[{ accessFlags := 1, nameIndex := 5, descriptorIndex := 6, attributes := #[] }] 33 0 #[] #[])
  fields := #[]
  methods := #[k0m0]
  instanceTypes := #[]
  staticTypes := #[]
  resolved := Array.replicate 124 none
  statics := none }

def pool1 : Array CpInfo := pool [(2, .class_ 4), (1, u "java/lang/Object"), (0, u "<init>"), (0, u "()V"), (0, .integer 2147483647), (0, .methodref 9 10), (0, .class_ 11), (0, .nameAndType 12 13), (0, u "java/lang/Math"), (0, u "max"), (0, u "(II)I"), (0, .methodref 15 16), (0, .class_ 17), (0, .nameAndType 18 19), (0, u "com/example/tightfold/tightfold/FocusFilteringFilterPinLaw"), (0, u "visit"), (0, u "([IIIIIII)V"), (0, .class_ 21), (0, u "com/example/tightfold/tightfold/FocusFiltering"), (0, .methodref 20 23), (0, .nameAndType 5 24), (0, u "(II)V"), (0, .methodref 20 26), (0, .nameAndType 27 28), (0, u "filter"), (0, u "([Z[ZII)I"), (0, .methodref 15 30), (0, .nameAndType 31 32), (0, u "same"), (0, u "([ZI)Z"), (0, .methodref 15 34), (0, .nameAndType 35 36), (0, u "cost"), (0, u "(III)I"), (0, .methodref 9 38), (0, .nameAndType 39 13), (0, u "min"), (0, .methodref 15 41), (0, .nameAndType 42 43), (0, u "step"), (0, u "([IIIII)V"), (2, u "law"), (0, u "(IIII)Z")] 7

def k1m0 : Method := { name := "<init>", desc := "()V", sig := { parameters := [], returnType := none }, accessFlags := 1, code := none }
def k1c1 : Code := { maxStack := 7, maxLocals := 22, code := code, exceptionTable := #[], attributes := #[] }
def k1m1 : Method := { name := "law", desc := "(IIII)Z", sig := { parameters := [.int, .int, .int, .int], returnType := some .boolean }, accessFlags := 9, code := some k1c1 }
def k1c2 : Code := { maxStack := 3, maxLocals := 2, code := method_3_code, exceptionTable := #[], attributes := #[] }
def k1m2 : Method := { name := "same", desc := "([ZI)Z", sig := { parameters := [(.array .boolean), .int], returnType := some .boolean }, accessFlags := 10, code := some k1c2 }
def k1c3 : Code := { maxStack := 4, maxLocals := 9, code := method_4_code, exceptionTable := #[], attributes := #[] }
def k1m3 : Method := { name := "visit", desc := "([IIIIIII)V", sig := { parameters := [(.array .int), .int, .int, .int, .int, .int, .int], returnType := none }, accessFlags := 10, code := some k1c3 }
def k1c4 : Code := { maxStack := 5, maxLocals := 4, code := method_5_code, exceptionTable := #[], attributes := #[] }
def k1m4 : Method := { name := "cost", desc := "(III)I", sig := { parameters := [.int, .int, .int], returnType := some .int }, accessFlags := 10, code := some k1c4 }
def k1c5 : Code := { maxStack := 4, maxLocals := 7, code := method_6_code, exceptionTable := #[], attributes := #[] }
def k1m5 : Method := { name := "step", desc := "([IIIII)V", sig := { parameters := [(.array .int), .int, .int, .int, .int], returnType := none }, accessFlags := 10, code := some k1c5 }
/-- com/example/tightfold/tightfold/FocusFilteringFilterPinLaw -/
def k1 : Class := { plain "com/example/tightfold/tightfold/FocusFilteringFilterPinLaw" (some 0) with
  accessFlags := 49
  interfaces := #[]
  cf := some (fileOf pool1 15 #[] #[{ accessFlags := 1, nameIndex := 5, descriptorIndex := 6, attributes := #[] }, { accessFlags := 9, nameIndex := 46, descriptorIndex := 47, attributes := #[] }, { accessFlags := 10, nameIndex := 31, descriptorIndex := 32, attributes := #[] }, { accessFlags := 10, nameIndex := 18, descriptorIndex := 19, attributes := #[] }, { accessFlags := 10, nameIndex := 35, descriptorIndex := 36, attributes := #[] }, { accessFlags := 10, nameIndex := 42, descriptorIndex := 43, attributes := #[] }] 49 2 #[] #[])
  fields := #[]
  methods := #[k1m0, k1m1, k1m2, k1m3, k1m4, k1m5]
  instanceTypes := #[]
  staticTypes := #[]
  resolved := Array.replicate 55 none
  statics := none }

def pool2 : Array CpInfo := pool [(1, .class_ 2), (0, u "java/lang/Math"), (1, .class_ 6), (1, u "java/lang/Object"), (0, u "<init>"), (0, u "()V"), (89, .class_ 100), (1, u "java/lang/Math$RandomNumberGeneratorHolder"), (71, u "negativeZeroFloatBits"), (0, u "J"), (2, u "negativeZeroDoubleBits"), (21, u "max"), (2, u "min"), (43, u "$assertionsDisabled"), (0, u "Z"), (88, u "(II)I"), (2, u "twoToTheDoubleScaleDown"), (0, u "D"), (4, u "twoToTheDoubleScaleUp"), (9, u "E"), (3, u "PI"), (2, u "TAU"), (2, u "DEGREES_TO_RADIANS"), (0, u "RADIANS_TO_DEGREES")] 94

def k2m0 : Method := { name := "<init>", desc := "()V", sig := { parameters := [], returnType := none }, accessFlags := 2, code := none }
def k2c1 : Code := { maxStack := 2, maxLocals := 2, code := jdk_29_method_65_code, exceptionTable := #[], attributes := #[] }
def k2m1 : Method := { name := "max", desc := "(II)I", sig := { parameters := [.int, .int], returnType := some .int }, accessFlags := 9, code := some k2c1 }
def k2c2 : Code := { maxStack := 2, maxLocals := 2, code := jdk_29_method_69_code, exceptionTable := #[], attributes := #[] }
def k2m2 : Method := { name := "min", desc := "(II)I", sig := { parameters := [.int, .int], returnType := some .int }, accessFlags := 9, code := some k2c2 }
/-- java/lang/Math -/
def k2 : Class := { plain "java/lang/Math" (some 0) with
  accessFlags := 49
  interfaces := #[]
  cf := some (fileOf pool2 1 #[.nestMembers #[98]] #[{ accessFlags := 2, nameIndex := 7, descriptorIndex := 8, attributes := #[] }, { accessFlags := 9, nameIndex := 198, descriptorIndex := 335, attributes := #[] }, { accessFlags := 9, nameIndex := 201, descriptorIndex := 335, attributes := #[] }] 49 4 #[] #[{ accessFlags := 25, nameIndex := 354, descriptorIndex := 339, attributes := #[] }, { accessFlags := 25, nameIndex := 358, descriptorIndex := 339, attributes := #[] }, { accessFlags := 25, nameIndex := 361, descriptorIndex := 339, attributes := #[] }, { accessFlags := 26, nameIndex := 364, descriptorIndex := 339, attributes := #[] }, { accessFlags := 26, nameIndex := 365, descriptorIndex := 339, attributes := #[] }, { accessFlags := 26, nameIndex := 172, descriptorIndex := 173, attributes := #[] }, { accessFlags := 26, nameIndex := 176, descriptorIndex := 173, attributes := #[] }, { accessFlags := 8, nameIndex := 344, descriptorIndex := 339, attributes := #[] }, { accessFlags := 8, nameIndex := 338, descriptorIndex := 339, attributes := #[] }, { accessFlags := 4120, nameIndex := 245, descriptorIndex := 246, attributes := #[] }])
  fields := #[{ name := "E", type := .double, accessFlags := 25, slot := 0, constantValue := 0 }, { name := "PI", type := .double, accessFlags := 25, slot := 1, constantValue := 0 }, { name := "TAU", type := .double, accessFlags := 25, slot := 2, constantValue := 0 }, { name := "DEGREES_TO_RADIANS", type := .double, accessFlags := 26, slot := 3, constantValue := 0 }, { name := "RADIANS_TO_DEGREES", type := .double, accessFlags := 26, slot := 4, constantValue := 0 }, { name := "negativeZeroFloatBits", type := .long, accessFlags := 26, slot := 5, constantValue := 0 }, { name := "negativeZeroDoubleBits", type := .long, accessFlags := 26, slot := 6, constantValue := 0 }, { name := "twoToTheDoubleScaleUp", type := .double, accessFlags := 8, slot := 7, constantValue := 0 }, { name := "twoToTheDoubleScaleDown", type := .double, accessFlags := 8, slot := 8, constantValue := 0 }, { name := "$assertionsDisabled", type := .boolean, accessFlags := 4120, slot := 9, constantValue := 0 }]
  methods := #[k2m0, k2m1, k2m2]
  instanceTypes := #[]
  staticTypes := #[.double, .double, .double, .double, .double, .long, .long, .double, .double, .boolean]
  resolved := Array.replicate 460 none
  statics := none }

def pool3 : Array CpInfo := pool [(1, .methodref 2 3), (0, .class_ 4), (0, .nameAndType 5 6), (0, u "java/lang/Object"), (0, u "<init>"), (0, u "()V"), (0, .fieldref 8 9), (0, .class_ 10), (0, .nameAndType 11 12), (0, u "com/example/tightfold/tightfold/FocusFiltering"), (0, u "impossible"), (0, u "I"), (0, .fieldref 8 14), (0, .nameAndType 15 12), (0, u "h"), (0, .fieldref 8 17), (0, .nameAndType 18 19), (0, u "lowOut"), (0, u "[I"), (0, .fieldref 8 21), (0, .nameAndType 22 19), (0, u "lowIn"), (0, .fieldref 8 24), (0, .nameAndType 25 19), (0, u "lowInLength"), (0, .fieldref 8 27), (0, .nameAndType 28 19), (0, u "lowInLows"), (0, .fieldref 8 30), (0, .nameAndType 31 19), (0, u "high"), (0, .fieldref 8 33), (0, .nameAndType 34 19), (0, u "highLength"), (0, .fieldref 8 36), (0, .nameAndType 37 19), (0, u "highLows"), (0, .class_ 39), (0, u "com/example/tightfold/tightfold/FocusFiltering$PartialCover"), (0, .methodref 38 41), (0, .nameAndType 5 42), (0, u "(II)V"), (0, .methodref 38 44), (0, .nameAndType 45 46), (0, u "extend"), (0, u "(ZZI)V"), (0, .fieldref 38 48), (0, .nameAndType 18 12), (0, .fieldref 38 50), (0, .nameAndType 22 51), (0, u "Lcom/example/tightfold/tightfold/FocusFiltering$Run;"), (0, .fieldref 53 54), (0, .class_ 55), (0, .nameAndType 56 12), (0, u "com/example/tightfold/tightfold/FocusFiltering$Run"), (0, u "runs"), (0, .fieldref 53 58), (0, .nameAndType 59 12), (0, u "length"), (0, .fieldref 53 61), (0, .nameAndType 62 12), (0, u "lows"), (0, .fieldref 38 64), (0, .nameAndType 31 51), (0, .methodref 38 66), (0, .nameAndType 67 68), (0, u "fewest"), (0, u "()I"), (0, .methodref 8 70), (0, .nameAndType 71 72), (0, u "fewestRuns"), (0, u "([Z[ZI)I"), (0, .methodref 8 74), (0, .nameAndType 75 76), (0, u "joins"), (0, u "(ILcom/example/tightfold/tightfold/FocusFiltering$Run;II)Z"), (3, u "filter"), (0, u "([Z[ZII)I")] 6

def k3c0 : Code := { maxStack := 3, maxLocals := 3, code := prog_3_method_1_code, exceptionTable := #[], attributes := #[] }
def k3m0 : Method := { name := "<init>", desc := "(II)V", sig := { parameters := [.int, .int], returnType := none }, accessFlags := 0, code := some k3c0 }
def k3c1 : Code := { maxStack := 4, maxLocals := 6, code := prog_3_method_2_code, exceptionTable := #[], attributes := #[] }
def k3m1 : Method := { name := "fewestRuns", desc := "([Z[ZI)I", sig := { parameters := [(.array .boolean), (.array .boolean), .int], returnType := some .int }, accessFlags := 0, code := some k3c1 }
def k3c2 : Code := { maxStack := 5, maxLocals := 9, code := prog_3_method_3_code, exceptionTable := #[], attributes := #[] }
def k3m2 : Method := { name := "filter", desc := "([Z[ZII)I", sig := { parameters := [(.array .boolean), (.array .boolean), .int, .int], returnType := some .int }, accessFlags := 0, code := some k3c2 }
def k3c3 : Code := { maxStack := 3, maxLocals := 5, code := prog_3_method_4_code, exceptionTable := #[], attributes := #[] }
def k3m3 : Method := { name := "joins", desc := "(ILcom/example/tightfold/tightfold/FocusFiltering$Run;II)Z", sig := { parameters := [.int, (.object "com/example/tightfold/tightfold/FocusFiltering$Run"), .int, .int], returnType := some .boolean }, accessFlags := 2, code := some k3c3 }
/-- com/example/tightfold/tightfold/FocusFiltering -/
def k3 : Class := { plain "com/example/tightfold/tightfold/FocusFiltering" (some 0) with
  accessFlags := 48
  interfaces := #[]
  cf := some (fileOf pool3 8 #[.nestMembers #[38, 53]] #[{ accessFlags := 0, nameIndex := 5, descriptorIndex := 42, attributes := #[] }, { accessFlags := 0, nameIndex := 71, descriptorIndex := 72, attributes := #[] }, { accessFlags := 0, nameIndex := 80, descriptorIndex := 81, attributes := #[] }, { accessFlags := 2, nameIndex := 75, descriptorIndex := 76, attributes := #[] }] 48 2 #[] #[{ accessFlags := 18, nameIndex := 11, descriptorIndex := 12, attributes := #[] }, { accessFlags := 18, nameIndex := 15, descriptorIndex := 12, attributes := #[] }, { accessFlags := 18, nameIndex := 18, descriptorIndex := 19, attributes := #[] }, { accessFlags := 18, nameIndex := 22, descriptorIndex := 19, attributes := #[] }, { accessFlags := 18, nameIndex := 25, descriptorIndex := 19, attributes := #[] }, { accessFlags := 18, nameIndex := 28, descriptorIndex := 19, attributes := #[] }, { accessFlags := 18, nameIndex := 31, descriptorIndex := 19, attributes := #[] }, { accessFlags := 18, nameIndex := 34, descriptorIndex := 19, attributes := #[] }, { accessFlags := 18, nameIndex := 37, descriptorIndex := 19, attributes := #[] }])
  fields := #[{ name := "impossible", type := .int, accessFlags := 18, slot := 0, constantValue := 0 }, { name := "h", type := .int, accessFlags := 18, slot := 1, constantValue := 0 }, { name := "lowOut", type := (.array .int), accessFlags := 18, slot := 2, constantValue := 0 }, { name := "lowIn", type := (.array .int), accessFlags := 18, slot := 3, constantValue := 0 }, { name := "lowInLength", type := (.array .int), accessFlags := 18, slot := 4, constantValue := 0 }, { name := "lowInLows", type := (.array .int), accessFlags := 18, slot := 5, constantValue := 0 }, { name := "high", type := (.array .int), accessFlags := 18, slot := 6, constantValue := 0 }, { name := "highLength", type := (.array .int), accessFlags := 18, slot := 7, constantValue := 0 }, { name := "highLows", type := (.array .int), accessFlags := 18, slot := 8, constantValue := 0 }]
  methods := #[k3m0, k3m1, k3m2, k3m3]
  instanceTypes := #[.int, .int, (.array .int), (.array .int), (.array .int), (.array .int), (.array .int), (.array .int), (.array .int)]
  staticTypes := #[]
  resolved := ((((((Array.replicate 88 none).setIfInBounds 47 (some (.field 4 2))).setIfInBounds 49 (some (.field 4 3))).setIfInBounds 52 (some (.field 5 0))).setIfInBounds 57 (some (.field 5 1))).setIfInBounds 60 (some (.field 5 2))).setIfInBounds 63 (some (.field 4 4))
  statics := none }

def pool4 : Array CpInfo := pool [(1, .methodref 2 3), (0, .class_ 4), (0, .nameAndType 5 6), (0, u "java/lang/Object"), (0, u "<init>"), (0, u "()V"), (0, .class_ 8), (0, u "com/example/tightfold/tightfold/FocusFiltering$Run"), (0, .methodref 7 3), (0, .fieldref 11 12), (0, .class_ 13), (0, .nameAndType 14 15), (0, u "com/example/tightfold/tightfold/FocusFiltering$PartialCover"), (0, u "lowIn"), (0, u "Lcom/example/tightfold/tightfold/FocusFiltering$Run;"), (0, .fieldref 11 17), (0, .nameAndType 18 15), (0, u "high"), (0, .fieldref 11 20), (0, .nameAndType 21 15), (0, u "nextLowIn"), (0, .fieldref 11 23), (0, .nameAndType 24 15), (0, u "nextHigh"), (0, .fieldref 11 26), (0, .nameAndType 27 28), (0, u "impossible"), (0, u "I"), (0, .fieldref 11 30), (0, .nameAndType 31 28), (0, u "h"), (0, .fieldref 11 33), (0, .nameAndType 34 28), (0, u "lowOut"), (0, .methodref 7 36), (0, .nameAndType 37 38), (0, u "clear"), (0, u "(I)V"), (0, .fieldref 7 40), (0, .nameAndType 41 28), (0, u "runs"), (0, .methodref 43 44), (0, .class_ 45), (0, .nameAndType 46 47), (0, u "java/lang/Math"), (0, u "min"), (0, u "(II)I"), (0, .methodref 11 49), (0, .nameAndType 50 51), (0, u "fewest"), (0, u "()I"), (0, .methodref 11 53), (0, .nameAndType 54 55), (0, u "offerExtension"), (0, u "(Lcom/example/tightfold/tightfold/FocusFiltering$Run;Lcom/example/tightfold/tightfold/FocusFiltering$Run;II)V"), (0, .methodref 7 57), (0, .nameAndType 58 59), (0, u "offer"), (0, u "(III)V"), (0, .fieldref 7 61), (0, .nameAndType 62 28), (0, u "length"), (0, .fieldref 7 64), (0, .nameAndType 65 28), (0, u "lows"), (0, u "(II)V"), (2, u "extend"), (0, u "(ZZI)V"), (4, .class_ 76), (0, u "com/example/tightfold/tightfold/FocusFiltering")] 3

def k4c0 : Code := { maxStack := 3, maxLocals := 3, code := prog_4_method_1_code, exceptionTable := #[], attributes := #[] }
def k4m0 : Method := { name := "<init>", desc := "(II)V", sig := { parameters := [.int, .int], returnType := none }, accessFlags := 0, code := some k4c0 }
def k4c1 : Code := { maxStack := 2, maxLocals := 1, code := prog_4_method_2_code, exceptionTable := #[], attributes := #[] }
def k4m1 : Method := { name := "fewest", desc := "()I", sig := { parameters := [], returnType := some .int }, accessFlags := 0, code := some k4c1 }
def k4c2 : Code := { maxStack := 5, maxLocals := 7, code := prog_4_method_3_code, exceptionTable := #[], attributes := #[] }
def k4m2 : Method := { name := "extend", desc := "(ZZI)V", sig := { parameters := [.boolean, .boolean, .int], returnType := none }, accessFlags := 0, code := some k4c2 }
def k4c3 : Code := { maxStack := 5, maxLocals := 5, code := prog_4_method_4_code, exceptionTable := #[], attributes := #[] }
def k4m3 : Method := { name := "offerExtension", desc := "(Lcom/example/tightfold/tightfold/FocusFiltering$Run;Lcom/example/tightfold/tightfold/FocusFiltering$Run;II)V", sig := { parameters := [(.object "com/example/tightfold/tightfold/FocusFiltering$Run"), (.object "com/example/tightfold/tightfold/FocusFiltering$Run"), .int, .int], returnType := none }, accessFlags := 2, code := some k4c3 }
/-- com/example/tightfold/tightfold/FocusFiltering$PartialCover -/
def k4 : Class := { plain "com/example/tightfold/tightfold/FocusFiltering$PartialCover" (some 0) with
  accessFlags := 48
  interfaces := #[]
  cf := some (fileOf pool4 11 #[.nestHost 75] #[{ accessFlags := 0, nameIndex := 5, descriptorIndex := 66, attributes := #[] }, { accessFlags := 0, nameIndex := 50, descriptorIndex := 51, attributes := #[] }, { accessFlags := 0, nameIndex := 69, descriptorIndex := 70, attributes := #[] }, { accessFlags := 2, nameIndex := 54, descriptorIndex := 55, attributes := #[] }] 48 2 #[] #[{ accessFlags := 18, nameIndex := 27, descriptorIndex := 28, attributes := #[] }, { accessFlags := 18, nameIndex := 31, descriptorIndex := 28, attributes := #[] }, { accessFlags := 2, nameIndex := 34, descriptorIndex := 28, attributes := #[] }, { accessFlags := 2, nameIndex := 14, descriptorIndex := 15, attributes := #[] }, { accessFlags := 2, nameIndex := 18, descriptorIndex := 15, attributes := #[] }, { accessFlags := 2, nameIndex := 21, descriptorIndex := 15, attributes := #[] }, { accessFlags := 2, nameIndex := 24, descriptorIndex := 15, attributes := #[] }])
  fields := #[{ name := "impossible", type := .int, accessFlags := 18, slot := 0, constantValue := 0 }, { name := "h", type := .int, accessFlags := 18, slot := 1, constantValue := 0 }, { name := "lowOut", type := .int, accessFlags := 2, slot := 2, constantValue := 0 }, { name := "lowIn", type := (.object "com/example/tightfold/tightfold/FocusFiltering$Run"), accessFlags := 2, slot := 3, constantValue := 0 }, { name := "high", type := (.object "com/example/tightfold/tightfold/FocusFiltering$Run"), accessFlags := 2, slot := 4, constantValue := 0 }, { name := "nextLowIn", type := (.object "com/example/tightfold/tightfold/FocusFiltering$Run"), accessFlags := 2, slot := 5, constantValue := 0 }, { name := "nextHigh", type := (.object "com/example/tightfold/tightfold/FocusFiltering$Run"), accessFlags := 2, slot := 6, constantValue := 0 }]
  methods := #[k4m0, k4m1, k4m2, k4m3]
  instanceTypes := #[.int, .int, .int, (.object "com/example/tightfold/tightfold/FocusFiltering$Run"), (.object "com/example/tightfold/tightfold/FocusFiltering$Run"), (.object "com/example/tightfold/tightfold/FocusFiltering$Run"), (.object "com/example/tightfold/tightfold/FocusFiltering$Run")]
  staticTypes := #[]
  resolved := Array.replicate 80 none
  statics := none }

def pool5 : Array CpInfo := pool [(1, .methodref 2 3), (0, .class_ 4), (0, .nameAndType 5 6), (0, u "java/lang/Object"), (0, u "<init>"), (0, u "()V"), (0, .fieldref 8 9), (0, .class_ 10), (0, .nameAndType 11 12), (0, u "com/example/tightfold/tightfold/FocusFiltering$Run"), (0, u "runs"), (0, u "I"), (0, .fieldref 8 14), (0, .nameAndType 15 12), (0, u "length"), (0, .fieldref 8 17), (0, .nameAndType 18 12), (0, u "lows"), (2, u "clear"), (0, u "(I)V"), (0, u "offer"), (0, u "(III)V"), (4, .class_ 30), (0, u "com/example/tightfold/tightfold/FocusFiltering")] 2

def k5c0 : Code := { maxStack := 1, maxLocals := 1, code := prog_5_method_1_code, exceptionTable := #[], attributes := #[] }
def k5m0 : Method := { name := "<init>", desc := "()V", sig := { parameters := [], returnType := none }, accessFlags := 2, code := some k5c0 }
def k5c1 : Code := { maxStack := 2, maxLocals := 2, code := prog_5_method_2_code, exceptionTable := #[], attributes := #[] }
def k5m1 : Method := { name := "clear", desc := "(I)V", sig := { parameters := [.int], returnType := none }, accessFlags := 0, code := some k5c1 }
def k5c2 : Code := { maxStack := 2, maxLocals := 5, code := prog_5_method_3_code, exceptionTable := #[], attributes := #[] }
def k5m2 : Method := { name := "offer", desc := "(III)V", sig := { parameters := [.int, .int, .int], returnType := none }, accessFlags := 0, code := some k5c2 }
/-- com/example/tightfold/tightfold/FocusFiltering$Run -/
def k5 : Class := { plain "com/example/tightfold/tightfold/FocusFiltering$Run" (some 0) with
  accessFlags := 48
  interfaces := #[]
  cf := some (fileOf pool5 8 #[.nestHost 29] #[{ accessFlags := 2, nameIndex := 5, descriptorIndex := 6, attributes := #[] }, { accessFlags := 0, nameIndex := 21, descriptorIndex := 22, attributes := #[] }, { accessFlags := 0, nameIndex := 23, descriptorIndex := 24, attributes := #[] }] 48 2 #[] #[{ accessFlags := 2, nameIndex := 11, descriptorIndex := 12, attributes := #[] }, { accessFlags := 2, nameIndex := 15, descriptorIndex := 12, attributes := #[] }, { accessFlags := 2, nameIndex := 18, descriptorIndex := 12, attributes := #[] }])
  fields := #[{ name := "runs", type := .int, accessFlags := 2, slot := 0, constantValue := 0 }, { name := "length", type := .int, accessFlags := 2, slot := 1, constantValue := 0 }, { name := "lows", type := .int, accessFlags := 2, slot := 2, constantValue := 0 }]
  methods := #[k5m0, k5m1, k5m2]
  instanceTypes := #[.int, .int, .int]
  staticTypes := #[]
  resolved := Array.replicate 33 none
  statics := none }

def pool6 : Array CpInfo := pool [(1, u "java/lang/Cloneable"), (0, .class_ 1), (0, u "java/lang/Object"), (0, .class_ 3)] 3

/-- java/lang/Cloneable -/
def k6 : Class := { plain "java/lang/Cloneable" (some 0) with
  accessFlags := 1537
  interfaces := #[]
  cf := some (fileOf pool6 2 #[] #[] 1537 4 #[] #[])
  fields := #[]
  methods := #[]
  instanceTypes := #[]
  staticTypes := #[]
  resolved := Array.replicate 8 none
  statics := none }

def pool7 : Array CpInfo := pool [(1, u "java/io/Serializable"), (0, .class_ 1), (0, u "java/lang/Object"), (0, .class_ 3)] 3

/-- java/io/Serializable -/
def k7 : Class := { plain "java/io/Serializable" (some 0) with
  accessFlags := 1537
  interfaces := #[]
  cf := some (fileOf pool7 2 #[] #[] 1537 4 #[] #[])
  fields := #[]
  methods := #[]
  instanceTypes := #[]
  staticTypes := #[]
  resolved := Array.replicate 8 none
  statics := none }

/-- the primitive boolean -/
def k8 : Class := { plain "boolean" none with kind := .primitive 'Z', accessFlags := 0x411 }
/-- [Z -/
def k9 : Class := { plain "[Z" (some 0) with kind := .array 8 .boolean, interfaces := #[6, 7], accessFlags := 1041 }

/-- the primitive byte -/
def k10 : Class := { plain "byte" none with kind := .primitive 'B', accessFlags := 0x411 }
/-- [B -/
def k11 : Class := { plain "[B" (some 0) with kind := .array 10 .byte, interfaces := #[6, 7], accessFlags := 1041 }

/-- the primitive int -/
def k12 : Class := { plain "int" none with kind := .primitive 'I', accessFlags := 0x411 }
/-- [I -/
def k13 : Class := { plain "[I" (some 0) with kind := .array 12 .int, interfaces := #[6, 7], accessFlags := 1041 }

def heap : Heap := #[]
def classes : Array Class := #[k0, k1, k2, k3, k4, k5, k6, k7, k8, k9, k10, k11, k12, k13]
def interned : List (Array UInt16 × Addr) := []
def slotsUsed : Nat := 0
def theMethod : MethodId := ⟨1, 1⟩
def args0 : Array Value := #[.int 5, .int 7, .int 3, .int 1]
def aboutOver (below : List Frame) : State where
  vm := { classes := classes, interned := interned.toArray }
  heap := heap
  slotsUsed := slotsUsed
  threads := #[{ frames := .invoking theMethod args0 :: below }]
def below0 : List Frame := [.native { method := ⟨0, 0⟩, args := #[] }]
def about1 : State := aboutOver below0
def p0 : Program := .bare "" "" ""
def e0 : Env := launch0.env 0 0 0
theorem w_frames : about1.frames = Frame.invoking theMethod args0 :: below0 := rfl
set_option maxRecDepth 65536 in
theorem w_args : argsFit about1.vm theMethod args0 = true := by decide +kernel
set_option maxRecDepth 65536 in
theorem w_heap : heapFits about1 = true := by decide +kernel
set_option maxRecDepth 65536 in
theorem w_runnable : about1.curStatus? = some .runnable := by decide +kernel
set_option maxRecDepth 65536 in
theorem w_alone : about1.alone = true := by decide +kernel
set_option maxRecDepth 65536 in
theorem w_named : about1.methodNamed? x = some theMethod := by decide +kernel
set_option maxRecDepth 65536 in
theorem w_hears : about1.hears theMethod below0 = true := by decide +kernel
set_option maxRecDepth 65536 in
theorem w_ripe : about1.ripe theMethod args0 below0 = true := by decide +kernel
theorem w_running : about1.status = .running := rfl
set_option maxRecDepth 65536 in
theorem w_room : about1.hasRoom e0.platform room_1 = true :=
  launch0.hasRoom_least _ room_1 (by decide +kernel) (by decide +kernel) (by decide +kernel) (by decide +kernel) (by decide +kernel) (by decide +kernel)
theorem allAtoms_all (ts : List Jvm.Cond) (a : Array Jvm.Value) (st : Jvm.State) : (allAtoms ts).before a st = ts.all (fun c => c.before a st) := by
  induction ts with
  | nil => rfl
  | cons c t ih =>
    show (Jvm.Cond.and c (allAtoms t)).before a st = _
    rw [Jvm.Cond.before_and, ih, List.all_cons]
def words1 : List Jvm.Cond := Jvm.Cond.code x code maxLocals ret :: tables_1
/-- a 'code' word, met by the world's own term for the bytes: nothing is compared byte by byte -/
theorem code_word {y : MethodName} {bytes : ByteArray} {mx : Nat} {rt : Option FieldType} {a : Array Value} {s : State} {m : MethodId} {meth : Method} {c : Code} (h1 : s.methodNamed? y = some m) (h2 : s.vm.method? m = some meth) (h3 : meth.code = some c) (h4 : c.code = bytes)
    (h5 : (c.maxLocals == mx && c.exceptionTable.isEmpty && decide (c.maxStack ≤ mostOperands) && decide (meth.sig.returnType = rt) && !meth.locks && decide (parseMethodDescriptor y.desc = some meth.sig)) = true) : (Jvm.Cond.code y bytes mx rt).before a s = true := by
  simp only [Bool.and_eq_true, beq_iff_eq, Bool.not_eq_true', decide_eq_true_eq] at h5
  obtain ⟨⟨⟨⟨⟨g1, g2⟩, g3⟩, g4⟩, g5⟩, g6⟩ := h5
  simp [Cond.before, Cond.holds, Cond.value, h1, h2, h3, h4, g1, g2, g3, g4, g5, g6]
def isCode : Jvm.Cond → Bool
  | .code _ _ _ _ => true
  | _ => false
theorem all_split {L : List Jvm.Cond} {P : Jvm.Cond → Bool} (h1 : L.all (fun c => isCode c || P c) = true) (h2 : ∀ c ∈ L.filter isCode, P c = true) : L.all P = true := by
  refine List.all_eq_true.mpr fun c hc => ?_
  have h := List.all_eq_true.mp h1 c hc
  rcases Bool.eq_false_or_eq_true (isCode c) with hi | hi
  · exact h2 c (List.mem_filter.mpr ⟨hc, hi⟩)
  · simpa [hi] using h
set_option maxRecDepth 65536 in
theorem w_c0 : (Jvm.Cond.code x code maxLocals ret).before args0 about1 = true := code_word (m := ⟨1, 1⟩) (meth := k1m1) (c := k1c1) (by decide +kernel) rfl rfl rfl (by decide +kernel)
set_option maxRecDepth 65536 in
theorem w_c1 : (Jvm.Cond.code ({ cls := "java/lang/Math", name := "max", desc := "(II)I" } : Jvm.MethodName) jdk_29_method_65_code (2 : Nat) (Option.some Jvm.ClassFile.FieldType.int)).before args0 about1 = true := code_word (m := ⟨2, 1⟩) (meth := k2m1) (c := k2c1) (by decide +kernel) rfl rfl rfl (by decide +kernel)
set_option maxRecDepth 65536 in
theorem w_c2 : (Jvm.Cond.code ({ cls := "com/example/tightfold/tightfold/FocusFilteringFilterPinLaw", name := "visit", desc := "([IIIIIII)V" } : Jvm.MethodName) method_4_code (9 : Nat) (Option.none : Option Jvm.ClassFile.FieldType)).before args0 about1 = true := code_word (m := ⟨1, 3⟩) (meth := k1m3) (c := k1c3) (by decide +kernel) rfl rfl rfl (by decide +kernel)
set_option maxRecDepth 65536 in
theorem w_c3 : (Jvm.Cond.code ({ cls := "com/example/tightfold/tightfold/FocusFilteringFilterPinLaw", name := "cost", desc := "(III)I" } : Jvm.MethodName) method_5_code (4 : Nat) (Option.some Jvm.ClassFile.FieldType.int)).before args0 about1 = true := code_word (m := ⟨1, 4⟩) (meth := k1m4) (c := k1c4) (by decide +kernel) rfl rfl rfl (by decide +kernel)
set_option maxRecDepth 65536 in
theorem w_c4 : (Jvm.Cond.code ({ cls := "com/example/tightfold/tightfold/FocusFilteringFilterPinLaw", name := "step", desc := "([IIIII)V" } : Jvm.MethodName) method_6_code (7 : Nat) (Option.none : Option Jvm.ClassFile.FieldType)).before args0 about1 = true := code_word (m := ⟨1, 5⟩) (meth := k1m5) (c := k1c5) (by decide +kernel) rfl rfl rfl (by decide +kernel)
set_option maxRecDepth 65536 in
theorem w_c5 : (Jvm.Cond.code ({ cls := "java/lang/Math", name := "min", desc := "(II)I" } : Jvm.MethodName) jdk_29_method_69_code (2 : Nat) (Option.some Jvm.ClassFile.FieldType.int)).before args0 about1 = true := code_word (m := ⟨2, 2⟩) (meth := k2m2) (c := k2c2) (by decide +kernel) rfl rfl rfl (by decide +kernel)
set_option maxRecDepth 65536 in
theorem w_c6 : (Jvm.Cond.code ({ cls := "com/example/tightfold/tightfold/FocusFiltering", name := "<init>", desc := "(II)V" } : Jvm.MethodName) prog_3_method_1_code (3 : Nat) (Option.none : Option Jvm.ClassFile.FieldType)).before args0 about1 = true := code_word (m := ⟨3, 0⟩) (meth := k3m0) (c := k3c0) (by decide +kernel) rfl rfl rfl (by decide +kernel)
set_option maxRecDepth 65536 in
theorem w_c7 : (Jvm.Cond.code ({ cls := "java/lang/Object", name := "<init>", desc := "()V" } : Jvm.MethodName) object_method_1_code (1 : Nat) (Option.none : Option Jvm.ClassFile.FieldType)).before args0 about1 = true := code_word (m := ⟨0, 0⟩) (meth := k0m0) (c := k0c0) (by decide +kernel) rfl rfl rfl (by decide +kernel)
set_option maxRecDepth 65536 in
theorem w_c8 : (Jvm.Cond.code ({ cls := "com/example/tightfold/tightfold/FocusFiltering", name := "filter", desc := "([Z[ZII)I" } : Jvm.MethodName) prog_3_method_3_code (9 : Nat) (Option.some Jvm.ClassFile.FieldType.int)).before args0 about1 = true := code_word (m := ⟨3, 2⟩) (meth := k3m2) (c := k3c2) (by decide +kernel) rfl rfl rfl (by decide +kernel)
set_option maxRecDepth 65536 in
theorem w_c9 : (Jvm.Cond.code ({ cls := "com/example/tightfold/tightfold/FocusFiltering", name := "fewestRuns", desc := "([Z[ZI)I" } : Jvm.MethodName) prog_3_method_2_code (6 : Nat) (Option.some Jvm.ClassFile.FieldType.int)).before args0 about1 = true := code_word (m := ⟨3, 1⟩) (meth := k3m1) (c := k3c1) (by decide +kernel) rfl rfl rfl (by decide +kernel)
set_option maxRecDepth 65536 in
theorem w_c10 : (Jvm.Cond.code ({ cls := "com/example/tightfold/tightfold/FocusFiltering$PartialCover", name := "<init>", desc := "(II)V" } : Jvm.MethodName) prog_4_method_1_code (3 : Nat) (Option.none : Option Jvm.ClassFile.FieldType)).before args0 about1 = true := code_word (m := ⟨4, 0⟩) (meth := k4m0) (c := k4c0) (by decide +kernel) rfl rfl rfl (by decide +kernel)
set_option maxRecDepth 65536 in
theorem w_c11 : (Jvm.Cond.code ({ cls := "com/example/tightfold/tightfold/FocusFiltering$Run", name := "<init>", desc := "()V" } : Jvm.MethodName) prog_5_method_1_code (1 : Nat) (Option.none : Option Jvm.ClassFile.FieldType)).before args0 about1 = true := code_word (m := ⟨5, 0⟩) (meth := k5m0) (c := k5c0) (by decide +kernel) rfl rfl rfl (by decide +kernel)
set_option maxRecDepth 65536 in
theorem w_c12 : (Jvm.Cond.code ({ cls := "com/example/tightfold/tightfold/FocusFiltering$Run", name := "clear", desc := "(I)V" } : Jvm.MethodName) prog_5_method_2_code (2 : Nat) (Option.none : Option Jvm.ClassFile.FieldType)).before args0 about1 = true := code_word (m := ⟨5, 1⟩) (meth := k5m1) (c := k5c1) (by decide +kernel) rfl rfl rfl (by decide +kernel)
set_option maxRecDepth 65536 in
theorem w_c13 : (Jvm.Cond.code ({ cls := "com/example/tightfold/tightfold/FocusFiltering$PartialCover", name := "extend", desc := "(ZZI)V" } : Jvm.MethodName) prog_4_method_3_code (7 : Nat) (Option.none : Option Jvm.ClassFile.FieldType)).before args0 about1 = true := code_word (m := ⟨4, 2⟩) (meth := k4m2) (c := k4c2) (by decide +kernel) rfl rfl rfl (by decide +kernel)
set_option maxRecDepth 65536 in
theorem w_c14 : (Jvm.Cond.code ({ cls := "com/example/tightfold/tightfold/FocusFiltering$PartialCover", name := "fewest", desc := "()I" } : Jvm.MethodName) prog_4_method_2_code (1 : Nat) (Option.some Jvm.ClassFile.FieldType.int)).before args0 about1 = true := code_word (m := ⟨4, 1⟩) (meth := k4m1) (c := k4c1) (by decide +kernel) rfl rfl rfl (by decide +kernel)
set_option maxRecDepth 65536 in
theorem w_c15 : (Jvm.Cond.code ({ cls := "com/example/tightfold/tightfold/FocusFiltering$PartialCover", name := "offerExtension", desc := "(Lcom/example/tightfold/tightfold/FocusFiltering$Run;Lcom/example/tightfold/tightfold/FocusFiltering$Run;II)V" } : Jvm.MethodName) prog_4_method_4_code (5 : Nat) (Option.none : Option Jvm.ClassFile.FieldType)).before args0 about1 = true := code_word (m := ⟨4, 3⟩) (meth := k4m3) (c := k4c3) (by decide +kernel) rfl rfl rfl (by decide +kernel)
set_option maxRecDepth 65536 in
theorem w_c16 : (Jvm.Cond.code ({ cls := "com/example/tightfold/tightfold/FocusFilteringFilterPinLaw", name := "same", desc := "([ZI)Z" } : Jvm.MethodName) method_3_code (2 : Nat) (Option.some Jvm.ClassFile.FieldType.boolean)).before args0 about1 = true := code_word (m := ⟨1, 2⟩) (meth := k1m2) (c := k1c2) (by decide +kernel) rfl rfl rfl (by decide +kernel)
set_option maxRecDepth 65536 in
theorem w_c17 : (Jvm.Cond.code ({ cls := "com/example/tightfold/tightfold/FocusFiltering$Run", name := "offer", desc := "(III)V" } : Jvm.MethodName) prog_5_method_3_code (5 : Nat) (Option.none : Option Jvm.ClassFile.FieldType)).before args0 about1 = true := code_word (m := ⟨5, 2⟩) (meth := k5m2) (c := k5c2) (by decide +kernel) rfl rfl rfl (by decide +kernel)
set_option maxRecDepth 65536 in
theorem w_c18 : (Jvm.Cond.code ({ cls := "com/example/tightfold/tightfold/FocusFiltering", name := "joins", desc := "(ILcom/example/tightfold/tightfold/FocusFiltering$Run;II)Z" } : Jvm.MethodName) prog_3_method_4_code (5 : Nat) (Option.some Jvm.ClassFile.FieldType.boolean)).before args0 about1 = true := code_word (m := ⟨3, 3⟩) (meth := k3m3) (c := k3c3) (by decide +kernel) rfl rfl rfl (by decide +kernel)
def codes1 : List Jvm.Cond := [Jvm.Cond.code x code maxLocals ret, Jvm.Cond.code ({ cls := "java/lang/Math", name := "max", desc := "(II)I" } : Jvm.MethodName) jdk_29_method_65_code (2 : Nat) (Option.some Jvm.ClassFile.FieldType.int), Jvm.Cond.code ({ cls := "com/example/tightfold/tightfold/FocusFilteringFilterPinLaw", name := "visit", desc := "([IIIIIII)V" } : Jvm.MethodName) method_4_code (9 : Nat) (Option.none : Option Jvm.ClassFile.FieldType), Jvm.Cond.code ({ cls := "com/example/tightfold/tightfold/FocusFilteringFilterPinLaw", name := "cost", desc := "(III)I" } : Jvm.MethodName) method_5_code (4 : Nat) (Option.some Jvm.ClassFile.FieldType.int), Jvm.Cond.code ({ cls := "com/example/tightfold/tightfold/FocusFilteringFilterPinLaw", name := "step", desc := "([IIIII)V" } : Jvm.MethodName) method_6_code (7 : Nat) (Option.none : Option Jvm.ClassFile.FieldType), Jvm.Cond.code ({ cls := "java/lang/Math", name := "min", desc := "(II)I" } : Jvm.MethodName) jdk_29_method_69_code (2 : Nat) (Option.some Jvm.ClassFile.FieldType.int), Jvm.Cond.code ({ cls := "com/example/tightfold/tightfold/FocusFiltering", name := "<init>", desc := "(II)V" } : Jvm.MethodName) prog_3_method_1_code (3 : Nat) (Option.none : Option Jvm.ClassFile.FieldType), Jvm.Cond.code ({ cls := "java/lang/Object", name := "<init>", desc := "()V" } : Jvm.MethodName) object_method_1_code (1 : Nat) (Option.none : Option Jvm.ClassFile.FieldType), Jvm.Cond.code ({ cls := "com/example/tightfold/tightfold/FocusFiltering", name := "filter", desc := "([Z[ZII)I" } : Jvm.MethodName) prog_3_method_3_code (9 : Nat) (Option.some Jvm.ClassFile.FieldType.int), Jvm.Cond.code ({ cls := "com/example/tightfold/tightfold/FocusFiltering", name := "fewestRuns", desc := "([Z[ZI)I" } : Jvm.MethodName) prog_3_method_2_code (6 : Nat) (Option.some Jvm.ClassFile.FieldType.int), Jvm.Cond.code ({ cls := "com/example/tightfold/tightfold/FocusFiltering$PartialCover", name := "<init>", desc := "(II)V" } : Jvm.MethodName) prog_4_method_1_code (3 : Nat) (Option.none : Option Jvm.ClassFile.FieldType), Jvm.Cond.code ({ cls := "com/example/tightfold/tightfold/FocusFiltering$Run", name := "<init>", desc := "()V" } : Jvm.MethodName) prog_5_method_1_code (1 : Nat) (Option.none : Option Jvm.ClassFile.FieldType), Jvm.Cond.code ({ cls := "com/example/tightfold/tightfold/FocusFiltering$Run", name := "clear", desc := "(I)V" } : Jvm.MethodName) prog_5_method_2_code (2 : Nat) (Option.none : Option Jvm.ClassFile.FieldType), Jvm.Cond.code ({ cls := "com/example/tightfold/tightfold/FocusFiltering$PartialCover", name := "extend", desc := "(ZZI)V" } : Jvm.MethodName) prog_4_method_3_code (7 : Nat) (Option.none : Option Jvm.ClassFile.FieldType), Jvm.Cond.code ({ cls := "com/example/tightfold/tightfold/FocusFiltering$PartialCover", name := "fewest", desc := "()I" } : Jvm.MethodName) prog_4_method_2_code (1 : Nat) (Option.some Jvm.ClassFile.FieldType.int), Jvm.Cond.code ({ cls := "com/example/tightfold/tightfold/FocusFiltering$PartialCover", name := "offerExtension", desc := "(Lcom/example/tightfold/tightfold/FocusFiltering$Run;Lcom/example/tightfold/tightfold/FocusFiltering$Run;II)V" } : Jvm.MethodName) prog_4_method_4_code (5 : Nat) (Option.none : Option Jvm.ClassFile.FieldType), Jvm.Cond.code ({ cls := "com/example/tightfold/tightfold/FocusFilteringFilterPinLaw", name := "same", desc := "([ZI)Z" } : Jvm.MethodName) method_3_code (2 : Nat) (Option.some Jvm.ClassFile.FieldType.boolean), Jvm.Cond.code ({ cls := "com/example/tightfold/tightfold/FocusFiltering$Run", name := "offer", desc := "(III)V" } : Jvm.MethodName) prog_5_method_3_code (5 : Nat) (Option.none : Option Jvm.ClassFile.FieldType), Jvm.Cond.code ({ cls := "com/example/tightfold/tightfold/FocusFiltering", name := "joins", desc := "(ILcom/example/tightfold/tightfold/FocusFiltering$Run;II)Z" } : Jvm.MethodName) prog_3_method_4_code (5 : Nat) (Option.some Jvm.ClassFile.FieldType.boolean)]
set_option maxRecDepth 65536 in
theorem codes_eq : words1.filter isCode = codes1 := rfl
theorem w_codes : ∀ c ∈ words1.filter isCode, c.before args0 about1 = true := by
  rw [codes_eq]
  intro c hc
  simp only [codes1, List.mem_cons, List.not_mem_nil, or_false] at hc
  rcases hc with rfl | rfl | rfl | rfl | rfl | rfl | rfl | rfl | rfl | rfl | rfl | rfl | rfl | rfl | rfl | rfl | rfl | rfl | rfl
  · exact w_c0
  · exact w_c1
  · exact w_c2
  · exact w_c3
  · exact w_c4
  · exact w_c5
  · exact w_c6
  · exact w_c7
  · exact w_c8
  · exact w_c9
  · exact w_c10
  · exact w_c11
  · exact w_c12
  · exact w_c13
  · exact w_c14
  · exact w_c15
  · exact w_c16
  · exact w_c17
  · exact w_c18
set_option maxRecDepth 65536 in
theorem w_t1 : (words1.take 24).all (fun c => isCode c || c.before args0 about1) = true := by decide +kernel
set_option maxRecDepth 65536 in
theorem w_t2 : ((words1.drop 24).take 24).all (fun c => isCode c || c.before args0 about1) = true := by decide +kernel
set_option maxRecDepth 65536 in
theorem w_t3 : (((words1.drop 24).drop 24).take 24).all (fun c => isCode c || c.before args0 about1) = true := by decide +kernel
set_option maxRecDepth 65536 in
theorem w_t4 : ((((words1.drop 24).drop 24).drop 24).take 24).all (fun c => isCode c || c.before args0 about1) = true := by decide +kernel
set_option maxRecDepth 65536 in
theorem w_t5 : (((((words1.drop 24).drop 24).drop 24).drop 24).take 24).all (fun c => isCode c || c.before args0 about1) = true := by decide +kernel
set_option maxRecDepth 65536 in
theorem w_t6 : (((((words1.drop 24).drop 24).drop 24).drop 24).drop 24).all (fun c => isCode c || c.before args0 about1) = true := by decide +kernel
theorem w_tables : (allAtoms (Jvm.Cond.code x code maxLocals ret :: tables_1)).before args0 about1 = true := by
  rw [allAtoms_all]
  show words1.all (fun c => c.before args0 about1) = true
  refine all_split ?_ w_codes
  rw [← List.take_append_drop 24 words1, List.all_append, w_t1, ← List.take_append_drop 24 (words1.drop 24), List.all_append, w_t2, ← List.take_append_drop 24 ((words1.drop 24).drop 24), List.all_append, w_t3, ← List.take_append_drop 24 (((words1.drop 24).drop 24).drop 24), List.all_append, w_t4, ← List.take_append_drop 24 ((((words1.drop 24).drop 24).drop 24).drop 24), List.all_append, w_t5, w_t6]
  rfl
set_option maxRecDepth 65536 in
theorem w_case : (Jvm.Cond.and given_1 narrow_1).before args0 about1 = true := by decide +kernel
theorem w_applies : (headSpec (Jvm.Cond.code x code maxLocals ret :: tables_1) room_1).applies x e0.platform about1 = true :=
  (Spec.applies_iff w_frames).mpr ⟨w_running, w_runnable, w_alone, w_named, w_hears, w_ripe, w_room, w_tables⟩
theorem atStart : AtStart classFile x code maxLocals ret World_1 tables_1 room_1 Calls_1 rest_1 Pre_1 launch0 p0 e0 about1 theMethod args0 below0 :=
  ⟨lists_1, trivial, launch0.admits_env _ _ _, launch0.least_env, fairChoices_fair.cas, fairChoices_fair.clock, w_frames, w_args, w_heap, w_applies, trivial, trivial, w_case⟩
end start1
theorem witness_1 : WitnessClaimed_1 := ⟨start1.p0, start1.e0, start1.about1, start1.theMethod, start1.args0, start1.below0, start1.atStart⟩
end Jvm.Pilot.@@N@@
