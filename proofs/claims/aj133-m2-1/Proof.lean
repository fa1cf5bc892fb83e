import JvmDerived
import JvmDerived.Pilot.@@N@@Statement
import JvmDerived.Pilot.@@N@@Code
set_option linter.unusedVariables false
set_option linter.unusedSimpArgs false
namespace Jvm.RoadKit
open Sem ClassFile Op Lib Jvm.Stand Jvm.Free Jvm.LawKit
section New
variable {p : Program} {l : Launch} {e : Env} {R : Room} {s : State} {m : MethodId} {args : Array Value} {below : List Frame} {meth : Method} {c : Code} {T : State} {locs : List Loc} {cells slots : Nat}
theorem retI (X : Stand p l e R s m args below meth c T locs cells slots) (hx : p.tables.exec = Jvm.exec) {pc : Nat} {Ls : Array Slot} {z : Int32} {rest : List Value} (hret : meth.sig.returnType = some .int) (hd : decode c.code pc = .ok (.ireturn, 1)) {fs : List Frame}
    (hl : ∀ (f : JFrame) (acts : List Action), f.method = m → f.locked = none → f.entered = [] → (doReturn e (T.setTop f) acts (some (.int z))).1 = T.setFrames fs) : Steps p.tables e below (T.setTop (mkF m pc Ls (.int z :: rest))) (T.setFrames fs) := by
  have hm' : T.vm.method? m = some meth := X.method'
  have hn : narrow .int (.int z) = .int z := rfl
  show Steps p.tables e below (T.setTop { method := m, pc := pc, locals := Ls, stack := _ :: rest, locked := none }) _
  jvm_step X.here [X.here.top, hx, hd, hm', hret, hn]
  first | (intro acts; rw [hl _ acts rfl rfl rfl]) | rw [hl _ _ rfl rfl rfl]
  exact Steps.refl _
end New
end Jvm.RoadKit
namespace Jvm.Pilot.@@N@@
open Jvm Jvm.ClassFile Sem Op Lib Jvm.Free Jvm.Stand Jvm.LawKit Jvm.RoadKit Bundle Jvm.Pilot.@@N@@.Jvm.D
/-- from A the invocation comes to its end: it returns some v, P holds of v, of the heap and of the places written, and the frame is kept -/
def Rt (p : Program) (e : Env) (below : List Frame) (s : State) (k n : Nat) (P : Option Value → Heap → List Loc → Prop) (A : State) : Prop :=
  ∃ s₂ o, Steps p.tables e below A s₂ ∧ s₂.status = .running ∧ Ended s₂ below o ∧ ∃ v L, o = .returned v ∧ P v s₂.heap L ∧ FrameEnd s o s₂ L k n
/-- where the walk stands: its heap, and that all it wrote lies at n0 or above -/
def Sd (p : Program) (l : Launch) (e : Env) (R : Room) (s : State) (m : MethodId) (args : Array Value) (below : List Frame) (meth : Method) (c : Code) (T : State) (n0 cells slots : Nat) (h : Heap) : Prop :=
  ∃ locs, Stand p l e R s m args below meth c T locs cells slots ∧ Fr n0 locs ∧ T.heap = h
def lcv (j : Fin 2) : Int64 := Int64.ofNat j.val
section Own
variable {p : Program} {l : Launch} {e : Env} {R : Room} {s : State} {m : MethodId} {args : Array Value} {below : List Frame} {meth : Method} {c : Code} {T : State} {n0 cells slots : Nat} {h0 : Heap} {k n : Nat} {P : Option Value → Heap → List Loc → Prop}
theorem Rt.go {A B : State} (f : ∀ t, Steps p.tables e below B t → Steps p.tables e below A t) (h : Rt p e below s k n P B) : Rt p e below s k n P A := by
  obtain ⟨s₂, o, h1, h2⟩ := h
  exact ⟨s₂, o, f _ h1, h2⟩
theorem Rt.iloadN (X : Sd p l e R s m args below meth c T n0 cells slots h0) (hx : p.tables.exec = Jvm.exec) {pc pc' : Nat} {Ls : Array Slot} {S : List Value} {j : Fin 4} {v : Int32} (hd : decode c.code pc = .ok (.iload_n j, 1)) (hl : Ls[j.val]? = some (.val (.int v))) (hp : pc + 1 = pc')
    (h : Rt p e below s k n P (T.setTop (mkF m pc' Ls (.int v :: S)))) : Rt p e below s k n P (T.setTop (mkF m pc Ls (S))) := by
  subst hp; obtain ⟨_, X, _, _⟩ := X; exact Rt.go (fun _ => XS.iloadN X.here hx rfl hd hl) h
theorem Rt.iload (X : Sd p l e R s m args below meth c T n0 cells slots h0) (hx : p.tables.exec = Jvm.exec) {pc pc' : Nat} {Ls : Array Slot} {S : List Value} {j : Nat} {v : Int32} (hd : decode c.code pc = .ok (.iload j, 2)) (hl : Ls[j]? = some (.val (.int v))) (hp : pc + 2 = pc')
    (h : Rt p e below s k n P (T.setTop (mkF m pc' Ls (.int v :: S)))) : Rt p e below s k n P (T.setTop (mkF m pc Ls (S))) := by
  subst hp; obtain ⟨_, X, _, _⟩ := X; exact Rt.go (fun _ => XS.iload X.here hx rfl hd hl) h
theorem Rt.istoreN (X : Sd p l e R s m args below meth c T n0 cells slots h0) (hx : p.tables.exec = Jvm.exec) {pc pc' : Nat} {Ls : Array Slot} {S : List Value} {j : Fin 4} {v : Int32} {l' : Array Slot} (hd : decode c.code pc = .ok (.istore_n j, 1)) (hl : storeLocals Ls j.val (.int v) = some l') (hp : pc + 1 = pc')
    (h : Rt p e below s k n P (T.setTop (mkF m pc' l' (S)))) : Rt p e below s k n P (T.setTop (mkF m pc Ls (.int v :: S))) := by
  subst hp; obtain ⟨_, X, _, _⟩ := X; exact Rt.go (fun _ => XS.istoreN X.here hx rfl hd rfl hl) h
theorem Rt.istore (X : Sd p l e R s m args below meth c T n0 cells slots h0) (hx : p.tables.exec = Jvm.exec) {pc pc' : Nat} {Ls : Array Slot} {S : List Value} {j : Nat} {v : Int32} {l' : Array Slot} (hd : decode c.code pc = .ok (.istore j, 2)) (hl : storeLocals Ls j (.int v) = some l') (hp : pc + 2 = pc')
    (h : Rt p e below s k n P (T.setTop (mkF m pc' l' (S)))) : Rt p e below s k n P (T.setTop (mkF m pc Ls (.int v :: S))) := by
  subst hp; obtain ⟨_, X, _, _⟩ := X; exact Rt.go (fun _ => XS.istore X.here hx rfl hd rfl hl) h
theorem Rt.aloadN (X : Sd p l e R s m args below meth c T n0 cells slots h0) (hx : p.tables.exec = Jvm.exec) {pc pc' : Nat} {Ls : Array Slot} {S : List Value} {j : Fin 4} {v : Value} (hd : decode c.code pc = .ok (.aload_n j, 1)) (hl : Ls[j.val]? = some (.val v)) (hv : v.isRef = true) (hp : pc + 1 = pc')
    (h : Rt p e below s k n P (T.setTop (mkF m pc' Ls (v :: S)))) : Rt p e below s k n P (T.setTop (mkF m pc Ls (S))) := by
  subst hp; obtain ⟨_, X, _, _⟩ := X; exact Rt.go (fun _ => XS.aloadN X.here hx rfl hd hl hv) h
theorem Rt.iconst (X : Sd p l e R s m args below meth c T n0 cells slots h0) (hx : p.tables.exec = Jvm.exec) {pc pc' : Nat} {Ls : Array Slot} {S : List Value} {i : Int} {v : Int32} (hd : decode c.code pc = .ok (.iconst i, 1)) (hv : Int32.ofInt i = v) (hp : pc + 1 = pc')
    (h : Rt p e below s k n P (T.setTop (mkF m pc' Ls (.int v :: S)))) : Rt p e below s k n P (T.setTop (mkF m pc Ls S)) := by
  subst hp hv; obtain ⟨_, X, _, _⟩ := X; exact Rt.go (fun _ => XS.iconst X.here hx rfl hd) h
theorem Rt.bipush (X : Sd p l e R s m args below meth c T n0 cells slots h0) (hx : p.tables.exec = Jvm.exec) {pc pc' : Nat} {Ls : Array Slot} {S : List Value} {i : Int} {v : Int32} (hd : decode c.code pc = .ok (.bipush i, 2)) (hv : (Int8.ofInt i).toInt32 = v) (hp : pc + 2 = pc')
    (h : Rt p e below s k n P (T.setTop (mkF m pc' Ls (.int v :: S)))) : Rt p e below s k n P (T.setTop (mkF m pc Ls S)) := by
  subst hp hv; obtain ⟨_, X, _, _⟩ := X; exact Rt.go (fun _ => XS.bipush X.here hx rfl hd) h
theorem Rt.sipush (X : Sd p l e R s m args below meth c T n0 cells slots h0) (hx : p.tables.exec = Jvm.exec) {pc pc' : Nat} {Ls : Array Slot} {S : List Value} {i : Int} {v : Int32} (hd : decode c.code pc = .ok (.sipush i, 3)) (hv : (Int16.ofInt i).toInt32 = v) (hp : pc + 3 = pc')
    (h : Rt p e below s k n P (T.setTop (mkF m pc' Ls (.int v :: S)))) : Rt p e below s k n P (T.setTop (mkF m pc Ls S)) := by
  subst hp hv; obtain ⟨_, X, _, _⟩ := X; exact Rt.go (fun _ => XS.sipush X.here hx rfl hd) h
theorem Rt.iadd (X : Sd p l e R s m args below meth c T n0 cells slots h0) (hx : p.tables.exec = Jvm.exec) {pc pc' : Nat} {Ls : Array Slot} {S : List Value} {x y r : Int32} (hd : decode c.code pc = .ok (.iadd, 1)) (hr : x + y = r) (hp : pc + 1 = pc')
    (h : Rt p e below s k n P (T.setTop (mkF m pc' Ls (.int r :: S)))) : Rt p e below s k n P (T.setTop (mkF m pc Ls (.int y :: .int x :: S))) := by
  subst hp hr; obtain ⟨_, X, _, _⟩ := X; exact Rt.go (fun _ => XS.iadd X.here hx rfl hd rfl) h
theorem Rt.isub (X : Sd p l e R s m args below meth c T n0 cells slots h0) (hx : p.tables.exec = Jvm.exec) {pc pc' : Nat} {Ls : Array Slot} {S : List Value} {x y r : Int32} (hd : decode c.code pc = .ok (.isub, 1)) (hr : x - y = r) (hp : pc + 1 = pc')
    (h : Rt p e below s k n P (T.setTop (mkF m pc' Ls (.int r :: S)))) : Rt p e below s k n P (T.setTop (mkF m pc Ls (.int y :: .int x :: S))) := by
  subst hp hr; obtain ⟨_, X, _, _⟩ := X; exact Rt.go (fun _ => XS.isub X.here hx rfl hd rfl) h
theorem Rt.iand (X : Sd p l e R s m args below meth c T n0 cells slots h0) (hx : p.tables.exec = Jvm.exec) {pc pc' : Nat} {Ls : Array Slot} {S : List Value} {x y r : Int32} (hd : decode c.code pc = .ok (.iand, 1)) (hr : x &&& y = r) (hp : pc + 1 = pc')
    (h : Rt p e below s k n P (T.setTop (mkF m pc' Ls (.int r :: S)))) : Rt p e below s k n P (T.setTop (mkF m pc Ls (.int y :: .int x :: S))) := by
  subst hp hr; obtain ⟨_, X, _, _⟩ := X; exact Rt.go (fun _ => XS.iand X.here hx rfl hd rfl) h
theorem Rt.i2c (X : Sd p l e R s m args below meth c T n0 cells slots h0) (hx : p.tables.exec = Jvm.exec) {pc pc' : Nat} {Ls : Array Slot} {S : List Value} {v : Int32} {r : Int32} (hd : decode c.code pc = .ok (.i2c, 1)) (hr : v.toUInt32.toUInt16.toUInt32.toInt32 = r) (hp : pc + 1 = pc')
    (h : Rt p e below s k n P (T.setTop (mkF m pc' Ls (.int r :: S)))) : Rt p e below s k n P (T.setTop (mkF m pc Ls (.int v :: S))) := by
  subst hp hr; obtain ⟨_, X, _, _⟩ := X; exact Rt.go (fun _ => XS.i2c X.here hx rfl hd rfl) h
theorem Rt.dup (X : Sd p l e R s m args below meth c T n0 cells slots h0) (hx : p.tables.exec = Jvm.exec) {pc pc' : Nat} {Ls : Array Slot} {S : List Value} {x : Value} (hd : decode c.code pc = .ok (.dup, 1)) (hc : x.category = 1) (hp : pc + 1 = pc')
    (h : Rt p e below s k n P (T.setTop (mkF m pc' Ls (x :: x :: S)))) : Rt p e below s k n P (T.setTop (mkF m pc Ls (x :: S))) := by
  subst hp; obtain ⟨_, X, _, _⟩ := X; exact Rt.go (fun _ => XS.dup X.here hx rfl hd rfl hc) h
theorem Rt.pop (X : Sd p l e R s m args below meth c T n0 cells slots h0) (hx : p.tables.exec = Jvm.exec) {pc pc' : Nat} {Ls : Array Slot} {S : List Value} {x : Value} (hd : decode c.code pc = .ok (.pop, 1)) (hc : x.category = 1) (hp : pc + 1 = pc')
    (h : Rt p e below s k n P (T.setTop (mkF m pc' Ls (S)))) : Rt p e below s k n P (T.setTop (mkF m pc Ls (x :: S))) := by
  subst hp; obtain ⟨_, X, _, _⟩ := X; exact Rt.go (fun _ => XS.pop X.here hx rfl hd rfl hc) h
theorem Rt.dupX1 (X : Sd p l e R s m args below meth c T n0 cells slots h0) (hx : p.tables.exec = Jvm.exec) {pc pc' : Nat} {Ls : Array Slot} {S : List Value} {x y : Value} (hd : decode c.code pc = .ok (.dup_x1, 1)) (hc : x.category = 1) (hc2 : y.category = 1) (hp : pc + 1 = pc')
    (h : Rt p e below s k n P (T.setTop (mkF m pc' Ls (x :: y :: x :: S)))) : Rt p e below s k n P (T.setTop (mkF m pc Ls (x :: y :: S))) := by
  subst hp; obtain ⟨_, X, _, _⟩ := X; exact Rt.go (fun _ => XS.dupX1 X.here hx rfl hd rfl hc hc2) h
theorem Rt.goto (X : Sd p l e R s m args below meth c T n0 cells slots h0) (hx : p.tables.exec = Jvm.exec) {pc pc' : Nat} {Ls : Array Slot} {S : List Value} {o : Int} (hd : decode c.code pc = .ok (.goto o, 3)) (ho : 0 ≤ (pc : Int) + o) (hp : ((pc : Int) + o).toNat = pc')
    (h : Rt p e below s k n P (T.setTop (mkF m pc' Ls S))) : Rt p e below s k n P (T.setTop (mkF m pc Ls S)) := by
  obtain ⟨_, X, _, _⟩ := X; exact Rt.go (fun _ => XS.goto X.here hx rfl (pc0 := pc) rfl hd ho hp) h
theorem Rt.ifY (X : Sd p l e R s m args below meth c T n0 cells slots h0) (hx : p.tables.exec = Jvm.exec) {pc pc' : Nat} {Ls : Array Slot} {S : List Value} {o : Int} {cd : ClassFile.Cond} {x : Int32} (hd : decode c.code pc = .ok (.ifCond cd o, 3)) (hc : ifCond.holds cd x = true) (ho : 0 ≤ (pc : Int) + o) (hp : ((pc : Int) + o).toNat = pc')
    (h : Rt p e below s k n P (T.setTop (mkF m pc' Ls S))) : Rt p e below s k n P (T.setTop (mkF m pc Ls (.int x :: S))) := by
  obtain ⟨_, X, _, _⟩ := X; exact Rt.go (fun _ => XS.ifYes X.here hx rfl (pc0 := pc) rfl hd rfl hc ho hp) h
theorem Rt.ifN (X : Sd p l e R s m args below meth c T n0 cells slots h0) (hx : p.tables.exec = Jvm.exec) {pc pc' : Nat} {Ls : Array Slot} {S : List Value} {o : Int} {cd : ClassFile.Cond} {x : Int32} (hd : decode c.code pc = .ok (.ifCond cd o, 3)) (hc : ifCond.holds cd x = false) (hp : pc + 3 = pc')
    (h : Rt p e below s k n P (T.setTop (mkF m pc' Ls S))) : Rt p e below s k n P (T.setTop (mkF m pc Ls (.int x :: S))) := by
  subst hp; obtain ⟨_, X, _, _⟩ := X; exact Rt.go (fun _ => XS.ifNo X.here hx rfl hd rfl hc) h
theorem Rt.icmpY (X : Sd p l e R s m args below meth c T n0 cells slots h0) (hx : p.tables.exec = Jvm.exec) {pc pc' : Nat} {Ls : Array Slot} {S : List Value} {o : Int} {cd : ClassFile.Cond} {x y : Int32} (hd : decode c.code pc = .ok (.if_icmp cd o, 3)) (hc : if_icmp.holds cd x y = true) (ho : 0 ≤ (pc : Int) + o) (hp : ((pc : Int) + o).toNat = pc')
    (h : Rt p e below s k n P (T.setTop (mkF m pc' Ls S))) : Rt p e below s k n P (T.setTop (mkF m pc Ls (.int y :: .int x :: S))) := by
  obtain ⟨_, X, _, _⟩ := X; exact Rt.go (fun _ => XS.icmpYes X.here hx rfl (pc0 := pc) rfl hd rfl hc ho hp) h
theorem Rt.icmpN (X : Sd p l e R s m args below meth c T n0 cells slots h0) (hx : p.tables.exec = Jvm.exec) {pc pc' : Nat} {Ls : Array Slot} {S : List Value} {o : Int} {cd : ClassFile.Cond} {x y : Int32} (hd : decode c.code pc = .ok (.if_icmp cd o, 3)) (hc : if_icmp.holds cd x y = false) (hp : pc + 3 = pc')
    (h : Rt p e below s k n P (T.setTop (mkF m pc' Ls S))) : Rt p e below s k n P (T.setTop (mkF m pc Ls (.int y :: .int x :: S))) := by
  subst hp; obtain ⟨_, X, _, _⟩ := X; exact Rt.go (fun _ => XS.icmpNo X.here hx rfl hd rfl hc) h
theorem Rt.retZ (X : Sd p l e R s m args below meth c T n0 cells slots h0) (hx : p.tables.exec = Jvm.exec) (hlk : meth.locks = false) {t : FieldType} (hret : meth.sig.returnType = some t) (ht : t = .boolean ∨ t = .byte ∨ t = .char ∨ t = .short) {pc : Nat} {Ls : Array Slot} {S : List Value} {z w : Int32} (hd : decode c.code pc = .ok (.ireturn, 1)) (hw : nar t z = w) (hk : cells ≤ k) (hn : slots ≤ n)
    (hP : ∀ L, Fr n0 L → P (some (.int w)) h0 L) : Rt p e below s k n P (T.setTop (mkF m pc Ls (.int z :: S))) := by
  subst hw; obtain ⟨locs, X, N, eh⟩ := X
  obtain ⟨fs, hr, hrun, hended, hW, hsame⟩ := X.leave (v := some (.int (nar t z))) (fun h => by rw [hret] at h; cases h) hlk
  exact ⟨_, _, retN X hx hret ht hd hr, hrun, hended, _, _, rfl, by show P _ T.heap _; rw [eh]; exact hP _ N, ⟨_, rfl⟩, hW, hsame.mono hk hn⟩
theorem Rt.retI (X : Sd p l e R s m args below meth c T n0 cells slots h0) (hx : p.tables.exec = Jvm.exec) (hlk : meth.locks = false) (hret : meth.sig.returnType = some .int) {pc : Nat} {Ls : Array Slot} {S : List Value} {z : Int32} (hd : decode c.code pc = .ok (.ireturn, 1)) (hk : cells ≤ k) (hn : slots ≤ n)
    (hP : ∀ L, Fr n0 L → P (some (.int z)) h0 L) : Rt p e below s k n P (T.setTop (mkF m pc Ls (.int z :: S))) := by
  obtain ⟨locs, X, N, eh⟩ := X
  obtain ⟨fs, hr, hrun, hended, hW, hsame⟩ := X.leave (v := some (.int z)) (fun h => by rw [hret] at h; cases h) hlk
  exact ⟨_, _, Jvm.RoadKit.retI X hx hret hd hr, hrun, hended, _, _, rfl, by show P _ T.heap _; rw [eh]; exact hP _ N, ⟨_, rfl⟩, hW, hsame.mono hk hn⟩
theorem Rt.retV (X : Sd p l e R s m args below meth c T n0 cells slots h0) (hx : p.tables.exec = Jvm.exec) (hlk : meth.locks = false) (hret : meth.sig.returnType = none) {pc : Nat} {Ls : Array Slot}  (hd : decode c.code pc = .ok (.return_, 1)) (hk : cells ≤ k) (hn : slots ≤ n)
    (hP : ∀ L, Fr n0 L → P none h0 L) : Rt p e below s k n P (T.setTop (mkF m pc Ls [])) := by
  obtain ⟨locs, X, N, eh⟩ := X
  obtain ⟨fs, hr, hrun, hended, hW, hsame⟩ := X.leave (v := none) (fun _ => rfl) hlk
  exact ⟨_, _, X.returnOut hx hret hd hr, hrun, hended, _, _, rfl, by show P _ T.heap _; rw [eh]; exact hP _ N, ⟨_, rfl⟩, hW, hsame.mono hk hn⟩
abbrev Mt (l : Launch) (Z : State) (y : MethodName) (ws : List Jvm.Cond) (rm : Room) (as' : Array Value) (h : Heap) (Q : Option Value → Heap → List Loc → Prop) : Prop :=
  MetFree l y (head1 ws rm) (fun a U => a = as' ∧ Z.Warmed39 U.vm ∧ U.heap = h) (fun _ _ _ _ _ => True) (fun _ U o U' => ∃ v L, o = .returned v ∧ Q v U'.heap L ∧ FrameEnd U o U' L rm.cells rm.slots)
/-- from a body's walk to its contract -/
theorem Mt.of {Z : State} {y : MethodName} {bytes : ByteArray} {maxL : Nat} {ret : Option FieldType} {ws : List Jvm.Cond} {rm : Room} {as' : Array Value} {h : Heap} {Q : Option Value → Heap → List Loc → Prop} (n0 : Nat) (hpl : plainFor y = true)
    (body : ∀ (p : Program) (e : Env) (s : State) (m : MethodId) (below : List Frame) (meth : Method) (c : Code) (T : State), Sd p l e rm s m as' below meth c T n0 0 0 h → p.tables.exec = Jvm.exec → Z.Warmed39 s.vm → c.code = bytes → c.maxLocals = maxL → s.vm.findClass y.cls = some m.cls → meth.sig.returnType = ret → meth.locks = false → meth.name = y.name → s.heap = h →
      Rt p e below s rm.cells rm.slots Q (T.setTop (entryFrame m as' maxL))) : Mt l Z y (Jvm.Cond.code y bytes maxL ret :: ws) rm as' h Q := by
  refine MetFree.of_bodySF hpl hisR ?_
  intro p e s m args below meth c s₁ Bd hml0 hP hK
  obtain ⟨rfl, hZ, hh⟩ := hP
  have e0 : s₁.heap = h := by rw [← hh, Bd.state]; rfl
  obtain ⟨s₂, o, h1, h2, h3, v, L, h4, h5, h6⟩ := body p e s m below meth c s₁ ⟨[], Stand.of_body Bd, Fr.nil n0, e0⟩ Bd.exec hZ Bd.bytes hml0 (findClass_of_methodNamed Bd.named) Bd.returns (BodyLoose.notSynchronized Bd) (name_of_methodNamed Bd.named Bd.method).1 hh
  exact ⟨s₂, o, h1, h2, h3, v, L, h4, h5, h6⟩
theorem Rt.callS (X : Sd p l e R s m args below meth c T n0 cells slots h0) (hx : p.tables.exec = Jvm.exec) {Z : State} {a0 : Array Value} (hZ : Z.Warmed39 s.vm) {own : String} {index : Nat} {y : MethodName} {bytes : ByteArray} {maxL W : Nat} {ret : Option FieldType} {rm : Room} {as' : Array Value} {Q : Option Value → Heap → List Loc → Prop}
    (hown : s.vm.findClass own = some m.cls) (w1 : (Cond.methodLink own index y).before a0 Z = true) (w2 : (Cond.static y).before a0 Z = true) (w3 : (Cond.initialized y.cls).before a0 Z = true) (w4 : (Cond.code y bytes maxL ret).before a0 Z = true) (hy : y.cls ≠ "java/lang/invoke/MethodHandle" ∧ y.cls ≠ "java/lang/invoke/VarHandle")
    (hM : Mt l Z y [Cond.code y bytes maxL ret] rm as' h0 Q) (hF : ∀ v h L, Q v h L → Fr n0 L) (hf : rm.frames + 1 ≤ R.frames) (hl : W + (maxL + 11) + rm.locals ≤ R.locals) (hc : cells + rm.cells ≤ R.cells) (hs : slots + rm.slots ≤ R.slots)
    {pc pc' : Nat} {Ls : Array Slot} {S argsL rest : List Value} (hsize : Ls.size = c.maxLocals) (hlen : ∀ sig, parseMethodDescriptor y.desc = some sig → argsL.length = sig.parameters.length) (hst : S = argsL.reverse ++ rest) (has : argsL.toArray = as') (hW : (rest.map fun v => v.category).sum ≤ W) (hd : decode c.code pc = .ok (.invokestatic index, 3)) (hp : pc + 3 = pc')
    (hh : ∀ v T' h' L, Sd p l e R s m args below meth c T' n0 (cells + rm.cells) (slots + rm.slots) h' → Q v h' L → Rt p e below s k n P (T'.setTop (mkF m pc' Ls (v.toList ++ rest)))) : Rt p e below s k n P (T.setTop (mkF m pc Ls S)) := by
  subst hp has
  obtain ⟨locs, X, N, eT⟩ := X
  obtain ⟨v, _, ⟨T', L', k', n'⟩, -, X', ⟨Lc, hQ, l', y', z'⟩, st⟩ := Jvm.LawKit.callS X hx (y := y) hown (mvT hZ w1) (mvT hZ w2) (mvT hZ w3) (mvT hZ w4) hy (backOf (W := W) hM hZ w4 w3 hf hl) (g := mkF m pc Ls S) rfl hsize (argsL := argsL) (rest := rest) hlen hst (by show 2 * 0 + _ ≤ _; omega) hd (fun _ _ => ⟨rfl, eT, hc, hs⟩)
  dsimp only [Pt.U, Pt.locs, Pt.cells, Pt.slots] at X' l' y' z' st hQ
  subst l' y' z'
  exact Rt.go st (hh v T' _ Lc ⟨_, X', Fr.app N (hF _ _ _ hQ), rfl⟩ hQ)
/-- a static method that writes nothing -/
theorem Rt.callP (X : Sd p l e R s m args below meth c T n0 cells slots h0) (hx : p.tables.exec = Jvm.exec) {Z : State} {a0 : Array Value} (hZ : Z.Warmed39 s.vm) {own : String} {index : Nat} {y : MethodName} {bytes : ByteArray} {maxL W : Nat} {ret : Option FieldType} {rm : Room} {as' : Array Value} {r : Value}
    (hown : s.vm.findClass own = some m.cls) (w1 : (Cond.methodLink own index y).before a0 Z = true) (w2 : (Cond.static y).before a0 Z = true) (w3 : (Cond.initialized y.cls).before a0 Z = true) (w4 : (Cond.code y bytes maxL ret).before a0 Z = true) (hy : y.cls ≠ "java/lang/invoke/MethodHandle" ∧ y.cls ≠ "java/lang/invoke/VarHandle")
    (hM : Mt l Z y [Cond.code y bytes maxL ret] rm as' h0 (fun v h L => v = some r ∧ Fr n0 L ∧ h = h0)) (hf : rm.frames + 1 ≤ R.frames) (hl : W + (maxL + 11) + rm.locals ≤ R.locals) (hc : cells + rm.cells ≤ R.cells) (hs : slots + rm.slots ≤ R.slots) (hc0 : rm.cells = 0) (hs0 : rm.slots = 0)
    {pc pc' : Nat} {Ls : Array Slot} {S argsL rest : List Value} (hsize : Ls.size = c.maxLocals) (hlen : ∀ sig, parseMethodDescriptor y.desc = some sig → argsL.length = sig.parameters.length) (hst : S = argsL.reverse ++ rest) (has : argsL.toArray = as') (hW : (rest.map fun v => v.category).sum ≤ W) (hd : decode c.code pc = .ok (.invokestatic index, 3)) (hp : pc + 3 = pc')
    (hh : ∀ T', Sd p l e R s m args below meth c T' n0 cells slots h0 → Rt p e below s k n P (T'.setTop (mkF m pc' Ls (r :: rest)))) : Rt p e below s k n P (T.setTop (mkF m pc Ls S)) := by
  refine Rt.callS X hx hZ hown w1 w2 w3 w4 hy hM (fun _ _ _ q => q.2.1) hf hl hc hs hsize hlen hst has hW hd hp ?_
  rintro v T' h' L X' ⟨rfl, _, rfl⟩
  rw [hc0, hs0, Nat.add_zero, Nat.add_zero] at X'
  exact hh T' X'
/-- an instance method, by the contract of the body that the receiver's class selects -/
theorem Rt.callV (X : Sd p l e R s m args below meth c T n0 cells slots h0) (hx : p.tables.exec = Jvm.exec) {Z : State} {a0 : Array Value} (hZ : Z.Warmed39 s.vm) {own : String} {index : Nat} {y : MethodName} {bytes : ByteArray} {maxL W : Nat} {ret : Option FieldType} {rm : Room} {as' : Array Value} {Q : Option Value → Heap → List Loc → Prop} {K : String} {yz : MethodName}
    (hown : s.vm.findClass own = some m.cls) (w1 : (Cond.methodLink own index y).before a0 Z = true) (w2 : (Cond.declares y).before a0 Z = true) (hnf : NotFace s y) (w5 : (Cond.selects K y yz).before a0 Z = true) (w6 : (Cond.instanceMethod yz).before a0 Z = true) (w3 : (Cond.initialized yz.cls).before a0 Z = true) (w4 : (Cond.code yz bytes maxL ret).before a0 Z = true) (hy : y.cls ≠ "java/lang/invoke/MethodHandle" ∧ y.cls ≠ "java/lang/invoke/VarHandle")
    {a : Addr} (E : Exa Z h0 a K) (hM : Mt l Z yz [Cond.code yz bytes maxL ret] rm as' h0 Q) (hF : ∀ v h L, Q v h L → Fr n0 L) (hf : rm.frames + 1 ≤ R.frames) (hl : W + (maxL + 11) + rm.locals ≤ R.locals) (hc : cells + rm.cells ≤ R.cells) (hs : slots + rm.slots ≤ R.slots)
    {pc pc' : Nat} {Ls : Array Slot} {S argsL rest : List Value} (hsize : Ls.size = c.maxLocals) (hlen : ∀ sig, parseMethodDescriptor y.desc = some sig → argsL.length = sig.parameters.length) (hst : S = argsL.reverse ++ .ref a :: rest) (has : (.ref a :: argsL).toArray = as') (hW : (rest.map fun v => v.category).sum ≤ W) (hd : decode c.code pc = .ok (.invokevirtual index, 3)) (hp : pc + 3 = pc')
    (hh : ∀ v T' h' L, Sd p l e R s m args below meth c T' n0 (cells + rm.cells) (slots + rm.slots) h' → Q v h' L → Rt p e below s k n P (T'.setTop (mkF m pc' Ls (v.toList ++ rest)))) : Rt p e below s k n P (T.setTop (mkF m pc Ls S)) := by
  subst hp has
  obtain ⟨locs, X, N, eT⟩ := X
  obtain ⟨cq, kq, qa, qb, qc⟩ := isOf hZ eT E
  obtain ⟨v, _, ⟨T', L', k', n'⟩, -, X', ⟨Lc, hQ, l', y', z'⟩, st⟩ := X.virtualBack hx (y := y) (z := yz) hown (mvT hZ w1) (mvT hZ w2) hnf (mvT hZ w5) (mvT hZ w6) hy (backOf (W := W) hM hZ w4 w3 hf hl) qa qc (g := mkF m pc Ls S) rfl hsize (Steps.refl _) (argsL := argsL) (rest := rest) hlen hst (by show 2 * 0 + _ ≤ _; omega) hd (fun _ _ => ⟨rfl, eT, hc, hs⟩)
  dsimp only [Pt.U, Pt.locs, Pt.cells, Pt.slots] at X' l' y' z' st hQ
  subst l' y' z'
  exact Rt.go (fun _ q => st.trans q) (hh v T' _ Lc ⟨_, X', Fr.app N (hF _ _ _ hQ), rfl⟩ hQ)
/-- a constructor by its contract -/
theorem Rt.callPr (X : Sd p l e R s m args below meth c T n0 cells slots h0) (hx : p.tables.exec = Jvm.exec) {Z : State} {a0 : Array Value} (hZ : Z.Warmed39 s.vm) {own : String} {index : Nat} {y : MethodName} {bytes : ByteArray} {maxL W : Nat} {ret : Option FieldType} {rm : Room} {as' : Array Value} {Q : Option Value → Heap → List Loc → Prop} {K : String} {nf : Nat}
    (hown : s.vm.findClass own = some m.cls) (w1 : (Cond.methodLink own index y).before a0 Z = true) (w2 : (Cond.instanceMethod y).before a0 Z = true) (w5 : (Cond.privateMethod y).before a0 Z = true) (wi : (Cond.instantiable y.cls nf).before a0 Z = true) (w3 : (Cond.initialized y.cls).before a0 Z = true) (w4 : (Cond.code y bytes maxL ret).before a0 Z = true) (hy : y.cls ≠ "java/lang/invoke/MethodHandle" ∧ y.cls ≠ "java/lang/invoke/VarHandle")
    {a : Addr} (E : Exa Z h0 a K) (hM : Mt l Z y [Cond.code y bytes maxL ret] rm as' h0 Q) (hF : ∀ v h L, Q v h L → Fr n0 L) (hf : rm.frames + 1 ≤ R.frames) (hl : W + (maxL + 11) + rm.locals ≤ R.locals) (hc : cells + rm.cells ≤ R.cells) (hs : slots + rm.slots ≤ R.slots)
    {pc pc' : Nat} {Ls : Array Slot} {S argsL rest : List Value} (hsize : Ls.size = c.maxLocals) (hlen : ∀ sig, parseMethodDescriptor y.desc = some sig → argsL.length = sig.parameters.length) (hst : S = argsL.reverse ++ .ref a :: rest) (has : (.ref a :: argsL).toArray = as') (hW : (rest.map fun v => v.category).sum ≤ W) (hd : decode c.code pc = .ok (.invokevirtual index, 3)) (hp : pc + 3 = pc')
    (hh : ∀ v T' h' L, Sd p l e R s m args below meth c T' n0 (cells + rm.cells) (slots + rm.slots) h' → Q v h' L → Rt p e below s k n P (T'.setTop (mkF m pc' Ls (v.toList ++ rest)))) : Rt p e below s k n P (T.setTop (mkF m pc Ls S)) := by
  subst hp has
  obtain ⟨locs, X, N, eT⟩ := X
  obtain ⟨ce, q1, q2⟩ := E.cell
  obtain ⟨cc, kc, i1, i2, -, i4, -⟩ := Cond.instantiable_spec (mvT hZ wi (args := args))
  have hpv := Cond.privateMethod_at (mvP hZ w5 (args := #[]))
  have hni : kc.isInterface = false := by simp only [Bool.or_eq_false_iff] at i4; exact i4.1
  obtain ⟨v, _, ⟨T', L', k', n'⟩, -, X', ⟨Lc, hQ, l', y', z'⟩, st⟩ := X.privateBack hx (y := y) hown (mvT hZ w1) (mvT hZ w2) (selects_self_of_private i1 i2 hni hpv (mvT hZ w2) hy) hpv (mvT hZ w4) hy (backOf (W := W) hM hZ w4 w3 hf hl) (g := mkF m pc Ls S) rfl hsize (Steps.refl _) (a := a) (by rw [eT]; exact q1) q2 (argsL := argsL) (rest := rest) hlen hst (by show 2 * 0 + _ ≤ _; omega) hd (fun _ _ => ⟨rfl, eT, hc, hs⟩)
  dsimp only [Pt.U, Pt.locs, Pt.cells, Pt.slots] at X' l' y' z' st hQ
  subst l' y' z'
  exact Rt.go (fun _ q => st.trans q) (hh v T' _ Lc ⟨_, X', Fr.app N (hF _ _ _ hQ), rfl⟩ hQ)
theorem Rt.initO (X : Sd p l e R s m args below meth c T n0 cells slots h0) (hx : p.tables.exec = Jvm.exec) {Z : State} {a0 : Array Value} (hZ : Z.Warmed39 s.vm) {own : String} {index : Nat} (hown : s.vm.findClass own = some m.cls) (w1 : (Cond.methodLink own index Lib.objectInit).before a0 Z = true) (w2 : (Cond.instanceMethod Lib.objectInit).before a0 Z = true) (w3 : (Cond.code Lib.objectInit ⟨#[0xb1]⟩ 1 none).before a0 Z = true)
    {pc pc' W : Nat} {Ls : Array Slot} {rest : List Value} {a : Addr} (hsize : Ls.size = c.maxLocals) (hd : decode c.code pc = .ok (.invokespecial index, 3)) (hf : 1 ≤ R.frames) (hW : (rest.map fun v => v.category).sum ≤ W) (hl : W + 12 ≤ R.locals) (hp : pc + 3 = pc')
    (hh : ∀ T', Sd p l e R s m args below meth c T' n0 cells slots h0 → Rt p e below s k n P (T'.setTop (mkF m pc' Ls rest))) : Rt p e below s k n P (T.setTop (mkF m pc Ls (.ref a :: rest))) := by
  subst hp
  obtain ⟨locs, X, N, eT⟩ := X
  obtain ⟨T', X', e', st⟩ := Jvm.RoadKit.initO X hx hZ hown w1 w2 w3 eT (g := mkF m pc Ls (.ref a :: rest)) rfl hsize rfl hd hf (W := W) (by show 2 * 0 + _ ≤ _; omega) hl
  exact Rt.go st (hh T' ⟨_, X', N, e'⟩)
theorem Rt.getS (X : Sd p l e R s m args below meth c T n0 cells slots h0) (hx : p.tables.exec = Jvm.exec) {Z : State} {a0 : Array Value} (hZ : Z.Warmed39 s.vm) {own K f d host : String} {index : Nat} (hown : s.vm.findClass own = some m.cls) (w : (Cond.fieldLink own index K f d).before a0 Z = true ∨ (Cond.fieldLinkNest own index K f d host).before a0 Z = true) {v : Value} (F : Sta Z h0 K f d v) {pc pc' : Nat} {Ls : Array Slot} {S : List Value} (hd : decode c.code pc = .ok (.getstatic index, 3)) (hp : pc + 3 = pc')
    (hh : ∀ T', Sd p l e R s m args below meth c T' n0 cells slots h0 → Rt p e below s k n P (T'.setTop (mkF m pc' Ls (v :: S)))) : Rt p e below s k n P (T.setTop (mkF m pc Ls S)) := by
  subst hp
  obtain ⟨locs, X, N, eT⟩ := X
  obtain ⟨T', X', e', st⟩ := getS2 X hx hZ hown (host := host) w Via.refl eT F (g := mkF m pc Ls S) rfl hd
  exact Rt.go st (hh T' ⟨_, X', N, e'⟩)
theorem Rt.getF (X : Sd p l e R s m args below meth c T n0 cells slots h0) (hx : p.tables.exec = Jvm.exec) {Z : State} {a0 : Array Value} (hZ : Z.Warmed39 s.vm) {own K f d host : String} {index : Nat} (hown : s.vm.findClass own = some m.cls) (w : (Cond.fieldLink own index K f d).before a0 Z = true ∨ (Cond.fieldLinkNest own index K f d host).before a0 Z = true) {v : Value} {a : Addr} (F : Fld Z h0 a K f d v) {pc pc' : Nat} {Ls : Array Slot} {S : List Value} (hd : decode c.code pc = .ok (.getfield index, 3)) (hp : pc + 3 = pc')
    (hh : ∀ T', Sd p l e R s m args below meth c T' n0 cells slots h0 → Rt p e below s k n P (T'.setTop (mkF m pc' Ls (v :: S)))) : Rt p e below s k n P (T.setTop (mkF m pc Ls (.ref a :: S))) := by
  subst hp
  obtain ⟨locs, X, N, eT⟩ := X
  obtain ⟨T', X', e', st⟩ := Jvm.RoadKit.getF X hx hZ hown (host := host) w Via.refl eT F (g := mkF m pc Ls (.ref a :: S)) rfl rfl hd
  exact Rt.go st (hh T' ⟨_, X', N, e'⟩)
theorem Rt.putF (X : Sd p l e R s m args below meth c T n0 cells slots h0) (hx : p.tables.exec = Jvm.exec) {Z : State} {a0 : Array Value} (hZ : Z.Warmed39 s.vm) {own K f d C' host : String} {index kk : Nat} {ty : FieldType} (hown : s.vm.findClass own = some m.cls) (w : (Cond.fieldLink own index K f d).before a0 Z = true ∨ (Cond.fieldLinkNest own index K f d host).before a0 Z = true) {v old : Value} {a : Addr} (F : Fld Z h0 a K f d old) (E : Exa Z h0 a C') (L : (Cond.lays C' K f d).before a0 Z = true ∨ ((Cond.laysFinal C' K f d).before a0 Z = true ∧ own = K ∧ meth.name = "<init>")) (wi : (Cond.instantiable C' kk).before a0 Z = true) (hty : parseFieldDescriptor d = some ty) (hn : narrow ty v = v) (hf : fits ty v = true) (ga : n0 ≤ a) {pc pc' : Nat} {Ls : Array Slot} {S : List Value} (hd : decode c.code pc = .ok (.putfield index, 3)) (hp : pc + 3 = pc')
    (hh : ∀ T' h', Sd p l e R s m args below meth c T' n0 cells slots h' → Wr h0 h' a (Jvm.RoadKit.slotOf Z K f d) v → Fld Z h' a K f d v → Rt p e below s k n P (T'.setTop (mkF m pc' Ls S))) : Rt p e below s k n P (T.setTop (mkF m pc Ls (v :: .ref a :: S))) := by
  subst hp
  obtain ⟨locs, X, N, eT⟩ := X
  obtain ⟨T', h', X', e', W', st⟩ := Jvm.RoadKit.putF X hx hZ hown (host := host) w Via.refl eT F E L wi hty hn hf (g := mkF m pc Ls (v :: .ref a :: S)) rfl rfl hd
  exact Rt.go st (hh T' h' ⟨_, X', Fr.snoc X' N ga, e'⟩ W' (F.same W'))
def IA (Z : State) (h : Heap) (a : Addr) (ty : FieldType) (vs : List Value) : Prop := ∃ cl : Cell, Arr Z h a cl ty ∧ cl.slots = vs.toArray ∧ vs.length < 2 ^ 31
section Arrays
variable {Z : State} {h h' : Heap} {a b : Addr} {ty : FieldType} {vs : List Value}
theorem IA.lt (F : IA Z h a ty vs) : a < h.size := by obtain ⟨_, A, -⟩ := F; exact A.lt
theorem IA.ext (F : IA Z h a ty vs) (E : Ext h h') : IA Z h' a ty vs := by obtain ⟨c, A, r⟩ := F; exact ⟨c, A.ext E, r⟩
theorem IA.other {sl : Nat} {v : Value} (F : IA Z h a ty vs) (W : Wr h h' b sl v) (q : a ≠ b) : IA Z h' a ty vs := by obtain ⟨c, A, r⟩ := F; exact ⟨c, A.other W q, r⟩
theorem IA.keep {ws : List Addr} (F : IA Z h a ty vs) (K : Keep h h' ws) (q : a ∉ ws) : IA Z h' a ty vs := by obtain ⟨c, A, r⟩ := F; exact ⟨c, ⟨K.2.1 a c A.1 q, A.2⟩, r⟩
theorem IA.set {i : Nat} {v : Value} (F : IA Z h a ty vs) (W : Wr h h' a i v) : IA Z h' a ty (vs.set i v) := by
  obtain ⟨c, A, r, q⟩ := F
  refine ⟨_, A.same W, ?_, by rw [List.length_set]; exact q⟩
  show (c.slots.setIfInBounds i v) = _
  rw [r]; simp
theorem IA.new {k : ClassId} {z : Int32} {i : Nat} (A : Arr Z h a (newA k ty z) ty) (hz : z.toNatClampNeg = i) : IA Z h a ty (List.replicate i (defaultValue ty)) := by
  refine ⟨_, A, ?_, ?_⟩
  · show Array.replicate _ _ = _
    rw [hz]; simp
  · rw [List.length_replicate, ← hz]
    have := z.toInt_lt
    simp only [Int32.toNatClampNeg]; omega
theorem inA {cl : Cell} {j : Int32} {i : Nat} (r : cl.slots = vs.toArray) (hj : ¬ j < 0) (hi : j.toNatClampNeg = i) (hv : i < vs.length) : ¬ (j < 0 ∨ cl.slots.size ≤ j.toNatClampNeg) := by
  rintro (q | q)
  · exact hj q
  · rw [r, hi] at q; simp at q; omega
end Arrays
theorem Rt.newP (X : Sd p l e R s m args below meth c T n0 cells slots h0) (hx : p.tables.exec = Jvm.exec) {Z : State} {a0 : Array Value} (hZ : Z.Warmed39 s.vm) {aty : ArrayType} {ty : FieldType} (hty : newarray.typeOf aty = ty) (w : (Cond.arrayClass ty).before a0 Z = true) {z : Int32} {i : Nat} (hz : z.toNatClampNeg = i) (hn : ¬ z < 0) {cap : Nat} (hcap : i ≤ cap) (hb : cap * 8 ≤ 536870912) {pc pc' : Nat} {Ls : Array Slot} {S : List Value} (hd : decode c.code pc = .ok (.newarray aty, 2)) (hc : cells + 1 ≤ R.cells) (hl : slots + cap ≤ R.slots) (hp : pc + 2 = pc')
    (hh : ∀ T' h' a, a = h0.size → Sd p l e R s m args below meth c T' n0 (cells + 1) (slots + cap) h' → Ext h0 h' → IA Z h' a ty (List.replicate i (defaultValue ty)) → Rt p e below s k n P (T'.setTop (mkF m pc' Ls (.ref a :: S)))) : Rt p e below s k n P (T.setTop (mkF m pc Ls (.int z :: S))) := by
  subst hp hty
  obtain ⟨locs, X, N, eT⟩ := X
  obtain ⟨T', h', cA, X', e', E', A', st⟩ := Jvm.RoadKit.newP X hx hZ w eT (g := mkF m pc Ls (.int z :: S)) rfl hd rfl hn (cap := cap) (by rw [hz]; exact hcap) hb hc hl
  exact Rt.go st (hh T' h' _ rfl ⟨_, X', N, e'⟩ E' (IA.new A' hz))
theorem Rt.arraylength (X : Sd p l e R s m args below meth c T n0 cells slots h0) (hx : p.tables.exec = Jvm.exec) {Z : State} (hZ : Z.Warmed39 s.vm) {ty : FieldType} {a : Addr} {vs : List Value} (F : IA Z h0 a ty vs) {v : Int32} (hv : vs.length.toInt32 = v) {pc pc' : Nat} {Ls : Array Slot} {S : List Value} (hd : decode c.code pc = .ok (.arraylength, 1)) (hp : pc + 1 = pc')
    (h : Rt p e below s k n P (T.setTop (mkF m pc' Ls (.int v :: S)))) : Rt p e below s k n P (T.setTop (mkF m pc Ls (.ref a :: S))) := by
  subst hp hv
  obtain ⟨locs, X, N, eT⟩ := X
  obtain ⟨cl, A, r, q⟩ := F
  have e1 : vs.length = cl.slots.size := by rw [r]; simp
  rw [e1] at h
  exact Rt.go (X.arraylength hx (by rw [eT]; exact A.1) (State.isArrayOf_alike hZ.alike A.2.1) (g := mkF m pc Ls (.ref a :: S)) rfl rfl hd) h

theorem Rt.iaload (X : Sd p l e R s m args below meth c T n0 cells slots h0) (hx : p.tables.exec = Jvm.exec) {Z : State} (hZ : Z.Warmed39 s.vm) {a : Addr} {vs : List Value} (F : IA Z h0 a .int vs) {j : Int32} {i : Nat} (hi : j.toNatClampNeg = i) (hj : ¬ j < 0) {v : Value} (hv : vs[i]? = some v) {pc pc' : Nat} {Ls : Array Slot} {S : List Value} (hd : decode c.code pc = .ok (.iaload, 1)) (hp : pc + 1 = pc')
    (h : Rt p e below s k n P (T.setTop (mkF m pc' Ls (v :: S)))) : Rt p e below s k n P (T.setTop (mkF m pc Ls (.int j :: .ref a :: S))) := by
  subst hp
  obtain ⟨locs, X, N, eT⟩ := X
  obtain ⟨cl, A, r, q⟩ := F
  exact Rt.go (X.iaload hx (j := j) (v := v) (by rw [eT]; exact A.1) (State.isArrayOf_alike hZ.alike A.2.1) A.2.2 (inA r hj hi (List.getElem?_eq_some_iff.mp hv).1) (by rw [r, hi]; simpa using hv) (g := mkF m pc Ls (.int j :: .ref a :: S)) rfl rfl hd) h
theorem Rt.baload (X : Sd p l e R s m args below meth c T n0 cells slots h0) (hx : p.tables.exec = Jvm.exec) {Z : State} (hZ : Z.Warmed39 s.vm) {a : Addr} {vs : List Value} (F : IA Z h0 a .byte vs) {j : Int32} {i : Nat} (hi : j.toNatClampNeg = i) (hj : ¬ j < 0) {v : Value} (hv : vs[i]? = some v) {pc pc' : Nat} {Ls : Array Slot} {S : List Value} (hd : decode c.code pc = .ok (.baload, 1)) (hp : pc + 1 = pc')
    (h : Rt p e below s k n P (T.setTop (mkF m pc' Ls (v :: S)))) : Rt p e below s k n P (T.setTop (mkF m pc Ls (.int j :: .ref a :: S))) := by
  subst hp
  obtain ⟨locs, X, N, eT⟩ := X
  obtain ⟨cl, A, r, q⟩ := F
  exact Rt.go (X.baloadBytes hx (j := j) (v := v) (by rw [eT]; exact A.1) (State.isArrayOf_alike hZ.alike A.2.1) A.2.2 (inA r hj hi (List.getElem?_eq_some_iff.mp hv).1) (by rw [r, hi]; simpa using hv) (g := mkF m pc Ls (.int j :: .ref a :: S)) rfl rfl hd) h
theorem Rt.iastore (X : Sd p l e R s m args below meth c T n0 cells slots h0) (hx : p.tables.exec = Jvm.exec) {Z : State} (hZ : Z.Warmed39 s.vm) {a : Addr} {vs : List Value} (F : IA Z h0 a .int vs) {j : Int32} {i : Nat} (hi : j.toNatClampNeg = i) (hj : ¬ j < 0) (hv : i < vs.length) {x : Int32} {w : Value} (hw : .int x = w) (ga : n0 ≤ a) {pc pc' : Nat} {Ls : Array Slot} {S : List Value} (hd : decode c.code pc = .ok (.iastore, 1)) (hp : pc + 1 = pc')
    (hh : ∀ T' h', Sd p l e R s m args below meth c T' n0 cells slots h' → Wr h0 h' a i w → IA Z h' a .int (vs.set i w) → Rt p e below s k n P (T'.setTop (mkF m pc' Ls S))) : Rt p e below s k n P (T.setTop (mkF m pc Ls (.int x :: .int j :: .ref a :: S))) := by
  subst hp hw
  obtain ⟨locs, X, N, eT⟩ := X
  obtain ⟨cl, A, r, q⟩ := id F
  obtain ⟨T', h', X', e', W', st⟩ := stI X hx hZ eT A (j := j) (inA r hj hi hv) (g := mkF m pc Ls (.int x :: .int j :: .ref a :: S)) rfl rfl hd
  rw [hi] at W'
  exact Rt.go st (hh T' h' ⟨_, X', Fr.snoc X' N ga, e'⟩ W' (F.set W'))
def IL (Z : State) (h : Heap) (a : Addr) (ty : FieldType) (N : Nat) : Prop := ∃ vs, IA Z h a ty vs ∧ vs.length = N
section Arrays
variable {Z : State} {h h' : Heap} {a b : Addr} {ty : FieldType} {N : Nat}
theorem IL.lt (F : IL Z h a ty N) : a < h.size := by obtain ⟨_, A, -⟩ := F; exact A.lt
theorem IL.ext (F : IL Z h a ty N) (E : Ext h h') : IL Z h' a ty N := by obtain ⟨c, A, r⟩ := F; exact ⟨c, A.ext E, r⟩
theorem IL.other {sl : Nat} {v : Value} (F : IL Z h a ty N) (W : Wr h h' b sl v) (q : a ≠ b) : IL Z h' a ty N := by obtain ⟨c, A, r⟩ := F; exact ⟨c, A.other W q, r⟩
theorem IL.wr {sl : Nat} {v : Value} (F : IL Z h a ty N) (W : Wr h h' b sl v) : IL Z h' a ty N := by
  obtain ⟨vs, A, r⟩ := F
  by_cases q : a = b
  · subst q; exact ⟨_, A.set W, by rw [List.length_set]; exact r⟩
  · exact ⟨vs, A.other W q, r⟩
theorem IL.keep {ws : List Addr} (F : IL Z h a ty N) (K : Keep h h' ws) : IL Z h' a ty N := by
  obtain ⟨vs, ⟨c, ⟨A1, ⟨A2, A3⟩, A4⟩, r1, r2⟩, r⟩ := F
  obtain ⟨c', q, e1, e2, e3⟩ := K.2.2 a c A1
  refine ⟨c'.slots.toList, ⟨c', ⟨q, ⟨?_, ?_⟩, by rw [e2]; exact A4⟩, by simp, ?_⟩, ?_⟩
  · rw [e2]; exact A2
  · rw [e1]; exact A3
  · rw [Array.length_toList, e3, r1]; simpa using r2
  · rw [Array.length_toList, e3, r1]; simpa using r
end Arrays
theorem Rt.callF (X : Sd p l e R s m args below meth c T n0 cells slots h0) (hx : p.tables.exec = Jvm.exec) {Z : State} {a0 : Array Value} (hZ : Z.Warmed39 s.vm) {own : String} {index : Nat} {y : MethodName} {bytes : ByteArray} {maxL W : Nat} {ret : Option FieldType} {rm : Room} {as' : Array Value} {Q : Option Value → Heap → List Loc → Prop} {K : String} {yz : MethodName} {cnt : Nat}
    (hown : s.vm.findClass own = some m.cls) (w1 : (Cond.methodLink own index y).before a0 Z = true) (w2 : (Cond.declares y).before a0 Z = true) (hfa : (Cond.interfaceMethod y.cls y.cls y.name y.desc).faceAtom = true) (w7 : (Cond.interfaceMethod y.cls y.cls y.name y.desc).before a0 Z = true) (w5 : (Cond.selects K y yz).before a0 Z = true) (w6 : (Cond.instanceMethod yz).before a0 Z = true) (w8 : (Cond.publicMethod yz).before a0 Z = true) (w9 : (Cond.unhidden K y.name y.desc).before a0 Z = true) (w10 : (Cond.castable K y.cls).before a0 Z = true) (w3 : (Cond.initialized yz.cls).before a0 Z = true) (w4 : (Cond.code yz bytes maxL ret).before a0 Z = true) (hy : y.cls ≠ "java/lang/invoke/MethodHandle" ∧ y.cls ≠ "java/lang/invoke/VarHandle")
    {a : Addr} (E : Exa Z h0 a K) (hM : Mt l Z yz [Cond.code yz bytes maxL ret] rm as' h0 Q) (hF : ∀ v h L, Q v h L → Fr n0 L) (hf : rm.frames + 1 ≤ R.frames) (hl : W + (maxL + 11) + rm.locals ≤ R.locals) (hc : cells + rm.cells ≤ R.cells) (hs : slots + rm.slots ≤ R.slots)
    {pc pc' : Nat} {Ls : Array Slot} {S argsL rest : List Value} (hsize : Ls.size = c.maxLocals) (hlen : ∀ sig, parseMethodDescriptor y.desc = some sig → argsL.length = sig.parameters.length) (hst : S = argsL.reverse ++ .ref a :: rest) (has : (.ref a :: argsL).toArray = as') (hW : (rest.map fun v => v.category).sum ≤ W) (hd : decode c.code pc = .ok (.invokeinterface index cnt, 5)) (hp : pc + 5 = pc')
    (hh : ∀ v T' h' L, Sd p l e R s m args below meth c T' n0 (cells + rm.cells) (slots + rm.slots) h' → Q v h' L → Rt p e below s k n P (T'.setTop (mkF m pc' Ls (v.toList ++ rest)))) : Rt p e below s k n P (T.setTop (mkF m pc Ls S)) := by
  subst hp has
  obtain ⟨locs, X, N, eT⟩ := X
  obtain ⟨cq, kq, qa, qb, qc⟩ := isOf hZ eT E
  obtain ⟨v, _, ⟨T', L', k', n'⟩, -, X', ⟨Lc, hQ, l', y', z'⟩, st⟩ := X.interfaceBack hx (xi := y) (y := yz) hown (mvT hZ w1) (mvT hZ w2) (mvT hZ w7 (hd := hfa)) (mvT hZ w5) (mvT hZ w6) (mvT hZ w8) (mvT hZ w9) (mvT hZ w10) hy (backOf (W := W) hM hZ w4 w3 hf hl) qa qb qc (g := mkF m pc Ls S) rfl hsize (Steps.refl _) (argsL := argsL) (rest := rest) hlen hst (by show 2 * 0 + _ ≤ _; omega) hd (fun _ _ => ⟨rfl, eT, hc, hs⟩)
  dsimp only [Pt.U, Pt.locs, Pt.cells, Pt.slots] at X' l' y' z' st hQ
  subst l' y' z'
  exact Rt.go (fun _ q => st.trans q) (hh v T' _ Lc ⟨_, X', Fr.app N (hF _ _ _ hQ), rfl⟩ hQ)
/-- a field whose pool entry is resolved already -/
def Rw (p : Program) (e : Env) (below : List Frame) (s : State) (k n : Nat) (P : Option Value → Heap → List Loc → Prop) (A : State) : Prop :=
  ∃ s₂ o, Steps p.tables e below A s₂ ∧ s₂.status = .running ∧ Ended s₂ below o ∧ ∃ v L, o = .returned v ∧ P v s₂.heap L ∧ ReturnedEndW s o s₂ L k n
theorem Rw.go {A B : State} (f : ∀ t, Steps p.tables e below B t → Steps p.tables e below A t) (h : Rw p e below s k n P B) : Rw p e below s k n P A := by
  obtain ⟨s₂, o, h1, h2⟩ := h
  exact ⟨s₂, o, f _ h1, h2⟩
theorem Rw.iloadN (X : Sd p l e R s m args below meth c T n0 cells slots h0) (hx : p.tables.exec = Jvm.exec) {pc pc' : Nat} {Ls : Array Slot} {S : List Value} {j : Fin 4} {v : Int32} (hd : decode c.code pc = .ok (.iload_n j, 1)) (hl : Ls[j.val]? = some (.val (.int v))) (hp : pc + 1 = pc')
    (h : Rw p e below s k n P (T.setTop (mkF m pc' Ls (.int v :: S)))) : Rw p e below s k n P (T.setTop (mkF m pc Ls (S))) := by
  subst hp; obtain ⟨_, X, _, _⟩ := X; exact Rw.go (fun _ => XS.iloadN X.here hx rfl hd hl) h
theorem Rw.iload (X : Sd p l e R s m args below meth c T n0 cells slots h0) (hx : p.tables.exec = Jvm.exec) {pc pc' : Nat} {Ls : Array Slot} {S : List Value} {j : Nat} {v : Int32} (hd : decode c.code pc = .ok (.iload j, 2)) (hl : Ls[j]? = some (.val (.int v))) (hp : pc + 2 = pc')
    (h : Rw p e below s k n P (T.setTop (mkF m pc' Ls (.int v :: S)))) : Rw p e below s k n P (T.setTop (mkF m pc Ls (S))) := by
  subst hp; obtain ⟨_, X, _, _⟩ := X; exact Rw.go (fun _ => XS.iload X.here hx rfl hd hl) h
theorem Rw.istore (X : Sd p l e R s m args below meth c T n0 cells slots h0) (hx : p.tables.exec = Jvm.exec) {pc pc' : Nat} {Ls : Array Slot} {S : List Value} {j : Nat} {v : Int32} {l' : Array Slot} (hd : decode c.code pc = .ok (.istore j, 2)) (hl : storeLocals Ls j (.int v) = some l') (hp : pc + 2 = pc')
    (h : Rw p e below s k n P (T.setTop (mkF m pc' l' (S)))) : Rw p e below s k n P (T.setTop (mkF m pc Ls (.int v :: S))) := by
  subst hp; obtain ⟨_, X, _, _⟩ := X; exact Rw.go (fun _ => XS.istore X.here hx rfl hd rfl hl) h
theorem Rw.aload (X : Sd p l e R s m args below meth c T n0 cells slots h0) (hx : p.tables.exec = Jvm.exec) {pc pc' : Nat} {Ls : Array Slot} {S : List Value} {j : Nat} {v : Value} (hd : decode c.code pc = .ok (.aload j, 2)) (hl : Ls[j]? = some (.val v)) (hv : v.isRef = true) (hp : pc + 2 = pc')
    (h : Rw p e below s k n P (T.setTop (mkF m pc' Ls (v :: S)))) : Rw p e below s k n P (T.setTop (mkF m pc Ls (S))) := by
  subst hp; obtain ⟨_, X, _, _⟩ := X; exact Rw.go (fun _ => XS.aload X.here hx rfl hd hl hv) h
theorem Rw.astore (X : Sd p l e R s m args below meth c T n0 cells slots h0) (hx : p.tables.exec = Jvm.exec) {pc pc' : Nat} {Ls : Array Slot} {S : List Value} {j : Nat} {v : Value} {l' : Array Slot} (hd : decode c.code pc = .ok (.astore j, 2)) (hv : v.isRef = true) (hl : storeLocals Ls j v = some l') (hp : pc + 2 = pc')
    (h : Rw p e below s k n P (T.setTop (mkF m pc' l' (S)))) : Rw p e below s k n P (T.setTop (mkF m pc Ls (v :: S))) := by
  subst hp; obtain ⟨_, X, _, _⟩ := X; exact Rw.go (fun _ => XS.astore X.here hx rfl hd rfl hv hl) h
theorem Rw.iconst (X : Sd p l e R s m args below meth c T n0 cells slots h0) (hx : p.tables.exec = Jvm.exec) {pc pc' : Nat} {Ls : Array Slot} {S : List Value} {i : Int} {v : Int32} (hd : decode c.code pc = .ok (.iconst i, 1)) (hv : Int32.ofInt i = v) (hp : pc + 1 = pc')
    (h : Rw p e below s k n P (T.setTop (mkF m pc' Ls (.int v :: S)))) : Rw p e below s k n P (T.setTop (mkF m pc Ls S)) := by
  subst hp hv; obtain ⟨_, X, _, _⟩ := X; exact Rw.go (fun _ => XS.iconst X.here hx rfl hd) h
theorem Rw.bipush (X : Sd p l e R s m args below meth c T n0 cells slots h0) (hx : p.tables.exec = Jvm.exec) {pc pc' : Nat} {Ls : Array Slot} {S : List Value} {i : Int} {v : Int32} (hd : decode c.code pc = .ok (.bipush i, 2)) (hv : (Int8.ofInt i).toInt32 = v) (hp : pc + 2 = pc')
    (h : Rw p e below s k n P (T.setTop (mkF m pc' Ls (.int v :: S)))) : Rw p e below s k n P (T.setTop (mkF m pc Ls S)) := by
  subst hp hv; obtain ⟨_, X, _, _⟩ := X; exact Rw.go (fun _ => XS.bipush X.here hx rfl hd) h
theorem Rw.iadd (X : Sd p l e R s m args below meth c T n0 cells slots h0) (hx : p.tables.exec = Jvm.exec) {pc pc' : Nat} {Ls : Array Slot} {S : List Value} {x y r : Int32} (hd : decode c.code pc = .ok (.iadd, 1)) (hr : x + y = r) (hp : pc + 1 = pc')
    (h : Rw p e below s k n P (T.setTop (mkF m pc' Ls (.int r :: S)))) : Rw p e below s k n P (T.setTop (mkF m pc Ls (.int y :: .int x :: S))) := by
  subst hp hr; obtain ⟨_, X, _, _⟩ := X; exact Rw.go (fun _ => XS.iadd X.here hx rfl hd rfl) h
theorem Rw.isub (X : Sd p l e R s m args below meth c T n0 cells slots h0) (hx : p.tables.exec = Jvm.exec) {pc pc' : Nat} {Ls : Array Slot} {S : List Value} {x y r : Int32} (hd : decode c.code pc = .ok (.isub, 1)) (hr : x - y = r) (hp : pc + 1 = pc')
    (h : Rw p e below s k n P (T.setTop (mkF m pc' Ls (.int r :: S)))) : Rw p e below s k n P (T.setTop (mkF m pc Ls (.int y :: .int x :: S))) := by
  subst hp hr; obtain ⟨_, X, _, _⟩ := X; exact Rw.go (fun _ => XS.isub X.here hx rfl hd rfl) h
theorem Rw.iand (X : Sd p l e R s m args below meth c T n0 cells slots h0) (hx : p.tables.exec = Jvm.exec) {pc pc' : Nat} {Ls : Array Slot} {S : List Value} {x y r : Int32} (hd : decode c.code pc = .ok (.iand, 1)) (hr : x &&& y = r) (hp : pc + 1 = pc')
    (h : Rw p e below s k n P (T.setTop (mkF m pc' Ls (.int r :: S)))) : Rw p e below s k n P (T.setTop (mkF m pc Ls (.int y :: .int x :: S))) := by
  subst hp hr; obtain ⟨_, X, _, _⟩ := X; exact Rw.go (fun _ => XS.iand X.here hx rfl hd rfl) h
theorem Rw.irem (X : Sd p l e R s m args below meth c T n0 cells slots h0) (hx : p.tables.exec = Jvm.exec) {pc pc' : Nat} {Ls : Array Slot} {S : List Value} {x y r : Int32} (hd : decode c.code pc = .ok (.irem, 1)) (hy : y ≠ 0) (hr : x % y = r) (hp : pc + 1 = pc')
    (h : Rw p e below s k n P (T.setTop (mkF m pc' Ls (.int r :: S)))) : Rw p e below s k n P (T.setTop (mkF m pc Ls (.int y :: .int x :: S))) := by
  subst hp hr; obtain ⟨_, X, _, _⟩ := X; exact Rw.go (fun _ => iremM X hx rfl hd rfl hy) h
theorem Rw.dup (X : Sd p l e R s m args below meth c T n0 cells slots h0) (hx : p.tables.exec = Jvm.exec) {pc pc' : Nat} {Ls : Array Slot} {S : List Value} {x : Value} (hd : decode c.code pc = .ok (.dup, 1)) (hc : x.category = 1) (hp : pc + 1 = pc')
    (h : Rw p e below s k n P (T.setTop (mkF m pc' Ls (x :: x :: S)))) : Rw p e below s k n P (T.setTop (mkF m pc Ls (x :: S))) := by
  subst hp; obtain ⟨_, X, _, _⟩ := X; exact Rw.go (fun _ => XS.dup X.here hx rfl hd rfl hc) h
theorem Rw.goto (X : Sd p l e R s m args below meth c T n0 cells slots h0) (hx : p.tables.exec = Jvm.exec) {pc pc' : Nat} {Ls : Array Slot} {S : List Value} {o : Int} (hd : decode c.code pc = .ok (.goto o, 3)) (ho : 0 ≤ (pc : Int) + o) (hp : ((pc : Int) + o).toNat = pc')
    (h : Rw p e below s k n P (T.setTop (mkF m pc' Ls S))) : Rw p e below s k n P (T.setTop (mkF m pc Ls S)) := by
  obtain ⟨_, X, _, _⟩ := X; exact Rw.go (fun _ => XS.goto X.here hx rfl (pc0 := pc) rfl hd ho hp) h
theorem Rw.ifY (X : Sd p l e R s m args below meth c T n0 cells slots h0) (hx : p.tables.exec = Jvm.exec) {pc pc' : Nat} {Ls : Array Slot} {S : List Value} {o : Int} {cd : ClassFile.Cond} {x : Int32} (hd : decode c.code pc = .ok (.ifCond cd o, 3)) (hc : ifCond.holds cd x = true) (ho : 0 ≤ (pc : Int) + o) (hp : ((pc : Int) + o).toNat = pc')
    (h : Rw p e below s k n P (T.setTop (mkF m pc' Ls S))) : Rw p e below s k n P (T.setTop (mkF m pc Ls (.int x :: S))) := by
  obtain ⟨_, X, _, _⟩ := X; exact Rw.go (fun _ => XS.ifYes X.here hx rfl (pc0 := pc) rfl hd rfl hc ho hp) h
theorem Rw.ifN (X : Sd p l e R s m args below meth c T n0 cells slots h0) (hx : p.tables.exec = Jvm.exec) {pc pc' : Nat} {Ls : Array Slot} {S : List Value} {o : Int} {cd : ClassFile.Cond} {x : Int32} (hd : decode c.code pc = .ok (.ifCond cd o, 3)) (hc : ifCond.holds cd x = false) (hp : pc + 3 = pc')
    (h : Rw p e below s k n P (T.setTop (mkF m pc' Ls S))) : Rw p e below s k n P (T.setTop (mkF m pc Ls (.int x :: S))) := by
  subst hp; obtain ⟨_, X, _, _⟩ := X; exact Rw.go (fun _ => XS.ifNo X.here hx rfl hd rfl hc) h
theorem Rw.icmpY (X : Sd p l e R s m args below meth c T n0 cells slots h0) (hx : p.tables.exec = Jvm.exec) {pc pc' : Nat} {Ls : Array Slot} {S : List Value} {o : Int} {cd : ClassFile.Cond} {x y : Int32} (hd : decode c.code pc = .ok (.if_icmp cd o, 3)) (hc : if_icmp.holds cd x y = true) (ho : 0 ≤ (pc : Int) + o) (hp : ((pc : Int) + o).toNat = pc')
    (h : Rw p e below s k n P (T.setTop (mkF m pc' Ls S))) : Rw p e below s k n P (T.setTop (mkF m pc Ls (.int y :: .int x :: S))) := by
  obtain ⟨_, X, _, _⟩ := X; exact Rw.go (fun _ => XS.icmpYes X.here hx rfl (pc0 := pc) rfl hd rfl hc ho hp) h
theorem Rw.icmpN (X : Sd p l e R s m args below meth c T n0 cells slots h0) (hx : p.tables.exec = Jvm.exec) {pc pc' : Nat} {Ls : Array Slot} {S : List Value} {o : Int} {cd : ClassFile.Cond} {x y : Int32} (hd : decode c.code pc = .ok (.if_icmp cd o, 3)) (hc : if_icmp.holds cd x y = false) (hp : pc + 3 = pc')
    (h : Rw p e below s k n P (T.setTop (mkF m pc' Ls S))) : Rw p e below s k n P (T.setTop (mkF m pc Ls (.int y :: .int x :: S))) := by
  subst hp; obtain ⟨_, X, _, _⟩ := X; exact Rw.go (fun _ => XS.icmpNo X.here hx rfl hd rfl hc) h
theorem Rw.retZ (X : Sd p l e R s m args below meth c T n0 cells slots h0) (hx : p.tables.exec = Jvm.exec) (hlk : meth.locks = false) {t : FieldType} (hret : meth.sig.returnType = some t) (ht : t = .boolean ∨ t = .byte ∨ t = .char ∨ t = .short) {pc : Nat} {Ls : Array Slot} {S : List Value} {z w : Int32} (hd : decode c.code pc = .ok (.ireturn, 1)) (hw : nar t z = w) (hk : cells ≤ k) (hn : slots ≤ n)
    (hP : ∀ L, Fr n0 L → P (some (.int w)) h0 L) : Rw p e below s k n P (T.setTop (mkF m pc Ls (.int z :: S))) := by
  subst hw; obtain ⟨locs, X, N, eh⟩ := X
  obtain ⟨fs, hr, hrun, hended, hW, hsame⟩ := X.leave (v := some (.int (nar t z))) (fun h => by rw [hret] at h; cases h) hlk
  exact ⟨_, _, retN X hx hret ht hd hr, hrun, hended, _, _, rfl, by show P _ T.heap _; rw [eh]; exact hP _ N, ReturnedEndW.of_narrow ⟨_, rfl⟩ hW (hsame.mono hk hn)⟩
theorem Rw.ldcInt (X : Sd p l e R s m args below meth c T n0 cells slots h0) (hx : p.tables.exec = Jvm.exec) {Z : State} {a0 : Array Value} (hZ : Z.Warmed39 s.vm) {own : String} {index : Nat} {v : Int32} (hown : s.vm.findClass own = some m.cls) (w : (Cond.constant own index v).before a0 Z = true) {pc pc' : Nat} {Ls : Array Slot} {S : List Value} (hd : decode c.code pc = .ok (.ldc index, 2)) (hp : pc + 2 = pc')
    (h : Rw p e below s k n P (T.setTop (mkF m pc' Ls (.int v :: S)))) : Rw p e below s k n P (T.setTop (mkF m pc Ls S)) := by
  subst hp; obtain ⟨_, X, _, _⟩ := X; exact Rw.go (X.ldcInt hx hown (mvT hZ w) (g := mkF m pc Ls S) rfl hd) h
theorem Rw.callV (X : Sd p l e R s m args below meth c T n0 cells slots h0) (hx : p.tables.exec = Jvm.exec) {Z : State} {a0 : Array Value} (hZ : Z.Warmed39 s.vm) {own : String} {index : Nat} {y : MethodName} {bytes : ByteArray} {maxL W : Nat} {ret : Option FieldType} {rm : Room} {as' : Array Value} {Q : Option Value → Heap → List Loc → Prop} {K : String} {yz : MethodName}
    (hown : s.vm.findClass own = some m.cls) (w1 : (Cond.methodLink own index y).before a0 Z = true) (w2 : (Cond.declares y).before a0 Z = true) (hnf : NotFace s y) (w5 : (Cond.selects K y yz).before a0 Z = true) (w6 : (Cond.instanceMethod yz).before a0 Z = true) (w3 : (Cond.initialized yz.cls).before a0 Z = true) (w4 : (Cond.code yz bytes maxL ret).before a0 Z = true) (hy : y.cls ≠ "java/lang/invoke/MethodHandle" ∧ y.cls ≠ "java/lang/invoke/VarHandle")
    {a : Addr} (E : Exa Z h0 a K) (hM : Mt l Z yz [Cond.code yz bytes maxL ret] rm as' h0 Q) (hF : ∀ v h L, Q v h L → Fr n0 L) (hf : rm.frames + 1 ≤ R.frames) (hl : W + (maxL + 11) + rm.locals ≤ R.locals) (hc : cells + rm.cells ≤ R.cells) (hs : slots + rm.slots ≤ R.slots)
    {pc pc' : Nat} {Ls : Array Slot} {S argsL rest : List Value} (hsize : Ls.size = c.maxLocals) (hlen : ∀ sig, parseMethodDescriptor y.desc = some sig → argsL.length = sig.parameters.length) (hst : S = argsL.reverse ++ .ref a :: rest) (has : (.ref a :: argsL).toArray = as') (hW : (rest.map fun v => v.category).sum ≤ W) (hd : decode c.code pc = .ok (.invokevirtual index, 3)) (hp : pc + 3 = pc')
    (hh : ∀ v T' h' L, Sd p l e R s m args below meth c T' n0 (cells + rm.cells) (slots + rm.slots) h' → Q v h' L → Rw p e below s k n P (T'.setTop (mkF m pc' Ls (v.toList ++ rest)))) : Rw p e below s k n P (T.setTop (mkF m pc Ls S)) := by
  subst hp has
  obtain ⟨locs, X, N, eT⟩ := X
  obtain ⟨cq, kq, qa, qb, qc⟩ := isOf hZ eT E
  obtain ⟨v, _, ⟨T', L', k', n'⟩, -, X', ⟨Lc, hQ, l', y', z'⟩, st⟩ := X.virtualBack hx (y := y) (z := yz) hown (mvT hZ w1) (mvT hZ w2) hnf (mvT hZ w5) (mvT hZ w6) hy (backOf (W := W) hM hZ w4 w3 hf hl) qa qc (g := mkF m pc Ls S) rfl hsize (Steps.refl _) (argsL := argsL) (rest := rest) hlen hst (by show 2 * 0 + _ ≤ _; omega) hd (fun _ _ => ⟨rfl, eT, hc, hs⟩)
  dsimp only [Pt.U, Pt.locs, Pt.cells, Pt.slots] at X' l' y' z' st hQ
  subst l' y' z'
  exact Rw.go (fun _ q => st.trans q) (hh v T' _ Lc ⟨_, X', Fr.app N (hF _ _ _ hQ), rfl⟩ hQ)
/-- a constructor by its contract -/
theorem Rw.callI (X : Sd p l e R s m args below meth c T n0 cells slots h0) (hx : p.tables.exec = Jvm.exec) {Z : State} {a0 : Array Value} (hZ : Z.Warmed39 s.vm) {own : String} {index : Nat} {y : MethodName} {bytes : ByteArray} {maxL W : Nat} {rm : Room} {as' : Array Value} {Q : Option Value → Heap → List Loc → Prop} (hy1 : y.name = "<init>")
    (hown : s.vm.findClass own = some m.cls) (w1 : (Cond.methodLink own index y).before a0 Z = true) (w2 : (Cond.instanceMethod y).before a0 Z = true) (w3 : (Cond.initialized y.cls).before a0 Z = true) (w4 : (Cond.code y bytes maxL none).before a0 Z = true) (hy : y.cls ≠ "java/lang/invoke/MethodHandle" ∧ y.cls ≠ "java/lang/invoke/VarHandle")
    {a : Addr} (hM : Mt l Z y [Cond.code y bytes maxL none] rm as' h0 Q) (hF : ∀ v h L, Q v h L → Fr n0 L) (hf : rm.frames + 1 ≤ R.frames) (hl : W + (maxL + 11) + rm.locals ≤ R.locals) (hc : cells + rm.cells ≤ R.cells) (hs : slots + rm.slots ≤ R.slots)
    {pc pc' : Nat} {Ls : Array Slot} {S argsL rest : List Value} (hsize : Ls.size = c.maxLocals) (hlen : ∀ sig, parseMethodDescriptor y.desc = some sig → argsL.length = sig.parameters.length) (hst : S = argsL.reverse ++ .ref a :: rest) (has : (.ref a :: argsL).toArray = as') (hW : (rest.map fun v => v.category).sum ≤ W) (hd : decode c.code pc = .ok (.invokespecial index, 3)) (hp : pc + 3 = pc')
    (hh : ∀ v T' h' L, Sd p l e R s m args below meth c T' n0 (cells + rm.cells) (slots + rm.slots) h' → Q v h' L → Rw p e below s k n P (T'.setTop (mkF m pc' Ls (v.toList ++ rest)))) : Rw p e below s k n P (T.setTop (mkF m pc Ls S)) := by
  subst hp has
  obtain ⟨locs, X, N, eT⟩ := X
  obtain ⟨v, _, ⟨T', L', k', n'⟩, -, X', ⟨Lc, hQ, l', y', z'⟩, st⟩ := X.specialBack hx (y := y) hy1 hown (mvT hZ w1) (mvT hZ w2) (mvT hZ w4) hy (backOf (W := W) hM hZ w4 w3 hf hl) (g := mkF m pc Ls S) rfl hsize (Steps.refl _) (a := a) (argsL := argsL) (rest := rest) hlen hst (by show 2 * 0 + _ ≤ _; omega) hd (fun _ _ => ⟨rfl, eT, hc, hs⟩)
  dsimp only [Pt.U, Pt.locs, Pt.cells, Pt.slots] at X' l' y' z' st hQ
  subst l' y' z'
  exact Rw.go (fun _ q => st.trans q) (hh v T' _ Lc ⟨_, X', Fr.app N (hF _ _ _ hQ), rfl⟩ hQ)
/-- a private instance method by its contract -/
theorem Rw.newO (X : Sd p l e R s m args below meth c T n0 cells slots h0) (hx : p.tables.exec = Jvm.exec) {Z : State} {a0 : Array Value} (hZ : Z.Warmed39 s.vm) {own K : String} {index nf : Nat} (hown : s.vm.findClass own = some m.cls) (w : (Cond.classLink own index K).before a0 Z = true) (wi : (Cond.instantiable K nf).before a0 Z = true) (wz : (Cond.initialized K).before a0 Z = true) {pc pc' : Nat} {Ls : Array Slot} {S : List Value} (hd : decode c.code pc = .ok (.new index, 3)) (hc : cells + 1 ≤ R.cells) (hl : slots + nf ≤ R.slots) (hp : pc + 3 = pc')
    (hh : ∀ T' h' a, a = h0.size → Sd p l e R s m args below meth c T' n0 (cells + 1) (slots + nf) h' → Ext h0 h' → Exa Z h' a K → (∀ {O nm d : String} {ty : FieldType}, Laid Z a0 K O nm d → parseFieldDescriptor d = some ty → Fld Z h' a O nm d (defaultValue ty)) → Rw p e below s k n P (T'.setTop (mkF m pc' Ls (.ref a :: S)))) : Rw p e below s k n P (T.setTop (mkF m pc Ls S)) := by
  subst hp
  obtain ⟨locs, X, N, eT⟩ := X
  obtain ⟨T', h', X', e', E', A', D', -, st⟩ := Jvm.RoadKit.newO X hx hZ hown w wi wz eT (g := mkF m pc Ls S) rfl hd hc hl
  exact Rw.go st (hh T' h' _ rfl ⟨_, X', N, e'⟩ E' A' D')
theorem own_rebase {Z t : State} {o : Outcome} {L : List Loc} {k n k1 : Nat} {vm0 vm1 : Vm} (h : ReturnedEndW (Z.setVm vm1) o t L k n) (hS : (Z.setVm vm0).Since vm1 k1) (hk : k1 ≤ t.heap.size) : ReturnedEndW (Z.setVm vm0) o t L k n := by
  obtain ⟨h1, h2, h3, h4⟩ := h
  have q := State.Since.trans (s := Z.setVm vm0) hS (n₂ := t.heap.size) ⟨h2, h3⟩ hk
  obtain ⟨g1, g2⟩ := h4
  exact ⟨h1, q.1, q.2, congrArg (fun x : State => x.setVm vm0) g1, g2⟩
theorem own_iaOf {Z : State} {h : Heap} {b : Addr} {kk : ClassId} {ty : FieldType} {z : Int32} {vs : List Value} {d : Value} (F : Arv Z h b kk ty z vs d) (hz : z.toNatClampNeg = vs.length) (hb : vs.length < 2 ^ 31) : IA Z h b ty vs := by
  obtain ⟨cl, A, -, hs, -, H, -⟩ := F
  refine ⟨cl, A, ?_, hb⟩
  apply Array.ext_getElem?
  intro j
  by_cases q : j < cl.slots.size
  · rw [H j q]
    have q' : j < vs.length := by omega
    simp [List.getD_eq_getElem?_getD, List.getElem?_eq_getElem q']
  · rw [Array.getElem?_eq_none (by omega), Array.getElem?_eq_none (by simp; omega)]
theorem Rw.ldcS {Z : State} {vm0 : Vm} {Ts : List String} (X : Sd p l e R (Z.setVm vm0) m args below meth c T n0 cells slots h0) (hx : p.tables.exec = Jvm.exec) (hn0 : Z.heap.size ≤ n0) {a0 : Array Value} {own text : String} {index : Nat} (hZ : Z.Warmed39 (Z.setVm vm0).vm) (hown : (Z.setVm vm0).vm.findClass own = some m.cls) (w : (Cond.stringLink own index text).before a0 Z = true) (wS : ∀ a ∈ Bundle.stringAtoms, a.before a0 Z = true) (I : IB Z vm0 Ts) (hnot : text ∉ Ts) (hh0 : Jvm.Lit.constHeld Z own index) (hcw : Jvm.Lit.compactW.before a0 Z = true) {vs : List Value} (ht : (∀ c ∈ text.toList, c.toNat < 256) ∧ text.toList.map (fun c => Value.int (Jvm.Lit.byteI c.toNat.toUInt16)) = vs) {z : Int32} (hz : ¬ z < 0) (hlz : z.toNatClampNeg = vs.length) (hvb : vs.length < 2 ^ 31) {nn : Nat} (hn : 4 * text.toList.length ≤ nn) (hbig : nn ≤ 536870912) (hc : cells + 2 ≤ R.cells) (hl : slots + (nn + 4) ≤ R.slots) {pc pc' : Nat} {Ls : Array Slot} {S : List Value} (hd : decode c.code pc = .ok (.ldc index, 2)) (hp : pc + 2 = pc')
    (hh : ∀ (a b : Addr) (T' : State) (h' : Heap) (vm1 : Vm), Sd p l e R (Z.setVm vm1) m args below meth c T' n0 (cells + 2) (slots + (nn + 4)) h' → Ext h0 h' → Z.Warmed39 (Z.setVm vm1).vm → (Z.setVm vm1).vm.findClass own = some m.cls → Exa Z h' a "java/lang/String" → Fld Z h' a "java/lang/String" "coder" "B" (.int 0) → Fld Z h' a "java/lang/String" "value" "[B" (.ref b) → IA Z h' b .byte vs → IB Z vm1 (text :: Ts) → Jvm.RoadKit.Lit (Z.setVm vm1) own index a → (∀ {i : Nat} {x : Addr}, Jvm.RoadKit.Lit (Z.setVm vm0) own i x → Jvm.RoadKit.Lit (Z.setVm vm1) own i x) → Rw p e below (Z.setVm vm1) k n (fun v hf L => P v hf L ∧ h'.size ≤ hf.size) (T'.setTop (mkF m pc' Ls (.ref a :: S)))) : Rw p e below (Z.setVm vm0) k n P (T.setTop (mkF m pc Ls S)) := by
  subst hp
  obtain ⟨locs, X, N, eT⟩ := X
  obtain ⟨a, T', h', k1, b, kk, X', e', E', S', hk1, Z', own', x1, x2, x3, x4, -, -, I', L', st⟩ := Jvm.RoadKit.ldcSVL (s := Z.setVm vm0) (vm0 := vm0) X hx hZ hown w wS eT (k0 := h0.size) ((State.WarmedH.refl _).since _) (Nat.le_refl _) (fun y hy => Nat.le_trans hn0 (N y hy)) (fun _ _ h => h) I hnot hh0 hcw ht hz hlz (g := mkF m pc Ls S) rfl hd hn hbig hc hl
  obtain ⟨s₂, o, h1, h2, h3, v, L, h4, ⟨h5, h5'⟩, h6⟩ := hh a b T' h' T'.vm ⟨locs, X', N, e'⟩ E' Z' own' x1 x2 x3 (own_iaOf x4 hlz hvb) I' L' (fun q => Jvm.RoadKit.Lit.stays (s := Z) q S'.1)
  exact ⟨s₂, o, st _ h1, h2, h3, v, L, h4, h5, own_rebase h6 S' (Nat.le_trans hk1 h5')⟩
abbrev Mw (l : Launch) (Z : State) (y : MethodName) (ws : List Jvm.Cond) (rm : Room) (as' : Array Value) (Q : Option Value → Heap → List Loc → Prop) : Prop :=
  MetFree l y (head1 ws rm) (fun a U => a = as' ∧ U = Z) (fun _ _ _ _ _ => True) (fun _ U o U' => ∃ v L, o = .returned v ∧ Q v U'.heap L ∧ ReturnedEndW U o U' L rm.cells rm.slots)
theorem Mw.of {Z : State} {y : MethodName} {bytes : ByteArray} {maxL : Nat} {ret : Option FieldType} {ws : List Jvm.Cond} {rm : Room} {as' : Array Value} {h : Heap} {Q : Option Value → Heap → List Loc → Prop} (n0 : Nat) (hh0 : Z.heap = h) (hpl : plainFor y = true)
    (body : ∀ (p : Program) (e : Env) (m : MethodId) (below : List Frame) (meth : Method) (c : Code) (T : State), Sd p l e rm (Z.setVm Z.vm) m as' below meth c T n0 0 0 h → p.tables.exec = Jvm.exec → Z.Warmed39 (Z.setVm Z.vm).vm → c.code = bytes → c.maxLocals = maxL → (Z.setVm Z.vm).vm.findClass y.cls = some m.cls → meth.sig.returnType = ret → meth.locks = false → meth.name = y.name →
      Rw p e below (Z.setVm Z.vm) rm.cells rm.slots Q (T.setTop (entryFrame m as' maxL))) : Mw l Z y (Jvm.Cond.code y bytes maxL ret :: ws) rm as' Q := by
  refine MetFree.of_bodySF hpl hisR ?_
  intro p e s m args below meth c s₁ Bd hml0 hP hK
  obtain ⟨rfl, rfl⟩ := hP
  have e0 : s₁.heap = h := by rw [← hh0, Bd.state]; rfl
  obtain ⟨s₂, o, h1, h2, h3, v, L, h4, h5, h6⟩ := body p e m below meth c s₁ ⟨[], Stand.of_body Bd, Fr.nil n0, e0⟩ Bd.exec (State.Warmed39.refl _) Bd.bytes hml0 (findClass_of_methodNamed Bd.named) Bd.returns (BodyLoose.notSynchronized Bd) (name_of_methodNamed Bd.named Bd.method).1
  exact ⟨s₂, o, h1, h2, h3, v, L, h4, h5, h6⟩
theorem own_wS {a0 : Array Value} {Z : State} (hw : ∀ d ∈ tables_1, d.before a0 Z = true) : ∀ d ∈ Bundle.stringAtoms, d.before a0 Z = true := fun d hd => hw d ((by decide +kernel : ∀ d ∈ Bundle.stringAtoms, d ∈ tables_1) d hd)
end Own
theorem own_g {a0 : Array Value} {Z : State} (hw : ∀ d ∈ tables_1, d.before a0 Z = true) {w : Jvm.Cond} (i : Nat) (h : tables_1[i]? = some w) : w.before a0 Z = true := hw w (List.mem_of_getElem? h)
abbrev nm1 : String := "jdk/internal/util/Preconditions"
abbrev nm2 : String := "Ljava/util/function/BiFunction;"
abbrev nm3 : String := "com/example/teasel/teasel/datatype/Members"
abbrev mt1 : MethodName := ⟨"jdk/internal/util/Preconditions", "checkIndex", "(IILjava/util/function/BiFunction;)I"⟩
abbrev mt2 : MethodName := ⟨"java/lang/String", "checkIndex", "(II)V"⟩
abbrev mt3 : MethodName := ⟨"java/lang/StringLatin1", "charAt", "([BI)C"⟩
abbrev mt4 : MethodName := ⟨"java/lang/String", "isLatin1", "()Z"⟩
abbrev mt5 : MethodName := ⟨"java/lang/String", "charAt", "(I)C"⟩
abbrev mt6 : MethodName := ⟨"java/lang/CharSequence", "charAt", "(I)C"⟩
abbrev mt7 : MethodName := ⟨"com/example/teasel/teasel/datatype/Members", "compareNames", "(II)I"⟩
abbrev mt8 : MethodName := ⟨"com/example/teasel/teasel/datatype/Members", "<init>", "(Ljava/lang/CharSequence;)V"⟩
abbrev mt9 : MethodName := ⟨"com/example/teasel/teasel/datatype/Members", "add", "(I)V"⟩
abbrev mt10 : MethodName := ⟨"com/example/teasel/teasel/datatype/Members", "end", "(II)I"⟩
theorem own_lt20 {i : Int32} (h : ¬ (19 : Int32) < i) : i < (20 : Int32) := by
  have l : (19 : Int32).toInt = 19 := by decide
  have l' : (20 : Int32).toInt = 20 := by decide
  rw [Int32.lt_iff_toInt_lt] at *
  omega
theorem own_34 (i : Int32) (h : ¬ (19 : Int32) < i) : (List.replicate 20 (Value.int 34))[i.toNatClampNeg]? = some (.int 34) := by
  have l : (19 : Int32).toInt = 19 := by decide
  rw [Int32.lt_iff_toInt_lt] at h
  have e : i.toNatClampNeg = i.toInt.toNat := rfl
  rw [List.getElem?_replicate, if_pos (by omega)]
def own_at (xs : List Int32) (i : Int32) : Int32 := xs.getD i.toNatClampNeg 0
theorem own_hv (xs : List Int32) (i : Int32) (h : i.toInt < xs.length) (hl : 0 < xs.length) : (xs.map Value.int)[i.toNatClampNeg]? = some (.int (own_at xs i)) := by
  have e : i.toNatClampNeg = i.toInt.toNat := rfl
  have q : i.toNatClampNeg < xs.length := by omega
  simp [own_at, List.getElem?_map, List.getD_eq_getElem?_getD, List.getElem?_eq_getElem q]
theorem own_nx {i : Int32} (h1 : ¬ i < (0 : Int32)) (h2 : ¬ (2 : Int32) < i) : ¬ (i + 1) < (0 : Int32) ∧ (i + 1).toInt < 8 := by
  have g := c_iadd i 1
  have l0 : (0 : Int32).toInt = 0 := by decide
  have l1 : (1 : Int32).toInt = 1 := by decide
  have l2 : (2 : Int32).toInt = 2 := by decide
  have b1 := (i + 1).le_toInt
  have b2 := (i + 1).toInt_lt
  simp only [Int32.lt_iff_toInt_lt] at *
  omega
theorem own_p1 {i : Int32} (h1 : ¬ i < (0 : Int32)) (h2 : ¬ (15 : Int32) < i) : ¬ (i + 1) < (0 : Int32) ∧ ¬ (19 : Int32) < (i + 1) := by
  have g := c_iadd i 1
  have l0 : (0 : Int32).toInt = 0 := by decide
  have l1 : (1 : Int32).toInt = 1 := by decide
  have l2 : (15 : Int32).toInt = 15 := by decide
  have l3 : (19 : Int32).toInt = 19 := by decide
  have b1 := (i + 1).le_toInt
  have b2 := (i + 1).toInt_lt
  simp only [Int32.lt_iff_toInt_lt] at *
  omega
theorem d9_0 : decode jdk_41_method_11_code 0 = .ok (.iload_n 0, 1) := by decide +kernel
theorem d9_1 : decode jdk_41_method_11_code 1 = .ok (.ifCond .lt 8, 3) := by decide +kernel
theorem d9_4 : decode jdk_41_method_11_code 4 = .ok (.iload_n 0, 1) := by decide +kernel
theorem d9_5 : decode jdk_41_method_11_code 5 = .ok (.iload_n 1, 1) := by decide +kernel
theorem d9_6 : decode jdk_41_method_11_code 6 = .ok (.if_icmp .lt 10, 3) := by decide +kernel
theorem d9_16 : decode jdk_41_method_11_code 16 = .ok (.iload_n 0, 1) := by decide +kernel
theorem d9_17 : decode jdk_41_method_11_code 17 = .ok (.ireturn, 1) := by decide +kernel
def f9 (p1 : Int32) : Int32 := p1
def Q9 (p1 : Int32) (vf : Value) (h0 : Heap) (n0 : Nat) (v : Option Value) (h : Heap) (L : List Loc) : Prop := v = some (.int (f9 p1)) ∧ Fr n0 L ∧ h = h0
def rmR9 : Room := { frames := 0, cells := 0, slots := 0, locals := 0 }
theorem ef_9 (m : MethodId) (p1 : Int32) (vf : Value) (hv : vf.isRef = true) : entryFrame m #[(.int p1), (.int (20 : Int32)), vf] 3 = mkF m 0 #[.val (.int p1), .val (.int (20 : Int32)), .val vf] [] := by cases vf <;> first | rfl | (exact absurd hv (by decide)) | (simp [Value.isRef] at hv)
theorem pn_jdk_internal_util_Preconditions : plainName "jdk/internal/util/Preconditions" = true := by first | (simp [plainName, overriddenIn]; done) | decide +kernel
set_option maxRecDepth 65536 in
set_option maxHeartbeats 40000000 in
theorem rm9 (l : Launch) (Z : State) (a0 : Array Value) (hw : ∀ d ∈ tables_1, d.before a0 Z = true) (ws : List Jvm.Cond) (p1 : Int32) (vf : Value) (h0 : Heap) (n0 : Nat) (hp1 : ¬ p1 < (0 : Int32)) (hp2 : ¬ (19 : Int32) < p1) (hvf : vf.isRef = true) :
    Mt l Z mt1 (Jvm.Cond.code mt1 jdk_41_method_11_code 3 (some .int) :: ws) rmR9 #[(.int p1), (.int (20 : Int32)), vf] h0 (Q9 p1 vf h0 n0) := by
  refine Mt.of n0 (plainFor_of_name pn_jdk_internal_util_Preconditions) ?_
  intro p e s m below meth c T0 X0 hx hZ hby hml hown hret hlk hnm hs0
  have hown : s.vm.findClass "jdk/internal/util/Preconditions" = some m.cls := hown
  rw [ef_9 (hv := hvf)]
  show Rt p e below s rmR9.cells rmR9.slots (Q9 p1 vf h0 n0) (T0.setTop (mkF m 0 #[.val (.int p1), .val (.int (20 : Int32)), .val vf] []))
  refine Rt.iloadN (pc' := 1) X0 hx (hb hby d9_0) rfl rfl ?_
  refine Rt.ifN (pc' := 4) X0 hx (hb hby d9_1) ((if0 _ _).trans (flt hp1).1) rfl ?_
  refine Rt.iloadN (pc' := 5) X0 hx (hb hby d9_4) rfl rfl ?_
  refine Rt.iloadN (pc' := 6) X0 hx (hb hby d9_5) rfl rfl ?_
  refine Rt.icmpY (pc' := 16) X0 hx (hb hby d9_6) (tlt (own_lt20 hp2)).1 (by decide) (by decide) ?_
  refine Rt.iloadN (pc' := 17) X0 hx (hb hby d9_16) rfl rfl ?_
  exact Rt.retI X0 hx hlk hret (hb hby d9_17) (by decide) (by decide) (fun L N => ⟨congrArg some (congrArg Value.int (by rw [f9])), N, rfl⟩)
theorem d8_0 : decode jdk_42_method_155_code 0 = .ok (.iload_n 0, 1) := by decide +kernel
theorem d8_1 : decode jdk_42_method_155_code 1 = .ok (.iload_n 1, 1) := by decide +kernel
theorem d8_2 : decode jdk_42_method_155_code 2 = .ok (.getstatic 1053, 3) := by decide +kernel
theorem pd_0 : parseMethodDescriptor "(IILjava/util/function/BiFunction;)I" = some ⟨[.int, .int, (.object "java/util/function/BiFunction")], some .int⟩ := by decide +kernel
theorem d8_5 : decode jdk_42_method_155_code 5 = .ok (.invokestatic 1059, 3) := by decide +kernel
theorem d8_8 : decode jdk_42_method_155_code 8 = .ok (.pop, 1) := by decide +kernel
theorem d8_9 : decode jdk_42_method_155_code 9 = .ok (.return_, 1) := by decide +kernel
def Q8 (p1 : Int32) (vf : Value) (h0 : Heap) (n0 : Nat) (v : Option Value) (h : Heap) (L : List Loc) : Prop := v = none ∧ Fr n0 L ∧ h = h0
def rmR8 : Room := { frames := 1, cells := 0, slots := 0, locals := 14 }
theorem ef_8 (m : MethodId) (p1 : Int32) : entryFrame m #[(.int p1), (.int (20 : Int32))] 2 = mkF m 0 #[.val (.int p1), .val (.int (20 : Int32))] [] := by first | (simp [entryFrame, mkF, argsToLocals, Value.category]; done) | rfl
theorem pn_java_lang_String : plainName "java/lang/String" = true := by first | (simp [plainName, overriddenIn]; done) | decide +kernel
set_option maxRecDepth 65536 in
set_option maxHeartbeats 40000000 in
theorem rm8 (l : Launch) (Z : State) (a0 : Array Value) (hw : ∀ d ∈ tables_1, d.before a0 Z = true) (ws : List Jvm.Cond) (p1 : Int32) (vf : Value) (h0 : Heap) (n0 : Nat) (F_S_jdk_internal_util_Preconditions_SIOOBE_FORMATTER : Sta Z h0 nm1 "SIOOBE_FORMATTER" nm2 vf) (hp1 : ¬ p1 < (0 : Int32)) (hp2 : ¬ (19 : Int32) < p1) (hvf : vf.isRef = true) :
    Mt l Z mt2 (Jvm.Cond.code mt2 jdk_42_method_155_code 2 none :: ws) rmR8 #[(.int p1), (.int (20 : Int32))] h0 (Q8 p1 vf h0 n0) := by
  refine Mt.of n0 (plainFor_of_name pn_java_lang_String) ?_
  intro p e s m below meth c T0 X0 hx hZ hby hml hown hret hlk hnm hs0
  have hown : s.vm.findClass "java/lang/String" = some m.cls := hown
  rw [ef_8]
  show Rt p e below s rmR8.cells rmR8.slots (Q8 p1 vf h0 n0) (T0.setTop (mkF m 0 #[.val (.int p1), .val (.int (20 : Int32))] []))
  refine Rt.iloadN (pc' := 1) X0 hx (hb hby d8_0) rfl rfl ?_
  refine Rt.iloadN (pc' := 2) X0 hx (hb hby d8_1) rfl rfl ?_
  refine Rt.getS (pc' := 5) (v := vf) X0 hx hZ hown (host := "") (Or.inl (own_g hw 60 rfl)) F_S_jdk_internal_util_Preconditions_SIOOBE_FORMATTER (hb hby d8_2) rfl ?_
  intro T2 X2
  refine Rt.callP (pc' := 8) (r := (.int (f9 p1))) X2 hx hZ (y := mt1) hown (own_g hw 62 rfl) (own_g hw 63 rfl) (own_g hw 61 rfl) (own_g hw 64 rfl) (by decide) (rm9 l Z a0 hw [] p1 vf h0 n0 hp1 hp2 hvf) (W := 0) (by decide) (by decide) (by decide) (by decide) rfl rfl (argsL := [(.int p1), (.int (20 : Int32)), vf]) (rest := []) (by rw [hml]; rfl) (lenOf pd_0 rfl) rfl rfl (Nat.le_of_eq rfl) (hb hby d8_5) rfl ?_
  intro T3 X3
  refine Rt.pop (pc' := 9) X3 hx (hb hby d8_8) rfl rfl ?_
  exact Rt.retV X3 hx hlk hret (hb hby d8_9) (by decide) (by decide) (fun L N => ⟨rfl, N, rfl⟩)
theorem d7_0 : decode jdk_43_method_2_code 0 = .ok (.iload_n 1, 1) := by decide +kernel
theorem d7_1 : decode jdk_43_method_2_code 1 = .ok (.aload_n 0, 1) := by decide +kernel
theorem d7_2 : decode jdk_43_method_2_code 2 = .ok (.arraylength, 1) := by decide +kernel
theorem pd_1 : parseMethodDescriptor "(II)V" = some ⟨[.int, .int], none⟩ := by decide +kernel
theorem d7_3 : decode jdk_43_method_2_code 3 = .ok (.invokestatic 9, 3) := by decide +kernel
theorem d7_6 : decode jdk_43_method_2_code 6 = .ok (.aload_n 0, 1) := by decide +kernel
theorem d7_7 : decode jdk_43_method_2_code 7 = .ok (.iload_n 1, 1) := by decide +kernel
theorem d7_8 : decode jdk_43_method_2_code 8 = .ok (.baload, 1) := by decide +kernel
theorem d7_9 : decode jdk_43_method_2_code 9 = .ok (.sipush 255, 3) := by decide +kernel
theorem d7_12 : decode jdk_43_method_2_code 12 = .ok (.iand, 1) := by decide +kernel
theorem d7_13 : decode jdk_43_method_2_code 13 = .ok (.i2c, 1) := by decide +kernel
theorem d7_14 : decode jdk_43_method_2_code 14 = .ok (.ireturn, 1) := by decide +kernel
def Q7 (a1 : Addr) (p2 : Int32) (vf : Value) (h0 : Heap) (n0 : Nat) (v : Option Value) (h : Heap) (L : List Loc) : Prop := v = some (.int (34 : Int32)) ∧ Fr n0 L ∧ h = h0
def rmR7 : Room := { frames := 2, cells := 0, slots := 0, locals := 27 }
theorem ef_7 (m : MethodId) (a1 : Addr) (p2 : Int32) : entryFrame m #[(.ref a1), (.int p2)] 2 = mkF m 0 #[.val (.ref a1), .val (.int p2)] [] := by first | (simp [entryFrame, mkF, argsToLocals, Value.category]; done) | rfl
theorem pn_java_lang_StringLatin1 : plainName "java/lang/StringLatin1" = true := by first | (simp [plainName, overriddenIn]; done) | decide +kernel
set_option maxRecDepth 65536 in
set_option maxHeartbeats 40000000 in
theorem rm7 (l : Launch) (Z : State) (a0 : Array Value) (hw : ∀ d ∈ tables_1, d.before a0 Z = true) (ws : List Jvm.Cond) (a1 : Addr) (p2 : Int32) (vf : Value) (h0 : Heap) (n0 : Nat) (F_A_a1 : IA Z h0 a1 .byte [(.int (34 : Int32)), (.int (34 : Int32)), (.int (34 : Int32)), (.int (34 : Int32)), (.int (34 : Int32)), (.int (34 : Int32)), (.int (34 : Int32)), (.int (34 : Int32)), (.int (34 : Int32)), (.int (34 : Int32)), (.int (34 : Int32)), (.int (34 : Int32)), (.int (34 : Int32)), (.int (34 : Int32)), (.int (34 : Int32)), (.int (34 : Int32)), (.int (34 : Int32)), (.int (34 : Int32)), (.int (34 : Int32)), (.int (34 : Int32))]) (F_S_jdk_internal_util_Preconditions_SIOOBE_FORMATTER : Sta Z h0 nm1 "SIOOBE_FORMATTER" nm2 vf) (hp1 : ¬ p2 < (0 : Int32)) (hp2 : ¬ (19 : Int32) < p2) (hvf : vf.isRef = true) :
    Mt l Z mt3 (Jvm.Cond.code mt3 jdk_43_method_2_code 2 (some .char) :: ws) rmR7 #[(.ref a1), (.int p2)] h0 (Q7 a1 p2 vf h0 n0) := by
  refine Mt.of n0 (plainFor_of_name pn_java_lang_StringLatin1) ?_
  intro p e s m below meth c T0 X0 hx hZ hby hml hown hret hlk hnm hs0
  have hown : s.vm.findClass "java/lang/StringLatin1" = some m.cls := hown
  rw [ef_7]
  show Rt p e below s rmR7.cells rmR7.slots (Q7 a1 p2 vf h0 n0) (T0.setTop (mkF m 0 #[.val (.ref a1), .val (.int p2)] []))
  refine Rt.iloadN (pc' := 1) X0 hx (hb hby d7_0) rfl rfl ?_
  refine Rt.aloadN (pc' := 2) X0 hx (hb hby d7_1) rfl rfl rfl ?_
  refine Rt.arraylength (pc' := 3) X0 hx hZ F_A_a1 (v := (20 : Int32)) rfl (hb hby d7_2) rfl ?_
  refine Rt.callS (pc' := 6) X0 hx hZ (y := mt2) hown (own_g hw 57 rfl) (own_g hw 58 rfl) (own_g hw 1 rfl) (own_g hw 59 rfl) (by decide) (rm8 l Z a0 hw [] p2 vf h0 n0 F_S_jdk_internal_util_Preconditions_SIOOBE_FORMATTER hp1 hp2 hvf) (fun _ _ _ q => q.2.1) (W := 0) (by decide) (by decide) (by decide) (by decide) (argsL := [(.int p2), (.int (20 : Int32))]) (rest := []) (by rw [hml]; rfl) (lenOf pd_1 rfl) rfl rfl (Nat.le_of_eq rfl) (hb hby d7_3) rfl ?_
  rintro _ T1 h1 L1 X1 ⟨rfl, N1, e1⟩
  rw [e1] at X1
  show Rt _ _ _ _ _ _ _ (T1.setTop (mkF m 6 #[.val (.ref a1), .val (.int p2)] []))
  refine Rt.aloadN (pc' := 7) X1 hx (hb hby d7_6) rfl rfl rfl ?_
  refine Rt.iloadN (pc' := 8) X1 hx (hb hby d7_7) rfl rfl ?_
  refine Rt.baload (pc' := 9) X1 hx hZ F_A_a1 (i := (p2).toNatClampNeg) rfl hp1 (v := (.int (34 : Int32))) (own_34 _ hp2) (hb hby d7_8) rfl ?_
  refine Rt.sipush (pc' := 12) (v := (255 : Int32)) X1 hx (hb hby d7_9) rfl rfl ?_
  refine Rt.iand (pc' := 13) (r := (34 : Int32)) X1 hx (hb hby d7_12) (by decide) rfl ?_
  refine Rt.i2c (pc' := 14) (r := (34 : Int32)) X1 hx (hb hby d7_13) (by decide) rfl ?_
  exact Rt.retZ (w := (34 : Int32)) X1 hx hlk hret (by simp) (hb hby d7_14) (by decide) (by decide) (by decide) (fun L N => ⟨rfl, N, rfl⟩)
theorem d6_0 : decode jdk_42_method_154_code 0 = .ok (.getstatic 38, 3) := by decide +kernel
theorem d6_3 : decode jdk_42_method_154_code 3 = .ok (.ifCond .eq 14, 3) := by decide +kernel
theorem d6_6 : decode jdk_42_method_154_code 6 = .ok (.aload_n 0, 1) := by decide +kernel
theorem d6_7 : decode jdk_42_method_154_code 7 = .ok (.getfield 15, 3) := by decide +kernel
theorem d6_10 : decode jdk_42_method_154_code 10 = .ok (.ifCond .ne 7, 3) := by decide +kernel
theorem d6_13 : decode jdk_42_method_154_code 13 = .ok (.iconst 1, 1) := by decide +kernel
theorem d6_14 : decode jdk_42_method_154_code 14 = .ok (.goto 4, 3) := by decide +kernel
theorem d6_18 : decode jdk_42_method_154_code 18 = .ok (.ireturn, 1) := by decide +kernel
def Q6 (a1 : Addr) (cs : Int32) (h0 : Heap) (n0 : Nat) (v : Option Value) (h : Heap) (L : List Loc) : Prop := v = some (.int (1 : Int32)) ∧ Fr n0 L ∧ h = h0
def rmR6 : Room := { frames := 0, cells := 0, slots := 0, locals := 0 }
theorem ef_6 (m : MethodId) (a1 : Addr) : entryFrame m #[(.ref a1)] 1 = mkF m 0 #[.val (.ref a1)] [] := by first | (simp [entryFrame, mkF, argsToLocals, Value.category]; done) | rfl
set_option maxRecDepth 65536 in
set_option maxHeartbeats 40000000 in
theorem rm6 (l : Launch) (Z : State) (a0 : Array Value) (hw : ∀ d ∈ tables_1, d.before a0 Z = true) (ws : List Jvm.Cond) (a1 : Addr) (cs : Int32) (h0 : Heap) (n0 : Nat) (F_F_a1_coder : Fld Z h0 a1 "java/lang/String" "coder" "B" (.int (0 : Int32))) (F_S_java_lang_String_COMPACT_STRINGS : Sta Z h0 "java/lang/String" "COMPACT_STRINGS" "Z" (.int cs)) (c_s : ¬ cs = (0 : Int32)) :
    Mt l Z mt4 (Jvm.Cond.code mt4 jdk_42_method_154_code 1 (some .boolean) :: ws) rmR6 #[(.ref a1)] h0 (Q6 a1 cs h0 n0) := by
  refine Mt.of n0 (plainFor_of_name pn_java_lang_String) ?_
  intro p e s m below meth c T0 X0 hx hZ hby hml hown hret hlk hnm hs0
  have hown : s.vm.findClass "java/lang/String" = some m.cls := hown
  rw [ef_6]
  show Rt p e below s rmR6.cells rmR6.slots (Q6 a1 cs h0 n0) (T0.setTop (mkF m 0 #[.val (.ref a1)] []))
  refine Rt.getS (pc' := 3) (v := (.int cs)) X0 hx hZ hown (host := "") (Or.inl (own_g hw 50 rfl)) F_S_java_lang_String_COMPACT_STRINGS (hb hby d6_0) rfl ?_
  intro T2 X2
  refine Rt.ifN (pc' := 6) X2 hx (hb hby d6_3) ((if0 _ _).trans (feq c_s).1) rfl ?_
  refine Rt.aloadN (pc' := 7) X2 hx (hb hby d6_6) rfl rfl rfl ?_
  refine Rt.getF (pc' := 10) (v := (.int (0 : Int32))) X2 hx hZ hown (host := "") (Or.inl (own_g hw 51 rfl)) F_F_a1_coder (hb hby d6_7) rfl ?_
  intro T3 X3
  refine Rt.ifN (pc' := 13) X3 hx (hb hby d6_10) ((if0 _ _).trans (teq (by decide : (0 : Int32) = (0 : Int32))).2) rfl ?_
  refine Rt.iconst (pc' := 14) (v := (1 : Int32)) X3 hx (hb hby d6_13) rfl rfl ?_
  refine Rt.goto (pc' := 18) X3 hx (hb hby d6_14) (by decide) (by decide) ?_
  exact Rt.retZ (w := (1 : Int32)) X3 hx hlk hret (by simp) (hb hby d6_18) (by decide) (by decide) (by decide) (fun L N => ⟨rfl, N, rfl⟩)
theorem d5_0 : decode jdk_42_method_56_code 0 = .ok (.aload_n 0, 1) := by decide +kernel
theorem pd_2 : parseMethodDescriptor "()Z" = some ⟨[], some .boolean⟩ := by decide +kernel
theorem d5_1 : decode jdk_42_method_56_code 1 = .ok (.invokevirtual 492, 3) := by decide +kernel
theorem d5_4 : decode jdk_42_method_56_code 4 = .ok (.ifCond .eq 12, 3) := by decide +kernel
theorem d5_7 : decode jdk_42_method_56_code 7 = .ok (.aload_n 0, 1) := by decide +kernel
theorem d5_8 : decode jdk_42_method_56_code 8 = .ok (.getfield 9, 3) := by decide +kernel
theorem d5_11 : decode jdk_42_method_56_code 11 = .ok (.iload_n 1, 1) := by decide +kernel
theorem pd_3 : parseMethodDescriptor "([BI)C" = some ⟨[(.array .byte), .int], some .char⟩ := by decide +kernel
theorem d5_12 : decode jdk_42_method_56_code 12 = .ok (.invokestatic 495, 3) := by decide +kernel
theorem d5_15 : decode jdk_42_method_56_code 15 = .ok (.ireturn, 1) := by decide +kernel
def Q5 (a1 : Addr) (p2 : Int32) (cs : Int32) (b : Addr) (vf : Value) (h0 : Heap) (n0 : Nat) (v : Option Value) (h : Heap) (L : List Loc) : Prop := v = some (.int (34 : Int32)) ∧ Fr n0 L ∧ h = h0
def rmR5 : Room := { frames := 3, cells := 0, slots := 0, locals := 40 }
theorem ef_5 (m : MethodId) (a1 : Addr) (p2 : Int32) : entryFrame m #[(.ref a1), (.int p2)] 2 = mkF m 0 #[.val (.ref a1), .val (.int p2)] [] := by first | (simp [entryFrame, mkF, argsToLocals, Value.category]; done) | rfl
set_option maxRecDepth 65536 in
set_option maxHeartbeats 40000000 in
theorem rm5 (l : Launch) (Z : State) (a0 : Array Value) (hw : ∀ d ∈ tables_1, d.before a0 Z = true) (ws : List Jvm.Cond) (a1 : Addr) (p2 : Int32) (cs : Int32) (b : Addr) (vf : Value) (h0 : Heap) (n0 : Nat) (F_E_a1 : Exa Z h0 a1 "java/lang/String") (F_F_a1_coder : Fld Z h0 a1 "java/lang/String" "coder" "B" (.int (0 : Int32))) (F_F_a1_value : Fld Z h0 a1 "java/lang/String" "value" "[B" (.ref b)) (F_A_b : IA Z h0 b .byte [(.int (34 : Int32)), (.int (34 : Int32)), (.int (34 : Int32)), (.int (34 : Int32)), (.int (34 : Int32)), (.int (34 : Int32)), (.int (34 : Int32)), (.int (34 : Int32)), (.int (34 : Int32)), (.int (34 : Int32)), (.int (34 : Int32)), (.int (34 : Int32)), (.int (34 : Int32)), (.int (34 : Int32)), (.int (34 : Int32)), (.int (34 : Int32)), (.int (34 : Int32)), (.int (34 : Int32)), (.int (34 : Int32)), (.int (34 : Int32))]) (F_S_java_lang_String_COMPACT_STRINGS : Sta Z h0 "java/lang/String" "COMPACT_STRINGS" "Z" (.int cs)) (F_S_jdk_internal_util_Preconditions_SIOOBE_FORMATTER : Sta Z h0 nm1 "SIOOBE_FORMATTER" nm2 vf) (hp1 : ¬ p2 < (0 : Int32)) (hp2 : ¬ (19 : Int32) < p2) (hvf : vf.isRef = true) (c_s : ¬ cs = (0 : Int32)) :
    Mt l Z mt5 (Jvm.Cond.code mt5 jdk_42_method_56_code 2 (some .char) :: ws) rmR5 #[(.ref a1), (.int p2)] h0 (Q5 a1 p2 cs b vf h0 n0) := by
  refine Mt.of n0 (plainFor_of_name pn_java_lang_String) ?_
  intro p e s m below meth c T0 X0 hx hZ hby hml hown hret hlk hnm hs0
  have hown : s.vm.findClass "java/lang/String" = some m.cls := hown
  rw [ef_5]
  show Rt p e below s rmR5.cells rmR5.slots (Q5 a1 p2 cs b vf h0 n0) (T0.setTop (mkF m 0 #[.val (.ref a1), .val (.int p2)] []))
  refine Rt.aloadN (pc' := 1) X0 hx (hb hby d5_0) rfl rfl rfl ?_
  refine Rt.callV (pc' := 4) X0 hx hZ (y := mt4) (yz := mt4) hown (own_g hw 45 rfl) (own_g hw 46 rfl) (notFace_of_selects (args := #[]) (mvT hZ (own_g hw 48 rfl))) (own_g hw 48 rfl) (own_g hw 47 rfl) (own_g hw 1 rfl) (own_g hw 49 rfl) (by decide) F_E_a1 (rm6 l Z a0 hw [] a1 cs h0 n0 F_F_a1_coder F_S_java_lang_String_COMPACT_STRINGS c_s) (fun _ _ _ q => q.2.1) (W := 0) (by decide) (by decide) (by decide) (by decide) (argsL := []) (rest := []) (by rw [hml]; rfl) (lenOf pd_2 rfl) rfl rfl (Nat.le_of_eq rfl) (hb hby d5_1) rfl ?_
  rintro _ T1 h1 L1 X1 ⟨rfl, N1, e1⟩
  rw [e1] at X1
  show Rt _ _ _ _ _ _ _ (T1.setTop (mkF m 4 #[.val (.ref a1), .val (.int p2)] [(.int (1 : Int32))]))
  refine Rt.ifN (pc' := 7) X1 hx (hb hby d5_4) ((if0 _ _).trans (feq (by decide : ¬ ((1 : Int32) = (0 : Int32)))).1) rfl ?_
  refine Rt.aloadN (pc' := 8) X1 hx (hb hby d5_7) rfl rfl rfl ?_
  refine Rt.getF (pc' := 11) (v := (.ref b)) X1 hx hZ hown (host := "") (Or.inl (own_g hw 52 rfl)) F_F_a1_value (hb hby d5_8) rfl ?_
  intro T2 X2
  refine Rt.iloadN (pc' := 12) X2 hx (hb hby d5_11) rfl rfl ?_
  refine Rt.callP (pc' := 15) (r := (.int (34 : Int32))) X2 hx hZ (y := mt3) hown (own_g hw 53 rfl) (own_g hw 54 rfl) (own_g hw 55 rfl) (own_g hw 56 rfl) (by decide) (rm7 l Z a0 hw [] b p2 vf h0 n0 F_A_b F_S_jdk_internal_util_Preconditions_SIOOBE_FORMATTER hp1 hp2 hvf) (W := 0) (by decide) (by decide) (by decide) (by decide) rfl rfl (argsL := [(.ref b), (.int p2)]) (rest := []) (by rw [hml]; rfl) (lenOf pd_3 rfl) rfl rfl (Nat.le_of_eq rfl) (hb hby d5_12) rfl ?_
  intro T3 X3
  exact Rt.retZ (w := (34 : Int32)) X3 hx hlk hret (by simp) (hb hby d5_15) (by decide) (by decide) (by decide) (fun L N => ⟨rfl, N, rfl⟩)
theorem d4_0 : decode prog_41_method_9_code 0 = .ok (.iconst 0, 1) := by decide +kernel
theorem d4_1 : decode prog_41_method_9_code 1 = .ok (.istore_n 3, 1) := by decide +kernel
theorem d4_2 : decode prog_41_method_9_code 2 = .ok (.iconst 1, 1) := by decide +kernel
theorem d4_3 : decode prog_41_method_9_code 3 = .ok (.istore 4, 2) := by decide +kernel
theorem d4_5 : decode prog_41_method_9_code 5 = .ok (.aload_n 0, 1) := by decide +kernel
theorem d4_6 : decode prog_41_method_9_code 6 = .ok (.getfield 17, 3) := by decide +kernel
theorem d4_9 : decode prog_41_method_9_code 9 = .ok (.iload_n 1, 1) := by decide +kernel
theorem d4_10 : decode prog_41_method_9_code 10 = .ok (.iload 4, 2) := by decide +kernel
theorem d4_12 : decode prog_41_method_9_code 12 = .ok (.iadd, 1) := by decide +kernel
theorem pd_4 : parseMethodDescriptor "(I)C" = some ⟨[.int], some .char⟩ := by decide +kernel
theorem d4_13 : decode prog_41_method_9_code 13 = .ok (.invokeinterface 45 2, 5) := by decide +kernel
theorem d4_18 : decode prog_41_method_9_code 18 = .ok (.istore 5, 2) := by decide +kernel
theorem d4_20 : decode prog_41_method_9_code 20 = .ok (.aload_n 0, 1) := by decide +kernel
theorem d4_21 : decode prog_41_method_9_code 21 = .ok (.getfield 17, 3) := by decide +kernel
theorem d4_24 : decode prog_41_method_9_code 24 = .ok (.iload_n 2, 1) := by decide +kernel
theorem d4_25 : decode prog_41_method_9_code 25 = .ok (.iload 4, 2) := by decide +kernel
theorem d4_27 : decode prog_41_method_9_code 27 = .ok (.iadd, 1) := by decide +kernel
theorem d4_28 : decode prog_41_method_9_code 28 = .ok (.invokeinterface 45 2, 5) := by decide +kernel
theorem d4_33 : decode prog_41_method_9_code 33 = .ok (.istore 6, 2) := by decide +kernel
theorem d4_35 : decode prog_41_method_9_code 35 = .ok (.iload 5, 2) := by decide +kernel
theorem d4_37 : decode prog_41_method_9_code 37 = .ok (.iload 6, 2) := by decide +kernel
theorem d4_39 : decode prog_41_method_9_code 39 = .ok (.if_icmp .eq 9, 3) := by decide +kernel
theorem d4_48 : decode prog_41_method_9_code 48 = .ok (.iload 5, 2) := by decide +kernel
theorem d4_50 : decode prog_41_method_9_code 50 = .ok (.bipush 34, 2) := by decide +kernel
theorem d4_52 : decode prog_41_method_9_code 52 = .ok (.if_icmp .ne 9, 3) := by decide +kernel
theorem d4_55 : decode prog_41_method_9_code 55 = .ok (.iload_n 3, 1) := by decide +kernel
theorem d4_56 : decode prog_41_method_9_code 56 = .ok (.ifCond .ne 5, 3) := by decide +kernel
theorem d4_59 : decode prog_41_method_9_code 59 = .ok (.iconst 0, 1) := by decide +kernel
theorem d4_60 : decode prog_41_method_9_code 60 = .ok (.ireturn, 1) := by decide +kernel
def f4_a13_0 (p2 : Int32) : Int32 := (p2 + (1 : Int32))
def f4_a28_0 (p3 : Int32) : Int32 := (p3 + (1 : Int32))
def Q4 (a1 : Addr) (p2 : Int32) (p3 : Int32) (t : Addr) (cs : Int32) (b : Addr) (vf : Value) (h0 : Heap) (n0 : Nat) (v : Option Value) (h : Heap) (L : List Loc) : Prop := v = some (.int (0 : Int32)) ∧ Fr n0 L ∧ h = h0
def rmR4 : Room := { frames := 4, cells := 0, slots := 0, locals := 53 }
theorem ef_4 (m : MethodId) (a1 : Addr) (p2 : Int32) (p3 : Int32) : entryFrame m #[(.ref a1), (.int p2), (.int p3)] 7 = mkF m 0 #[.val (.ref a1), .val (.int p2), .val (.int p3), .unset, .unset, .unset, .unset] [] := by first | (simp [entryFrame, mkF, argsToLocals, Value.category]; done) | rfl
theorem pn_com_example_teasel_teasel_datatype_Members : plainName "com/example/teasel/teasel/datatype/Members" = true := by first | (simp [plainName, overriddenIn]; done) | decide +kernel
set_option maxRecDepth 65536 in
set_option maxHeartbeats 40000000 in
theorem rm4 (l : Launch) (Z : State) (a0 : Array Value) (hw : ∀ d ∈ tables_1, d.before a0 Z = true) (ws : List Jvm.Cond) (a1 : Addr) (p2 : Int32) (p3 : Int32) (t : Addr) (cs : Int32) (b : Addr) (vf : Value) (h0 : Heap) (n0 : Nat) (F_F_a1_text : Fld Z h0 a1 nm3 "text" "Ljava/lang/CharSequence;" (.ref t)) (F_E_t : Exa Z h0 t "java/lang/String") (F_F_t_coder : Fld Z h0 t "java/lang/String" "coder" "B" (.int (0 : Int32))) (F_F_t_value : Fld Z h0 t "java/lang/String" "value" "[B" (.ref b)) (F_A_b : IA Z h0 b .byte [(.int (34 : Int32)), (.int (34 : Int32)), (.int (34 : Int32)), (.int (34 : Int32)), (.int (34 : Int32)), (.int (34 : Int32)), (.int (34 : Int32)), (.int (34 : Int32)), (.int (34 : Int32)), (.int (34 : Int32)), (.int (34 : Int32)), (.int (34 : Int32)), (.int (34 : Int32)), (.int (34 : Int32)), (.int (34 : Int32)), (.int (34 : Int32)), (.int (34 : Int32)), (.int (34 : Int32)), (.int (34 : Int32)), (.int (34 : Int32))]) (F_S_java_lang_String_COMPACT_STRINGS : Sta Z h0 "java/lang/String" "COMPACT_STRINGS" "Z" (.int cs)) (F_S_jdk_internal_util_Preconditions_SIOOBE_FORMATTER : Sta Z h0 nm1 "SIOOBE_FORMATTER" nm2 vf) (hx1 : ¬ p2 < (0 : Int32)) (hx2 : ¬ (15 : Int32) < p2) (hy1 : ¬ p3 < (0 : Int32)) (hy2 : ¬ (15 : Int32) < p3) (hvf : vf.isRef = true) (c_s : ¬ cs = (0 : Int32)) :
    Mt l Z mt7 (Jvm.Cond.code mt7 prog_41_method_9_code 7 (some .int) :: ws) rmR4 #[(.ref a1), (.int p2), (.int p3)] h0 (Q4 a1 p2 p3 t cs b vf h0 n0) := by
  refine Mt.of n0 (plainFor_of_name pn_com_example_teasel_teasel_datatype_Members) ?_
  intro p e s m below meth c T0 X0 hx hZ hby hml hown hret hlk hnm hs0
  have hown : s.vm.findClass "com/example/teasel/teasel/datatype/Members" = some m.cls := hown
  rw [ef_4]
  show Rt p e below s rmR4.cells rmR4.slots (Q4 a1 p2 p3 t cs b vf h0 n0) (T0.setTop (mkF m 0 #[.val (.ref a1), .val (.int p2), .val (.int p3), .unset, .unset, .unset, .unset] []))
  refine Rt.iconst (pc' := 1) (v := (0 : Int32)) X0 hx (hb hby d4_0) rfl rfl ?_
  refine Rt.istoreN (pc' := 2) (v := (0 : Int32)) (l' := #[.val (.ref a1), .val (.int p2), .val (.int p3), .val (.int (0 : Int32)), .unset, .unset, .unset]) X0 hx (hb hby d4_1) rfl rfl ?_
  refine Rt.iconst (pc' := 3) (v := (1 : Int32)) X0 hx (hb hby d4_2) rfl rfl ?_
  refine Rt.istore (pc' := 5) (v := (1 : Int32)) (l' := #[.val (.ref a1), .val (.int p2), .val (.int p3), .val (.int (0 : Int32)), .val (.int (1 : Int32)), .unset, .unset]) X0 hx (hb hby d4_3) rfl rfl ?_
  refine Rt.aloadN (pc' := 6) X0 hx (hb hby d4_5) rfl rfl rfl ?_
  refine Rt.getF (pc' := 9) (v := (.ref t)) X0 hx hZ hown (host := "") (Or.inl (own_g hw 23 rfl)) F_F_a1_text (hb hby d4_6) rfl ?_
  intro T1 X1
  refine Rt.iloadN (pc' := 10) X1 hx (hb hby d4_9) rfl rfl ?_
  refine Rt.iload (pc' := 12) X1 hx (hb hby d4_10) rfl rfl ?_
  refine Rt.iadd (pc' := 13) (r := (p2 + (1 : Int32))) X1 hx (hb hby d4_12) rfl rfl ?_
  refine Rt.callF (pc' := 18) X1 hx hZ (y := mt6) (yz := mt5) hown (own_g hw 36 rfl) (own_g hw 37 rfl) (by decide) (own_g hw 38 rfl) (own_g hw 39 rfl) (own_g hw 40 rfl) (own_g hw 41 rfl) (own_g hw 42 rfl) (own_g hw 43 rfl) (own_g hw 1 rfl) (own_g hw 44 rfl) (by decide) F_E_t (rm5 l Z a0 hw [] t (f4_a13_0 p2) cs b vf h0 n0 F_E_t F_F_t_coder F_F_t_value F_A_b F_S_java_lang_String_COMPACT_STRINGS F_S_jdk_internal_util_Preconditions_SIOOBE_FORMATTER (own_p1 hx1 hx2).1 (own_p1 hx1 hx2).2 hvf c_s) (fun _ _ _ q => q.2.1) (W := 0) (by decide) (by decide) (by decide) (by decide) (argsL := [(.int (f4_a13_0 p2))]) (rest := []) (by rw [hml]; rfl) (lenOf pd_4 rfl) rfl rfl (Nat.le_of_eq rfl) (hb hby d4_13) rfl ?_
  rintro _ T2 h2 L2 X2 ⟨rfl, N2, e2⟩
  rw [e2] at X2
  show Rt _ _ _ _ _ _ _ (T2.setTop (mkF m 18 #[.val (.ref a1), .val (.int p2), .val (.int p3), .val (.int (0 : Int32)), .val (.int (1 : Int32)), .unset, .unset] [(.int (34 : Int32))]))
  refine Rt.istore (pc' := 20) (v := (34 : Int32)) (l' := #[.val (.ref a1), .val (.int p2), .val (.int p3), .val (.int (0 : Int32)), .val (.int (1 : Int32)), .val (.int (34 : Int32)), .unset]) X2 hx (hb hby d4_18) rfl rfl ?_
  refine Rt.aloadN (pc' := 21) X2 hx (hb hby d4_20) rfl rfl rfl ?_
  refine Rt.getF (pc' := 24) (v := (.ref t)) X2 hx hZ hown (host := "") (Or.inl (own_g hw 23 rfl)) F_F_a1_text (hb hby d4_21) rfl ?_
  intro T3 X3
  refine Rt.iloadN (pc' := 25) X3 hx (hb hby d4_24) rfl rfl ?_
  refine Rt.iload (pc' := 27) X3 hx (hb hby d4_25) rfl rfl ?_
  refine Rt.iadd (pc' := 28) (r := (p3 + (1 : Int32))) X3 hx (hb hby d4_27) rfl rfl ?_
  refine Rt.callF (pc' := 33) X3 hx hZ (y := mt6) (yz := mt5) hown (own_g hw 36 rfl) (own_g hw 37 rfl) (by decide) (own_g hw 38 rfl) (own_g hw 39 rfl) (own_g hw 40 rfl) (own_g hw 41 rfl) (own_g hw 42 rfl) (own_g hw 43 rfl) (own_g hw 1 rfl) (own_g hw 44 rfl) (by decide) F_E_t (rm5 l Z a0 hw [] t (f4_a28_0 p3) cs b vf h0 n0 F_E_t F_F_t_coder F_F_t_value F_A_b F_S_java_lang_String_COMPACT_STRINGS F_S_jdk_internal_util_Preconditions_SIOOBE_FORMATTER (own_p1 hy1 hy2).1 (own_p1 hy1 hy2).2 hvf c_s) (fun _ _ _ q => q.2.1) (W := 0) (by decide) (by decide) (by decide) (by decide) (argsL := [(.int (f4_a28_0 p3))]) (rest := []) (by rw [hml]; rfl) (lenOf pd_4 rfl) rfl rfl (Nat.le_of_eq rfl) (hb hby d4_28) rfl ?_
  rintro _ T4 h4 L4 X4 ⟨rfl, N4, e4⟩
  rw [e4] at X4
  show Rt _ _ _ _ _ _ _ (T4.setTop (mkF m 33 #[.val (.ref a1), .val (.int p2), .val (.int p3), .val (.int (0 : Int32)), .val (.int (1 : Int32)), .val (.int (34 : Int32)), .unset] [(.int (34 : Int32))]))
  refine Rt.istore (pc' := 35) (v := (34 : Int32)) (l' := #[.val (.ref a1), .val (.int p2), .val (.int p3), .val (.int (0 : Int32)), .val (.int (1 : Int32)), .val (.int (34 : Int32)), .val (.int (34 : Int32))]) X4 hx (hb hby d4_33) rfl rfl ?_
  refine Rt.iload (pc' := 37) X4 hx (hb hby d4_35) rfl rfl ?_
  refine Rt.iload (pc' := 39) X4 hx (hb hby d4_37) rfl rfl ?_
  refine Rt.icmpY (pc' := 48) X4 hx (hb hby d4_39) (teq (by decide : (34 : Int32) = (34 : Int32))).1 (by decide) (by decide) ?_
  refine Rt.iload (pc' := 50) X4 hx (hb hby d4_48) rfl rfl ?_
  refine Rt.bipush (pc' := 52) (v := (34 : Int32)) X4 hx (hb hby d4_50) rfl rfl ?_
  refine Rt.icmpN (pc' := 55) X4 hx (hb hby d4_52) (teq (by decide : (34 : Int32) = (34 : Int32))).2 rfl ?_
  refine Rt.iloadN (pc' := 56) X4 hx (hb hby d4_55) rfl rfl ?_
  refine Rt.ifN (pc' := 59) X4 hx (hb hby d4_56) ((if0 _ _).trans (teq (by decide : (0 : Int32) = (0 : Int32))).2) rfl ?_
  refine Rt.iconst (pc' := 60) (v := (0 : Int32)) X4 hx (hb hby d4_59) rfl rfl ?_
  exact Rt.retI X4 hx hlk hret (hb hby d4_60) (by decide) (by decide) (fun L N => ⟨rfl, N, rfl⟩)
theorem d1_0 : decode prog_41_method_1_code 0 = .ok (.aload_n 0, 1) := by decide +kernel
theorem d1_1 : decode prog_41_method_1_code 1 = .ok (.invokespecial 1, 3) := by decide +kernel
theorem d1_4 : decode prog_41_method_1_code 4 = .ok (.aload_n 0, 1) := by decide +kernel
theorem d1_5 : decode prog_41_method_1_code 5 = .ok (.bipush 8, 2) := by decide +kernel
theorem d1_7 : decode prog_41_method_1_code 7 = .ok (.newarray .int, 2) := by decide +kernel
theorem d1_9 : decode prog_41_method_1_code 9 = .ok (.putfield 7, 3) := by decide +kernel
theorem d1_12 : decode prog_41_method_1_code 12 = .ok (.aload_n 0, 1) := by decide +kernel
theorem d1_13 : decode prog_41_method_1_code 13 = .ok (.iconst 1, 1) := by decide +kernel
theorem d1_14 : decode prog_41_method_1_code 14 = .ok (.putfield 13, 3) := by decide +kernel
theorem d1_17 : decode prog_41_method_1_code 17 = .ok (.aload_n 0, 1) := by decide +kernel
theorem d1_18 : decode prog_41_method_1_code 18 = .ok (.aload_n 1, 1) := by decide +kernel
theorem d1_19 : decode prog_41_method_1_code 19 = .ok (.putfield 17, 3) := by decide +kernel
theorem d1_22 : decode prog_41_method_1_code 22 = .ok (.return_, 1) := by decide +kernel
def Q1 (Z : State) (a1 : Addr) (a2 : Addr) (cs : Int32) (vf : Value) (h0 : Heap) (n0 : Nat) (v : Option Value) (h : Heap) (L : List Loc) : Prop := ∃ ns : Addr, h0.size ≤ ns ∧ v = none ∧ Fr n0 L ∧ Keep h0 h [a1] ∧ Exa Z h a1 nm3 ∧ Fld Z h a1 nm3 "starts" "[I" (.ref ns) ∧ Fld Z h a1 nm3 "ordered" "Z" (.int (1 : Int32)) ∧ Fld Z h a1 nm3 "text" "Ljava/lang/CharSequence;" (.ref a2) ∧ Fld Z h a1 nm3 "count" "I" (.int (0 : Int32)) ∧ Sta Z h "java/lang/String" "COMPACT_STRINGS" "Z" (.int cs) ∧ Sta Z h nm1 "SIOOBE_FORMATTER" nm2 vf ∧ IA Z h ns .int [(.int (0 : Int32)), (.int (0 : Int32)), (.int (0 : Int32)), (.int (0 : Int32)), (.int (0 : Int32)), (.int (0 : Int32)), (.int (0 : Int32)), (.int (0 : Int32))]
def rmR1 : Room := { frames := 1, cells := 1, slots := 8, locals := 12 }
theorem ef_1 (m : MethodId) (a1 : Addr) (a2 : Addr) : entryFrame m #[(.ref a1), (.ref a2)] 2 = mkF m 0 #[.val (.ref a1), .val (.ref a2)] [] := by first | (simp [entryFrame, mkF, argsToLocals, Value.category]; done) | rfl
set_option maxRecDepth 65536 in
set_option maxHeartbeats 40000000 in
theorem rm1 (l : Launch) (Z : State) (a0 : Array Value) (hw : ∀ d ∈ tables_1, d.before a0 Z = true) (ws : List Jvm.Cond) (a1 : Addr) (a2 : Addr) (cs : Int32) (vf : Value) (h0 : Heap) (n0 : Nat) (Z0 : n0 ≤ h0.size) (F_E_a1 : Exa Z h0 a1 nm3) (F_F_a1_starts : Fld Z h0 a1 nm3 "starts" "[I" .null) (F_F_a1_ordered : Fld Z h0 a1 nm3 "ordered" "Z" (.int (0 : Int32))) (F_F_a1_text : Fld Z h0 a1 nm3 "text" "Ljava/lang/CharSequence;" .null) (F_F_a1_count : Fld Z h0 a1 nm3 "count" "I" (.int (0 : Int32))) (F_S_java_lang_String_COMPACT_STRINGS : Sta Z h0 "java/lang/String" "COMPACT_STRINGS" "Z" (.int cs)) (F_S_jdk_internal_util_Preconditions_SIOOBE_FORMATTER : Sta Z h0 nm1 "SIOOBE_FORMATTER" nm2 vf) (g_a1 : n0 ≤ a1) :
    Mt l Z mt8 (Jvm.Cond.code mt8 prog_41_method_1_code 2 none :: ws) rmR1 #[(.ref a1), (.ref a2)] h0 (Q1 Z a1 a2 cs vf h0 n0) := by
  refine Mt.of n0 (plainFor_of_name pn_com_example_teasel_teasel_datatype_Members) ?_
  intro p e s m below meth c T0 X0 hx hZ hby hml hown hret hlk hnm hs0
  have Sl0 := slot_ne (Or.inl (own_g hw 22 rfl)) (Or.inl (own_g hw 20 rfl)) (by decide) (t := .boolean) (t' := (.array .int)) (by decide) (by decide)
  have Sl1 := slot_ne (Or.inr (own_g hw 24 rfl)) (Or.inl (own_g hw 20 rfl)) (by decide) (t := (.object "java/lang/CharSequence")) (t' := (.array .int)) (by decide) (by decide)
  have Sl2 := slot_ne (Or.inl (own_g hw 31 rfl)) (Or.inl (own_g hw 20 rfl)) (by decide) (t := .int) (t' := (.array .int)) (by decide) (by decide)
  have Sl3 := slot_ne (Or.inl (own_g hw 20 rfl)) (Or.inl (own_g hw 22 rfl)) (by decide) (t := (.array .int)) (t' := .boolean) (by decide) (by decide)
  have Sl4 := slot_ne (Or.inr (own_g hw 24 rfl)) (Or.inl (own_g hw 22 rfl)) (by decide) (t := (.object "java/lang/CharSequence")) (t' := .boolean) (by decide) (by decide)
  have Sl5 := slot_ne (Or.inl (own_g hw 31 rfl)) (Or.inl (own_g hw 22 rfl)) (by decide) (t := .int) (t' := .boolean) (by decide) (by decide)
  have Sl6 := slot_ne (Or.inl (own_g hw 20 rfl)) (Or.inr (own_g hw 24 rfl)) (by decide) (t := (.array .int)) (t' := (.object "java/lang/CharSequence")) (by decide) (by decide)
  have Sl7 := slot_ne (Or.inl (own_g hw 22 rfl)) (Or.inr (own_g hw 24 rfl)) (by decide) (t := .boolean) (t' := (.object "java/lang/CharSequence")) (by decide) (by decide)
  have Sl8 := slot_ne (Or.inl (own_g hw 31 rfl)) (Or.inr (own_g hw 24 rfl)) (by decide) (t := .int) (t' := (.object "java/lang/CharSequence")) (by decide) (by decide)
  have hown : s.vm.findClass "com/example/teasel/teasel/datatype/Members" = some m.cls := hown
  rw [ef_1]
  show Rt p e below s rmR1.cells rmR1.slots (Q1 Z a1 a2 cs vf h0 n0) (T0.setTop (mkF m 0 #[.val (.ref a1), .val (.ref a2)] []))
  refine Rt.aloadN (pc' := 1) X0 hx (hb hby d1_0) rfl rfl rfl ?_
  refine Rt.initO (pc' := 4) X0 hx hZ hown (own_g hw 15 rfl) (own_g hw 16 rfl) (own_g hw 17 rfl) (by rw [hml]; rfl) (hb hby d1_1) (by decide) (W := 0) (Nat.le_of_eq rfl) (by decide) rfl ?_
  intro T1 X1
  refine Rt.aloadN (pc' := 5) X1 hx (hb hby d1_4) rfl rfl rfl ?_
  refine Rt.bipush (pc' := 7) (v := (8 : Int32)) X1 hx (hb hby d1_5) rfl rfl ?_
  refine Rt.newP (pc' := 9) X1 hx hZ (ty := .int) rfl (own_g hw 18 rfl) (z := (8 : Int32)) (i := 8) (by decide) (by decide) (cap := 8) (by decide) (by decide) (hb hby d1_7) (by decide) (by decide) rfl ?_
  intro T2 h2 b7 ha2 X2 E2 A2
  have g3 : n0 ≤ b7 := by rw [ha2]; exact Z0
  have s4 : h0.size ≤ b7 := by rw [ha2]; exact (Keep.refl h0 [a1]).1
  have ne5 : a1 ≠ b7 := by rw [ha2]; exact Nat.ne_of_lt F_E_a1.lt
  have F6 := F_E_a1.ext E2
  have F7 := F_F_a1_starts.ext E2
  have F8 := F_F_a1_ordered.ext E2
  have F9 := F_F_a1_text.ext E2
  have F10 := F_F_a1_count.ext E2
  have F11 := F_S_java_lang_String_COMPACT_STRINGS.ext E2
  have F12 := F_S_jdk_internal_util_Preconditions_SIOOBE_FORMATTER.ext E2
  have K13 := (Keep.refl h0 [a1]).ext E2
  have Z14 := Nat.le_trans Z0 E2.1
  have A2 : IA Z h2 b7 .int [(.int (0 : Int32)), (.int (0 : Int32)), (.int (0 : Int32)), (.int (0 : Int32)), (.int (0 : Int32)), (.int (0 : Int32)), (.int (0 : Int32)), (.int (0 : Int32))] := A2
  refine Rt.putF (pc' := 12) (v := (.ref b7)) X2 hx hZ hown (host := "") (Or.inl (own_g hw 19 rfl)) F7 F6 (Or.inl (own_g hw 20 rfl)) (own_g hw 10 rfl) (ty := (.array .int)) (by decide) rfl rfl g_a1 (hb hby d1_9) rfl ?_
  intro T15 h15 X15 W15 F15
  have F16 := F6.wr W15
  have F17 := F8.other W15 (Or.inr Sl0)
  have F18 := F9.other W15 (Or.inr Sl1)
  have F19 := F10.other W15 (Or.inr Sl2)
  have F20 := F11.wr W15
  have F21 := F12.wr W15
  have F22 := A2.other W15 (Ne.symm ne5)
  have K23 := K13.wr W15 (Or.inl (List.mem_of_getElem? (i := 0) rfl))
  have Z24 := Nat.le_trans Z14 (Keep.of_wr W15).1
  refine Rt.aloadN (pc' := 13) X15 hx (hb hby d1_12) rfl rfl rfl ?_
  refine Rt.iconst (pc' := 14) (v := (1 : Int32)) X15 hx (hb hby d1_13) rfl rfl ?_
  refine Rt.putF (pc' := 17) (v := (.int (1 : Int32))) X15 hx hZ hown (host := "") (Or.inl (own_g hw 21 rfl)) F17 F16 (Or.inl (own_g hw 22 rfl)) (own_g hw 10 rfl) (ty := .boolean) (by decide) (by decide) (by decide) g_a1 (hb hby d1_14) rfl ?_
  intro T25 h25 X25 W25 F25
  have F26 := F16.wr W25
  have F27 := F15.other W25 (Or.inr Sl3)
  have F28 := F18.other W25 (Or.inr Sl4)
  have F29 := F19.other W25 (Or.inr Sl5)
  have F30 := F20.wr W25
  have F31 := F21.wr W25
  have F32 := F22.other W25 (Ne.symm ne5)
  have K33 := K23.wr W25 (Or.inl (List.mem_of_getElem? (i := 0) rfl))
  have Z34 := Nat.le_trans Z24 (Keep.of_wr W25).1
  refine Rt.aloadN (pc' := 18) X25 hx (hb hby d1_17) rfl rfl rfl ?_
  refine Rt.aloadN (pc' := 19) X25 hx (hb hby d1_18) rfl rfl rfl ?_
  refine Rt.putF (pc' := 22) (v := (.ref a2)) X25 hx hZ hown (host := "") (Or.inl (own_g hw 23 rfl)) F28 F26 (Or.inr ⟨(own_g hw 24 rfl), rfl, hnm⟩) (own_g hw 10 rfl) (ty := (.object "java/lang/CharSequence")) (by decide) rfl rfl g_a1 (hb hby d1_19) rfl ?_
  intro T35 h35 X35 W35 F35
  have F36 := F26.wr W35
  have F37 := F27.other W35 (Or.inr Sl6)
  have F38 := F25.other W35 (Or.inr Sl7)
  have F39 := F29.other W35 (Or.inr Sl8)
  have F40 := F30.wr W35
  have F41 := F31.wr W35
  have F42 := F32.other W35 (Ne.symm ne5)
  have K43 := K33.wr W35 (Or.inl (List.mem_of_getElem? (i := 0) rfl))
  have Z44 := Nat.le_trans Z34 (Keep.of_wr W35).1
  exact Rt.retV X35 hx hlk hret (hb hby d1_22) (by decide) (by decide) (fun L N => ⟨b7, s4, rfl, N, K43, F36, F37, F38, F35, F39, F40, F41, F42⟩)
theorem d3_0 : decode prog_41_method_2_code 0 = .ok (.aload_n 0, 1) := by decide +kernel
theorem d3_1 : decode prog_41_method_2_code 1 = .ok (.getfield 21, 3) := by decide +kernel
theorem d3_4 : decode prog_41_method_2_code 4 = .ok (.aload_n 0, 1) := by decide +kernel
theorem d3_5 : decode prog_41_method_2_code 5 = .ok (.getfield 7, 3) := by decide +kernel
theorem d3_8 : decode prog_41_method_2_code 8 = .ok (.arraylength, 1) := by decide +kernel
theorem d3_9 : decode prog_41_method_2_code 9 = .ok (.if_icmp .ne 25, 3) := by decide +kernel
theorem d3_34 : decode prog_41_method_2_code 34 = .ok (.aload_n 0, 1) := by decide +kernel
theorem d3_35 : decode prog_41_method_2_code 35 = .ok (.getfield 7, 3) := by decide +kernel
theorem d3_38 : decode prog_41_method_2_code 38 = .ok (.aload_n 0, 1) := by decide +kernel
theorem d3_39 : decode prog_41_method_2_code 39 = .ok (.dup, 1) := by decide +kernel
theorem d3_40 : decode prog_41_method_2_code 40 = .ok (.getfield 21, 3) := by decide +kernel
theorem d3_43 : decode prog_41_method_2_code 43 = .ok (.dup_x1, 1) := by decide +kernel
theorem d3_44 : decode prog_41_method_2_code 44 = .ok (.iconst 1, 1) := by decide +kernel
theorem d3_45 : decode prog_41_method_2_code 45 = .ok (.iadd, 1) := by decide +kernel
theorem d3_46 : decode prog_41_method_2_code 46 = .ok (.putfield 21, 3) := by decide +kernel
theorem d3_49 : decode prog_41_method_2_code 49 = .ok (.iload_n 1, 1) := by decide +kernel
theorem d3_50 : decode prog_41_method_2_code 50 = .ok (.iastore, 1) := by decide +kernel
theorem d3_51 : decode prog_41_method_2_code 51 = .ok (.aload_n 0, 1) := by decide +kernel
theorem d3_52 : decode prog_41_method_2_code 52 = .ok (.aload_n 0, 1) := by decide +kernel
theorem d3_53 : decode prog_41_method_2_code 53 = .ok (.getfield 13, 3) := by decide +kernel
theorem d3_56 : decode prog_41_method_2_code 56 = .ok (.ifCond .eq 34, 3) := by decide +kernel
theorem d3_59 : decode prog_41_method_2_code 59 = .ok (.aload_n 0, 1) := by decide +kernel
theorem d3_60 : decode prog_41_method_2_code 60 = .ok (.getfield 21, 3) := by decide +kernel
theorem d3_63 : decode prog_41_method_2_code 63 = .ok (.iconst 1, 1) := by decide +kernel
theorem d3_64 : decode prog_41_method_2_code 64 = .ok (.if_icmp .eq 22, 3) := by decide +kernel
theorem d3_86 : decode prog_41_method_2_code 86 = .ok (.iconst 1, 1) := by decide +kernel
theorem d3_87 : decode prog_41_method_2_code 87 = .ok (.goto 4, 3) := by decide +kernel
theorem d3_91 : decode prog_41_method_2_code 91 = .ok (.putfield 13, 3) := by decide +kernel
theorem d3_94 : decode prog_41_method_2_code 94 = .ok (.return_, 1) := by decide +kernel
def Q3_0 (Z : State) (a1 : Addr) (p2 : Int32) (ar : Addr) (t : Addr) (cs : Int32) (b : Addr) (vf : Value) (h0 : Heap) (n0 : Nat) (v : Option Value) (h : Heap) (L : List Loc) : Prop := v = none ∧ Fr n0 L ∧ Keep h0 h [a1, ar] ∧ Exa Z h a1 nm3 ∧ Fld Z h a1 nm3 "starts" "[I" (.ref ar) ∧ Fld Z h a1 nm3 "ordered" "Z" (.int (1 : Int32)) ∧ Fld Z h a1 nm3 "text" "Ljava/lang/CharSequence;" (.ref t) ∧ Fld Z h a1 nm3 "count" "I" (.int (1 : Int32)) ∧ IA Z h ar .int [(.int p2), (.int (0 : Int32)), (.int (0 : Int32)), (.int (0 : Int32)), (.int (0 : Int32)), (.int (0 : Int32)), (.int (0 : Int32)), (.int (0 : Int32))] ∧ Sta Z h "java/lang/String" "COMPACT_STRINGS" "Z" (.int cs) ∧ Sta Z h nm1 "SIOOBE_FORMATTER" nm2 vf
def rmR3_0 : Room := { frames := 0, cells := 0, slots := 0, locals := 0 }
theorem ef_3_0 (m : MethodId) (a1 : Addr) (p2 : Int32) : entryFrame m #[(.ref a1), (.int p2)] 2 = mkF m 0 #[.val (.ref a1), .val (.int p2)] [] := by first | (simp [entryFrame, mkF, argsToLocals, Value.category]; done) | rfl
set_option maxRecDepth 65536 in
set_option maxHeartbeats 40000000 in
theorem rm3_0 (l : Launch) (Z : State) (a0 : Array Value) (hw : ∀ d ∈ tables_1, d.before a0 Z = true) (ws : List Jvm.Cond) (a1 : Addr) (p2 : Int32) (ar : Addr) (t : Addr) (cs : Int32) (b : Addr) (vf : Value) (h0 : Heap) (n0 : Nat) (Z0 : n0 ≤ h0.size) (F_E_a1 : Exa Z h0 a1 nm3) (F_F_a1_starts : Fld Z h0 a1 nm3 "starts" "[I" (.ref ar)) (F_F_a1_ordered : Fld Z h0 a1 nm3 "ordered" "Z" (.int (1 : Int32))) (F_F_a1_text : Fld Z h0 a1 nm3 "text" "Ljava/lang/CharSequence;" (.ref t)) (F_F_a1_count : Fld Z h0 a1 nm3 "count" "I" (.int (0 : Int32))) (F_A_ar : IA Z h0 ar .int [(.int (0 : Int32)), (.int (0 : Int32)), (.int (0 : Int32)), (.int (0 : Int32)), (.int (0 : Int32)), (.int (0 : Int32)), (.int (0 : Int32)), (.int (0 : Int32))]) (F_E_t : Exa Z h0 t "java/lang/String") (F_F_t_coder : Fld Z h0 t "java/lang/String" "coder" "B" (.int (0 : Int32))) (F_F_t_value : Fld Z h0 t "java/lang/String" "value" "[B" (.ref b)) (F_A_b : IA Z h0 b .byte [(.int (34 : Int32)), (.int (34 : Int32)), (.int (34 : Int32)), (.int (34 : Int32)), (.int (34 : Int32)), (.int (34 : Int32)), (.int (34 : Int32)), (.int (34 : Int32)), (.int (34 : Int32)), (.int (34 : Int32)), (.int (34 : Int32)), (.int (34 : Int32)), (.int (34 : Int32)), (.int (34 : Int32)), (.int (34 : Int32)), (.int (34 : Int32)), (.int (34 : Int32)), (.int (34 : Int32)), (.int (34 : Int32)), (.int (34 : Int32))]) (F_S_java_lang_String_COMPACT_STRINGS : Sta Z h0 "java/lang/String" "COMPACT_STRINGS" "Z" (.int cs)) (F_S_jdk_internal_util_Preconditions_SIOOBE_FORMATTER : Sta Z h0 nm1 "SIOOBE_FORMATTER" nm2 vf) (g_a1 : n0 ≤ a1) (g_ar : n0 ≤ ar) (ne_a1_ar : a1 ≠ ar) (ne_a1_t : a1 ≠ t) (ne_a1_b : a1 ≠ b) (ne_ar_t : ar ≠ t) (ne_ar_b : ar ≠ b) (hx1 : ¬ p2 < (0 : Int32)) (hx2 : ¬ (15 : Int32) < p2) (hvf : vf.isRef = true) (c_s : ¬ cs = (0 : Int32)) :
    Mt l Z mt9 (Jvm.Cond.code mt9 prog_41_method_2_code 2 none :: ws) rmR3_0 #[(.ref a1), (.int p2)] h0 (Q3_0 Z a1 p2 ar t cs b vf h0 n0) := by
  refine Mt.of n0 (plainFor_of_name pn_com_example_teasel_teasel_datatype_Members) ?_
  intro p e s m below meth c T0 X0 hx hZ hby hml hown hret hlk hnm hs0
  have Sl0 := slot_ne (Or.inl (own_g hw 20 rfl)) (Or.inl (own_g hw 31 rfl)) (by decide) (t := (.array .int)) (t' := .int) (by decide) (by decide)
  have Sl1 := slot_ne (Or.inl (own_g hw 22 rfl)) (Or.inl (own_g hw 31 rfl)) (by decide) (t := .boolean) (t' := .int) (by decide) (by decide)
  have Sl2 := slot_ne (Or.inr (own_g hw 24 rfl)) (Or.inl (own_g hw 31 rfl)) (by decide) (t := (.object "java/lang/CharSequence")) (t' := .int) (by decide) (by decide)
  have Sl3 := slot_ne (Or.inl (own_g hw 20 rfl)) (Or.inl (own_g hw 22 rfl)) (by decide) (t := (.array .int)) (t' := .boolean) (by decide) (by decide)
  have Sl4 := slot_ne (Or.inr (own_g hw 24 rfl)) (Or.inl (own_g hw 22 rfl)) (by decide) (t := (.object "java/lang/CharSequence")) (t' := .boolean) (by decide) (by decide)
  have Sl5 := slot_ne (Or.inl (own_g hw 31 rfl)) (Or.inl (own_g hw 22 rfl)) (by decide) (t := .int) (t' := .boolean) (by decide) (by decide)
  have hown : s.vm.findClass "com/example/teasel/teasel/datatype/Members" = some m.cls := hown
  rw [ef_3_0]
  show Rt p e below s rmR3_0.cells rmR3_0.slots (Q3_0 Z a1 p2 ar t cs b vf h0 n0) (T0.setTop (mkF m 0 #[.val (.ref a1), .val (.int p2)] []))
  refine Rt.aloadN (pc' := 1) X0 hx (hb hby d3_0) rfl rfl rfl ?_
  refine Rt.getF (pc' := 4) (v := (.int (0 : Int32))) X0 hx hZ hown (host := "") (Or.inl (own_g hw 30 rfl)) F_F_a1_count (hb hby d3_1) rfl ?_
  intro T1 X1
  refine Rt.aloadN (pc' := 5) X1 hx (hb hby d3_4) rfl rfl rfl ?_
  refine Rt.getF (pc' := 8) (v := (.ref ar)) X1 hx hZ hown (host := "") (Or.inl (own_g hw 19 rfl)) F_F_a1_starts (hb hby d3_5) rfl ?_
  intro T2 X2
  refine Rt.arraylength (pc' := 9) X2 hx hZ F_A_ar (v := (8 : Int32)) rfl (hb hby d3_8) rfl ?_
  refine Rt.icmpY (pc' := 34) X2 hx (hb hby d3_9) (feq (by decide : ¬ ((0 : Int32) = (8 : Int32)))).2 (by decide) (by decide) ?_
  refine Rt.aloadN (pc' := 35) X2 hx (hb hby d3_34) rfl rfl rfl ?_
  refine Rt.getF (pc' := 38) (v := (.ref ar)) X2 hx hZ hown (host := "") (Or.inl (own_g hw 19 rfl)) F_F_a1_starts (hb hby d3_35) rfl ?_
  intro T3 X3
  refine Rt.aloadN (pc' := 39) X3 hx (hb hby d3_38) rfl rfl rfl ?_
  refine Rt.dup (pc' := 40) X3 hx (hb hby d3_39) rfl rfl ?_
  refine Rt.getF (pc' := 43) (v := (.int (0 : Int32))) X3 hx hZ hown (host := "") (Or.inl (own_g hw 30 rfl)) F_F_a1_count (hb hby d3_40) rfl ?_
  intro T4 X4
  refine Rt.dupX1 (pc' := 44) X4 hx (hb hby d3_43) rfl rfl rfl ?_
  refine Rt.iconst (pc' := 45) (v := (1 : Int32)) X4 hx (hb hby d3_44) rfl rfl ?_
  refine Rt.iadd (pc' := 46) (r := (1 : Int32)) X4 hx (hb hby d3_45) (by decide) rfl ?_
  refine Rt.putF (pc' := 49) (v := (.int (1 : Int32))) X4 hx hZ hown (host := "") (Or.inl (own_g hw 30 rfl)) F_F_a1_count F_E_a1 (Or.inl (own_g hw 31 rfl)) (own_g hw 10 rfl) (ty := .int) (by decide) rfl rfl g_a1 (hb hby d3_46) rfl ?_
  intro T5 h5 X5 W5 F5
  have F6 := F_E_a1.wr W5
  have F7 := F_F_a1_starts.other W5 (Or.inr Sl0)
  have F8 := F_F_a1_ordered.other W5 (Or.inr Sl1)
  have F9 := F_F_a1_text.other W5 (Or.inr Sl2)
  have F10 := F_A_ar.other W5 (Ne.symm ne_a1_ar)
  have F11 := F_E_t.wr W5
  have F12 := F_F_t_coder.other W5 (Or.inl (Ne.symm ne_a1_t))
  have F13 := F_F_t_value.other W5 (Or.inl (Ne.symm ne_a1_t))
  have F14 := F_A_b.other W5 (Ne.symm ne_a1_b)
  have F15 := F_S_java_lang_String_COMPACT_STRINGS.wr W5
  have F16 := F_S_jdk_internal_util_Preconditions_SIOOBE_FORMATTER.wr W5
  have K17 := (Keep.refl h0 [a1, ar]).wr W5 (Or.inl (List.mem_of_getElem? (i := 0) rfl))
  have Z18 := Nat.le_trans Z0 (Keep.of_wr W5).1
  refine Rt.iloadN (pc' := 50) X5 hx (hb hby d3_49) rfl rfl ?_
  refine Rt.iastore (pc' := 51) X5 hx hZ F10 (i := 0) (by decide) (by decide) (Nat.le_of_ble_eq_true rfl) (w := (.int p2)) rfl g_ar (hb hby d3_50) rfl ?_
  intro T19 h19 X19 W19 F19
  have F19 : IA Z h19 ar .int [(.int p2), (.int (0 : Int32)), (.int (0 : Int32)), (.int (0 : Int32)), (.int (0 : Int32)), (.int (0 : Int32)), (.int (0 : Int32)), (.int (0 : Int32))] := F19
  have F20 := F6.wr W19
  have F21 := F7.other W19 (Or.inl ne_a1_ar)
  have F22 := F8.other W19 (Or.inl ne_a1_ar)
  have F23 := F9.other W19 (Or.inl ne_a1_ar)
  have F24 := F5.other W19 (Or.inl ne_a1_ar)
  have F25 := F11.wr W19
  have F26 := F12.other W19 (Or.inl (Ne.symm ne_ar_t))
  have F27 := F13.other W19 (Or.inl (Ne.symm ne_ar_t))
  have F28 := F14.other W19 (Ne.symm ne_ar_b)
  have F29 := F15.wr W19
  have F30 := F16.wr W19
  have K31 := K17.wr W19 (Or.inl (List.mem_of_getElem? (i := 1) rfl))
  have Z32 := Nat.le_trans Z18 (Keep.of_wr W19).1
  refine Rt.aloadN (pc' := 52) X19 hx (hb hby d3_51) rfl rfl rfl ?_
  refine Rt.aloadN (pc' := 53) X19 hx (hb hby d3_52) rfl rfl rfl ?_
  refine Rt.getF (pc' := 56) (v := (.int (1 : Int32))) X19 hx hZ hown (host := "") (Or.inl (own_g hw 21 rfl)) F22 (hb hby d3_53) rfl ?_
  intro T33 X33
  refine Rt.ifN (pc' := 59) X33 hx (hb hby d3_56) ((if0 _ _).trans (feq (by decide : ¬ ((1 : Int32) = (0 : Int32)))).1) rfl ?_
  refine Rt.aloadN (pc' := 60) X33 hx (hb hby d3_59) rfl rfl rfl ?_
  refine Rt.getF (pc' := 63) (v := (.int (1 : Int32))) X33 hx hZ hown (host := "") (Or.inl (own_g hw 30 rfl)) F24 (hb hby d3_60) rfl ?_
  intro T34 X34
  refine Rt.iconst (pc' := 64) (v := (1 : Int32)) X34 hx (hb hby d3_63) rfl rfl ?_
  refine Rt.icmpY (pc' := 86) X34 hx (hb hby d3_64) (teq (by decide : (1 : Int32) = (1 : Int32))).1 (by decide) (by decide) ?_
  refine Rt.iconst (pc' := 87) (v := (1 : Int32)) X34 hx (hb hby d3_86) rfl rfl ?_
  refine Rt.goto (pc' := 91) X34 hx (hb hby d3_87) (by decide) (by decide) ?_
  refine Rt.putF (pc' := 94) (v := (.int (1 : Int32))) X34 hx hZ hown (host := "") (Or.inl (own_g hw 21 rfl)) F22 F20 (Or.inl (own_g hw 22 rfl)) (own_g hw 10 rfl) (ty := .boolean) (by decide) (by decide) (by decide) g_a1 (hb hby d3_91) rfl ?_
  intro T35 h35 X35 W35 F35
  have F36 := F20.wr W35
  have F37 := F21.other W35 (Or.inr Sl3)
  have F38 := F23.other W35 (Or.inr Sl4)
  have F39 := F24.other W35 (Or.inr Sl5)
  have F40 := F19.other W35 (Ne.symm ne_a1_ar)
  have F41 := F25.wr W35
  have F42 := F26.other W35 (Or.inl (Ne.symm ne_a1_t))
  have F43 := F27.other W35 (Or.inl (Ne.symm ne_a1_t))
  have F44 := F28.other W35 (Ne.symm ne_a1_b)
  have F45 := F29.wr W35
  have F46 := F30.wr W35
  have K47 := K31.wr W35 (Or.inl (List.mem_of_getElem? (i := 0) rfl))
  have Z48 := Nat.le_trans Z32 (Keep.of_wr W35).1
  exact Rt.retV X35 hx hlk hret (hb hby d3_94) (by decide) (by decide) (fun L N => ⟨rfl, N, K47, F36, F37, F35, F38, F39, F40, F45, F46⟩)
theorem d3_67 : decode prog_41_method_2_code 67 = .ok (.aload_n 0, 1) := by decide +kernel
theorem d3_68 : decode prog_41_method_2_code 68 = .ok (.aload_n 0, 1) := by decide +kernel
theorem d3_69 : decode prog_41_method_2_code 69 = .ok (.getfield 7, 3) := by decide +kernel
theorem d3_72 : decode prog_41_method_2_code 72 = .ok (.aload_n 0, 1) := by decide +kernel
theorem d3_73 : decode prog_41_method_2_code 73 = .ok (.getfield 21, 3) := by decide +kernel
theorem d3_76 : decode prog_41_method_2_code 76 = .ok (.iconst 2, 1) := by decide +kernel
theorem d3_77 : decode prog_41_method_2_code 77 = .ok (.isub, 1) := by decide +kernel
theorem d3_78 : decode prog_41_method_2_code 78 = .ok (.iaload, 1) := by decide +kernel
theorem d3_79 : decode prog_41_method_2_code 79 = .ok (.iload_n 1, 1) := by decide +kernel
theorem pd_5 : parseMethodDescriptor "(II)I" = some ⟨[.int, .int], some .int⟩ := by decide +kernel
theorem d3_80 : decode prog_41_method_2_code 80 = .ok (.invokevirtual 31, 3) := by decide +kernel
theorem d3_83 : decode prog_41_method_2_code 83 = .ok (.ifCond .ge 7, 3) := by decide +kernel
theorem d3_90 : decode prog_41_method_2_code 90 = .ok (.iconst 0, 1) := by decide +kernel
def Q3_1 (Z : State) (a1 : Addr) (p2 : Int32) (ar : Addr) (t : Addr) (cs : Int32) (b : Addr) (vf : Value) (t0 : Int32) (h0 : Heap) (n0 : Nat) (v : Option Value) (h : Heap) (L : List Loc) : Prop := v = none ∧ Fr n0 L ∧ Keep h0 h [a1, ar] ∧ Exa Z h a1 nm3 ∧ Fld Z h a1 nm3 "starts" "[I" (.ref ar) ∧ Fld Z h a1 nm3 "ordered" "Z" (.int (0 : Int32)) ∧ Fld Z h a1 nm3 "text" "Ljava/lang/CharSequence;" (.ref t) ∧ Fld Z h a1 nm3 "count" "I" (.int (2 : Int32)) ∧ IA Z h ar .int [(.int t0), (.int p2), (.int (0 : Int32)), (.int (0 : Int32)), (.int (0 : Int32)), (.int (0 : Int32)), (.int (0 : Int32)), (.int (0 : Int32))] ∧ Sta Z h "java/lang/String" "COMPACT_STRINGS" "Z" (.int cs) ∧ Sta Z h nm1 "SIOOBE_FORMATTER" nm2 vf
def rmR3_1 : Room := { frames := 5, cells := 0, slots := 0, locals := 72 }
theorem ef_3_1 (m : MethodId) (a1 : Addr) (p2 : Int32) : entryFrame m #[(.ref a1), (.int p2)] 2 = mkF m 0 #[.val (.ref a1), .val (.int p2)] [] := by first | (simp [entryFrame, mkF, argsToLocals, Value.category]; done) | rfl
set_option maxRecDepth 65536 in
set_option maxHeartbeats 40000000 in
theorem rm3_1 (l : Launch) (Z : State) (a0 : Array Value) (hw : ∀ d ∈ tables_1, d.before a0 Z = true) (ws : List Jvm.Cond) (a1 : Addr) (p2 : Int32) (ar : Addr) (t : Addr) (cs : Int32) (b : Addr) (vf : Value) (t0 : Int32) (h0 : Heap) (n0 : Nat) (Z0 : n0 ≤ h0.size) (F_E_a1 : Exa Z h0 a1 nm3) (F_F_a1_starts : Fld Z h0 a1 nm3 "starts" "[I" (.ref ar)) (F_F_a1_ordered : Fld Z h0 a1 nm3 "ordered" "Z" (.int (1 : Int32))) (F_F_a1_text : Fld Z h0 a1 nm3 "text" "Ljava/lang/CharSequence;" (.ref t)) (F_F_a1_count : Fld Z h0 a1 nm3 "count" "I" (.int (1 : Int32))) (F_A_ar : IA Z h0 ar .int [(.int t0), (.int (0 : Int32)), (.int (0 : Int32)), (.int (0 : Int32)), (.int (0 : Int32)), (.int (0 : Int32)), (.int (0 : Int32)), (.int (0 : Int32))]) (F_E_t : Exa Z h0 t "java/lang/String") (F_F_t_coder : Fld Z h0 t "java/lang/String" "coder" "B" (.int (0 : Int32))) (F_F_t_value : Fld Z h0 t "java/lang/String" "value" "[B" (.ref b)) (F_A_b : IA Z h0 b .byte [(.int (34 : Int32)), (.int (34 : Int32)), (.int (34 : Int32)), (.int (34 : Int32)), (.int (34 : Int32)), (.int (34 : Int32)), (.int (34 : Int32)), (.int (34 : Int32)), (.int (34 : Int32)), (.int (34 : Int32)), (.int (34 : Int32)), (.int (34 : Int32)), (.int (34 : Int32)), (.int (34 : Int32)), (.int (34 : Int32)), (.int (34 : Int32)), (.int (34 : Int32)), (.int (34 : Int32)), (.int (34 : Int32)), (.int (34 : Int32))]) (F_S_java_lang_String_COMPACT_STRINGS : Sta Z h0 "java/lang/String" "COMPACT_STRINGS" "Z" (.int cs)) (F_S_jdk_internal_util_Preconditions_SIOOBE_FORMATTER : Sta Z h0 nm1 "SIOOBE_FORMATTER" nm2 vf) (g_a1 : n0 ≤ a1) (g_ar : n0 ≤ ar) (ne_a1_ar : a1 ≠ ar) (ne_a1_t : a1 ≠ t) (ne_a1_b : a1 ≠ b) (ne_ar_t : ar ≠ t) (ne_ar_b : ar ≠ b) (hx1 : ¬ p2 < (0 : Int32)) (hx2 : ¬ (15 : Int32) < p2) (hy1 : ¬ t0 < (0 : Int32)) (hy2 : ¬ (15 : Int32) < t0) (hvf : vf.isRef = true) (c_s : ¬ cs = (0 : Int32)) :
    Mt l Z mt9 (Jvm.Cond.code mt9 prog_41_method_2_code 2 none :: ws) rmR3_1 #[(.ref a1), (.int p2)] h0 (Q3_1 Z a1 p2 ar t cs b vf t0 h0 n0) := by
  refine Mt.of n0 (plainFor_of_name pn_com_example_teasel_teasel_datatype_Members) ?_
  intro p e s m below meth c T0 X0 hx hZ hby hml hown hret hlk hnm hs0
  have Sl0 := slot_ne (Or.inl (own_g hw 20 rfl)) (Or.inl (own_g hw 31 rfl)) (by decide) (t := (.array .int)) (t' := .int) (by decide) (by decide)
  have Sl1 := slot_ne (Or.inl (own_g hw 22 rfl)) (Or.inl (own_g hw 31 rfl)) (by decide) (t := .boolean) (t' := .int) (by decide) (by decide)
  have Sl2 := slot_ne (Or.inr (own_g hw 24 rfl)) (Or.inl (own_g hw 31 rfl)) (by decide) (t := (.object "java/lang/CharSequence")) (t' := .int) (by decide) (by decide)
  have Sl3 := slot_ne (Or.inl (own_g hw 20 rfl)) (Or.inl (own_g hw 22 rfl)) (by decide) (t := (.array .int)) (t' := .boolean) (by decide) (by decide)
  have Sl4 := slot_ne (Or.inr (own_g hw 24 rfl)) (Or.inl (own_g hw 22 rfl)) (by decide) (t := (.object "java/lang/CharSequence")) (t' := .boolean) (by decide) (by decide)
  have Sl5 := slot_ne (Or.inl (own_g hw 31 rfl)) (Or.inl (own_g hw 22 rfl)) (by decide) (t := .int) (t' := .boolean) (by decide) (by decide)
  have hown : s.vm.findClass "com/example/teasel/teasel/datatype/Members" = some m.cls := hown
  rw [ef_3_1]
  show Rt p e below s rmR3_1.cells rmR3_1.slots (Q3_1 Z a1 p2 ar t cs b vf t0 h0 n0) (T0.setTop (mkF m 0 #[.val (.ref a1), .val (.int p2)] []))
  refine Rt.aloadN (pc' := 1) X0 hx (hb hby d3_0) rfl rfl rfl ?_
  refine Rt.getF (pc' := 4) (v := (.int (1 : Int32))) X0 hx hZ hown (host := "") (Or.inl (own_g hw 30 rfl)) F_F_a1_count (hb hby d3_1) rfl ?_
  intro T1 X1
  refine Rt.aloadN (pc' := 5) X1 hx (hb hby d3_4) rfl rfl rfl ?_
  refine Rt.getF (pc' := 8) (v := (.ref ar)) X1 hx hZ hown (host := "") (Or.inl (own_g hw 19 rfl)) F_F_a1_starts (hb hby d3_5) rfl ?_
  intro T2 X2
  refine Rt.arraylength (pc' := 9) X2 hx hZ F_A_ar (v := (8 : Int32)) rfl (hb hby d3_8) rfl ?_
  refine Rt.icmpY (pc' := 34) X2 hx (hb hby d3_9) (feq (by decide : ¬ ((1 : Int32) = (8 : Int32)))).2 (by decide) (by decide) ?_
  refine Rt.aloadN (pc' := 35) X2 hx (hb hby d3_34) rfl rfl rfl ?_
  refine Rt.getF (pc' := 38) (v := (.ref ar)) X2 hx hZ hown (host := "") (Or.inl (own_g hw 19 rfl)) F_F_a1_starts (hb hby d3_35) rfl ?_
  intro T3 X3
  refine Rt.aloadN (pc' := 39) X3 hx (hb hby d3_38) rfl rfl rfl ?_
  refine Rt.dup (pc' := 40) X3 hx (hb hby d3_39) rfl rfl ?_
  refine Rt.getF (pc' := 43) (v := (.int (1 : Int32))) X3 hx hZ hown (host := "") (Or.inl (own_g hw 30 rfl)) F_F_a1_count (hb hby d3_40) rfl ?_
  intro T4 X4
  refine Rt.dupX1 (pc' := 44) X4 hx (hb hby d3_43) rfl rfl rfl ?_
  refine Rt.iconst (pc' := 45) (v := (1 : Int32)) X4 hx (hb hby d3_44) rfl rfl ?_
  refine Rt.iadd (pc' := 46) (r := (2 : Int32)) X4 hx (hb hby d3_45) (by decide) rfl ?_
  refine Rt.putF (pc' := 49) (v := (.int (2 : Int32))) X4 hx hZ hown (host := "") (Or.inl (own_g hw 30 rfl)) F_F_a1_count F_E_a1 (Or.inl (own_g hw 31 rfl)) (own_g hw 10 rfl) (ty := .int) (by decide) rfl rfl g_a1 (hb hby d3_46) rfl ?_
  intro T5 h5 X5 W5 F5
  have F6 := F_E_a1.wr W5
  have F7 := F_F_a1_starts.other W5 (Or.inr Sl0)
  have F8 := F_F_a1_ordered.other W5 (Or.inr Sl1)
  have F9 := F_F_a1_text.other W5 (Or.inr Sl2)
  have F10 := F_A_ar.other W5 (Ne.symm ne_a1_ar)
  have F11 := F_E_t.wr W5
  have F12 := F_F_t_coder.other W5 (Or.inl (Ne.symm ne_a1_t))
  have F13 := F_F_t_value.other W5 (Or.inl (Ne.symm ne_a1_t))
  have F14 := F_A_b.other W5 (Ne.symm ne_a1_b)
  have F15 := F_S_java_lang_String_COMPACT_STRINGS.wr W5
  have F16 := F_S_jdk_internal_util_Preconditions_SIOOBE_FORMATTER.wr W5
  have K17 := (Keep.refl h0 [a1, ar]).wr W5 (Or.inl (List.mem_of_getElem? (i := 0) rfl))
  have Z18 := Nat.le_trans Z0 (Keep.of_wr W5).1
  refine Rt.iloadN (pc' := 50) X5 hx (hb hby d3_49) rfl rfl ?_
  refine Rt.iastore (pc' := 51) X5 hx hZ F10 (i := 1) (by decide) (by decide) (Nat.le_of_ble_eq_true rfl) (w := (.int p2)) rfl g_ar (hb hby d3_50) rfl ?_
  intro T19 h19 X19 W19 F19
  have F19 : IA Z h19 ar .int [(.int t0), (.int p2), (.int (0 : Int32)), (.int (0 : Int32)), (.int (0 : Int32)), (.int (0 : Int32)), (.int (0 : Int32)), (.int (0 : Int32))] := F19
  have F20 := F6.wr W19
  have F21 := F7.other W19 (Or.inl ne_a1_ar)
  have F22 := F8.other W19 (Or.inl ne_a1_ar)
  have F23 := F9.other W19 (Or.inl ne_a1_ar)
  have F24 := F5.other W19 (Or.inl ne_a1_ar)
  have F25 := F11.wr W19
  have F26 := F12.other W19 (Or.inl (Ne.symm ne_ar_t))
  have F27 := F13.other W19 (Or.inl (Ne.symm ne_ar_t))
  have F28 := F14.other W19 (Ne.symm ne_ar_b)
  have F29 := F15.wr W19
  have F30 := F16.wr W19
  have K31 := K17.wr W19 (Or.inl (List.mem_of_getElem? (i := 1) rfl))
  have Z32 := Nat.le_trans Z18 (Keep.of_wr W19).1
  refine Rt.aloadN (pc' := 52) X19 hx (hb hby d3_51) rfl rfl rfl ?_
  refine Rt.aloadN (pc' := 53) X19 hx (hb hby d3_52) rfl rfl rfl ?_
  refine Rt.getF (pc' := 56) (v := (.int (1 : Int32))) X19 hx hZ hown (host := "") (Or.inl (own_g hw 21 rfl)) F22 (hb hby d3_53) rfl ?_
  intro T33 X33
  refine Rt.ifN (pc' := 59) X33 hx (hb hby d3_56) ((if0 _ _).trans (feq (by decide : ¬ ((1 : Int32) = (0 : Int32)))).1) rfl ?_
  refine Rt.aloadN (pc' := 60) X33 hx (hb hby d3_59) rfl rfl rfl ?_
  refine Rt.getF (pc' := 63) (v := (.int (2 : Int32))) X33 hx hZ hown (host := "") (Or.inl (own_g hw 30 rfl)) F24 (hb hby d3_60) rfl ?_
  intro T34 X34
  refine Rt.iconst (pc' := 64) (v := (1 : Int32)) X34 hx (hb hby d3_63) rfl rfl ?_
  refine Rt.icmpN (pc' := 67) X34 hx (hb hby d3_64) (feq (by decide : ¬ ((2 : Int32) = (1 : Int32)))).1 rfl ?_
  refine Rt.aloadN (pc' := 68) X34 hx (hb hby d3_67) rfl rfl rfl ?_
  refine Rt.aloadN (pc' := 69) X34 hx (hb hby d3_68) rfl rfl rfl ?_
  refine Rt.getF (pc' := 72) (v := (.ref ar)) X34 hx hZ hown (host := "") (Or.inl (own_g hw 19 rfl)) F21 (hb hby d3_69) rfl ?_
  intro T35 X35
  refine Rt.aloadN (pc' := 73) X35 hx (hb hby d3_72) rfl rfl rfl ?_
  refine Rt.getF (pc' := 76) (v := (.int (2 : Int32))) X35 hx hZ hown (host := "") (Or.inl (own_g hw 30 rfl)) F24 (hb hby d3_73) rfl ?_
  intro T36 X36
  refine Rt.iconst (pc' := 77) (v := (2 : Int32)) X36 hx (hb hby d3_76) rfl rfl ?_
  refine Rt.isub (pc' := 78) (r := (0 : Int32)) X36 hx (hb hby d3_77) (by decide) rfl ?_
  refine Rt.iaload (pc' := 79) X36 hx hZ F19 (i := 0) (by decide) (by decide) (v := (.int t0)) rfl (hb hby d3_78) rfl ?_
  refine Rt.iloadN (pc' := 80) X36 hx (hb hby d3_79) rfl rfl ?_
  refine Rt.callPr (pc' := 83) X36 hx hZ (y := mt7) hown (own_g hw 32 rfl) (own_g hw 33 rfl) (own_g hw 34 rfl) (own_g hw 10 rfl) (own_g hw 11 rfl) (own_g hw 35 rfl) (by decide) F20 (rm4 l Z a0 hw [] a1 t0 p2 t cs b vf h19 n0 F23 F25 F26 F27 F28 F29 F30 hy1 hy2 hx1 hx2 hvf c_s) (fun _ _ _ q => q.2.1) (W := 1) (by decide) (by decide) (by decide) (by decide) (argsL := [(.int t0), (.int p2)]) (rest := [(.ref a1)]) (by rw [hml]; rfl) (lenOf pd_5 rfl) rfl rfl (Nat.le_of_eq rfl) (hb hby d3_80) rfl ?_
  rintro _ T37 h37 L37 X37 ⟨rfl, N37, e37⟩
  rw [e37] at X37
  show Rt _ _ _ _ _ _ _ (T37.setTop (mkF m 83 #[.val (.ref a1), .val (.int p2)] [(.int (0 : Int32)), (.ref a1)]))
  refine Rt.ifY (pc' := 90) X37 hx (hb hby d3_83) ((if0 _ _).trans (flt (by decide : ¬ ((0 : Int32) < (0 : Int32)))).2.1) (by decide) (by decide) ?_
  refine Rt.iconst (pc' := 91) (v := (0 : Int32)) X37 hx (hb hby d3_90) rfl rfl ?_
  refine Rt.putF (pc' := 94) (v := (.int (0 : Int32))) X37 hx hZ hown (host := "") (Or.inl (own_g hw 21 rfl)) F22 F20 (Or.inl (own_g hw 22 rfl)) (own_g hw 10 rfl) (ty := .boolean) (by decide) (by decide) (by decide) g_a1 (hb hby d3_91) rfl ?_
  intro T38 h38 X38 W38 F38
  have F39 := F20.wr W38
  have F40 := F21.other W38 (Or.inr Sl3)
  have F41 := F23.other W38 (Or.inr Sl4)
  have F42 := F24.other W38 (Or.inr Sl5)
  have F43 := F19.other W38 (Ne.symm ne_a1_ar)
  have F44 := F25.wr W38
  have F45 := F26.other W38 (Or.inl (Ne.symm ne_a1_t))
  have F46 := F27.other W38 (Or.inl (Ne.symm ne_a1_t))
  have F47 := F28.other W38 (Ne.symm ne_a1_b)
  have F48 := F29.wr W38
  have F49 := F30.wr W38
  have K50 := K31.wr W38 (Or.inl (List.mem_of_getElem? (i := 0) rfl))
  have Z51 := Nat.le_trans Z32 (Keep.of_wr W38).1
  exact Rt.retV X38 hx hlk hret (hb hby d3_94) (by decide) (by decide) (fun L N => ⟨rfl, N, K50, F39, F40, F38, F41, F42, F43, F48, F49⟩)
def Q3_2 (Z : State) (a1 : Addr) (p2 : Int32) (ar : Addr) (t : Addr) (cs : Int32) (b : Addr) (vf : Value) (t0 : Int32) (t1 : Int32) (h0 : Heap) (n0 : Nat) (v : Option Value) (h : Heap) (L : List Loc) : Prop := v = none ∧ Fr n0 L ∧ Keep h0 h [a1, ar] ∧ Exa Z h a1 nm3 ∧ Fld Z h a1 nm3 "starts" "[I" (.ref ar) ∧ Fld Z h a1 nm3 "ordered" "Z" (.int (0 : Int32)) ∧ Fld Z h a1 nm3 "text" "Ljava/lang/CharSequence;" (.ref t) ∧ Fld Z h a1 nm3 "count" "I" (.int (3 : Int32)) ∧ IA Z h ar .int [(.int t0), (.int t1), (.int p2), (.int (0 : Int32)), (.int (0 : Int32)), (.int (0 : Int32)), (.int (0 : Int32)), (.int (0 : Int32))] ∧ Sta Z h "java/lang/String" "COMPACT_STRINGS" "Z" (.int cs) ∧ Sta Z h nm1 "SIOOBE_FORMATTER" nm2 vf
def rmR3_2 : Room := { frames := 0, cells := 0, slots := 0, locals := 0 }
theorem ef_3_2 (m : MethodId) (a1 : Addr) (p2 : Int32) : entryFrame m #[(.ref a1), (.int p2)] 2 = mkF m 0 #[.val (.ref a1), .val (.int p2)] [] := by first | (simp [entryFrame, mkF, argsToLocals, Value.category]; done) | rfl
set_option maxRecDepth 65536 in
set_option maxHeartbeats 40000000 in
theorem rm3_2 (l : Launch) (Z : State) (a0 : Array Value) (hw : ∀ d ∈ tables_1, d.before a0 Z = true) (ws : List Jvm.Cond) (a1 : Addr) (p2 : Int32) (ar : Addr) (t : Addr) (cs : Int32) (b : Addr) (vf : Value) (t0 : Int32) (t1 : Int32) (h0 : Heap) (n0 : Nat) (Z0 : n0 ≤ h0.size) (F_E_a1 : Exa Z h0 a1 nm3) (F_F_a1_starts : Fld Z h0 a1 nm3 "starts" "[I" (.ref ar)) (F_F_a1_ordered : Fld Z h0 a1 nm3 "ordered" "Z" (.int (0 : Int32))) (F_F_a1_text : Fld Z h0 a1 nm3 "text" "Ljava/lang/CharSequence;" (.ref t)) (F_F_a1_count : Fld Z h0 a1 nm3 "count" "I" (.int (2 : Int32))) (F_A_ar : IA Z h0 ar .int [(.int t0), (.int t1), (.int (0 : Int32)), (.int (0 : Int32)), (.int (0 : Int32)), (.int (0 : Int32)), (.int (0 : Int32)), (.int (0 : Int32))]) (F_E_t : Exa Z h0 t "java/lang/String") (F_F_t_coder : Fld Z h0 t "java/lang/String" "coder" "B" (.int (0 : Int32))) (F_F_t_value : Fld Z h0 t "java/lang/String" "value" "[B" (.ref b)) (F_A_b : IA Z h0 b .byte [(.int (34 : Int32)), (.int (34 : Int32)), (.int (34 : Int32)), (.int (34 : Int32)), (.int (34 : Int32)), (.int (34 : Int32)), (.int (34 : Int32)), (.int (34 : Int32)), (.int (34 : Int32)), (.int (34 : Int32)), (.int (34 : Int32)), (.int (34 : Int32)), (.int (34 : Int32)), (.int (34 : Int32)), (.int (34 : Int32)), (.int (34 : Int32)), (.int (34 : Int32)), (.int (34 : Int32)), (.int (34 : Int32)), (.int (34 : Int32))]) (F_S_java_lang_String_COMPACT_STRINGS : Sta Z h0 "java/lang/String" "COMPACT_STRINGS" "Z" (.int cs)) (F_S_jdk_internal_util_Preconditions_SIOOBE_FORMATTER : Sta Z h0 nm1 "SIOOBE_FORMATTER" nm2 vf) (g_a1 : n0 ≤ a1) (g_ar : n0 ≤ ar) (ne_a1_ar : a1 ≠ ar) (ne_a1_t : a1 ≠ t) (ne_a1_b : a1 ≠ b) (ne_ar_t : ar ≠ t) (ne_ar_b : ar ≠ b) (hx1 : ¬ p2 < (0 : Int32)) (hx2 : ¬ (15 : Int32) < p2) (hvf : vf.isRef = true) (c_s : ¬ cs = (0 : Int32)) :
    Mt l Z mt9 (Jvm.Cond.code mt9 prog_41_method_2_code 2 none :: ws) rmR3_2 #[(.ref a1), (.int p2)] h0 (Q3_2 Z a1 p2 ar t cs b vf t0 t1 h0 n0) := by
  refine Mt.of n0 (plainFor_of_name pn_com_example_teasel_teasel_datatype_Members) ?_
  intro p e s m below meth c T0 X0 hx hZ hby hml hown hret hlk hnm hs0
  have Sl0 := slot_ne (Or.inl (own_g hw 20 rfl)) (Or.inl (own_g hw 31 rfl)) (by decide) (t := (.array .int)) (t' := .int) (by decide) (by decide)
  have Sl1 := slot_ne (Or.inl (own_g hw 22 rfl)) (Or.inl (own_g hw 31 rfl)) (by decide) (t := .boolean) (t' := .int) (by decide) (by decide)
  have Sl2 := slot_ne (Or.inr (own_g hw 24 rfl)) (Or.inl (own_g hw 31 rfl)) (by decide) (t := (.object "java/lang/CharSequence")) (t' := .int) (by decide) (by decide)
  have Sl3 := slot_ne (Or.inl (own_g hw 20 rfl)) (Or.inl (own_g hw 22 rfl)) (by decide) (t := (.array .int)) (t' := .boolean) (by decide) (by decide)
  have Sl4 := slot_ne (Or.inr (own_g hw 24 rfl)) (Or.inl (own_g hw 22 rfl)) (by decide) (t := (.object "java/lang/CharSequence")) (t' := .boolean) (by decide) (by decide)
  have Sl5 := slot_ne (Or.inl (own_g hw 31 rfl)) (Or.inl (own_g hw 22 rfl)) (by decide) (t := .int) (t' := .boolean) (by decide) (by decide)
  have hown : s.vm.findClass "com/example/teasel/teasel/datatype/Members" = some m.cls := hown
  rw [ef_3_2]
  show Rt p e below s rmR3_2.cells rmR3_2.slots (Q3_2 Z a1 p2 ar t cs b vf t0 t1 h0 n0) (T0.setTop (mkF m 0 #[.val (.ref a1), .val (.int p2)] []))
  refine Rt.aloadN (pc' := 1) X0 hx (hb hby d3_0) rfl rfl rfl ?_
  refine Rt.getF (pc' := 4) (v := (.int (2 : Int32))) X0 hx hZ hown (host := "") (Or.inl (own_g hw 30 rfl)) F_F_a1_count (hb hby d3_1) rfl ?_
  intro T1 X1
  refine Rt.aloadN (pc' := 5) X1 hx (hb hby d3_4) rfl rfl rfl ?_
  refine Rt.getF (pc' := 8) (v := (.ref ar)) X1 hx hZ hown (host := "") (Or.inl (own_g hw 19 rfl)) F_F_a1_starts (hb hby d3_5) rfl ?_
  intro T2 X2
  refine Rt.arraylength (pc' := 9) X2 hx hZ F_A_ar (v := (8 : Int32)) rfl (hb hby d3_8) rfl ?_
  refine Rt.icmpY (pc' := 34) X2 hx (hb hby d3_9) (feq (by decide : ¬ ((2 : Int32) = (8 : Int32)))).2 (by decide) (by decide) ?_
  refine Rt.aloadN (pc' := 35) X2 hx (hb hby d3_34) rfl rfl rfl ?_
  refine Rt.getF (pc' := 38) (v := (.ref ar)) X2 hx hZ hown (host := "") (Or.inl (own_g hw 19 rfl)) F_F_a1_starts (hb hby d3_35) rfl ?_
  intro T3 X3
  refine Rt.aloadN (pc' := 39) X3 hx (hb hby d3_38) rfl rfl rfl ?_
  refine Rt.dup (pc' := 40) X3 hx (hb hby d3_39) rfl rfl ?_
  refine Rt.getF (pc' := 43) (v := (.int (2 : Int32))) X3 hx hZ hown (host := "") (Or.inl (own_g hw 30 rfl)) F_F_a1_count (hb hby d3_40) rfl ?_
  intro T4 X4
  refine Rt.dupX1 (pc' := 44) X4 hx (hb hby d3_43) rfl rfl rfl ?_
  refine Rt.iconst (pc' := 45) (v := (1 : Int32)) X4 hx (hb hby d3_44) rfl rfl ?_
  refine Rt.iadd (pc' := 46) (r := (3 : Int32)) X4 hx (hb hby d3_45) (by decide) rfl ?_
  refine Rt.putF (pc' := 49) (v := (.int (3 : Int32))) X4 hx hZ hown (host := "") (Or.inl (own_g hw 30 rfl)) F_F_a1_count F_E_a1 (Or.inl (own_g hw 31 rfl)) (own_g hw 10 rfl) (ty := .int) (by decide) rfl rfl g_a1 (hb hby d3_46) rfl ?_
  intro T5 h5 X5 W5 F5
  have F6 := F_E_a1.wr W5
  have F7 := F_F_a1_starts.other W5 (Or.inr Sl0)
  have F8 := F_F_a1_ordered.other W5 (Or.inr Sl1)
  have F9 := F_F_a1_text.other W5 (Or.inr Sl2)
  have F10 := F_A_ar.other W5 (Ne.symm ne_a1_ar)
  have F11 := F_E_t.wr W5
  have F12 := F_F_t_coder.other W5 (Or.inl (Ne.symm ne_a1_t))
  have F13 := F_F_t_value.other W5 (Or.inl (Ne.symm ne_a1_t))
  have F14 := F_A_b.other W5 (Ne.symm ne_a1_b)
  have F15 := F_S_java_lang_String_COMPACT_STRINGS.wr W5
  have F16 := F_S_jdk_internal_util_Preconditions_SIOOBE_FORMATTER.wr W5
  have K17 := (Keep.refl h0 [a1, ar]).wr W5 (Or.inl (List.mem_of_getElem? (i := 0) rfl))
  have Z18 := Nat.le_trans Z0 (Keep.of_wr W5).1
  refine Rt.iloadN (pc' := 50) X5 hx (hb hby d3_49) rfl rfl ?_
  refine Rt.iastore (pc' := 51) X5 hx hZ F10 (i := 2) (by decide) (by decide) (Nat.le_of_ble_eq_true rfl) (w := (.int p2)) rfl g_ar (hb hby d3_50) rfl ?_
  intro T19 h19 X19 W19 F19
  have F19 : IA Z h19 ar .int [(.int t0), (.int t1), (.int p2), (.int (0 : Int32)), (.int (0 : Int32)), (.int (0 : Int32)), (.int (0 : Int32)), (.int (0 : Int32))] := F19
  have F20 := F6.wr W19
  have F21 := F7.other W19 (Or.inl ne_a1_ar)
  have F22 := F8.other W19 (Or.inl ne_a1_ar)
  have F23 := F9.other W19 (Or.inl ne_a1_ar)
  have F24 := F5.other W19 (Or.inl ne_a1_ar)
  have F25 := F11.wr W19
  have F26 := F12.other W19 (Or.inl (Ne.symm ne_ar_t))
  have F27 := F13.other W19 (Or.inl (Ne.symm ne_ar_t))
  have F28 := F14.other W19 (Ne.symm ne_ar_b)
  have F29 := F15.wr W19
  have F30 := F16.wr W19
  have K31 := K17.wr W19 (Or.inl (List.mem_of_getElem? (i := 1) rfl))
  have Z32 := Nat.le_trans Z18 (Keep.of_wr W19).1
  refine Rt.aloadN (pc' := 52) X19 hx (hb hby d3_51) rfl rfl rfl ?_
  refine Rt.aloadN (pc' := 53) X19 hx (hb hby d3_52) rfl rfl rfl ?_
  refine Rt.getF (pc' := 56) (v := (.int (0 : Int32))) X19 hx hZ hown (host := "") (Or.inl (own_g hw 21 rfl)) F22 (hb hby d3_53) rfl ?_
  intro T33 X33
  refine Rt.ifY (pc' := 90) X33 hx (hb hby d3_56) ((if0 _ _).trans (teq (by decide : (0 : Int32) = (0 : Int32))).1) (by decide) (by decide) ?_
  refine Rt.iconst (pc' := 91) (v := (0 : Int32)) X33 hx (hb hby d3_90) rfl rfl ?_
  refine Rt.putF (pc' := 94) (v := (.int (0 : Int32))) X33 hx hZ hown (host := "") (Or.inl (own_g hw 21 rfl)) F22 F20 (Or.inl (own_g hw 22 rfl)) (own_g hw 10 rfl) (ty := .boolean) (by decide) (by decide) (by decide) g_a1 (hb hby d3_91) rfl ?_
  intro T34 h34 X34 W34 F34
  have F35 := F20.wr W34
  have F36 := F21.other W34 (Or.inr Sl3)
  have F37 := F23.other W34 (Or.inr Sl4)
  have F38 := F24.other W34 (Or.inr Sl5)
  have F39 := F19.other W34 (Ne.symm ne_a1_ar)
  have F40 := F25.wr W34
  have F41 := F26.other W34 (Or.inl (Ne.symm ne_a1_t))
  have F42 := F27.other W34 (Or.inl (Ne.symm ne_a1_t))
  have F43 := F28.other W34 (Ne.symm ne_a1_b)
  have F44 := F29.wr W34
  have F45 := F30.wr W34
  have K46 := K31.wr W34 (Or.inl (List.mem_of_getElem? (i := 0) rfl))
  have Z47 := Nat.le_trans Z32 (Keep.of_wr W34).1
  exact Rt.retV X34 hx hlk hret (hb hby d3_94) (by decide) (by decide) (fun L N => ⟨rfl, N, K46, F35, F36, F34, F37, F38, F39, F44, F45⟩)
theorem d10_0 : decode prog_41_method_6_code 0 = .ok (.iload_n 1, 1) := by decide +kernel
theorem d10_1 : decode prog_41_method_6_code 1 = .ok (.iconst 1, 1) := by decide +kernel
theorem d10_2 : decode prog_41_method_6_code 2 = .ok (.iadd, 1) := by decide +kernel
theorem d10_3 : decode prog_41_method_6_code 3 = .ok (.aload_n 0, 1) := by decide +kernel
theorem d10_4 : decode prog_41_method_6_code 4 = .ok (.getfield 21, 3) := by decide +kernel
theorem d10_7 : decode prog_41_method_6_code 7 = .ok (.if_icmp .ge 16, 3) := by decide +kernel
theorem d10_10 : decode prog_41_method_6_code 10 = .ok (.aload_n 0, 1) := by decide +kernel
theorem d10_11 : decode prog_41_method_6_code 11 = .ok (.getfield 7, 3) := by decide +kernel
theorem d10_14 : decode prog_41_method_6_code 14 = .ok (.iload_n 1, 1) := by decide +kernel
theorem d10_15 : decode prog_41_method_6_code 15 = .ok (.iconst 1, 1) := by decide +kernel
theorem d10_16 : decode prog_41_method_6_code 16 = .ok (.iadd, 1) := by decide +kernel
theorem d10_17 : decode prog_41_method_6_code 17 = .ok (.iaload, 1) := by decide +kernel
theorem d10_18 : decode prog_41_method_6_code 18 = .ok (.iconst 1, 1) := by decide +kernel
theorem d10_19 : decode prog_41_method_6_code 19 = .ok (.isub, 1) := by decide +kernel
theorem d10_20 : decode prog_41_method_6_code 20 = .ok (.goto 4, 3) := by decide +kernel
theorem d10_24 : decode prog_41_method_6_code 24 = .ok (.ireturn, 1) := by decide +kernel
theorem d10_23 : decode prog_41_method_6_code 23 = .ok (.iload_n 2, 1) := by decide +kernel
def f10 (p2 : Int32) (p3 : Int32) (cn : Int32) (t0 : Int32) (t1 : Int32) (t2 : Int32) (t3 : Int32) (t4 : Int32) (t5 : Int32) (t6 : Int32) (t7 : Int32) : Int32 := (if (p2 + (1 : Int32)) < cn then ((own_at [t0, t1, t2, t3, t4, t5, t6, t7] (p2 + (1 : Int32))) - (1 : Int32)) else p3)
def Q10 (a1 : Addr) (p2 : Int32) (p3 : Int32) (ar : Addr) (cn : Int32) (t0 : Int32) (t1 : Int32) (t2 : Int32) (t3 : Int32) (t4 : Int32) (t5 : Int32) (t6 : Int32) (t7 : Int32) (h0 : Heap) (n0 : Nat) (v : Option Value) (h : Heap) (L : List Loc) : Prop := v = some (.int (f10 p2 p3 cn t0 t1 t2 t3 t4 t5 t6 t7)) ∧ Fr n0 L ∧ h = h0
def rmR10 : Room := { frames := 0, cells := 0, slots := 0, locals := 0 }
theorem ef_10 (m : MethodId) (a1 : Addr) (p2 : Int32) (p3 : Int32) : entryFrame m #[(.ref a1), (.int p2), (.int p3)] 3 = mkF m 0 #[.val (.ref a1), .val (.int p2), .val (.int p3)] [] := by first | (simp [entryFrame, mkF, argsToLocals, Value.category]; done) | rfl
set_option maxRecDepth 65536 in
set_option maxHeartbeats 40000000 in
theorem rm10 (l : Launch) (Z : State) (a0 : Array Value) (hw : ∀ d ∈ tables_1, d.before a0 Z = true) (ws : List Jvm.Cond) (a1 : Addr) (p2 : Int32) (p3 : Int32) (ar : Addr) (cn : Int32) (t0 : Int32) (t1 : Int32) (t2 : Int32) (t3 : Int32) (t4 : Int32) (t5 : Int32) (t6 : Int32) (t7 : Int32) (h0 : Heap) (n0 : Nat) (F_F_a1_count : Fld Z h0 a1 nm3 "count" "I" (.int cn)) (F_F_a1_starts : Fld Z h0 a1 nm3 "starts" "[I" (.ref ar)) (F_A_ar : IA Z h0 ar .int [(.int t0), (.int t1), (.int t2), (.int t3), (.int t4), (.int t5), (.int t6), (.int t7)]) (hp1 : ¬ p2 < (0 : Int32)) (hp2 : ¬ (2 : Int32) < p2) :
    Mt l Z mt10 (Jvm.Cond.code mt10 prog_41_method_6_code 3 (some .int) :: ws) rmR10 #[(.ref a1), (.int p2), (.int p3)] h0 (Q10 a1 p2 p3 ar cn t0 t1 t2 t3 t4 t5 t6 t7 h0 n0) := by
  refine Mt.of n0 (plainFor_of_name pn_com_example_teasel_teasel_datatype_Members) ?_
  intro p e s m below meth c T0 X0 hx hZ hby hml hown hret hlk hnm hs0
  have hown : s.vm.findClass "com/example/teasel/teasel/datatype/Members" = some m.cls := hown
  rw [ef_10]
  show Rt p e below s rmR10.cells rmR10.slots (Q10 a1 p2 p3 ar cn t0 t1 t2 t3 t4 t5 t6 t7 h0 n0) (T0.setTop (mkF m 0 #[.val (.ref a1), .val (.int p2), .val (.int p3)] []))
  refine Rt.iloadN (pc' := 1) X0 hx (hb hby d10_0) rfl rfl ?_
  refine Rt.iconst (pc' := 2) (v := (1 : Int32)) X0 hx (hb hby d10_1) rfl rfl ?_
  refine Rt.iadd (pc' := 3) (r := (p2 + (1 : Int32))) X0 hx (hb hby d10_2) rfl rfl ?_
  refine Rt.aloadN (pc' := 4) X0 hx (hb hby d10_3) rfl rfl rfl ?_
  refine Rt.getF (pc' := 7) (v := (.int cn)) X0 hx hZ hown (host := "") (Or.inl (own_g hw 30 rfl)) F_F_a1_count (hb hby d10_4) rfl ?_
  intro T1 X1
  by_cases hc7_2 : (p2 + (1 : Int32)) < cn
  · refine Rt.icmpN (pc' := 10) X1 hx (hb hby d10_7) (tlt hc7_2).2.1 rfl ?_
    refine Rt.aloadN (pc' := 11) X1 hx (hb hby d10_10) rfl rfl rfl ?_
    refine Rt.getF (pc' := 14) (v := (.ref ar)) X1 hx hZ hown (host := "") (Or.inl (own_g hw 19 rfl)) F_F_a1_starts (hb hby d10_11) rfl ?_
    intro T3 X3
    refine Rt.iloadN (pc' := 15) X3 hx (hb hby d10_14) rfl rfl ?_
    refine Rt.iconst (pc' := 16) (v := (1 : Int32)) X3 hx (hb hby d10_15) rfl rfl ?_
    refine Rt.iadd (pc' := 17) (r := (p2 + (1 : Int32))) X3 hx (hb hby d10_16) rfl rfl ?_
    refine Rt.iaload (pc' := 18) X3 hx hZ F_A_ar (i := ((p2 + (1 : Int32))).toNatClampNeg) rfl (own_nx hp1 hp2).1 (v := (.int (own_at [t0, t1, t2, t3, t4, t5, t6, t7] (p2 + (1 : Int32))))) (own_hv [t0, t1, t2, t3, t4, t5, t6, t7] _ (own_nx hp1 hp2).2 (Nat.succ_pos _)) (hb hby d10_17) rfl ?_
    refine Rt.iconst (pc' := 19) (v := (1 : Int32)) X3 hx (hb hby d10_18) rfl rfl ?_
    refine Rt.isub (pc' := 20) (r := ((own_at [t0, t1, t2, t3, t4, t5, t6, t7] (p2 + (1 : Int32))) - (1 : Int32))) X3 hx (hb hby d10_19) rfl rfl ?_
    refine Rt.goto (pc' := 24) X3 hx (hb hby d10_20) (by decide) (by decide) ?_
    exact Rt.retI X3 hx hlk hret (hb hby d10_24) (by decide) (by decide) (fun L N => ⟨congrArg some (congrArg Value.int (by rw [f10, if_pos hc7_2])), N, rfl⟩)
  · refine Rt.icmpY (pc' := 23) X1 hx (hb hby d10_7) (flt hc7_2).2.1 (by decide) (by decide) ?_
    refine Rt.iloadN (pc' := 24) X1 hx (hb hby d10_23) rfl rfl ?_
    exact Rt.retI X1 hx hlk hret (hb hby d10_24) (by decide) (by decide) (fun L N => ⟨congrArg some (congrArg Value.int (by rw [f10, if_neg hc7_2])), N, rfl⟩)
theorem pd_6 : parseMethodDescriptor "(Ljava/lang/CharSequence;)V" = some ⟨[(.object "java/lang/CharSequence")], none⟩ := by decide +kernel
theorem pd_7 : parseMethodDescriptor "(I)V" = some ⟨[.int], none⟩ := by decide +kernel
def f0_v8 (p1 : Int32) : Int32 := (p1 &&& (15 : Int32))
def f0_v14 (p2 : Int32) : Int32 := (p2 &&& (15 : Int32))
def f0_v20 (p3 : Int32) : Int32 := (p3 &&& (15 : Int32))
def f0_v30 (p4 : Int32) : Int32 := ((1 : Int32) + ((p4 &&& (2147483647 : Int32)) % (3 : Int32)))
def f0_v40 (p4 : Int32) (p5 : Int32) : Int32 := ((p5 &&& (2147483647 : Int32)) % (f0_v30 p4))
def f0_v111 (p2 : Int32) : Int32 := ((f0_v14 p2) - (1 : Int32))
def f0_v120 (p3 : Int32) : Int32 := ((f0_v20 p3) - (1 : Int32))
def f0_j122_l13 (p2 : Int32) (p3 : Int32) (p4 : Int32) (p5 : Int32) (p6 : Int32) : Int32 := (if (f0_v40 p4 p5) = ((f0_v30 p4) - (1 : Int32)) then p6 else (if (f0_v40 p4 p5) = (0 : Int32) then (f0_v111 p2) else (f0_v120 p3)))
def f0 (p1 : Int32) (p2 : Int32) (p3 : Int32) (p4 : Int32) (p5 : Int32) (p6 : Int32) : Int32 := (if (f0_v30 p4) < (2 : Int32) then (if (f10 (f0_v40 p4 p5) p6 (1 : Int32) (f0_v8 p1) (0 : Int32) (0 : Int32) (0 : Int32) (0 : Int32) (0 : Int32) (0 : Int32) (0 : Int32)) = (f0_j122_l13 p2 p3 p4 p5 p6) then (1 : Int32) else (0 : Int32)) else (if (f0_v30 p4) < (3 : Int32) then (if (f10 (f0_v40 p4 p5) p6 (2 : Int32) (f0_v8 p1) (f0_v14 p2) (0 : Int32) (0 : Int32) (0 : Int32) (0 : Int32) (0 : Int32) (0 : Int32)) = (f0_j122_l13 p2 p3 p4 p5 p6) then (1 : Int32) else (0 : Int32)) else (if (f10 (f0_v40 p4 p5) p6 (3 : Int32) (f0_v8 p1) (f0_v14 p2) (f0_v20 p3) (0 : Int32) (0 : Int32) (0 : Int32) (0 : Int32) (0 : Int32)) = (f0_j122_l13 p2 p3 p4 p5 p6) then (1 : Int32) else (0 : Int32))))
theorem own_d0 (y : Int32) : ¬ (y &&& 15) < (0 : Int32) := by
  have g := c_mask y 15 4 (by decide) (by decide)
  have l0 : (0 : Int32).toInt = 0 := by decide
  rw [Int32.lt_iff_toInt_lt]
  omega
theorem own_d15 (y : Int32) : ¬ (15 : Int32) < (y &&& 15) := by
  have g := c_mask y 15 4 (by decide) (by decide)
  have l0 : (15 : Int32).toInt = 15 := by decide
  rw [Int32.lt_iff_toInt_lt]
  omega
theorem own_23 {i : Int32} (h : i < (2 : Int32)) : i < (3 : Int32) := by
  have l2 : (2 : Int32).toInt = 2 := by decide
  have l3 : (3 : Int32).toInt = 3 := by decide
  rw [Int32.lt_iff_toInt_lt] at *
  omega
theorem own_n (x : Int32) : 1 ≤ (f0_v30 x).toInt ∧ (f0_v30 x).toInt ≤ 3 := by
  unfold f0_v30
  have g := c_mask x 2147483647 31 (by decide) (by decide)
  have g1 := c_irem (x &&& 2147483647) 3 3 (by decide)
  have g2 := c_iadd 1 ((x &&& 2147483647) % 3)
  have l1 : (1 : Int32).toInt = 1 := by decide
  have b1 := (1 + ((x &&& 2147483647) % 3)).le_toInt
  have b2 := (1 + ((x &&& 2147483647) % 3)).toInt_lt
  omega
theorem own_mr (x y : Int32) : 0 ≤ (f0_v40 x y).toInt ∧ (f0_v40 x y).toInt < (f0_v30 x).toInt := by
  unfold f0_v40
  have h := own_n x
  have g := c_mask y 2147483647 31 (by decide) (by decide)
  have g1 := c_iremV (y &&& 2147483647) (f0_v30 x)
  omega
theorem own_m (x y : Int32) : ¬ (f0_v40 x y) < (0 : Int32) ∧ ¬ (2 : Int32) < (f0_v40 x y) := by
  have h := own_n x
  have h' := own_mr x y
  have l0 : (0 : Int32).toInt = 0 := by decide
  have l2 : (2 : Int32).toInt = 2 := by decide
  simp only [Int32.lt_iff_toInt_lt]
  omega
def Q0 (Z : State) (p1 : Int32) (p2 : Int32) (p3 : Int32) (p4 : Int32) (p5 : Int32) (p6 : Int32) (cs : Int32) (vf : Value) (h0 : Heap) (n0 : Nat) (v : Option Value) (h : Heap) (L : List Loc) : Prop := v = some (.int (f0 p1 p2 p3 p4 p5 p6)) ∧ Fr n0 L ∧ Keep h0 h []
theorem ef_0 (m : MethodId) (p1 : Int32) (p2 : Int32) (p3 : Int32) (p4 : Int32) (p5 : Int32) (p6 : Int32) : entryFrame m #[(.int p1), (.int p2), (.int p3), (.int p4), (.int p5), (.int p6)] maxLocals = mkF m 0 #[.val (.int p1), .val (.int p2), .val (.int p3), .val (.int p4), .val (.int p5), .val (.int p6), .unset, .unset, .unset, .unset, .unset, .unset, .unset, .unset] [] := by first | (simp [entryFrame, mkF, argsToLocals, Value.category, maxLocals]; done) | rfl
theorem pn_com_example_teasel_teasel_datatype_MembersEndPinLaw : plainName "com/example/teasel/teasel/datatype/MembersEndPinLaw" = true := by first | (simp [plainName, overriddenIn]; done) | decide +kernel
set_option maxRecDepth 65536 in
set_option maxHeartbeats 40000000 in
theorem rm0 (l : Launch) (Z : State) (a0 : Array Value) (hw : ∀ d ∈ tables_1, d.before a0 Z = true) (ws : List Jvm.Cond) (p1 : Int32) (p2 : Int32) (p3 : Int32) (p4 : Int32) (p5 : Int32) (p6 : Int32) (cs : Int32) (vf : Value) (h0 : Heap) (n0 : Nat) (Z0 : n0 ≤ h0.size) (F_S_java_lang_String_COMPACT_STRINGS : Sta Z h0 "java/lang/String" "COMPACT_STRINGS" "Z" (.int cs)) (F_S_jdk_internal_util_Preconditions_SIOOBE_FORMATTER : Sta Z h0 nm1 "SIOOBE_FORMATTER" nm2 vf) (c_s : ¬ cs = (0 : Int32)) (hvf : vf.isRef = true) (hh0 : Z.heap = h0) (hn0 : Z.heap.size ≤ n0) (hH7 : Jvm.Lit.constHeld Z "com/example/teasel/teasel/datatype/MembersEndPinLaw" 7) (hcw : Jvm.Lit.compactW.before a0 Z = true) (hnz39 : (f0_v30 p4) ≠ 0) :
    Mw l Z x (Jvm.Cond.code x code maxLocals ret :: ws) room_1 #[(.int p1), (.int p2), (.int p3), (.int p4), (.int p5), (.int p6)] (Q0 Z p1 p2 p3 p4 p5 p6 cs vf h0 n0) := by
  refine Mw.of n0 hh0 (plainFor_of_name pn_com_example_teasel_teasel_datatype_MembersEndPinLaw) ?_
  intro p e m below meth c T0 X0 hx hZ hby hml hown hret hlk hnm
  have hml : c.maxLocals = 14 := hml
  have hret : meth.sig.returnType = some .boolean := hret
  have hown : (Z.setVm Z.vm).vm.findClass "com/example/teasel/teasel/datatype/MembersEndPinLaw" = some m.cls := hown
  rw [ef_0]
  have IBc : IB Z Z.vm [] := IB.start
  show Rw p e below (Z.setVm Z.vm) room_1.cells room_1.slots (Q0 Z p1 p2 p3 p4 p5 p6 cs vf h0 n0) (T0.setTop (mkF m 0 #[.val (.int p1), .val (.int p2), .val (.int p3), .val (.int p4), .val (.int p5), .val (.int p6), .unset, .unset, .unset, .unset, .unset, .unset, .unset, .unset] []))
  refine Rw.ldcS (pc' := 2) (P := (Q0 Z p1 p2 p3 p4 p5 p6 cs vf h0 n0)) X0 hx hn0 hZ hown (own_g hw 0 rfl) (own_wS hw) IBc (by decide) hH7 hcw (vs := [(.int (34 : Int32)), (.int (34 : Int32)), (.int (34 : Int32)), (.int (34 : Int32)), (.int (34 : Int32)), (.int (34 : Int32)), (.int (34 : Int32)), (.int (34 : Int32)), (.int (34 : Int32)), (.int (34 : Int32)), (.int (34 : Int32)), (.int (34 : Int32)), (.int (34 : Int32)), (.int (34 : Int32)), (.int (34 : Int32)), (.int (34 : Int32)), (.int (34 : Int32)), (.int (34 : Int32)), (.int (34 : Int32)), (.int (34 : Int32))]) (by decide +kernel) (z := (20 : Int32)) (by decide) rfl (by decide) (nn := 80) (by decide) (by decide) (by decide) (by decide) (hb hby at_0) rfl ?_
  intro sa0 sb0 Ts0 hs0 vms0 Xs0 Es0 hZ hown As0 Cs0 Vs0 Bs0 IBc Lt7 Lss0
  have F1 := F_S_java_lang_String_COMPACT_STRINGS.ext Es0
  have F2 := F_S_jdk_internal_util_Preconditions_SIOOBE_FORMATTER.ext Es0
  have K3 := (Keep.refl h0 []).ext Es0
  have Z4 := Nat.le_trans Z0 Es0.1
  have Y5 := Nat.le_refl hs0.size
  refine Rw.astore (pc' := 4) (v := (.ref sa0)) (l' := #[.val (.int p1), .val (.int p2), .val (.int p3), .val (.int p4), .val (.int p5), .val (.int p6), .val (.ref sa0), .unset, .unset, .unset, .unset, .unset, .unset, .unset]) Xs0 hx (hb hby at_2) rfl rfl rfl ?_
  refine Rw.iloadN (pc' := 5) Xs0 hx (hb hby at_4) rfl rfl ?_
  refine Rw.bipush (pc' := 7) (v := (15 : Int32)) Xs0 hx (hb hby at_5) rfl rfl ?_
  refine Rw.iand (pc' := 8) (r := (p1 &&& (15 : Int32))) Xs0 hx (hb hby at_7) rfl rfl ?_
  refine Rw.istore (pc' := 10) (v := (f0_v8 p1)) (l' := #[.val (.int p1), .val (.int p2), .val (.int p3), .val (.int p4), .val (.int p5), .val (.int p6), .val (.ref sa0), .val (.int (f0_v8 p1)), .unset, .unset, .unset, .unset, .unset, .unset]) Xs0 hx (hb hby at_8) rfl rfl ?_
  refine Rw.iloadN (pc' := 11) Xs0 hx (hb hby at_10) rfl rfl ?_
  refine Rw.bipush (pc' := 13) (v := (15 : Int32)) Xs0 hx (hb hby at_11) rfl rfl ?_
  refine Rw.iand (pc' := 14) (r := (p2 &&& (15 : Int32))) Xs0 hx (hb hby at_13) rfl rfl ?_
  refine Rw.istore (pc' := 16) (v := (f0_v14 p2)) (l' := #[.val (.int p1), .val (.int p2), .val (.int p3), .val (.int p4), .val (.int p5), .val (.int p6), .val (.ref sa0), .val (.int (f0_v8 p1)), .val (.int (f0_v14 p2)), .unset, .unset, .unset, .unset, .unset]) Xs0 hx (hb hby at_14) rfl rfl ?_
  refine Rw.iloadN (pc' := 17) Xs0 hx (hb hby at_16) rfl rfl ?_
  refine Rw.bipush (pc' := 19) (v := (15 : Int32)) Xs0 hx (hb hby at_17) rfl rfl ?_
  refine Rw.iand (pc' := 20) (r := (p3 &&& (15 : Int32))) Xs0 hx (hb hby at_19) rfl rfl ?_
  refine Rw.istore (pc' := 22) (v := (f0_v20 p3)) (l' := #[.val (.int p1), .val (.int p2), .val (.int p3), .val (.int p4), .val (.int p5), .val (.int p6), .val (.ref sa0), .val (.int (f0_v8 p1)), .val (.int (f0_v14 p2)), .val (.int (f0_v20 p3)), .unset, .unset, .unset, .unset]) Xs0 hx (hb hby at_20) rfl rfl ?_
  refine Rw.iconst (pc' := 23) (v := (1 : Int32)) Xs0 hx (hb hby at_22) rfl rfl ?_
  refine Rw.iloadN (pc' := 24) Xs0 hx (hb hby at_23) rfl rfl ?_
  refine Rw.ldcInt (pc' := 26) Xs0 hx hZ hown (own_g hw 8 rfl) (hb hby at_24) rfl ?_
  refine Rw.iand (pc' := 27) (r := (p4 &&& (2147483647 : Int32))) Xs0 hx (hb hby at_26) rfl rfl ?_
  refine Rw.iconst (pc' := 28) (v := (3 : Int32)) Xs0 hx (hb hby at_27) rfl rfl ?_
  refine Rw.irem (pc' := 29) Xs0 hx (hb hby at_28) (by decide) rfl rfl ?_
  refine Rw.iadd (pc' := 30) (r := ((1 : Int32) + ((p4 &&& (2147483647 : Int32)) % (3 : Int32)))) Xs0 hx (hb hby at_29) rfl rfl ?_
  refine Rw.istore (pc' := 32) (v := (f0_v30 p4)) (l' := #[.val (.int p1), .val (.int p2), .val (.int p3), .val (.int p4), .val (.int p5), .val (.int p6), .val (.ref sa0), .val (.int (f0_v8 p1)), .val (.int (f0_v14 p2)), .val (.int (f0_v20 p3)), .val (.int (f0_v30 p4)), .unset, .unset, .unset]) Xs0 hx (hb hby at_30) rfl rfl ?_
  refine Rw.iload (pc' := 34) Xs0 hx (hb hby at_32) rfl rfl ?_
  refine Rw.ldcInt (pc' := 36) Xs0 hx hZ hown (own_g hw 8 rfl) (hb hby at_34) rfl ?_
  refine Rw.iand (pc' := 37) (r := (p5 &&& (2147483647 : Int32))) Xs0 hx (hb hby at_36) rfl rfl ?_
  refine Rw.iload (pc' := 39) Xs0 hx (hb hby at_37) rfl rfl ?_
  refine Rw.irem (pc' := 40) Xs0 hx (hb hby at_39) hnz39 rfl rfl ?_
  refine Rw.istore (pc' := 42) (v := (f0_v40 p4 p5)) (l' := #[.val (.int p1), .val (.int p2), .val (.int p3), .val (.int p4), .val (.int p5), .val (.int p6), .val (.ref sa0), .val (.int (f0_v8 p1)), .val (.int (f0_v14 p2)), .val (.int (f0_v20 p3)), .val (.int (f0_v30 p4)), .val (.int (f0_v40 p4 p5)), .unset, .unset]) Xs0 hx (hb hby at_40) rfl rfl ?_
  refine Rw.newO (pc' := 45) Xs0 hx hZ hown (own_g hw 9 rfl) (own_g hw 10 rfl) (own_g hw 11 rfl) (hb hby at_42) (by decide) (by decide) rfl ?_
  intro T6 h6 b42 ha6 X6 E6 A6 D6
  have g7 : n0 ≤ b42 := by rw [ha6]; exact Z4
  have s8 : h0.size ≤ b42 := by rw [ha6]; exact K3.1
  have ne9 : sa0 ≠ b42 := by rw [ha6]; exact Nat.ne_of_lt As0.lt
  have ne10 : sb0 ≠ b42 := by rw [ha6]; exact Nat.ne_of_lt Bs0.lt
  have F11 := F1.ext E6
  have F12 := F2.ext E6
  have F13 := As0.ext E6
  have F14 := Cs0.ext E6
  have F15 := Vs0.ext E6
  have F16 := Bs0.ext E6
  have K17 := K3.ext E6
  have Z18 := Nat.le_trans Z4 E6.1
  have Y19 := Nat.le_trans Y5 E6.1
  have F20 : Fld Z h6 b42 nm3 "starts" "[I" .null := D6 (Or.inl (own_g hw 20 rfl)) (ty := (.array .int)) (by decide)
  have F21 : Fld Z h6 b42 nm3 "ordered" "Z" (.int (0 : Int32)) := D6 (Or.inl (own_g hw 22 rfl)) (ty := .boolean) (by decide)
  have F22 : Fld Z h6 b42 nm3 "text" "Ljava/lang/CharSequence;" .null := D6 (Or.inr (own_g hw 24 rfl)) (ty := (.object "java/lang/CharSequence")) (by decide)
  have F23 : Fld Z h6 b42 nm3 "count" "I" (.int (0 : Int32)) := D6 (Or.inl (own_g hw 31 rfl)) (ty := .int) (by decide)
  refine Rw.dup (pc' := 46) X6 hx (hb hby at_45) rfl rfl ?_
  refine Rw.aload (pc' := 48) X6 hx (hb hby at_46) rfl rfl rfl ?_
  refine Rw.callI (pc' := 51) X6 hx hZ (y := mt8) rfl hown (own_g hw 12 rfl) (own_g hw 13 rfl) (own_g hw 11 rfl) (own_g hw 14 rfl) (by decide) (rm1 l Z a0 hw [] b42 sa0 cs vf h6 n0 Z18 A6 F20 F21 F22 F23 F11 F12 g7) (fun _ _ _ q => (by obtain ⟨_, _, _, q, _⟩ := q; exact q)) (W := 1) (by decide) (by decide) (by decide) (by decide) (argsL := [(.ref sa0)]) (rest := [(.ref b42)]) (by rw [hml]; rfl) (lenOf pd_6 rfl) rfl rfl (Nat.le_of_eq rfl) (hb hby at_48) rfl ?_
  rintro _ T24 h24 L24 X24 ⟨b48ns, sb48ns, rfl, N24, K24, F25, F26, F27, F28, F29, F30, F31, F32⟩
  have g33 : n0 ≤ b48ns := Nat.le_trans Z18 sb48ns
  have s34 : h0.size ≤ b48ns := Nat.le_trans K17.1 sb48ns
  have ne35 := Nat.ne_of_lt (Nat.lt_of_lt_of_le F13.lt sb48ns)
  have ne36 := Nat.ne_of_lt (Nat.lt_of_lt_of_le F16.lt sb48ns)
  have ne37 := Nat.ne_of_lt (Nat.lt_of_lt_of_le A6.lt sb48ns)
  have F38 := F13.keep K24
  have F39 := F14.keep K24 (ninS ne9 nin0)
  have F40 := F15.keep K24 (ninS ne9 nin0)
  have F41 := F16.keep K24 (ninS ne10 nin0)
  have F42 := A6.keep K24
  have K43 := K17.trans K24 (allS (Or.inr s8) all0)
  have Z44 := Nat.le_trans Z18 K24.1
  have Y45 := Nat.le_trans Y19 K24.1
  show Rw _ _ _ _ _ _ _ (T24.setTop (mkF m 51 #[.val (.int p1), .val (.int p2), .val (.int p3), .val (.int p4), .val (.int p5), .val (.int p6), .val (.ref sa0), .val (.int (f0_v8 p1)), .val (.int (f0_v14 p2)), .val (.int (f0_v20 p3)), .val (.int (f0_v30 p4)), .val (.int (f0_v40 p4 p5)), .unset, .unset] [(.ref b42)]))
  refine Rw.astore (pc' := 53) (v := (.ref b42)) (l' := #[.val (.int p1), .val (.int p2), .val (.int p3), .val (.int p4), .val (.int p5), .val (.int p6), .val (.ref sa0), .val (.int (f0_v8 p1)), .val (.int (f0_v14 p2)), .val (.int (f0_v20 p3)), .val (.int (f0_v30 p4)), .val (.int (f0_v40 p4 p5)), .val (.ref b42), .unset]) X24 hx (hb hby at_51) rfl rfl rfl ?_
  refine Rw.aload (pc' := 55) X24 hx (hb hby at_53) rfl rfl rfl ?_
  refine Rw.iload (pc' := 57) X24 hx (hb hby at_55) rfl rfl ?_
  refine Rw.callV (pc' := 60) X24 hx hZ (y := mt9) (yz := mt9) hown (own_g hw 25 rfl) (own_g hw 26 rfl) (notFace_of_selects (args := #[]) (mvT hZ (own_g hw 28 rfl))) (own_g hw 28 rfl) (own_g hw 27 rfl) (own_g hw 11 rfl) (own_g hw 29 rfl) (by decide) F25 (rm3_0 l Z a0 hw [] b42 (f0_v8 p1) b48ns sa0 cs sb0 vf h24 n0 Z44 F25 F26 F27 F28 F29 F32 F38 F39 F40 F41 F30 F31 g7 g33 ne37 (Ne.symm ne9) (Ne.symm ne10) (Ne.symm ne35) (Ne.symm ne36) (own_d0 p1) (own_d15 p1) hvf c_s) (fun _ _ _ q => q.2.1) (W := 0) (by decide) (by decide) (by decide) (by decide) (argsL := [(.int (f0_v8 p1))]) (rest := []) (by rw [hml]; rfl) (lenOf pd_7 rfl) rfl rfl (Nat.le_of_eq rfl) (hb hby at_57) rfl ?_
  rintro _ T46 h46 L46 X46 ⟨rfl, N46, K46, F47, F48, F49, F50, F51, F52, F53, F54⟩
  have F55 := F38.keep K46
  have F56 := F39.keep K46 (ninS ne9 (ninS ne35 nin0))
  have F57 := F40.keep K46 (ninS ne9 (ninS ne35 nin0))
  have F58 := F41.keep K46 (ninS ne10 (ninS ne36 nin0))
  have F59 := F25.keep K46
  have K60 := K43.trans K46 (allS (Or.inr s8) (allS (Or.inr s34) all0))
  have Z61 := Nat.le_trans Z44 K46.1
  have Y62 := Nat.le_trans Y45 K46.1
  show Rw _ _ _ _ _ _ _ (T46.setTop (mkF m 60 #[.val (.int p1), .val (.int p2), .val (.int p3), .val (.int p4), .val (.int p5), .val (.int p6), .val (.ref sa0), .val (.int (f0_v8 p1)), .val (.int (f0_v14 p2)), .val (.int (f0_v20 p3)), .val (.int (f0_v30 p4)), .val (.int (f0_v40 p4 p5)), .val (.ref b42), .unset] []))
  refine Rw.iload (pc' := 62) X46 hx (hb hby at_60) rfl rfl ?_
  refine Rw.iconst (pc' := 63) (v := (2 : Int32)) X46 hx (hb hby at_62) rfl rfl ?_
  by_cases hc63_63 : (f0_v30 p4) < (2 : Int32)
  · refine Rw.icmpY (pc' := 73) X46 hx (hb hby at_63) (tlt hc63_63).1 (by decide) (by decide) ?_
    refine Rw.iload (pc' := 75) X46 hx (hb hby at_73) rfl rfl ?_
    refine Rw.iconst (pc' := 76) (v := (3 : Int32)) X46 hx (hb hby at_75) rfl rfl ?_
    refine Rw.icmpY (pc' := 86) X46 hx (hb hby at_76) (tlt (own_23 hc63_63)).1 (by decide) (by decide) ?_
    refine Rw.iload (pc' := 88) X46 hx (hb hby at_86) rfl rfl ?_
    refine Rw.iload (pc' := 90) X46 hx (hb hby at_88) rfl rfl ?_
    refine Rw.iconst (pc' := 91) (v := (1 : Int32)) X46 hx (hb hby at_90) rfl rfl ?_
    refine Rw.isub (pc' := 92) (r := ((f0_v30 p4) - (1 : Int32))) X46 hx (hb hby at_91) rfl rfl ?_
    have J92_64 : ∀ T64  , Sd p l e room_1 (Z.setVm vms0) m #[(.int p1), (.int p2), (.int p3), (.int p4), (.int p5), (.int p6)] below meth c T64 n0 4 96 h46 → Rw p e below (Z.setVm vms0) room_1.cells room_1.slots (fun v hf L => (Q0 Z p1 p2 p3 p4 p5 p6 cs vf h0 n0) v hf L ∧ hs0.size ≤ hf.size) (T64.setTop (mkF m 122 #[.val (.int p1), .val (.int p2), .val (.int p3), .val (.int p4), .val (.int p5), .val (.int p6), .val (.ref sa0), .val (.int (f0_v8 p1)), .val (.int (f0_v14 p2)), .val (.int (f0_v20 p3)), .val (.int (f0_v30 p4)), .val (.int (f0_v40 p4 p5)), .val (.ref b42), .val (.int (f0_j122_l13 p2 p3 p4 p5 p6))] [])) := by
      intro T64   X64 
      refine Rw.aload (pc' := 124) X64 hx (hb hby at_122) rfl rfl rfl ?_
      refine Rw.iload (pc' := 126) X64 hx (hb hby at_124) rfl rfl ?_
      refine Rw.iload (pc' := 128) X64 hx (hb hby at_126) rfl rfl ?_
      refine Rw.callV (pc' := 131) X64 hx hZ (y := mt10) (yz := mt10) hown (own_g hw 65 rfl) (own_g hw 66 rfl) (notFace_of_selects (args := #[]) (mvT hZ (own_g hw 68 rfl))) (own_g hw 68 rfl) (own_g hw 67 rfl) (own_g hw 11 rfl) (own_g hw 69 rfl) (by decide) F47 (rm10 l Z a0 hw [] b42 (f0_v40 p4 p5) p6 b48ns (1 : Int32) (f0_v8 p1) (0 : Int32) (0 : Int32) (0 : Int32) (0 : Int32) (0 : Int32) (0 : Int32) (0 : Int32) h46 n0 F51 F48 F52 (own_m p4 p5).1 (own_m p4 p5).2) (fun _ _ _ q => q.2.1) (W := 0) (by decide) (by decide) (by decide) (by decide) (argsL := [(.int (f0_v40 p4 p5)), (.int p6)]) (rest := []) (by rw [hml]; rfl) (lenOf pd_5 rfl) rfl rfl (Nat.le_of_eq rfl) (hb hby at_128) rfl ?_
      rintro _ T65 h65 L65 X65 ⟨rfl, N65, e65⟩
      rw [e65] at X65
      show Rw _ _ _ _ _ _ _ (T65.setTop (mkF m 131 #[.val (.int p1), .val (.int p2), .val (.int p3), .val (.int p4), .val (.int p5), .val (.int p6), .val (.ref sa0), .val (.int (f0_v8 p1)), .val (.int (f0_v14 p2)), .val (.int (f0_v20 p3)), .val (.int (f0_v30 p4)), .val (.int (f0_v40 p4 p5)), .val (.ref b42), .val (.int (f0_j122_l13 p2 p3 p4 p5 p6))] [(.int (f10 (f0_v40 p4 p5) p6 (1 : Int32) (f0_v8 p1) (0 : Int32) (0 : Int32) (0 : Int32) (0 : Int32) (0 : Int32) (0 : Int32) (0 : Int32)))]))
      refine Rw.iload (pc' := 133) X65 hx (hb hby at_131) rfl rfl ?_
      by_cases hc133_66 : (f10 (f0_v40 p4 p5) p6 (1 : Int32) (f0_v8 p1) (0 : Int32) (0 : Int32) (0 : Int32) (0 : Int32) (0 : Int32) (0 : Int32) (0 : Int32)) = (f0_j122_l13 p2 p3 p4 p5 p6)
      · refine Rw.icmpN (pc' := 136) X65 hx (hb hby at_133) (teq hc133_66).2 rfl ?_
        refine Rw.iconst (pc' := 137) (v := (1 : Int32)) X65 hx (hb hby at_136) rfl rfl ?_
        refine Rw.goto (pc' := 141) X65 hx (hb hby at_137) (by decide) (by decide) ?_
        exact Rw.retZ (w := (1 : Int32)) X65 hx hlk hret (by simp) (hb hby at_141) (by decide) (by decide) (by decide) (fun L N => ⟨⟨congrArg some (congrArg Value.int (by rw [f0, if_pos hc63_63, if_pos hc133_66])), N, K60⟩, Y62⟩)
      · refine Rw.icmpY (pc' := 140) X65 hx (hb hby at_133) (feq hc133_66).2 (by decide) (by decide) ?_
        refine Rw.iconst (pc' := 141) (v := (0 : Int32)) X65 hx (hb hby at_140) rfl rfl ?_
        exact Rw.retZ (w := (0 : Int32)) X65 hx hlk hret (by simp) (hb hby at_141) (by decide) (by decide) (by decide) (fun L N => ⟨⟨congrArg some (congrArg Value.int (by rw [f0, if_pos hc63_63, if_neg hc133_66])), N, K60⟩, Y62⟩)
    by_cases hc92_67 : (f0_v40 p4 p5) = ((f0_v30 p4) - (1 : Int32))
    · refine Rw.icmpN (pc' := 95) X46 hx (hb hby at_92) (teq hc92_67).2 rfl ?_
      refine Rw.iload (pc' := 97) X46 hx (hb hby at_95) rfl rfl ?_
      refine Rw.istore (pc' := 99) (v := p6) (l' := #[.val (.int p1), .val (.int p2), .val (.int p3), .val (.int p4), .val (.int p5), .val (.int p6), .val (.ref sa0), .val (.int (f0_v8 p1)), .val (.int (f0_v14 p2)), .val (.int (f0_v20 p3)), .val (.int (f0_v30 p4)), .val (.int (f0_v40 p4 p5)), .val (.ref b42), .val (.int p6)]) X46 hx (hb hby at_97) rfl rfl ?_
      refine Rw.goto (pc' := 122) X46 hx (hb hby at_99) (by decide) (by decide) ?_
      have q := J92_64 T46   X46
      rw [show (f0_j122_l13 p2 p3 p4 p5 p6) = p6 from by rw [f0_j122_l13, if_pos hc92_67]] at q
      exact q
    · refine Rw.icmpY (pc' := 102) X46 hx (hb hby at_92) (feq hc92_67).2 (by decide) (by decide) ?_
      refine Rw.iload (pc' := 104) X46 hx (hb hby at_102) rfl rfl ?_
      by_cases hc104_68 : (f0_v40 p4 p5) = (0 : Int32)
      · refine Rw.ifN (pc' := 107) X46 hx (hb hby at_104) ((if0 _ _).trans (teq hc104_68).2) rfl ?_
        refine Rw.iload (pc' := 109) X46 hx (hb hby at_107) rfl rfl ?_
        refine Rw.iconst (pc' := 110) (v := (1 : Int32)) X46 hx (hb hby at_109) rfl rfl ?_
        refine Rw.isub (pc' := 111) (r := ((f0_v14 p2) - (1 : Int32))) X46 hx (hb hby at_110) rfl rfl ?_
        refine Rw.istore (pc' := 113) (v := (f0_v111 p2)) (l' := #[.val (.int p1), .val (.int p2), .val (.int p3), .val (.int p4), .val (.int p5), .val (.int p6), .val (.ref sa0), .val (.int (f0_v8 p1)), .val (.int (f0_v14 p2)), .val (.int (f0_v20 p3)), .val (.int (f0_v30 p4)), .val (.int (f0_v40 p4 p5)), .val (.ref b42), .val (.int (f0_v111 p2))]) X46 hx (hb hby at_111) rfl rfl ?_
        refine Rw.goto (pc' := 122) X46 hx (hb hby at_113) (by decide) (by decide) ?_
        have q := J92_64 T46   X46
        rw [show (f0_j122_l13 p2 p3 p4 p5 p6) = (f0_v111 p2) from by rw [f0_j122_l13, if_neg hc92_67, if_pos hc104_68]] at q
        exact q
      · refine Rw.ifY (pc' := 116) X46 hx (hb hby at_104) ((if0 _ _).trans (feq hc104_68).2) (by decide) (by decide) ?_
        refine Rw.iload (pc' := 118) X46 hx (hb hby at_116) rfl rfl ?_
        refine Rw.iconst (pc' := 119) (v := (1 : Int32)) X46 hx (hb hby at_118) rfl rfl ?_
        refine Rw.isub (pc' := 120) (r := ((f0_v20 p3) - (1 : Int32))) X46 hx (hb hby at_119) rfl rfl ?_
        refine Rw.istore (pc' := 122) (v := (f0_v120 p3)) (l' := #[.val (.int p1), .val (.int p2), .val (.int p3), .val (.int p4), .val (.int p5), .val (.int p6), .val (.ref sa0), .val (.int (f0_v8 p1)), .val (.int (f0_v14 p2)), .val (.int (f0_v20 p3)), .val (.int (f0_v30 p4)), .val (.int (f0_v40 p4 p5)), .val (.ref b42), .val (.int (f0_v120 p3))]) X46 hx (hb hby at_120) rfl rfl ?_
        have q := J92_64 T46   X46
        rw [show (f0_j122_l13 p2 p3 p4 p5 p6) = (f0_v120 p3) from by rw [f0_j122_l13, if_neg hc92_67, if_neg hc104_68]] at q
        exact q
  · refine Rw.icmpN (pc' := 66) X46 hx (hb hby at_63) (flt hc63_63).1 rfl ?_
    refine Rw.aload (pc' := 68) X46 hx (hb hby at_66) rfl rfl rfl ?_
    refine Rw.iload (pc' := 70) X46 hx (hb hby at_68) rfl rfl ?_
    refine Rw.callV (pc' := 73) X46 hx hZ (y := mt9) (yz := mt9) hown (own_g hw 25 rfl) (own_g hw 26 rfl) (notFace_of_selects (args := #[]) (mvT hZ (own_g hw 28 rfl))) (own_g hw 28 rfl) (own_g hw 27 rfl) (own_g hw 11 rfl) (own_g hw 29 rfl) (by decide) F47 (rm3_1 l Z a0 hw [] b42 (f0_v14 p2) b48ns sa0 cs sb0 vf (f0_v8 p1) h46 n0 Z61 F47 F48 F49 F50 F51 F52 F55 F56 F57 F58 F53 F54 g7 g33 ne37 (Ne.symm ne9) (Ne.symm ne10) (Ne.symm ne35) (Ne.symm ne36) (own_d0 p2) (own_d15 p2) (own_d0 p1) (own_d15 p1) hvf c_s) (fun _ _ _ q => q.2.1) (W := 0) (by decide) (by decide) (by decide) (by decide) (argsL := [(.int (f0_v14 p2))]) (rest := []) (by rw [hml]; rfl) (lenOf pd_7 rfl) rfl rfl (Nat.le_of_eq rfl) (hb hby at_70) rfl ?_
    rintro _ T69 h69 L69 X69 ⟨rfl, N69, K69, F70, F71, F72, F73, F74, F75, F76, F77⟩
    have F78 := F55.keep K69
    have F79 := F56.keep K69 (ninS ne9 (ninS ne35 nin0))
    have F80 := F57.keep K69 (ninS ne9 (ninS ne35 nin0))
    have F81 := F58.keep K69 (ninS ne10 (ninS ne36 nin0))
    have F82 := F47.keep K69
    have K83 := K60.trans K69 (allS (Or.inr s8) (allS (Or.inr s34) all0))
    have Z84 := Nat.le_trans Z61 K69.1
    have Y85 := Nat.le_trans Y62 K69.1
    show Rw _ _ _ _ _ _ _ (T69.setTop (mkF m 73 #[.val (.int p1), .val (.int p2), .val (.int p3), .val (.int p4), .val (.int p5), .val (.int p6), .val (.ref sa0), .val (.int (f0_v8 p1)), .val (.int (f0_v14 p2)), .val (.int (f0_v20 p3)), .val (.int (f0_v30 p4)), .val (.int (f0_v40 p4 p5)), .val (.ref b42), .unset] []))
    refine Rw.iload (pc' := 75) X69 hx (hb hby at_73) rfl rfl ?_
    refine Rw.iconst (pc' := 76) (v := (3 : Int32)) X69 hx (hb hby at_75) rfl rfl ?_
    by_cases hc76_86 : (f0_v30 p4) < (3 : Int32)
    · refine Rw.icmpY (pc' := 86) X69 hx (hb hby at_76) (tlt hc76_86).1 (by decide) (by decide) ?_
      refine Rw.iload (pc' := 88) X69 hx (hb hby at_86) rfl rfl ?_
      refine Rw.iload (pc' := 90) X69 hx (hb hby at_88) rfl rfl ?_
      refine Rw.iconst (pc' := 91) (v := (1 : Int32)) X69 hx (hb hby at_90) rfl rfl ?_
      refine Rw.isub (pc' := 92) (r := ((f0_v30 p4) - (1 : Int32))) X69 hx (hb hby at_91) rfl rfl ?_
      have J92_87 : ∀ T87  , Sd p l e room_1 (Z.setVm vms0) m #[(.int p1), (.int p2), (.int p3), (.int p4), (.int p5), (.int p6)] below meth c T87 n0 4 96 h69 → Rw p e below (Z.setVm vms0) room_1.cells room_1.slots (fun v hf L => (Q0 Z p1 p2 p3 p4 p5 p6 cs vf h0 n0) v hf L ∧ hs0.size ≤ hf.size) (T87.setTop (mkF m 122 #[.val (.int p1), .val (.int p2), .val (.int p3), .val (.int p4), .val (.int p5), .val (.int p6), .val (.ref sa0), .val (.int (f0_v8 p1)), .val (.int (f0_v14 p2)), .val (.int (f0_v20 p3)), .val (.int (f0_v30 p4)), .val (.int (f0_v40 p4 p5)), .val (.ref b42), .val (.int (f0_j122_l13 p2 p3 p4 p5 p6))] [])) := by
        intro T87   X87 
        refine Rw.aload (pc' := 124) X87 hx (hb hby at_122) rfl rfl rfl ?_
        refine Rw.iload (pc' := 126) X87 hx (hb hby at_124) rfl rfl ?_
        refine Rw.iload (pc' := 128) X87 hx (hb hby at_126) rfl rfl ?_
        refine Rw.callV (pc' := 131) X87 hx hZ (y := mt10) (yz := mt10) hown (own_g hw 65 rfl) (own_g hw 66 rfl) (notFace_of_selects (args := #[]) (mvT hZ (own_g hw 68 rfl))) (own_g hw 68 rfl) (own_g hw 67 rfl) (own_g hw 11 rfl) (own_g hw 69 rfl) (by decide) F70 (rm10 l Z a0 hw [] b42 (f0_v40 p4 p5) p6 b48ns (2 : Int32) (f0_v8 p1) (f0_v14 p2) (0 : Int32) (0 : Int32) (0 : Int32) (0 : Int32) (0 : Int32) (0 : Int32) h69 n0 F74 F71 F75 (own_m p4 p5).1 (own_m p4 p5).2) (fun _ _ _ q => q.2.1) (W := 0) (by decide) (by decide) (by decide) (by decide) (argsL := [(.int (f0_v40 p4 p5)), (.int p6)]) (rest := []) (by rw [hml]; rfl) (lenOf pd_5 rfl) rfl rfl (Nat.le_of_eq rfl) (hb hby at_128) rfl ?_
        rintro _ T88 h88 L88 X88 ⟨rfl, N88, e88⟩
        rw [e88] at X88
        show Rw _ _ _ _ _ _ _ (T88.setTop (mkF m 131 #[.val (.int p1), .val (.int p2), .val (.int p3), .val (.int p4), .val (.int p5), .val (.int p6), .val (.ref sa0), .val (.int (f0_v8 p1)), .val (.int (f0_v14 p2)), .val (.int (f0_v20 p3)), .val (.int (f0_v30 p4)), .val (.int (f0_v40 p4 p5)), .val (.ref b42), .val (.int (f0_j122_l13 p2 p3 p4 p5 p6))] [(.int (f10 (f0_v40 p4 p5) p6 (2 : Int32) (f0_v8 p1) (f0_v14 p2) (0 : Int32) (0 : Int32) (0 : Int32) (0 : Int32) (0 : Int32) (0 : Int32)))]))
        refine Rw.iload (pc' := 133) X88 hx (hb hby at_131) rfl rfl ?_
        by_cases hc133_89 : (f10 (f0_v40 p4 p5) p6 (2 : Int32) (f0_v8 p1) (f0_v14 p2) (0 : Int32) (0 : Int32) (0 : Int32) (0 : Int32) (0 : Int32) (0 : Int32)) = (f0_j122_l13 p2 p3 p4 p5 p6)
        · refine Rw.icmpN (pc' := 136) X88 hx (hb hby at_133) (teq hc133_89).2 rfl ?_
          refine Rw.iconst (pc' := 137) (v := (1 : Int32)) X88 hx (hb hby at_136) rfl rfl ?_
          refine Rw.goto (pc' := 141) X88 hx (hb hby at_137) (by decide) (by decide) ?_
          exact Rw.retZ (w := (1 : Int32)) X88 hx hlk hret (by simp) (hb hby at_141) (by decide) (by decide) (by decide) (fun L N => ⟨⟨congrArg some (congrArg Value.int (by rw [f0, if_neg hc63_63, if_pos hc76_86, if_pos hc133_89])), N, K83⟩, Y85⟩)
        · refine Rw.icmpY (pc' := 140) X88 hx (hb hby at_133) (feq hc133_89).2 (by decide) (by decide) ?_
          refine Rw.iconst (pc' := 141) (v := (0 : Int32)) X88 hx (hb hby at_140) rfl rfl ?_
          exact Rw.retZ (w := (0 : Int32)) X88 hx hlk hret (by simp) (hb hby at_141) (by decide) (by decide) (by decide) (fun L N => ⟨⟨congrArg some (congrArg Value.int (by rw [f0, if_neg hc63_63, if_pos hc76_86, if_neg hc133_89])), N, K83⟩, Y85⟩)
      by_cases hc92_90 : (f0_v40 p4 p5) = ((f0_v30 p4) - (1 : Int32))
      · refine Rw.icmpN (pc' := 95) X69 hx (hb hby at_92) (teq hc92_90).2 rfl ?_
        refine Rw.iload (pc' := 97) X69 hx (hb hby at_95) rfl rfl ?_
        refine Rw.istore (pc' := 99) (v := p6) (l' := #[.val (.int p1), .val (.int p2), .val (.int p3), .val (.int p4), .val (.int p5), .val (.int p6), .val (.ref sa0), .val (.int (f0_v8 p1)), .val (.int (f0_v14 p2)), .val (.int (f0_v20 p3)), .val (.int (f0_v30 p4)), .val (.int (f0_v40 p4 p5)), .val (.ref b42), .val (.int p6)]) X69 hx (hb hby at_97) rfl rfl ?_
        refine Rw.goto (pc' := 122) X69 hx (hb hby at_99) (by decide) (by decide) ?_
        have q := J92_87 T69   X69
        rw [show (f0_j122_l13 p2 p3 p4 p5 p6) = p6 from by rw [f0_j122_l13, if_pos hc92_90]] at q
        exact q
      · refine Rw.icmpY (pc' := 102) X69 hx (hb hby at_92) (feq hc92_90).2 (by decide) (by decide) ?_
        refine Rw.iload (pc' := 104) X69 hx (hb hby at_102) rfl rfl ?_
        by_cases hc104_91 : (f0_v40 p4 p5) = (0 : Int32)
        · refine Rw.ifN (pc' := 107) X69 hx (hb hby at_104) ((if0 _ _).trans (teq hc104_91).2) rfl ?_
          refine Rw.iload (pc' := 109) X69 hx (hb hby at_107) rfl rfl ?_
          refine Rw.iconst (pc' := 110) (v := (1 : Int32)) X69 hx (hb hby at_109) rfl rfl ?_
          refine Rw.isub (pc' := 111) (r := ((f0_v14 p2) - (1 : Int32))) X69 hx (hb hby at_110) rfl rfl ?_
          refine Rw.istore (pc' := 113) (v := (f0_v111 p2)) (l' := #[.val (.int p1), .val (.int p2), .val (.int p3), .val (.int p4), .val (.int p5), .val (.int p6), .val (.ref sa0), .val (.int (f0_v8 p1)), .val (.int (f0_v14 p2)), .val (.int (f0_v20 p3)), .val (.int (f0_v30 p4)), .val (.int (f0_v40 p4 p5)), .val (.ref b42), .val (.int (f0_v111 p2))]) X69 hx (hb hby at_111) rfl rfl ?_
          refine Rw.goto (pc' := 122) X69 hx (hb hby at_113) (by decide) (by decide) ?_
          have q := J92_87 T69   X69
          rw [show (f0_j122_l13 p2 p3 p4 p5 p6) = (f0_v111 p2) from by rw [f0_j122_l13, if_neg hc92_90, if_pos hc104_91]] at q
          exact q
        · refine Rw.ifY (pc' := 116) X69 hx (hb hby at_104) ((if0 _ _).trans (feq hc104_91).2) (by decide) (by decide) ?_
          refine Rw.iload (pc' := 118) X69 hx (hb hby at_116) rfl rfl ?_
          refine Rw.iconst (pc' := 119) (v := (1 : Int32)) X69 hx (hb hby at_118) rfl rfl ?_
          refine Rw.isub (pc' := 120) (r := ((f0_v20 p3) - (1 : Int32))) X69 hx (hb hby at_119) rfl rfl ?_
          refine Rw.istore (pc' := 122) (v := (f0_v120 p3)) (l' := #[.val (.int p1), .val (.int p2), .val (.int p3), .val (.int p4), .val (.int p5), .val (.int p6), .val (.ref sa0), .val (.int (f0_v8 p1)), .val (.int (f0_v14 p2)), .val (.int (f0_v20 p3)), .val (.int (f0_v30 p4)), .val (.int (f0_v40 p4 p5)), .val (.ref b42), .val (.int (f0_v120 p3))]) X69 hx (hb hby at_120) rfl rfl ?_
          have q := J92_87 T69   X69
          rw [show (f0_j122_l13 p2 p3 p4 p5 p6) = (f0_v120 p3) from by rw [f0_j122_l13, if_neg hc92_90, if_neg hc104_91]] at q
          exact q
    · refine Rw.icmpN (pc' := 79) X69 hx (hb hby at_76) (flt hc76_86).1 rfl ?_
      refine Rw.aload (pc' := 81) X69 hx (hb hby at_79) rfl rfl rfl ?_
      refine Rw.iload (pc' := 83) X69 hx (hb hby at_81) rfl rfl ?_
      refine Rw.callV (pc' := 86) X69 hx hZ (y := mt9) (yz := mt9) hown (own_g hw 25 rfl) (own_g hw 26 rfl) (notFace_of_selects (args := #[]) (mvT hZ (own_g hw 28 rfl))) (own_g hw 28 rfl) (own_g hw 27 rfl) (own_g hw 11 rfl) (own_g hw 29 rfl) (by decide) F70 (rm3_2 l Z a0 hw [] b42 (f0_v20 p3) b48ns sa0 cs sb0 vf (f0_v8 p1) (f0_v14 p2) h69 n0 Z84 F70 F71 F72 F73 F74 F75 F78 F79 F80 F81 F76 F77 g7 g33 ne37 (Ne.symm ne9) (Ne.symm ne10) (Ne.symm ne35) (Ne.symm ne36) (own_d0 p3) (own_d15 p3) hvf c_s) (fun _ _ _ q => q.2.1) (W := 0) (by decide) (by decide) (by decide) (by decide) (argsL := [(.int (f0_v20 p3))]) (rest := []) (by rw [hml]; rfl) (lenOf pd_7 rfl) rfl rfl (Nat.le_of_eq rfl) (hb hby at_83) rfl ?_
      rintro _ T92 h92 L92 X92 ⟨rfl, N92, K92, F93, F94, F95, F96, F97, F98, F99, F100⟩
      have F101 := F78.keep K92
      have F102 := F79.keep K92 (ninS ne9 (ninS ne35 nin0))
      have F103 := F80.keep K92 (ninS ne9 (ninS ne35 nin0))
      have F104 := F81.keep K92 (ninS ne10 (ninS ne36 nin0))
      have F105 := F70.keep K92
      have K106 := K83.trans K92 (allS (Or.inr s8) (allS (Or.inr s34) all0))
      have Z107 := Nat.le_trans Z84 K92.1
      have Y108 := Nat.le_trans Y85 K92.1
      show Rw _ _ _ _ _ _ _ (T92.setTop (mkF m 86 #[.val (.int p1), .val (.int p2), .val (.int p3), .val (.int p4), .val (.int p5), .val (.int p6), .val (.ref sa0), .val (.int (f0_v8 p1)), .val (.int (f0_v14 p2)), .val (.int (f0_v20 p3)), .val (.int (f0_v30 p4)), .val (.int (f0_v40 p4 p5)), .val (.ref b42), .unset] []))
      refine Rw.iload (pc' := 88) X92 hx (hb hby at_86) rfl rfl ?_
      refine Rw.iload (pc' := 90) X92 hx (hb hby at_88) rfl rfl ?_
      refine Rw.iconst (pc' := 91) (v := (1 : Int32)) X92 hx (hb hby at_90) rfl rfl ?_
      refine Rw.isub (pc' := 92) (r := ((f0_v30 p4) - (1 : Int32))) X92 hx (hb hby at_91) rfl rfl ?_
      have J92_109 : ∀ T109  , Sd p l e room_1 (Z.setVm vms0) m #[(.int p1), (.int p2), (.int p3), (.int p4), (.int p5), (.int p6)] below meth c T109 n0 4 96 h92 → Rw p e below (Z.setVm vms0) room_1.cells room_1.slots (fun v hf L => (Q0 Z p1 p2 p3 p4 p5 p6 cs vf h0 n0) v hf L ∧ hs0.size ≤ hf.size) (T109.setTop (mkF m 122 #[.val (.int p1), .val (.int p2), .val (.int p3), .val (.int p4), .val (.int p5), .val (.int p6), .val (.ref sa0), .val (.int (f0_v8 p1)), .val (.int (f0_v14 p2)), .val (.int (f0_v20 p3)), .val (.int (f0_v30 p4)), .val (.int (f0_v40 p4 p5)), .val (.ref b42), .val (.int (f0_j122_l13 p2 p3 p4 p5 p6))] [])) := by
        intro T109   X109 
        refine Rw.aload (pc' := 124) X109 hx (hb hby at_122) rfl rfl rfl ?_
        refine Rw.iload (pc' := 126) X109 hx (hb hby at_124) rfl rfl ?_
        refine Rw.iload (pc' := 128) X109 hx (hb hby at_126) rfl rfl ?_
        refine Rw.callV (pc' := 131) X109 hx hZ (y := mt10) (yz := mt10) hown (own_g hw 65 rfl) (own_g hw 66 rfl) (notFace_of_selects (args := #[]) (mvT hZ (own_g hw 68 rfl))) (own_g hw 68 rfl) (own_g hw 67 rfl) (own_g hw 11 rfl) (own_g hw 69 rfl) (by decide) F93 (rm10 l Z a0 hw [] b42 (f0_v40 p4 p5) p6 b48ns (3 : Int32) (f0_v8 p1) (f0_v14 p2) (f0_v20 p3) (0 : Int32) (0 : Int32) (0 : Int32) (0 : Int32) (0 : Int32) h92 n0 F97 F94 F98 (own_m p4 p5).1 (own_m p4 p5).2) (fun _ _ _ q => q.2.1) (W := 0) (by decide) (by decide) (by decide) (by decide) (argsL := [(.int (f0_v40 p4 p5)), (.int p6)]) (rest := []) (by rw [hml]; rfl) (lenOf pd_5 rfl) rfl rfl (Nat.le_of_eq rfl) (hb hby at_128) rfl ?_
        rintro _ T110 h110 L110 X110 ⟨rfl, N110, e110⟩
        rw [e110] at X110
        show Rw _ _ _ _ _ _ _ (T110.setTop (mkF m 131 #[.val (.int p1), .val (.int p2), .val (.int p3), .val (.int p4), .val (.int p5), .val (.int p6), .val (.ref sa0), .val (.int (f0_v8 p1)), .val (.int (f0_v14 p2)), .val (.int (f0_v20 p3)), .val (.int (f0_v30 p4)), .val (.int (f0_v40 p4 p5)), .val (.ref b42), .val (.int (f0_j122_l13 p2 p3 p4 p5 p6))] [(.int (f10 (f0_v40 p4 p5) p6 (3 : Int32) (f0_v8 p1) (f0_v14 p2) (f0_v20 p3) (0 : Int32) (0 : Int32) (0 : Int32) (0 : Int32) (0 : Int32)))]))
        refine Rw.iload (pc' := 133) X110 hx (hb hby at_131) rfl rfl ?_
        by_cases hc133_111 : (f10 (f0_v40 p4 p5) p6 (3 : Int32) (f0_v8 p1) (f0_v14 p2) (f0_v20 p3) (0 : Int32) (0 : Int32) (0 : Int32) (0 : Int32) (0 : Int32)) = (f0_j122_l13 p2 p3 p4 p5 p6)
        · refine Rw.icmpN (pc' := 136) X110 hx (hb hby at_133) (teq hc133_111).2 rfl ?_
          refine Rw.iconst (pc' := 137) (v := (1 : Int32)) X110 hx (hb hby at_136) rfl rfl ?_
          refine Rw.goto (pc' := 141) X110 hx (hb hby at_137) (by decide) (by decide) ?_
          exact Rw.retZ (w := (1 : Int32)) X110 hx hlk hret (by simp) (hb hby at_141) (by decide) (by decide) (by decide) (fun L N => ⟨⟨congrArg some (congrArg Value.int (by rw [f0, if_neg hc63_63, if_neg hc76_86, if_pos hc133_111])), N, K106⟩, Y108⟩)
        · refine Rw.icmpY (pc' := 140) X110 hx (hb hby at_133) (feq hc133_111).2 (by decide) (by decide) ?_
          refine Rw.iconst (pc' := 141) (v := (0 : Int32)) X110 hx (hb hby at_140) rfl rfl ?_
          exact Rw.retZ (w := (0 : Int32)) X110 hx hlk hret (by simp) (hb hby at_141) (by decide) (by decide) (by decide) (fun L N => ⟨⟨congrArg some (congrArg Value.int (by rw [f0, if_neg hc63_63, if_neg hc76_86, if_neg hc133_111])), N, K106⟩, Y108⟩)
      by_cases hc92_112 : (f0_v40 p4 p5) = ((f0_v30 p4) - (1 : Int32))
      · refine Rw.icmpN (pc' := 95) X92 hx (hb hby at_92) (teq hc92_112).2 rfl ?_
        refine Rw.iload (pc' := 97) X92 hx (hb hby at_95) rfl rfl ?_
        refine Rw.istore (pc' := 99) (v := p6) (l' := #[.val (.int p1), .val (.int p2), .val (.int p3), .val (.int p4), .val (.int p5), .val (.int p6), .val (.ref sa0), .val (.int (f0_v8 p1)), .val (.int (f0_v14 p2)), .val (.int (f0_v20 p3)), .val (.int (f0_v30 p4)), .val (.int (f0_v40 p4 p5)), .val (.ref b42), .val (.int p6)]) X92 hx (hb hby at_97) rfl rfl ?_
        refine Rw.goto (pc' := 122) X92 hx (hb hby at_99) (by decide) (by decide) ?_
        have q := J92_109 T92   X92
        rw [show (f0_j122_l13 p2 p3 p4 p5 p6) = p6 from by rw [f0_j122_l13, if_pos hc92_112]] at q
        exact q
      · refine Rw.icmpY (pc' := 102) X92 hx (hb hby at_92) (feq hc92_112).2 (by decide) (by decide) ?_
        refine Rw.iload (pc' := 104) X92 hx (hb hby at_102) rfl rfl ?_
        by_cases hc104_113 : (f0_v40 p4 p5) = (0 : Int32)
        · refine Rw.ifN (pc' := 107) X92 hx (hb hby at_104) ((if0 _ _).trans (teq hc104_113).2) rfl ?_
          refine Rw.iload (pc' := 109) X92 hx (hb hby at_107) rfl rfl ?_
          refine Rw.iconst (pc' := 110) (v := (1 : Int32)) X92 hx (hb hby at_109) rfl rfl ?_
          refine Rw.isub (pc' := 111) (r := ((f0_v14 p2) - (1 : Int32))) X92 hx (hb hby at_110) rfl rfl ?_
          refine Rw.istore (pc' := 113) (v := (f0_v111 p2)) (l' := #[.val (.int p1), .val (.int p2), .val (.int p3), .val (.int p4), .val (.int p5), .val (.int p6), .val (.ref sa0), .val (.int (f0_v8 p1)), .val (.int (f0_v14 p2)), .val (.int (f0_v20 p3)), .val (.int (f0_v30 p4)), .val (.int (f0_v40 p4 p5)), .val (.ref b42), .val (.int (f0_v111 p2))]) X92 hx (hb hby at_111) rfl rfl ?_
          refine Rw.goto (pc' := 122) X92 hx (hb hby at_113) (by decide) (by decide) ?_
          have q := J92_109 T92   X92
          rw [show (f0_j122_l13 p2 p3 p4 p5 p6) = (f0_v111 p2) from by rw [f0_j122_l13, if_neg hc92_112, if_pos hc104_113]] at q
          exact q
        · refine Rw.ifY (pc' := 116) X92 hx (hb hby at_104) ((if0 _ _).trans (feq hc104_113).2) (by decide) (by decide) ?_
          refine Rw.iload (pc' := 118) X92 hx (hb hby at_116) rfl rfl ?_
          refine Rw.iconst (pc' := 119) (v := (1 : Int32)) X92 hx (hb hby at_118) rfl rfl ?_
          refine Rw.isub (pc' := 120) (r := ((f0_v20 p3) - (1 : Int32))) X92 hx (hb hby at_119) rfl rfl ?_
          refine Rw.istore (pc' := 122) (v := (f0_v120 p3)) (l' := #[.val (.int p1), .val (.int p2), .val (.int p3), .val (.int p4), .val (.int p5), .val (.int p6), .val (.ref sa0), .val (.int (f0_v8 p1)), .val (.int (f0_v14 p2)), .val (.int (f0_v20 p3)), .val (.int (f0_v30 p4)), .val (.int (f0_v40 p4 p5)), .val (.ref b42), .val (.int (f0_v120 p3))]) X92 hx (hb hby at_120) rfl rfl ?_
          have q := J92_109 T92   X92
          rw [show (f0_j122_l13 p2 p3 p4 p5 p6) = (f0_v120 p3) from by rw [f0_j122_l13, if_neg hc92_112, if_neg hc104_113]] at q
          exact q
theorem own_core (n m sa sb sc last : Int32) (hn : 1 ≤ n.toInt ∧ n.toInt ≤ 3) (hm : 0 ≤ m.toInt ∧ m.toInt < n.toInt) :
    (if n < (2 : Int32) then (if f10 m last 1 sa 0 0 0 0 0 0 0 = (if m = n - 1 then last else (if m = 0 then sb - 1 else sc - 1)) then (1 : Int32) else 0) else (if n < (3 : Int32) then (if f10 m last 2 sa sb 0 0 0 0 0 0 = (if m = n - 1 then last else (if m = 0 then sb - 1 else sc - 1)) then 1 else 0) else (if f10 m last 3 sa sb sc 0 0 0 0 0 = (if m = n - 1 then last else (if m = 0 then sb - 1 else sc - 1)) then 1 else 0))) = 1 := by
  have l0 : (0 : Int32).toInt = 0 := by decide
  have l1 : (1 : Int32).toInt = 1 := by decide
  have l2 : (2 : Int32).toInt = 2 := by decide
  have l3 : (3 : Int32).toInt = 3 := by decide
  have cn : n = 1 ∨ n = 2 ∨ n = 3 := by simp only [← Int32.toInt_inj]; omega
  have cm : m = 0 ∨ m = 1 ∨ m = 2 := by simp only [← Int32.toInt_inj]; omega
  have a1 : ∀ a b c d e f g h : Int32, own_at [a, b, c, d, e, f, g, h] (0 + 1) = b := fun _ _ _ _ _ _ _ _ => rfl
  have a2 : ∀ a b c d e f g h : Int32, own_at [a, b, c, d, e, f, g, h] (1 + 1) = c := fun _ _ _ _ _ _ _ _ => rfl
  unfold f10
  rcases cn with rfl | rfl | rfl
  · rcases cm with rfl | rfl | rfl
    · rw [if_pos (by decide), if_neg (by decide : ¬ (0 : Int32) + 1 < 1), if_pos (by decide : (0 : Int32) = 1 - 1), if_pos rfl]
    · omega
    · omega
  · rw [if_neg (by decide), if_pos (by decide)]
    rcases cm with rfl | rfl | rfl
    · rw [if_pos (by decide : (0 : Int32) + 1 < 2), if_neg (by decide : ¬ (0 : Int32) = 2 - 1), if_pos (rfl : (0 : Int32) = 0), a1, if_pos rfl]
    · rw [if_neg (by decide : ¬ (1 : Int32) + 1 < 2), if_pos (by decide : (1 : Int32) = 2 - 1), if_pos rfl]
    · omega
  · rw [if_neg (by decide), if_neg (by decide)]
    rcases cm with rfl | rfl | rfl
    · rw [if_pos (by decide : (0 : Int32) + 1 < 3), if_neg (by decide : ¬ (0 : Int32) = 3 - 1), if_pos (rfl : (0 : Int32) = 0), a1, if_pos rfl]
    · rw [if_pos (by decide : (1 : Int32) + 1 < 3), if_neg (by decide : ¬ (1 : Int32) = 3 - 1), if_neg (by decide : ¬ (1 : Int32) = 0), a2, if_pos rfl]
    · rw [if_neg (by decide : ¬ (2 : Int32) + 1 < 3), if_pos (by decide : (2 : Int32) = 3 - 1), if_pos rfl]
theorem own_law (a b c d e g : Int32) : f0 a b c d e g = 1 := own_core (f0_v30 d) (f0_v40 d e) (f0_v8 a) (f0_v14 b) (f0_v20 c) g (own_n d) (own_mr d e)
theorem own_nz (x : Int32) : (f0_v30 x) ≠ 0 := fun h => by
  have q := own_n x
  rw [h] at q
  exact absurd q.1 (by decide)
set_option maxRecDepth 65536 in
set_option maxHeartbeats 40000000 in
theorem comes_1 {Post : Tables → Env → Array Value → State → Outcome → State → Prop} (hpost : ∀ tb e args s v u, (limb_1_1.after args s (.returned v) u = true ∧ limb_1_2.after args s (.returned v) u = true ∧ True) → ReturnedEndW s (.returned v) u (Jvm.fieldLocs frame_1_writes args s ++ Jvm.arrayLocs frame_1_arrays args s ++ Jvm.staticLocs frame_1_statics s) 16 1152 → Post tb e args s (.returned v) u) :
    ArmFor flags0 classFile x code maxLocals ret World_1 tables_1 room_1 Calls_1 rest_1 Pre_1 Post := by
  intro l hfl _ _ p e ha hc hk s m args below hf hA hF happ hP
  obtain ⟨hcalls, hrest, hpre⟩ := hP
  obtain ⟨-, -, -, hnamed, -, -, -, hat⟩ := (Spec.applies_iff hf).mp happ
  obtain ⟨hg, hn⟩ := and_e (Cond.before_iff.mp (show (Jvm.Cond.and given_1 narrow_1).before args s = true from hpre))
  obtain ⟨g1, g2⟩ := and_e hg
  obtain ⟨g3, g4⟩ := and_e g2
  obtain ⟨g5, g6⟩ := and_e g4
  obtain ⟨g7, g8⟩ := and_e g6
  obtain ⟨g9, g10⟩ := and_e g8
  obtain ⟨g11, g12⟩ := and_e g10
  obtain ⟨w0, w1, w2, w3, w4, w5, rfl⟩ : ∃ w0 w1 w2 w3 w4 w5 : Value, args = #[w0, w1, w2, w3, w4, w5] := by
    have hs : args.size = 6 := by simpa [Cond.value, given_1] using g1
    obtain ⟨L⟩ := args
    match L, hs with
    | [w0, w1, w2, w3, w4, w5], _ => exact ⟨w0, w1, w2, w3, w4, w5, rfl⟩
  have hw := fun d (hd : d ∈ tables_1) => atoms_spec (ws := Jvm.Cond.code x code maxLocals ret :: tables_1) hat d (List.mem_cons_of_mem _ hd)
  have hfit : Fit s := fun {y c} hc i hi => by
    obtain ⟨ha, rfl⟩ := Array.getElem?_eq_some_iff.mp hc
    have q := List.all_eq_true.mp ((Array.all_eq_true_iff_forall_mem.mp hF) _ (Array.getElem_mem ha)) i (List.mem_range.mpr hi)
    simpa [Array.getElem?_eq_getElem hi] using q
  obtain ⟨hsets, hown0⟩ := atoms_of _ (rest_1_c_eq ▸ (show rest_1_c.before _ s = true from hrest))
  have hr0 := Cond.before_iff.mp hown0
  obtain ⟨i0, ei0⟩ := is_v g3
  obtain rfl : w0 = (.int i0) := Option.some.inj ei0
  obtain ⟨i1, ei1⟩ := is_v g5
  obtain rfl : w1 = (.int i1) := Option.some.inj ei1
  obtain ⟨i2, ei2⟩ := is_v g7
  obtain rfl : w2 = (.int i2) := Option.some.inj ei2
  obtain ⟨i3, ei3⟩ := is_v g9
  obtain rfl : w3 = (.int i3) := Option.some.inj ei3
  obtain ⟨i4, ei4⟩ := is_v g11
  obtain rfl : w4 = (.int i4) := Option.some.inj ei4
  obtain ⟨i5, ei5⟩ := is_v g12
  obtain rfl : w5 = (.int i5) := Option.some.inj ei5
  have S0 := hsets _ (List.mem_of_getElem? (i := 0) rfl)
  obtain ⟨cs, ecs⟩ := is_v (Cond.before_iff.mp (hsets _ (List.mem_of_getElem? (i := 1) rfl)))
  have hcw := hsets _ (List.mem_of_getElem? (i := 2) rfl)
  have n3 := not_v (Cond.before_iff.mp hcw)
  have SS := Sta.start ecs (Or.inl S0)
  have csn : ¬ cs = (0 : Int32) := gotF (Cond.eq_ints ecs (Term.int_eval (0))) n3
  obtain ⟨vf, evf, hvf⟩ := isR_v (Cond.before_iff.mp (hsets _ (List.mem_of_getElem? (i := 8) rfl)))
  have SF := Sta.start evf (Or.inl (hsets _ (List.mem_of_getElem? (i := 7) rfl)))
  have hH7 := hcalls.1 _ (List.mem_of_getElem? (i := 0) rfl)
  obtain ⟨n, o, h1, h2, h3, _, L, rfl, ⟨rfl, N, -⟩, hq⟩ := rm0 l s _ hw tables_1 i0 i1 i2 i3 i4 i5 cs vf s.heap s.heap.size (Nat.le_refl _) SS SF csn hvf rfl (Nat.le_refl _) hH7 hcw (own_nz _) p e ha hc hk s m _ below hf ((Spec.applies_iff_loose hf).mp happ).1 ⟨rfl, rfl⟩ trivial
  rw [own_law i0 i1 i2 i3 i4 i5] at *
  refine ⟨n, _, h1, h2, h3, hpost _ _ _ _ _ _ ⟨Cond.after_iff.mpr rfl, Cond.after_iff.mpr (eq_i res_at (Term.int_eval (1)) rfl), trivial⟩ ⟨hq.1, hq.2.1, hq.2.2.1, (hq.2.2.2.sift fun y hy => Or.inr (N y hy)).mono (by decide) (by decide)⟩⟩
theorem main_1_1 : Claimed_1_1 := comes_1 fun _ _ _ _ _ _ h hF => ⟨h.1, hF⟩
theorem main_1_2 : Claimed_1_2 := comes_1 fun _ _ _ _ _ _ h hF => ⟨h.2.1, hF⟩
end Jvm.Pilot.@@N@@
namespace Jvm.Pilot.@@N@@
open Jvm Jvm.ClassFile Sem Op Lib Jvm.Free Jvm.Stand Jvm.Pilot.@@N@@.Jvm.D
/-! MADE BY PROGRAM (witnessworld.py) out of the Statement's table words and the real class files: 17 classes; the members and pool entries that the words name. The judged class is class 1, her method 1. -/
namespace start1
open Jvm.ClassFile
def u (s : String) : CpInfo := .utf8 (stringToUtf16 s)
/-- a pool by its gaps: so many unusable entries, then the entry; so many at the end -/
def gap : Nat → List CpInfo → List CpInfo
  | 0, r => r
  | n + 1, r => .unusable :: gap n r
def poolList (es : List (Nat × CpInfo)) (last : Nat) : List CpInfo := es.foldr (fun e r => gap e.1 (e.2 :: r)) (gap last [])
def pool (es : List (Nat × CpInfo)) (last : Nat) : Array CpInfo := ⟨poolList es last⟩
def fileOf (pool : Array CpInfo) (this : Nat) (attrs : Array Attribute := #[]) (ms : Array MethodInfo := #[]) (fl : Nat := 33) (sup : Nat := 0) (ifs : Array Nat := #[]) (fds : Array FieldInfo := #[]) : ClassFile where
  minorVersion := 0
  majorVersion := 65
  constantPool := pool
  accessFlags := fl
  thisClass := this
  superClass := sup
  interfaces := ifs
  fields := fds
  methods := ms
  attributes := attrs
def plain (name : String) (sup : Option ClassId) : Class where
  name := name
  kind := .ordinary
  loader := none
  accessFlags := 33
  super := sup
  interfaces := #[]
  cf := none
  fields := #[]
  methods := #[]
  instanceTypes := #[]
  staticTypes := #[]
  resolved := #[]
  callSites := []
  init := .initialized
  statics := none
  mirror := none

def pool0 : Array CpInfo := pool [(5, u "<init>"), (0, u "()V"), (1, .class_ 10), (1, u "java/lang/Object")] 113

def k0c0 : Code := { maxStack := 0, maxLocals := 1, code := object_method_1_code, exceptionTable := #[], attributes := #[] }
def k0m0 : Method := { name := "<init>", desc := "()V", sig := { parameters := [], returnType := none }, accessFlags := 1, code := some k0c0 }
/-- java/lang/Object -/
def k0 : Class := { plain "java/lang/Object" none with
  accessFlags := 33
  interfaces := #[]
  cf := some (fileOf pool0 8 #[] #[{ accessFlags := 1, nameIndex := 5, descriptorIndex := 6, attributes := #[] }] 33 0 #[] #[])
  fields := #[]
  methods := #[k0m0]
  instanceTypes := #[]
  staticTypes := #[]
  resolved := Array.replicate 124 none
  statics := none }

def pool1 : Array CpInfo := pool [(2, .class_ 4), (1, u "java/lang/Object"), (0, u "<init>"), (0, u "()V"), (0, .string 8), (0, u "\"\"\"\"\"\"\"\"\"\"\"\"\"\"\"\"\"\"\"\""), (0, .integer 2147483647), (0, .class_ 11), (0, u "com/example/teasel/teasel/datatype/Members"), (0, .methodref 10 13), (0, .nameAndType 5 14), (0, u "(Ljava/lang/CharSequence;)V"), (0, .methodref 10 16), (0, .nameAndType 17 18), (0, u "add"), (0, u "(I)V"), (0, .methodref 10 20), (0, .nameAndType 21 22), (0, u "end"), (0, u "(II)I"), (0, .class_ 24), (0, u "com/example/teasel/teasel/datatype/MembersEndPinLaw"), (2, u "law"), (0, u "(IIIIII)Z")] 5

def k1m0 : Method := { name := "<init>", desc := "()V", sig := { parameters := [], returnType := none }, accessFlags := 1, code := none }
def k1c1 : Code := { maxStack := 3, maxLocals := 14, code := code, exceptionTable := #[], attributes := #[] }
def k1m1 : Method := { name := "law", desc := "(IIIIII)Z", sig := { parameters := [.int, .int, .int, .int, .int, .int], returnType := some .boolean }, accessFlags := 9, code := some k1c1 }
/-- com/example/teasel/teasel/datatype/MembersEndPinLaw -/
def k1 : Class := { plain "com/example/teasel/teasel/datatype/MembersEndPinLaw" (some 0) with
  accessFlags := 49
  interfaces := #[]
  cf := some (fileOf pool1 23 #[] #[{ accessFlags := 1, nameIndex := 5, descriptorIndex := 6, attributes := #[] }, { accessFlags := 9, nameIndex := 27, descriptorIndex := 28, attributes := #[] }] 49 2 #[] #[])
  fields := #[]
  methods := #[k1m0, k1m1]
  instanceTypes := #[]
  staticTypes := #[]
  resolved := Array.replicate 34 none
  statics := none }

def pool2 : Array CpInfo := pool [(1, .class_ 2), (0, u "java/io/Serializable"), (0, .class_ 4), (0, u "java/lang/Object")] 2

/-- java/io/Serializable -/
def k2 : Class := { plain "java/io/Serializable" (some 0) with
  accessFlags := 1537
  interfaces := #[]
  cf := some (fileOf pool2 1 #[] #[] 1537 3 #[] #[])
  fields := #[]
  methods := #[]
  instanceTypes := #[]
  staticTypes := #[]
  resolved := Array.replicate 7 none
  statics := none }

def pool3 : Array CpInfo := pool [(1, .class_ 2), (0, u "java/lang/Comparable"), (0, .class_ 4), (0, u "java/lang/Object")] 7

/-- java/lang/Comparable -/
def k3 : Class := { plain "java/lang/Comparable" (some 0) with
  accessFlags := 1537
  interfaces := #[]
  cf := some (fileOf pool3 1 #[] #[] 1537 3 #[] #[])
  fields := #[]
  methods := #[]
  instanceTypes := #[]
  staticTypes := #[]
  resolved := Array.replicate 12 none
  statics := none }

def pool4 : Array CpInfo := pool [(2, .class_ 4), (1, u "java/lang/CharSequence"), (40, u "charAt"), (0, u "(I)C"), (0, .class_ 48), (0, u "java/lang/CharSequence$1CodePointIterator"), (10, .class_ 60), (0, u "java/lang/CharSequence$1CharIterator"), (5, .class_ 67), (0, u "java/lang/Object")] 63

def k4m0 : Method := { name := "charAt", desc := "(I)C", sig := { parameters := [.int], returnType := some .char }, accessFlags := 1025, code := none }
/-- java/lang/CharSequence -/
def k4 : Class := { plain "java/lang/CharSequence" (some 0) with
  accessFlags := 1537
  interfaces := #[]
  cf := some (fileOf pool4 2 #[.nestMembers #[47, 59]] #[{ accessFlags := 1025, nameIndex := 45, descriptorIndex := 46, attributes := #[] }] 1537 66 #[] #[])
  fields := #[]
  methods := #[k4m0]
  instanceTypes := #[]
  staticTypes := #[]
  resolved := Array.replicate 131 none
  statics := none }

def pool5 : Array CpInfo := pool [(1, .class_ 2), (0, u "java/lang/constant/Constable"), (0, .class_ 4), (0, u "java/lang/Object")] 6

/-- java/lang/constant/Constable -/
def k5 : Class := { plain "java/lang/constant/Constable" (some 0) with
  accessFlags := 1537
  interfaces := #[]
  cf := some (fileOf pool5 1 #[] #[] 1537 3 #[] #[])
  fields := #[]
  methods := #[]
  instanceTypes := #[]
  staticTypes := #[]
  resolved := Array.replicate 11 none
  statics := none }

def pool6 : Array CpInfo := pool [(1, .class_ 2), (0, u "java/lang/constant/ConstantDesc"), (0, .class_ 4), (0, u "java/lang/Object")] 32

/-- java/lang/constant/ConstantDesc -/
def k6 : Class := { plain "java/lang/constant/ConstantDesc" (some 0) with
  accessFlags := 1537
  interfaces := #[]
  cf := some (fileOf pool6 1 #[] #[] 1537 3 #[] #[])
  fields := #[]
  methods := #[]
  instanceTypes := #[]
  staticTypes := #[]
  resolved := Array.replicate 37 none
  statics := none }

def pool7 : Array CpInfo := pool [(2, .class_ 4), (1, u "java/lang/Object"), (0, u "<init>"), (0, u "()V"), (2, .fieldref 10 11), (0, .class_ 12), (0, .nameAndType 13 14), (0, u "java/lang/String"), (0, u "value"), (0, u "[B"), (0, .fieldref 10 16), (0, .nameAndType 17 18), (0, u "coder"), (0, u "B"), (2, u "hash"), (0, u "I"), (2, u "hashIsZero"), (0, u "Z"), (11, .fieldref 10 39), (0, .nameAndType 40 26), (0, u "COMPACT_STRINGS"), (66, .class_ 109), (1, u "java/lang/StringLatin1"), (32, u "()Z"), (220, u "([BI)C"), (27, u "(II)V"), (35, u "(I)C"), (64, .methodref 10 493), (0, .nameAndType 494 142), (0, u "isLatin1"), (0, .methodref 107 496), (0, .nameAndType 497 363), (0, u "charAt"), (3, u "checkIndex"), (73, .class_ 576), (0, u "java/lang/CharSequence"), (22, u "CASE_INSENSITIVE_ORDER"), (0, u "Ljava/util/Comparator;"), (452, .fieldref 1054 1055), (0, .class_ 1056), (0, .nameAndType 1057 1058), (0, u "jdk/internal/util/Preconditions"), (0, u "SIOOBE_FORMATTER"), (0, u "Ljava/util/function/BiFunction;"), (0, .methodref 1054 1060), (0, .nameAndType 501 1061), (0, u "(IILjava/util/function/BiFunction;)I"), (39, u "serialPersistentFields"), (0, u "[Ljava/io/ObjectStreamField;"), (0, .class_ 1104), (0, u "java/lang/String$CaseInsensitiveComparator"), (1, .class_ 1107), (0, u "java/io/Serializable"), (0, .class_ 1109), (0, u "java/lang/Comparable"), (0, .class_ 1111), (0, u "java/lang/constant/Constable"), (0, .class_ 1113), (0, u "java/lang/constant/ConstantDesc"), (2, u "serialVersionUID"), (0, u "J"), (3, u "REPL"), (0, u "C"), (2, u "LATIN1"), (1, u "UTF16")] 323

def k7m0 : Method := { name := "<init>", desc := "()V", sig := { parameters := [], returnType := none }, accessFlags := 1, code := none }
def k7c1 : Code := { maxStack := 2, maxLocals := 2, code := jdk_42_method_56_code, exceptionTable := #[], attributes := #[] }
def k7m1 : Method := { name := "charAt", desc := "(I)C", sig := { parameters := [.int], returnType := some .char }, accessFlags := 1, code := some k7c1 }
def k7c2 : Code := { maxStack := 1, maxLocals := 1, code := jdk_42_method_154_code, exceptionTable := #[], attributes := #[] }
def k7m2 : Method := { name := "isLatin1", desc := "()Z", sig := { parameters := [], returnType := some .boolean }, accessFlags := 0, code := some k7c2 }
def k7c3 : Code := { maxStack := 3, maxLocals := 2, code := jdk_42_method_155_code, exceptionTable := #[], attributes := #[] }
def k7m3 : Method := { name := "checkIndex", desc := "(II)V", sig := { parameters := [.int, .int], returnType := none }, accessFlags := 8, code := some k7c3 }
/-- java/lang/String -/
def k7 : Class := { plain "java/lang/String" (some 0) with
  accessFlags := 49
  interfaces := #[2, 3, 4, 5, 6]
  cf := some (fileOf pool7 10 #[.nestMembers #[1103]] #[{ accessFlags := 1, nameIndex := 5, descriptorIndex := 6, attributes := #[] }, { accessFlags := 1, nameIndex := 497, descriptorIndex := 427, attributes := #[] }, { accessFlags := 0, nameIndex := 494, descriptorIndex := 142, attributes := #[] }, { accessFlags := 8, nameIndex := 501, descriptorIndex := 391, attributes := #[] }] 49 2 #[1106, 1108, 575, 1110, 1112] #[{ accessFlags := 18, nameIndex := 13, descriptorIndex := 14, attributes := #[] }, { accessFlags := 18, nameIndex := 17, descriptorIndex := 18, attributes := #[] }, { accessFlags := 2, nameIndex := 21, descriptorIndex := 22, attributes := #[] }, { accessFlags := 2, nameIndex := 25, descriptorIndex := 26, attributes := #[] }, { accessFlags := 26, nameIndex := 1116, descriptorIndex := 1117, attributes := #[] }, { accessFlags := 24, nameIndex := 40, descriptorIndex := 26, attributes := #[] }, { accessFlags := 26, nameIndex := 1101, descriptorIndex := 1102, attributes := #[] }, { accessFlags := 26, nameIndex := 1121, descriptorIndex := 1122, attributes := #[] }, { accessFlags := 25, nameIndex := 599, descriptorIndex := 600, attributes := #[] }, { accessFlags := 24, nameIndex := 1125, descriptorIndex := 18, attributes := #[] }, { accessFlags := 24, nameIndex := 1127, descriptorIndex := 18, attributes := #[] }])
  fields := #[{ name := "value", type := (.array .byte), accessFlags := 18, slot := 0, constantValue := 0 }, { name := "coder", type := .byte, accessFlags := 18, slot := 1, constantValue := 0 }, { name := "hash", type := .int, accessFlags := 2, slot := 2, constantValue := 0 }, { name := "hashIsZero", type := .boolean, accessFlags := 2, slot := 3, constantValue := 0 }, { name := "serialVersionUID", type := .long, accessFlags := 26, slot := 0, constantValue := 0 }, { name := "COMPACT_STRINGS", type := .boolean, accessFlags := 24, slot := 1, constantValue := 0 }, { name := "serialPersistentFields", type := (.array (.object "java/io/ObjectStreamField")), accessFlags := 26, slot := 2, constantValue := 0 }, { name := "REPL", type := .char, accessFlags := 26, slot := 3, constantValue := 0 }, { name := "CASE_INSENSITIVE_ORDER", type := (.object "java/util/Comparator"), accessFlags := 25, slot := 4, constantValue := 0 }, { name := "LATIN1", type := .byte, accessFlags := 24, slot := 5, constantValue := 0 }, { name := "UTF16", type := .byte, accessFlags := 24, slot := 6, constantValue := 0 }]
  methods := #[k7m0, k7m1, k7m2, k7m3]
  instanceTypes := #[(.array .byte), .byte, .int, .boolean]
  staticTypes := #[.long, .boolean, (.array (.object "java/io/ObjectStreamField")), .char, (.object "java/util/Comparator"), .byte, .byte]
  resolved := Array.replicate 1451 none
  statics := some 0 }

def pool8 : Array CpInfo := pool [(1, .methodref 2 3), (0, .class_ 4), (0, .nameAndType 5 6), (0, u "java/lang/Object"), (0, u "<init>"), (0, u "()V"), (0, .fieldref 8 9), (0, .class_ 10), (0, .nameAndType 11 12), (0, u "com/example/teasel/teasel/datatype/Members"), (0, u "starts"), (0, u "[I"), (0, .fieldref 8 14), (0, .nameAndType 15 16), (0, u "ordered"), (0, u "Z"), (0, .fieldref 8 18), (0, .nameAndType 19 20), (0, u "text"), (0, u "Ljava/lang/CharSequence;"), (0, .fieldref 8 22), (0, .nameAndType 23 24), (0, u "count"), (0, u "I"), (6, .methodref 8 32), (0, .nameAndType 33 34), (0, u "compareNames"), (0, u "(II)I"), (10, .interfaceMethodref 46 47), (0, .class_ 48), (0, .nameAndType 49 50), (0, u "java/lang/CharSequence"), (0, u "charAt"), (0, u "(I)C"), (0, u "(Ljava/lang/CharSequence;)V"), (2, u "add"), (0, u "(I)V"), (5, u "end")] 5

def k8c0 : Code := { maxStack := 2, maxLocals := 2, code := prog_41_method_1_code, exceptionTable := #[], attributes := #[] }
def k8m0 : Method := { name := "<init>", desc := "(Ljava/lang/CharSequence;)V", sig := { parameters := [(.object "java/lang/CharSequence")], returnType := none }, accessFlags := 0, code := some k8c0 }
def k8c1 : Code := { maxStack := 5, maxLocals := 2, code := prog_41_method_2_code, exceptionTable := #[], attributes := #[] }
def k8m1 : Method := { name := "add", desc := "(I)V", sig := { parameters := [.int], returnType := none }, accessFlags := 0, code := some k8c1 }
def k8c2 : Code := { maxStack := 3, maxLocals := 3, code := prog_41_method_6_code, exceptionTable := #[], attributes := #[] }
def k8m2 : Method := { name := "end", desc := "(II)I", sig := { parameters := [.int, .int], returnType := some .int }, accessFlags := 0, code := some k8c2 }
def k8c3 : Code := { maxStack := 3, maxLocals := 7, code := prog_41_method_9_code, exceptionTable := #[], attributes := #[] }
def k8m3 : Method := { name := "compareNames", desc := "(II)I", sig := { parameters := [.int, .int], returnType := some .int }, accessFlags := 2, code := some k8c3 }
/-- com/example/teasel/teasel/datatype/Members -/
def k8 : Class := { plain "com/example/teasel/teasel/datatype/Members" (some 0) with
  accessFlags := 48
  interfaces := #[]
  cf := some (fileOf pool8 8 #[] #[{ accessFlags := 0, nameIndex := 5, descriptorIndex := 51, attributes := #[] }, { accessFlags := 0, nameIndex := 54, descriptorIndex := 55, attributes := #[] }, { accessFlags := 0, nameIndex := 61, descriptorIndex := 34, attributes := #[] }, { accessFlags := 2, nameIndex := 33, descriptorIndex := 34, attributes := #[] }] 48 2 #[] #[{ accessFlags := 18, nameIndex := 19, descriptorIndex := 20, attributes := #[] }, { accessFlags := 2, nameIndex := 11, descriptorIndex := 12, attributes := #[] }, { accessFlags := 2, nameIndex := 23, descriptorIndex := 24, attributes := #[] }, { accessFlags := 2, nameIndex := 15, descriptorIndex := 16, attributes := #[] }])
  fields := #[{ name := "text", type := (.object "java/lang/CharSequence"), accessFlags := 18, slot := 0, constantValue := 0 }, { name := "starts", type := (.array .int), accessFlags := 2, slot := 1, constantValue := 0 }, { name := "count", type := .int, accessFlags := 2, slot := 2, constantValue := 0 }, { name := "ordered", type := .boolean, accessFlags := 2, slot := 3, constantValue := 0 }]
  methods := #[k8m0, k8m1, k8m2, k8m3]
  instanceTypes := #[(.object "java/lang/CharSequence"), (.array .int), .int, .boolean]
  staticTypes := #[]
  resolved := Array.replicate 67 none
  statics := none }

def pool9 : Array CpInfo := pool [(1, .class_ 2), (0, u "java/lang/String"), (1, .class_ 6), (1, u "java/lang/Object"), (0, u "<init>"), (0, u "()V"), (0, .methodref 1 10), (0, .nameAndType 11 12), (0, u "checkIndex"), (0, u "(II)V"), (1, .class_ 16), (1, u "java/lang/StringLatin1"), (36, u "([BI)C"), (67, u "$assertionsDisabled"), (0, u "Z"), (98, .class_ 223), (1, u "java/lang/StringLatin1$LinesSpliterator"), (28, u "charAt"), (137, .class_ 391), (0, u "java/lang/StringLatin1$CharsSpliterator")] 3

def k9m0 : Method := { name := "<init>", desc := "()V", sig := { parameters := [], returnType := none }, accessFlags := 0, code := none }
def k9c1 : Code := { maxStack := 2, maxLocals := 2, code := jdk_43_method_2_code, exceptionTable := #[], attributes := #[] }
def k9m1 : Method := { name := "charAt", desc := "([BI)C", sig := { parameters := [(.array .byte), .int], returnType := some .char }, accessFlags := 9, code := some k9c1 }
/-- java/lang/StringLatin1 -/
def k9 : Class := { plain "java/lang/StringLatin1" (some 0) with
  accessFlags := 48
  interfaces := #[]
  cf := some (fileOf pool9 14 #[.nestMembers #[390, 221]] #[{ accessFlags := 0, nameIndex := 7, descriptorIndex := 8, attributes := #[] }, { accessFlags := 9, nameIndex := 252, descriptorIndex := 53, attributes := #[] }] 48 4 #[] #[{ accessFlags := 4120, nameIndex := 121, descriptorIndex := 122, attributes := #[] }])
  fields := #[{ name := "$assertionsDisabled", type := .boolean, accessFlags := 4120, slot := 0, constantValue := 0 }]
  methods := #[k9m0, k9m1]
  instanceTypes := #[]
  staticTypes := #[.boolean]
  resolved := Array.replicate 395 none
  statics := none }

def pool10 : Array CpInfo := pool [(2, .class_ 4), (1, u "java/lang/Object"), (0, u "<init>"), (0, u "()V"), (17, .class_ 26), (1, u "jdk/internal/util/Preconditions"), (6, u "checkIndex"), (21, .class_ 56), (0, u "jdk/internal/util/Preconditions$4"), (57, .class_ 115), (0, u "jdk/internal/util/Preconditions$1"), (7, u "SIOOBE_FORMATTER"), (0, u "Ljava/util/function/BiFunction;"), (0, .class_ 126), (0, u "jdk/internal/util/Preconditions$2"), (3, u "AIOOBE_FORMATTER"), (0, .class_ 132), (0, u "jdk/internal/util/Preconditions$3"), (3, u "IOOBE_FORMATTER"), (41, u "(IILjava/util/function/BiFunction;)I")] 15

def k10m0 : Method := { name := "<init>", desc := "()V", sig := { parameters := [], returnType := none }, accessFlags := 1, code := none }
def k10c1 : Code := { maxStack := 3, maxLocals := 3, code := jdk_41_method_11_code, exceptionTable := #[], attributes := #[] }
def k10m1 : Method := { name := "checkIndex", desc := "(IILjava/util/function/BiFunction;)I", sig := { parameters := [.int, .int, (.object "java/util/function/BiFunction")], returnType := some .int }, accessFlags := 9, code := some k10c1 }
/-- jdk/internal/util/Preconditions -/
def k10 : Class := { plain "jdk/internal/util/Preconditions" (some 0) with
  accessFlags := 33
  interfaces := #[]
  cf := some (fileOf pool10 24 #[.nestMembers #[55, 131, 125, 114]] #[{ accessFlags := 1, nameIndex := 5, descriptorIndex := 6, attributes := #[] }, { accessFlags := 9, nameIndex := 33, descriptorIndex := 178, attributes := #[] }] 33 2 #[] #[{ accessFlags := 25, nameIndex := 123, descriptorIndex := 124, attributes := #[] }, { accessFlags := 25, nameIndex := 130, descriptorIndex := 124, attributes := #[] }, { accessFlags := 25, nameIndex := 136, descriptorIndex := 124, attributes := #[] }])
  fields := #[{ name := "SIOOBE_FORMATTER", type := (.object "java/util/function/BiFunction"), accessFlags := 25, slot := 0, constantValue := 0 }, { name := "AIOOBE_FORMATTER", type := (.object "java/util/function/BiFunction"), accessFlags := 25, slot := 1, constantValue := 0 }, { name := "IOOBE_FORMATTER", type := (.object "java/util/function/BiFunction"), accessFlags := 25, slot := 2, constantValue := 0 }]
  methods := #[k10m0, k10m1]
  instanceTypes := #[]
  staticTypes := #[(.object "java/util/function/BiFunction"), (.object "java/util/function/BiFunction"), (.object "java/util/function/BiFunction")]
  resolved := Array.replicate 194 none
  statics := some 1 }

def pool11 : Array CpInfo := pool [(9, u "<init>"), (6, .class_ 18), (1, u "java/lang/Object"), (0, u "()V"), (1, .class_ 23), (1, u "jdk/internal/util/ArraysSupport"), (0, u "LOG2_ARRAY_LONG_INDEX_SCALE"), (0, u "I"), (2, u "U"), (0, u "Ljdk/internal/misc/Unsafe;"), (8, u "BIG_ENDIAN"), (0, u "Z"), (8, u "LOG2_BYTE_BIT_SIZE"), (4, u "LOG2_ARRAY_INT_INDEX_SCALE"), (54, u "JLA"), (0, u "Ljdk/internal/access/JavaLangAccess;"), (11, u "LOG2_ARRAY_BOOLEAN_INDEX_SCALE"), (9, u "LOG2_ARRAY_BYTE_INDEX_SCALE"), (5, u "LOG2_ARRAY_CHAR_INDEX_SCALE"), (5, u "LOG2_ARRAY_SHORT_INDEX_SCALE"), (18, u "LOG2_ARRAY_FLOAT_INDEX_SCALE"), (24, u "LOG2_ARRAY_DOUBLE_INDEX_SCALE"), (89, u "T_BOOLEAN"), (2, u "T_CHAR"), (1, u "T_FLOAT"), (1, u "T_DOUBLE"), (1, u "T_BYTE"), (1, u "T_SHORT"), (1, u "T_INT"), (1, u "T_LONG"), (1, u "SOFT_MAX_ARRAY_LENGTH")] 83

def k11m0 : Method := { name := "<init>", desc := "()V", sig := { parameters := [], returnType := none }, accessFlags := 2, code := none }
/-- jdk/internal/util/ArraysSupport -/
def k11 : Class := { plain "jdk/internal/util/ArraysSupport" (some 0) with
  accessFlags := 33
  interfaces := #[]
  cf := some (fileOf pool11 21 #[] #[{ accessFlags := 2, nameIndex := 9, descriptorIndex := 19, attributes := #[] }] 33 16 #[] #[{ accessFlags := 24, nameIndex := 28, descriptorIndex := 29, attributes := #[] }, { accessFlags := 26, nameIndex := 38, descriptorIndex := 39, attributes := #[] }, { accessFlags := 25, nameIndex := 121, descriptorIndex := 25, attributes := #[] }, { accessFlags := 25, nameIndex := 131, descriptorIndex := 25, attributes := #[] }, { accessFlags := 25, nameIndex := 137, descriptorIndex := 25, attributes := #[] }, { accessFlags := 25, nameIndex := 143, descriptorIndex := 25, attributes := #[] }, { accessFlags := 25, nameIndex := 53, descriptorIndex := 25, attributes := #[] }, { accessFlags := 25, nameIndex := 24, descriptorIndex := 25, attributes := #[] }, { accessFlags := 25, nameIndex := 162, descriptorIndex := 25, attributes := #[] }, { accessFlags := 25, nameIndex := 187, descriptorIndex := 25, attributes := #[] }, { accessFlags := 26, nameIndex := 48, descriptorIndex := 25, attributes := #[] }, { accessFlags := 25, nameIndex := 277, descriptorIndex := 25, attributes := #[] }, { accessFlags := 25, nameIndex := 280, descriptorIndex := 25, attributes := #[] }, { accessFlags := 25, nameIndex := 282, descriptorIndex := 25, attributes := #[] }, { accessFlags := 25, nameIndex := 284, descriptorIndex := 25, attributes := #[] }, { accessFlags := 25, nameIndex := 286, descriptorIndex := 25, attributes := #[] }, { accessFlags := 25, nameIndex := 288, descriptorIndex := 25, attributes := #[] }, { accessFlags := 25, nameIndex := 290, descriptorIndex := 25, attributes := #[] }, { accessFlags := 25, nameIndex := 292, descriptorIndex := 25, attributes := #[] }, { accessFlags := 26, nameIndex := 108, descriptorIndex := 109, attributes := #[] }, { accessFlags := 25, nameIndex := 294, descriptorIndex := 25, attributes := #[] }])
  fields := #[{ name := "U", type := (.object "jdk/internal/misc/Unsafe"), accessFlags := 24, slot := 0, constantValue := 0 }, { name := "BIG_ENDIAN", type := .boolean, accessFlags := 26, slot := 1, constantValue := 0 }, { name := "LOG2_ARRAY_BOOLEAN_INDEX_SCALE", type := .int, accessFlags := 25, slot := 2, constantValue := 0 }, { name := "LOG2_ARRAY_BYTE_INDEX_SCALE", type := .int, accessFlags := 25, slot := 3, constantValue := 0 }, { name := "LOG2_ARRAY_CHAR_INDEX_SCALE", type := .int, accessFlags := 25, slot := 4, constantValue := 0 }, { name := "LOG2_ARRAY_SHORT_INDEX_SCALE", type := .int, accessFlags := 25, slot := 5, constantValue := 0 }, { name := "LOG2_ARRAY_INT_INDEX_SCALE", type := .int, accessFlags := 25, slot := 6, constantValue := 0 }, { name := "LOG2_ARRAY_LONG_INDEX_SCALE", type := .int, accessFlags := 25, slot := 7, constantValue := 0 }, { name := "LOG2_ARRAY_FLOAT_INDEX_SCALE", type := .int, accessFlags := 25, slot := 8, constantValue := 0 }, { name := "LOG2_ARRAY_DOUBLE_INDEX_SCALE", type := .int, accessFlags := 25, slot := 9, constantValue := 0 }, { name := "LOG2_BYTE_BIT_SIZE", type := .int, accessFlags := 26, slot := 10, constantValue := 0 }, { name := "T_BOOLEAN", type := .int, accessFlags := 25, slot := 11, constantValue := 0 }, { name := "T_CHAR", type := .int, accessFlags := 25, slot := 12, constantValue := 0 }, { name := "T_FLOAT", type := .int, accessFlags := 25, slot := 13, constantValue := 0 }, { name := "T_DOUBLE", type := .int, accessFlags := 25, slot := 14, constantValue := 0 }, { name := "T_BYTE", type := .int, accessFlags := 25, slot := 15, constantValue := 0 }, { name := "T_SHORT", type := .int, accessFlags := 25, slot := 16, constantValue := 0 }, { name := "T_INT", type := .int, accessFlags := 25, slot := 17, constantValue := 0 }, { name := "T_LONG", type := .int, accessFlags := 25, slot := 18, constantValue := 0 }, { name := "JLA", type := (.object "jdk/internal/access/JavaLangAccess"), accessFlags := 26, slot := 19, constantValue := 0 }, { name := "SOFT_MAX_ARRAY_LENGTH", type := .int, accessFlags := 25, slot := 20, constantValue := 0 }]
  methods := #[k11m0]
  instanceTypes := #[]
  staticTypes := #[(.object "jdk/internal/misc/Unsafe"), .boolean, .int, .int, .int, .int, .int, .int, .int, .int, .int, .int, .int, .int, .int, .int, .int, .int, .int, (.object "jdk/internal/access/JavaLangAccess"), .int]
  resolved := Array.replicate 378 none
  statics := none }

def pool12 : Array CpInfo := pool [(1, u "java/lang/Cloneable"), (0, .class_ 1), (0, u "java/lang/Object"), (0, .class_ 3)] 3

/-- java/lang/Cloneable -/
def k12 : Class := { plain "java/lang/Cloneable" (some 0) with
  accessFlags := 1537
  interfaces := #[]
  cf := some (fileOf pool12 2 #[] #[] 1537 4 #[] #[])
  fields := #[]
  methods := #[]
  instanceTypes := #[]
  staticTypes := #[]
  resolved := Array.replicate 8 none
  statics := none }

/-- the primitive byte -/
def k13 : Class := { plain "byte" none with kind := .primitive 'B', accessFlags := 0x411 }
/-- [B -/
def k14 : Class := { plain "[B" (some 0) with kind := .array 13 .byte, interfaces := #[12, 2], accessFlags := 1041 }

/-- the primitive int -/
def k15 : Class := { plain "int" none with kind := .primitive 'I', accessFlags := 0x411 }
/-- [I -/
def k16 : Class := { plain "[I" (some 0) with kind := .array 15 .int, interfaces := #[12, 2], accessFlags := 1041 }

def heap : Heap := #[{ cls := 7, slots := #[.long 0, .int 1, .null, .int 0, .null, .int 0, .int 0], vm := .statics 7 },
  { cls := 10, slots := #[.null, .null, .null], vm := .statics 10 }]
def classes : Array Class := #[k0, k1, k2, k3, k4, k5, k6, k7, k8, k9, k10, k11, k12, k13, k14, k15, k16]
def interned : List (Array UInt16 × Addr) := []
def slotsUsed : Nat := 10
def theMethod : MethodId := ⟨1, 1⟩
def args0 : Array Value := #[.int 5, .int 7, .int 3, .int 1, .int 1, .int 9]
def aboutOver (below : List Frame) : State where
  vm := { classes := classes, interned := interned.toArray }
  heap := heap
  slotsUsed := slotsUsed
  threads := #[{ frames := .invoking theMethod args0 :: below }]
def below0 : List Frame := [.native { method := ⟨0, 0⟩, args := #[] }]
def about1 : State := aboutOver below0
def p0 : Program := .bare "" "" ""
def e0 : Env := launch0.env 0 0 0
theorem w_frames : about1.frames = Frame.invoking theMethod args0 :: below0 := rfl
set_option maxRecDepth 65536 in
theorem w_args : argsFit about1.vm theMethod args0 = true := by decide +kernel
set_option maxRecDepth 65536 in
theorem w_heap : heapFits about1 = true := by decide +kernel
set_option maxRecDepth 65536 in
theorem w_runnable : about1.curStatus? = some .runnable := by decide +kernel
set_option maxRecDepth 65536 in
theorem w_alone : about1.alone = true := by decide +kernel
set_option maxRecDepth 65536 in
theorem w_named : about1.methodNamed? x = some theMethod := by decide +kernel
set_option maxRecDepth 65536 in
theorem w_hears : about1.hears theMethod below0 = true := by decide +kernel
set_option maxRecDepth 65536 in
theorem w_ripe : about1.ripe theMethod args0 below0 = true := by decide +kernel
theorem w_running : about1.status = .running := rfl
set_option maxRecDepth 65536 in
theorem w_room : about1.hasRoom e0.platform room_1 = true :=
  launch0.hasRoom_least _ room_1 (by decide +kernel) (by decide +kernel) (by decide +kernel) (by decide +kernel) (by decide +kernel) (by decide +kernel)
theorem allAtoms_all (ts : List Jvm.Cond) (a : Array Jvm.Value) (st : Jvm.State) : (allAtoms ts).before a st = ts.all (fun c => c.before a st) := by
  induction ts with
  | nil => rfl
  | cons c t ih =>
    show (Jvm.Cond.and c (allAtoms t)).before a st = _
    rw [Jvm.Cond.before_and, ih, List.all_cons]
def words1 : List Jvm.Cond := Jvm.Cond.code x code maxLocals ret :: tables_1
/-- a 'code' word, met by the world's own term for the bytes: nothing is compared byte by byte -/
theorem code_word {y : MethodName} {bytes : ByteArray} {mx : Nat} {rt : Option FieldType} {a : Array Value} {s : State} {m : MethodId} {meth : Method} {c : Code} (h1 : s.methodNamed? y = some m) (h2 : s.vm.method? m = some meth) (h3 : meth.code = some c) (h4 : c.code = bytes)
    (h5 : (c.maxLocals == mx && c.exceptionTable.isEmpty && decide (c.maxStack ≤ mostOperands) && decide (meth.sig.returnType = rt) && !meth.locks && decide (parseMethodDescriptor y.desc = some meth.sig)) = true) : (Jvm.Cond.code y bytes mx rt).before a s = true := by
  simp only [Bool.and_eq_true, beq_iff_eq, Bool.not_eq_true', decide_eq_true_eq] at h5
  obtain ⟨⟨⟨⟨⟨g1, g2⟩, g3⟩, g4⟩, g5⟩, g6⟩ := h5
  simp [Cond.before, Cond.holds, Cond.value, h1, h2, h3, h4, g1, g2, g3, g4, g5, g6]
def isCode : Jvm.Cond → Bool
  | .code _ _ _ _ => true
  | _ => false
theorem all_split {L : List Jvm.Cond} {P : Jvm.Cond → Bool} (h1 : L.all (fun c => isCode c || P c) = true) (h2 : ∀ c ∈ L.filter isCode, P c = true) : L.all P = true := by
  refine List.all_eq_true.mpr fun c hc => ?_
  have h := List.all_eq_true.mp h1 c hc
  rcases Bool.eq_false_or_eq_true (isCode c) with hi | hi
  · exact h2 c (List.mem_filter.mpr ⟨hc, hi⟩)
  · simpa [hi] using h
set_option maxRecDepth 65536 in
theorem w_c0 : (Jvm.Cond.code x code maxLocals ret).before args0 about1 = true := code_word (m := ⟨1, 1⟩) (meth := k1m1) (c := k1c1) (by decide +kernel) rfl rfl rfl (by decide +kernel)
set_option maxRecDepth 65536 in
theorem w_c1 : (Jvm.Cond.code ({ cls := "com/example/teasel/teasel/datatype/Members", name := "<init>", desc := "(Ljava/lang/CharSequence;)V" } : Jvm.MethodName) prog_41_method_1_code (2 : Nat) (Option.none : Option Jvm.ClassFile.FieldType)).before args0 about1 = true := code_word (m := ⟨8, 0⟩) (meth := k8m0) (c := k8c0) (by decide +kernel) rfl rfl rfl (by decide +kernel)
set_option maxRecDepth 65536 in
theorem w_c2 : (Jvm.Cond.code ({ cls := "java/lang/Object", name := "<init>", desc := "()V" } : Jvm.MethodName) object_method_1_code (1 : Nat) (Option.none : Option Jvm.ClassFile.FieldType)).before args0 about1 = true := code_word (m := ⟨0, 0⟩) (meth := k0m0) (c := k0c0) (by decide +kernel) rfl rfl rfl (by decide +kernel)
set_option maxRecDepth 65536 in
theorem w_c3 : (Jvm.Cond.code ({ cls := "com/example/teasel/teasel/datatype/Members", name := "add", desc := "(I)V" } : Jvm.MethodName) prog_41_method_2_code (2 : Nat) (Option.none : Option Jvm.ClassFile.FieldType)).before args0 about1 = true := code_word (m := ⟨8, 1⟩) (meth := k8m1) (c := k8c1) (by decide +kernel) rfl rfl rfl (by decide +kernel)
set_option maxRecDepth 65536 in
theorem w_c4 : (Jvm.Cond.code ({ cls := "com/example/teasel/teasel/datatype/Members", name := "compareNames", desc := "(II)I" } : Jvm.MethodName) prog_41_method_9_code (7 : Nat) (Option.some Jvm.ClassFile.FieldType.int)).before args0 about1 = true := code_word (m := ⟨8, 3⟩) (meth := k8m3) (c := k8c3) (by decide +kernel) rfl rfl rfl (by decide +kernel)
set_option maxRecDepth 65536 in
theorem w_c5 : (Jvm.Cond.code ({ cls := "java/lang/String", name := "charAt", desc := "(I)C" } : Jvm.MethodName) jdk_42_method_56_code (2 : Nat) (Option.some Jvm.ClassFile.FieldType.char)).before args0 about1 = true := code_word (m := ⟨7, 1⟩) (meth := k7m1) (c := k7c1) (by decide +kernel) rfl rfl rfl (by decide +kernel)
set_option maxRecDepth 65536 in
theorem w_c6 : (Jvm.Cond.code ({ cls := "java/lang/String", name := "isLatin1", desc := "()Z" } : Jvm.MethodName) jdk_42_method_154_code (1 : Nat) (Option.some Jvm.ClassFile.FieldType.boolean)).before args0 about1 = true := code_word (m := ⟨7, 2⟩) (meth := k7m2) (c := k7c2) (by decide +kernel) rfl rfl rfl (by decide +kernel)
set_option maxRecDepth 65536 in
theorem w_c7 : (Jvm.Cond.code ({ cls := "java/lang/StringLatin1", name := "charAt", desc := "([BI)C" } : Jvm.MethodName) jdk_43_method_2_code (2 : Nat) (Option.some Jvm.ClassFile.FieldType.char)).before args0 about1 = true := code_word (m := ⟨9, 1⟩) (meth := k9m1) (c := k9c1) (by decide +kernel) rfl rfl rfl (by decide +kernel)
set_option maxRecDepth 65536 in
theorem w_c8 : (Jvm.Cond.code ({ cls := "java/lang/String", name := "checkIndex", desc := "(II)V" } : Jvm.MethodName) jdk_42_method_155_code (2 : Nat) (Option.none : Option Jvm.ClassFile.FieldType)).before args0 about1 = true := code_word (m := ⟨7, 3⟩) (meth := k7m3) (c := k7c3) (by decide +kernel) rfl rfl rfl (by decide +kernel)
set_option maxRecDepth 65536 in
theorem w_c9 : (Jvm.Cond.code ({ cls := "jdk/internal/util/Preconditions", name := "checkIndex", desc := "(IILjava/util/function/BiFunction;)I" } : Jvm.MethodName) jdk_41_method_11_code (3 : Nat) (Option.some Jvm.ClassFile.FieldType.int)).before args0 about1 = true := code_word (m := ⟨10, 1⟩) (meth := k10m1) (c := k10c1) (by decide +kernel) rfl rfl rfl (by decide +kernel)
set_option maxRecDepth 65536 in
theorem w_c10 : (Jvm.Cond.code ({ cls := "com/example/teasel/teasel/datatype/Members", name := "end", desc := "(II)I" } : Jvm.MethodName) prog_41_method_6_code (3 : Nat) (Option.some Jvm.ClassFile.FieldType.int)).before args0 about1 = true := code_word (m := ⟨8, 2⟩) (meth := k8m2) (c := k8c2) (by decide +kernel) rfl rfl rfl (by decide +kernel)
def codes1 : List Jvm.Cond := [Jvm.Cond.code x code maxLocals ret, Jvm.Cond.code ({ cls := "com/example/teasel/teasel/datatype/Members", name := "<init>", desc := "(Ljava/lang/CharSequence;)V" } : Jvm.MethodName) prog_41_method_1_code (2 : Nat) (Option.none : Option Jvm.ClassFile.FieldType), Jvm.Cond.code ({ cls := "java/lang/Object", name := "<init>", desc := "()V" } : Jvm.MethodName) object_method_1_code (1 : Nat) (Option.none : Option Jvm.ClassFile.FieldType), Jvm.Cond.code ({ cls := "com/example/teasel/teasel/datatype/Members", name := "add", desc := "(I)V" } : Jvm.MethodName) prog_41_method_2_code (2 : Nat) (Option.none : Option Jvm.ClassFile.FieldType), Jvm.Cond.code ({ cls := "com/example/teasel/teasel/datatype/Members", name := "compareNames", desc := "(II)I" } : Jvm.MethodName) prog_41_method_9_code (7 : Nat) (Option.some Jvm.ClassFile.FieldType.int), Jvm.Cond.code ({ cls := "java/lang/String", name := "charAt", desc := "(I)C" } : Jvm.MethodName) jdk_42_method_56_code (2 : Nat) (Option.some Jvm.ClassFile.FieldType.char), Jvm.Cond.code ({ cls := "java/lang/String", name := "isLatin1", desc := "()Z" } : Jvm.MethodName) jdk_42_method_154_code (1 : Nat) (Option.some Jvm.ClassFile.FieldType.boolean), Jvm.Cond.code ({ cls := "java/lang/StringLatin1", name := "charAt", desc := "([BI)C" } : Jvm.MethodName) jdk_43_method_2_code (2 : Nat) (Option.some Jvm.ClassFile.FieldType.char), Jvm.Cond.code ({ cls := "java/lang/String", name := "checkIndex", desc := "(II)V" } : Jvm.MethodName) jdk_42_method_155_code (2 : Nat) (Option.none : Option Jvm.ClassFile.FieldType), Jvm.Cond.code ({ cls := "jdk/internal/util/Preconditions", name := "checkIndex", desc := "(IILjava/util/function/BiFunction;)I" } : Jvm.MethodName) jdk_41_method_11_code (3 : Nat) (Option.some Jvm.ClassFile.FieldType.int), Jvm.Cond.code ({ cls := "com/example/teasel/teasel/datatype/Members", name := "end", desc := "(II)I" } : Jvm.MethodName) prog_41_method_6_code (3 : Nat) (Option.some Jvm.ClassFile.FieldType.int)]
set_option maxRecDepth 65536 in
theorem codes_eq : words1.filter isCode = codes1 := rfl
theorem w_codes : ∀ c ∈ words1.filter isCode, c.before args0 about1 = true := by
  rw [codes_eq]
  intro c hc
  simp only [codes1, List.mem_cons, List.not_mem_nil, or_false] at hc
  rcases hc with rfl | rfl | rfl | rfl | rfl | rfl | rfl | rfl | rfl | rfl | rfl
  · exact w_c0
  · exact w_c1
  · exact w_c2
  · exact w_c3
  · exact w_c4
  · exact w_c5
  · exact w_c6
  · exact w_c7
  · exact w_c8
  · exact w_c9
  · exact w_c10
set_option maxRecDepth 65536 in
theorem w_t1 : (words1.take 24).all (fun c => isCode c || c.before args0 about1) = true := by decide +kernel
set_option maxRecDepth 65536 in
theorem w_t2 : ((words1.drop 24).take 24).all (fun c => isCode c || c.before args0 about1) = true := by decide +kernel
set_option maxRecDepth 65536 in
theorem w_t3 : ((words1.drop 24).drop 24).all (fun c => isCode c || c.before args0 about1) = true := by decide +kernel
theorem w_tables : (allAtoms (Jvm.Cond.code x code maxLocals ret :: tables_1)).before args0 about1 = true := by
  rw [allAtoms_all]
  show words1.all (fun c => c.before args0 about1) = true
  refine all_split ?_ w_codes
  rw [← List.take_append_drop 24 words1, List.all_append, w_t1, ← List.take_append_drop 24 (words1.drop 24), List.all_append, w_t2, w_t3]
  rfl
set_option maxRecDepth 65536 in
theorem w_rest : rest_1_c.before args0 about1 = true := by decide +kernel
set_option maxRecDepth 65536 in
theorem w_case : (Jvm.Cond.and given_1 narrow_1).before args0 about1 = true := by decide +kernel
set_option maxRecDepth 65536 in
theorem w_consts : constsHeld consts_1 about1 := Jvm.Lit.constsHeldB_iff.mp (by decide +kernel)
theorem w_applies : (headSpec (Jvm.Cond.code x code maxLocals ret :: tables_1) room_1).applies x e0.platform about1 = true :=
  (Spec.applies_iff w_frames).mpr ⟨w_running, w_runnable, w_alone, w_named, w_hears, w_ripe, w_room, w_tables⟩
theorem atStart : AtStart classFile x code maxLocals ret World_1 tables_1 room_1 Calls_1 rest_1 Pre_1 launch0 p0 e0 about1 theMethod args0 below0 :=
  ⟨lists_1, trivial, launch0.admits_env _ _ _, launch0.least_env, fairChoices_fair.cas, fairChoices_fair.clock, w_frames, w_args, w_heap, w_applies, ⟨w_consts, trivial⟩, w_rest, w_case⟩
end start1
theorem witness_1 : WitnessClaimed_1 := ⟨start1.p0, start1.e0, start1.about1, start1.theMethod, start1.args0, start1.below0, start1.atStart⟩
end Jvm.Pilot.@@N@@
