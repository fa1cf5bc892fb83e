import JvmDerived
import JvmDerived.Pilot.@@N@@Statement
import JvmDerived.Pilot.@@N@@Code
set_option linter.unusedVariables false
set_option linter.unusedSimpArgs false
namespace Jvm.RoadKit
open Sem ClassFile Op Lib Jvm.Stand Jvm.Free Jvm.LawKit
section New
variable {p : Program} {l : Launch} {e : Env} {R : Room} {s : State} {m : MethodId} {args : Array Value} {below : List Frame} {meth : Method} {c : Code} {T : State} {locs : List Loc} {cells slots : Nat}
theorem retI (X : Stand p l e R s m args below meth c T locs cells slots) (hx : p.tables.exec = Jvm.exec) {pc : Nat} {Ls : Array Slot} {z : Int32} {rest : List Value} (hret : meth.sig.returnType = some .int) (hd : decode c.code pc = .ok (.ireturn, 1)) {fs : List Frame}
    (hl : ∀ (f : JFrame) (acts : List Action), f.method = m → f.locked = none → f.entered = [] → (doReturn e (T.setTop f) acts (some (.int z))).1 = T.setFrames fs) : Steps p.tables e below (T.setTop (mkF m pc Ls (.int z :: rest))) (T.setFrames fs) := by
  have hm' : T.vm.method? m = some meth := X.method'
  have hn : narrow .int (.int z) = .int z := rfl
  show Steps p.tables e below (T.setTop { method := m, pc := pc, locals := Ls, stack := _ :: rest, locked := none }) _
  jvm_step X.here [X.here.top, hx, hd, hm', hret, hn]
  first | (intro acts; rw [hl _ acts rfl rfl rfl]) | rw [hl _ _ rfl rfl rfl]
  exact Steps.refl _
end New
end Jvm.RoadKit
namespace Jvm.Pilot.@@N@@
open Jvm Jvm.ClassFile Sem Op Lib Jvm.Free Jvm.Stand Jvm.LawKit Jvm.RoadKit Bundle Jvm.Pilot.@@N@@.Jvm.D
/-- from A the invocation comes to its end: it returns some v, P holds of v, of the heap and of the places written, and the frame is kept -/
def Rt (p : Program) (e : Env) (below : List Frame) (s : State) (k n : Nat) (P : Option Value → Heap → List Loc → Prop) (A : State) : Prop :=
  ∃ s₂ o, Steps p.tables e below A s₂ ∧ s₂.status = .running ∧ Ended s₂ below o ∧ ∃ v L, o = .returned v ∧ P v s₂.heap L ∧ FrameEnd s o s₂ L k n
/-- where the walk stands: its heap, and that all it wrote lies at n0 or above -/
def Sd (p : Program) (l : Launch) (e : Env) (R : Room) (s : State) (m : MethodId) (args : Array Value) (below : List Frame) (meth : Method) (c : Code) (T : State) (n0 cells slots : Nat) (h : Heap) : Prop :=
  ∃ locs, Stand p l e R s m args below meth c T locs cells slots ∧ Fr n0 locs ∧ T.heap = h
def lcv (j : Fin 2) : Int64 := Int64.ofNat j.val
section Own
variable {p : Program} {l : Launch} {e : Env} {R : Room} {s : State} {m : MethodId} {args : Array Value} {below : List Frame} {meth : Method} {c : Code} {T : State} {n0 cells slots : Nat} {h0 : Heap} {k n : Nat} {P : Option Value → Heap → List Loc → Prop}
theorem Rt.go {A B : State} (f : ∀ t, Steps p.tables e below B t → Steps p.tables e below A t) (h : Rt p e below s k n P B) : Rt p e below s k n P A := by
  obtain ⟨s₂, o, h1, h2⟩ := h
  exact ⟨s₂, o, f _ h1, h2⟩
theorem Rt.iloadN (X : Sd p l e R s m args below meth c T n0 cells slots h0) (hx : p.tables.exec = Jvm.exec) {pc pc' : Nat} {Ls : Array Slot} {S : List Value} {j : Fin 4} {v : Int32} (hd : decode c.code pc = .ok (.iload_n j, 1)) (hl : Ls[j.val]? = some (.val (.int v))) (hp : pc + 1 = pc')
    (h : Rt p e below s k n P (T.setTop (mkF m pc' Ls (.int v :: S)))) : Rt p e below s k n P (T.setTop (mkF m pc Ls (S))) := by
  subst hp; obtain ⟨_, X, _, _⟩ := X; exact Rt.go (fun _ => XS.iloadN X.here hx rfl hd hl) h
theorem Rt.aloadN (X : Sd p l e R s m args below meth c T n0 cells slots h0) (hx : p.tables.exec = Jvm.exec) {pc pc' : Nat} {Ls : Array Slot} {S : List Value} {j : Fin 4} {v : Value} (hd : decode c.code pc = .ok (.aload_n j, 1)) (hl : Ls[j.val]? = some (.val v)) (hv : v.isRef = true) (hp : pc + 1 = pc')
    (h : Rt p e below s k n P (T.setTop (mkF m pc' Ls (v :: S)))) : Rt p e below s k n P (T.setTop (mkF m pc Ls (S))) := by
  subst hp; obtain ⟨_, X, _, _⟩ := X; exact Rt.go (fun _ => XS.aloadN X.here hx rfl hd hl hv) h
theorem Rt.iconst (X : Sd p l e R s m args below meth c T n0 cells slots h0) (hx : p.tables.exec = Jvm.exec) {pc pc' : Nat} {Ls : Array Slot} {S : List Value} {i : Int} {v : Int32} (hd : decode c.code pc = .ok (.iconst i, 1)) (hv : Int32.ofInt i = v) (hp : pc + 1 = pc')
    (h : Rt p e below s k n P (T.setTop (mkF m pc' Ls (.int v :: S)))) : Rt p e below s k n P (T.setTop (mkF m pc Ls S)) := by
  subst hp hv; obtain ⟨_, X, _, _⟩ := X; exact Rt.go (fun _ => XS.iconst X.here hx rfl hd) h
theorem Rt.bipush (X : Sd p l e R s m args below meth c T n0 cells slots h0) (hx : p.tables.exec = Jvm.exec) {pc pc' : Nat} {Ls : Array Slot} {S : List Value} {i : Int} {v : Int32} (hd : decode c.code pc = .ok (.bipush i, 2)) (hv : (Int8.ofInt i).toInt32 = v) (hp : pc + 2 = pc')
    (h : Rt p e below s k n P (T.setTop (mkF m pc' Ls (.int v :: S)))) : Rt p e below s k n P (T.setTop (mkF m pc Ls S)) := by
  subst hp hv; obtain ⟨_, X, _, _⟩ := X; exact Rt.go (fun _ => XS.bipush X.here hx rfl hd) h
theorem Rt.sipush (X : Sd p l e R s m args below meth c T n0 cells slots h0) (hx : p.tables.exec = Jvm.exec) {pc pc' : Nat} {Ls : Array Slot} {S : List Value} {i : Int} {v : Int32} (hd : decode c.code pc = .ok (.sipush i, 3)) (hv : (Int16.ofInt i).toInt32 = v) (hp : pc + 3 = pc')
    (h : Rt p e below s k n P (T.setTop (mkF m pc' Ls (.int v :: S)))) : Rt p e below s k n P (T.setTop (mkF m pc Ls S)) := by
  subst hp hv; obtain ⟨_, X, _, _⟩ := X; exact Rt.go (fun _ => XS.sipush X.here hx rfl hd) h
theorem Rt.iadd (X : Sd p l e R s m args below meth c T n0 cells slots h0) (hx : p.tables.exec = Jvm.exec) {pc pc' : Nat} {Ls : Array Slot} {S : List Value} {x y r : Int32} (hd : decode c.code pc = .ok (.iadd, 1)) (hr : x + y = r) (hp : pc + 1 = pc')
    (h : Rt p e below s k n P (T.setTop (mkF m pc' Ls (.int r :: S)))) : Rt p e below s k n P (T.setTop (mkF m pc Ls (.int y :: .int x :: S))) := by
  subst hp hr; obtain ⟨_, X, _, _⟩ := X; exact Rt.go (fun _ => XS.iadd X.here hx rfl hd rfl) h
theorem Rt.isub (X : Sd p l e R s m args below meth c T n0 cells slots h0) (hx : p.tables.exec = Jvm.exec) {pc pc' : Nat} {Ls : Array Slot} {S : List Value} {x y r : Int32} (hd : decode c.code pc = .ok (.isub, 1)) (hr : x - y = r) (hp : pc + 1 = pc')
    (h : Rt p e below s k n P (T.setTop (mkF m pc' Ls (.int r :: S)))) : Rt p e below s k n P (T.setTop (mkF m pc Ls (.int y :: .int x :: S))) := by
  subst hp hr; obtain ⟨_, X, _, _⟩ := X; exact Rt.go (fun _ => XS.isub X.here hx rfl hd rfl) h
theorem Rt.iand (X : Sd p l e R s m args below meth c T n0 cells slots h0) (hx : p.tables.exec = Jvm.exec) {pc pc' : Nat} {Ls : Array Slot} {S : List Value} {x y r : Int32} (hd : decode c.code pc = .ok (.iand, 1)) (hr : x &&& y = r) (hp : pc + 1 = pc')
    (h : Rt p e below s k n P (T.setTop (mkF m pc' Ls (.int r :: S)))) : Rt p e below s k n P (T.setTop (mkF m pc Ls (.int y :: .int x :: S))) := by
  subst hp hr; obtain ⟨_, X, _, _⟩ := X; exact Rt.go (fun _ => XS.iand X.here hx rfl hd rfl) h
theorem Rt.i2c (X : Sd p l e R s m args below meth c T n0 cells slots h0) (hx : p.tables.exec = Jvm.exec) {pc pc' : Nat} {Ls : Array Slot} {S : List Value} {v : Int32} {r : Int32} (hd : decode c.code pc = .ok (.i2c, 1)) (hr : v.toUInt32.toUInt16.toUInt32.toInt32 = r) (hp : pc + 1 = pc')
    (h : Rt p e below s k n P (T.setTop (mkF m pc' Ls (.int r :: S)))) : Rt p e below s k n P (T.setTop (mkF m pc Ls (.int v :: S))) := by
  subst hp hr; obtain ⟨_, X, _, _⟩ := X; exact Rt.go (fun _ => XS.i2c X.here hx rfl hd rfl) h
theorem Rt.pop (X : Sd p l e R s m args below meth c T n0 cells slots h0) (hx : p.tables.exec = Jvm.exec) {pc pc' : Nat} {Ls : Array Slot} {S : List Value} {x : Value} (hd : decode c.code pc = .ok (.pop, 1)) (hc : x.category = 1) (hp : pc + 1 = pc')
    (h : Rt p e below s k n P (T.setTop (mkF m pc' Ls (S)))) : Rt p e below s k n P (T.setTop (mkF m pc Ls (x :: S))) := by
  subst hp; obtain ⟨_, X, _, _⟩ := X; exact Rt.go (fun _ => XS.pop X.here hx rfl hd rfl hc) h
theorem Rt.goto (X : Sd p l e R s m args below meth c T n0 cells slots h0) (hx : p.tables.exec = Jvm.exec) {pc pc' : Nat} {Ls : Array Slot} {S : List Value} {o : Int} (hd : decode c.code pc = .ok (.goto o, 3)) (ho : 0 ≤ (pc : Int) + o) (hp : ((pc : Int) + o).toNat = pc')
    (h : Rt p e below s k n P (T.setTop (mkF m pc' Ls S))) : Rt p e below s k n P (T.setTop (mkF m pc Ls S)) := by
  obtain ⟨_, X, _, _⟩ := X; exact Rt.go (fun _ => XS.goto X.here hx rfl (pc0 := pc) rfl hd ho hp) h
theorem Rt.ifN (X : Sd p l e R s m args below meth c T n0 cells slots h0) (hx : p.tables.exec = Jvm.exec) {pc pc' : Nat} {Ls : Array Slot} {S : List Value} {o : Int} {cd : ClassFile.Cond} {x : Int32} (hd : decode c.code pc = .ok (.ifCond cd o, 3)) (hc : ifCond.holds cd x = false) (hp : pc + 3 = pc')
    (h : Rt p e below s k n P (T.setTop (mkF m pc' Ls S))) : Rt p e below s k n P (T.setTop (mkF m pc Ls (.int x :: S))) := by
  subst hp; obtain ⟨_, X, _, _⟩ := X; exact Rt.go (fun _ => XS.ifNo X.here hx rfl hd rfl hc) h
theorem Rt.icmpY (X : Sd p l e R s m args below meth c T n0 cells slots h0) (hx : p.tables.exec = Jvm.exec) {pc pc' : Nat} {Ls : Array Slot} {S : List Value} {o : Int} {cd : ClassFile.Cond} {x y : Int32} (hd : decode c.code pc = .ok (.if_icmp cd o, 3)) (hc : if_icmp.holds cd x y = true) (ho : 0 ≤ (pc : Int) + o) (hp : ((pc : Int) + o).toNat = pc')
    (h : Rt p e below s k n P (T.setTop (mkF m pc' Ls S))) : Rt p e below s k n P (T.setTop (mkF m pc Ls (.int y :: .int x :: S))) := by
  obtain ⟨_, X, _, _⟩ := X; exact Rt.go (fun _ => XS.icmpYes X.here hx rfl (pc0 := pc) rfl hd rfl hc ho hp) h
theorem Rt.icmpN (X : Sd p l e R s m args below meth c T n0 cells slots h0) (hx : p.tables.exec = Jvm.exec) {pc pc' : Nat} {Ls : Array Slot} {S : List Value} {o : Int} {cd : ClassFile.Cond} {x y : Int32} (hd : decode c.code pc = .ok (.if_icmp cd o, 3)) (hc : if_icmp.holds cd x y = false) (hp : pc + 3 = pc')
    (h : Rt p e below s k n P (T.setTop (mkF m pc' Ls S))) : Rt p e below s k n P (T.setTop (mkF m pc Ls (.int y :: .int x :: S))) := by
  subst hp; obtain ⟨_, X, _, _⟩ := X; exact Rt.go (fun _ => XS.icmpNo X.here hx rfl hd rfl hc) h
theorem Rt.retZ (X : Sd p l e R s m args below meth c T n0 cells slots h0) (hx : p.tables.exec = Jvm.exec) (hlk : meth.locks = false) {t : FieldType} (hret : meth.sig.returnType = some t) (ht : t = .boolean ∨ t = .byte ∨ t = .char ∨ t = .short) {pc : Nat} {Ls : Array Slot} {S : List Value} {z w : Int32} (hd : decode c.code pc = .ok (.ireturn, 1)) (hw : nar t z = w) (hk : cells ≤ k) (hn : slots ≤ n)
    (hP : ∀ L, Fr n0 L → P (some (.int w)) h0 L) : Rt p e below s k n P (T.setTop (mkF m pc Ls (.int z :: S))) := by
  subst hw; obtain ⟨locs, X, N, eh⟩ := X
  obtain ⟨fs, hr, hrun, hended, hW, hsame⟩ := X.leave (v := some (.int (nar t z))) (fun h => by rw [hret] at h; cases h) hlk
  exact ⟨_, _, retN X hx hret ht hd hr, hrun, hended, _, _, rfl, by show P _ T.heap _; rw [eh]; exact hP _ N, ⟨_, rfl⟩, hW, hsame.mono hk hn⟩
theorem Rt.retI (X : Sd p l e R s m args below meth c T n0 cells slots h0) (hx : p.tables.exec = Jvm.exec) (hlk : meth.locks = false) (hret : meth.sig.returnType = some .int) {pc : Nat} {Ls : Array Slot} {S : List Value} {z : Int32} (hd : decode c.code pc = .ok (.ireturn, 1)) (hk : cells ≤ k) (hn : slots ≤ n)
    (hP : ∀ L, Fr n0 L → P (some (.int z)) h0 L) : Rt p e below s k n P (T.setTop (mkF m pc Ls (.int z :: S))) := by
  obtain ⟨locs, X, N, eh⟩ := X
  obtain ⟨fs, hr, hrun, hended, hW, hsame⟩ := X.leave (v := some (.int z)) (fun h => by rw [hret] at h; cases h) hlk
  exact ⟨_, _, Jvm.RoadKit.retI X hx hret hd hr, hrun, hended, _, _, rfl, by show P _ T.heap _; rw [eh]; exact hP _ N, ⟨_, rfl⟩, hW, hsame.mono hk hn⟩
theorem Rt.retV (X : Sd p l e R s m args below meth c T n0 cells slots h0) (hx : p.tables.exec = Jvm.exec) (hlk : meth.locks = false) (hret : meth.sig.returnType = none) {pc : Nat} {Ls : Array Slot}  (hd : decode c.code pc = .ok (.return_, 1)) (hk : cells ≤ k) (hn : slots ≤ n)
    (hP : ∀ L, Fr n0 L → P none h0 L) : Rt p e below s k n P (T.setTop (mkF m pc Ls [])) := by
  obtain ⟨locs, X, N, eh⟩ := X
  obtain ⟨fs, hr, hrun, hended, hW, hsame⟩ := X.leave (v := none) (fun _ => rfl) hlk
  exact ⟨_, _, X.returnOut hx hret hd hr, hrun, hended, _, _, rfl, by show P _ T.heap _; rw [eh]; exact hP _ N, ⟨_, rfl⟩, hW, hsame.mono hk hn⟩
abbrev Mt (l : Launch) (Z : State) (y : MethodName) (ws : List Jvm.Cond) (rm : Room) (as' : Array Value) (h : Heap) (Q : Option Value → Heap → List Loc → Prop) : Prop :=
  MetFree l y (head1 ws rm) (fun a U => a = as' ∧ Z.Warmed39 U.vm ∧ U.heap = h) (fun _ _ _ _ _ => True) (fun _ U o U' => ∃ v L, o = .returned v ∧ Q v U'.heap L ∧ FrameEnd U o U' L rm.cells rm.slots)
/-- from a body's walk to its contract -/
theorem Mt.of {Z : State} {y : MethodName} {bytes : ByteArray} {maxL : Nat} {ret : Option FieldType} {ws : List Jvm.Cond} {rm : Room} {as' : Array Value} {h : Heap} {Q : Option Value → Heap → List Loc → Prop} (n0 : Nat) (hpl : plainFor y = true)
    (body : ∀ (p : Program) (e : Env) (s : State) (m : MethodId) (below : List Frame) (meth : Method) (c : Code) (T : State), Sd p l e rm s m as' below meth c T n0 0 0 h → p.tables.exec = Jvm.exec → Z.Warmed39 s.vm → c.code = bytes → c.maxLocals = maxL → s.vm.findClass y.cls = some m.cls → meth.sig.returnType = ret → meth.locks = false → meth.name = y.name → s.heap = h →
      Rt p e below s rm.cells rm.slots Q (T.setTop (entryFrame m as' maxL))) : Mt l Z y (Jvm.Cond.code y bytes maxL ret :: ws) rm as' h Q := by
  refine MetFree.of_bodySF hpl hisR ?_
  intro p e s m args below meth c s₁ Bd hml0 hP hK
  obtain ⟨rfl, hZ, hh⟩ := hP
  have e0 : s₁.heap = h := by rw [← hh, Bd.state]; rfl
  obtain ⟨s₂, o, h1, h2, h3, v, L, h4, h5, h6⟩ := body p e s m below meth c s₁ ⟨[], Stand.of_body Bd, Fr.nil n0, e0⟩ Bd.exec hZ Bd.bytes hml0 (findClass_of_methodNamed Bd.named) Bd.returns (BodyLoose.notSynchronized Bd) (name_of_methodNamed Bd.named Bd.method).1 hh
  exact ⟨s₂, o, h1, h2, h3, v, L, h4, h5, h6⟩
theorem Rt.callS (X : Sd p l e R s m args below meth c T n0 cells slots h0) (hx : p.tables.exec = Jvm.exec) {Z : State} {a0 : Array Value} (hZ : Z.Warmed39 s.vm) {own : String} {index : Nat} {y : MethodName} {bytes : ByteArray} {maxL W : Nat} {ret : Option FieldType} {rm : Room} {as' : Array Value} {Q : Option Value → Heap → List Loc → Prop}
    (hown : s.vm.findClass own = some m.cls) (w1 : (Cond.methodLink own index y).before a0 Z = true) (w2 : (Cond.static y).before a0 Z = true) (w3 : (Cond.initialized y.cls).before a0 Z = true) (w4 : (Cond.code y bytes maxL ret).before a0 Z = true) (hy : y.cls ≠ "java/lang/invoke/MethodHandle" ∧ y.cls ≠ "java/lang/invoke/VarHandle")
    (hM : Mt l Z y [Cond.code y bytes maxL ret] rm as' h0 Q) (hF : ∀ v h L, Q v h L → Fr n0 L) (hf : rm.frames + 1 ≤ R.frames) (hl : W + (maxL + 11) + rm.locals ≤ R.locals) (hc : cells + rm.cells ≤ R.cells) (hs : slots + rm.slots ≤ R.slots)
    {pc pc' : Nat} {Ls : Array Slot} {S argsL rest : List Value} (hsize : Ls.size = c.maxLocals) (hlen : ∀ sig, parseMethodDescriptor y.desc = some sig → argsL.length = sig.parameters.length) (hst : S = argsL.reverse ++ rest) (has : argsL.toArray = as') (hW : (rest.map fun v => v.category).sum ≤ W) (hd : decode c.code pc = .ok (.invokestatic index, 3)) (hp : pc + 3 = pc')
    (hh : ∀ v T' h' L, Sd p l e R s m args below meth c T' n0 (cells + rm.cells) (slots + rm.slots) h' → Q v h' L → Rt p e below s k n P (T'.setTop (mkF m pc' Ls (v.toList ++ rest)))) : Rt p e below s k n P (T.setTop (mkF m pc Ls S)) := by
  subst hp has
  obtain ⟨locs, X, N, eT⟩ := X
  obtain ⟨v, _, ⟨T', L', k', n'⟩, -, X', ⟨Lc, hQ, l', y', z'⟩, st⟩ := Jvm.LawKit.callS X hx (y := y) hown (mvT hZ w1) (mvT hZ w2) (mvT hZ w3) (mvT hZ w4) hy (backOf (W := W) hM hZ w4 w3 hf hl) (g := mkF m pc Ls S) rfl hsize (argsL := argsL) (rest := rest) hlen hst (by show 2 * 0 + _ ≤ _; omega) hd (fun _ _ => ⟨rfl, eT, hc, hs⟩)
  dsimp only [Pt.U, Pt.locs, Pt.cells, Pt.slots] at X' l' y' z' st hQ
  subst l' y' z'
  exact Rt.go st (hh v T' _ Lc ⟨_, X', Fr.app N (hF _ _ _ hQ), rfl⟩ hQ)
/-- a static method that writes nothing -/
theorem Rt.callP (X : Sd p l e R s m args below meth c T n0 cells slots h0) (hx : p.tables.exec = Jvm.exec) {Z : State} {a0 : Array Value} (hZ : Z.Warmed39 s.vm) {own : String} {index : Nat} {y : MethodName} {bytes : ByteArray} {maxL W : Nat} {ret : Option FieldType} {rm : Room} {as' : Array Value} {r : Value}
    (hown : s.vm.findClass own = some m.cls) (w1 : (Cond.methodLink own index y).before a0 Z = true) (w2 : (Cond.static y).before a0 Z = true) (w3 : (Cond.initialized y.cls).before a0 Z = true) (w4 : (Cond.code y bytes maxL ret).before a0 Z = true) (hy : y.cls ≠ "java/lang/invoke/MethodHandle" ∧ y.cls ≠ "java/lang/invoke/VarHandle")
    (hM : Mt l Z y [Cond.code y bytes maxL ret] rm as' h0 (fun v h L => v = some r ∧ Fr n0 L ∧ h = h0)) (hf : rm.frames + 1 ≤ R.frames) (hl : W + (maxL + 11) + rm.locals ≤ R.locals) (hc : cells + rm.cells ≤ R.cells) (hs : slots + rm.slots ≤ R.slots) (hc0 : rm.cells = 0) (hs0 : rm.slots = 0)
    {pc pc' : Nat} {Ls : Array Slot} {S argsL rest : List Value} (hsize : Ls.size = c.maxLocals) (hlen : ∀ sig, parseMethodDescriptor y.desc = some sig → argsL.length = sig.parameters.length) (hst : S = argsL.reverse ++ rest) (has : argsL.toArray = as') (hW : (rest.map fun v => v.category).sum ≤ W) (hd : decode c.code pc = .ok (.invokestatic index, 3)) (hp : pc + 3 = pc')
    (hh : ∀ T', Sd p l e R s m args below meth c T' n0 cells slots h0 → Rt p e below s k n P (T'.setTop (mkF m pc' Ls (r :: rest)))) : Rt p e below s k n P (T.setTop (mkF m pc Ls S)) := by
  refine Rt.callS X hx hZ hown w1 w2 w3 w4 hy hM (fun _ _ _ q => q.2.1) hf hl hc hs hsize hlen hst has hW hd hp ?_
  rintro v T' h' L X' ⟨rfl, _, rfl⟩
  rw [hc0, hs0, Nat.add_zero, Nat.add_zero] at X'
  exact hh T' X'
/-- an instance method, by the contract of the body that the receiver's class selects -/
theorem Rt.callV (X : Sd p l e R s m args below meth c T n0 cells slots h0) (hx : p.tables.exec = Jvm.exec) {Z : State} {a0 : Array Value} (hZ : Z.Warmed39 s.vm) {own : String} {index : Nat} {y : MethodName} {bytes : ByteArray} {maxL W : Nat} {ret : Option FieldType} {rm : Room} {as' : Array Value} {Q : Option Value → Heap → List Loc → Prop} {K : String} {yz : MethodName}
    (hown : s.vm.findClass own = some m.cls) (w1 : (Cond.methodLink own index y).before a0 Z = true) (w2 : (Cond.declares y).before a0 Z = true) (hnf : NotFace s y) (w5 : (Cond.selects K y yz).before a0 Z = true) (w6 : (Cond.instanceMethod yz).before a0 Z = true) (w3 : (Cond.initialized yz.cls).before a0 Z = true) (w4 : (Cond.code yz bytes maxL ret).before a0 Z = true) (hy : y.cls ≠ "java/lang/invoke/MethodHandle" ∧ y.cls ≠ "java/lang/invoke/VarHandle")
    {a : Addr} (E : Exa Z h0 a K) (hM : Mt l Z yz [Cond.code yz bytes maxL ret] rm as' h0 Q) (hF : ∀ v h L, Q v h L → Fr n0 L) (hf : rm.frames + 1 ≤ R.frames) (hl : W + (maxL + 11) + rm.locals ≤ R.locals) (hc : cells + rm.cells ≤ R.cells) (hs : slots + rm.slots ≤ R.slots)
    {pc pc' : Nat} {Ls : Array Slot} {S argsL rest : List Value} (hsize : Ls.size = c.maxLocals) (hlen : ∀ sig, parseMethodDescriptor y.desc = some sig → argsL.length = sig.parameters.length) (hst : S = argsL.reverse ++ .ref a :: rest) (has : (.ref a :: argsL).toArray = as') (hW : (rest.map fun v => v.category).sum ≤ W) (hd : decode c.code pc = .ok (.invokevirtual index, 3)) (hp : pc + 3 = pc')
    (hh : ∀ v T' h' L, Sd p l e R s m args below meth c T' n0 (cells + rm.cells) (slots + rm.slots) h' → Q v h' L → Rt p e below s k n P (T'.setTop (mkF m pc' Ls (v.toList ++ rest)))) : Rt p e below s k n P (T.setTop (mkF m pc Ls S)) := by
  subst hp has
  obtain ⟨locs, X, N, eT⟩ := X
  obtain ⟨cq, kq, qa, qb, qc⟩ := isOf hZ eT E
  obtain ⟨v, _, ⟨T', L', k', n'⟩, -, X', ⟨Lc, hQ, l', y', z'⟩, st⟩ := X.virtualBack hx (y := y) (z := yz) hown (mvT hZ w1) (mvT hZ w2) hnf (mvT hZ w5) (mvT hZ w6) hy (backOf (W := W) hM hZ w4 w3 hf hl) qa qc (g := mkF m pc Ls S) rfl hsize (Steps.refl _) (argsL := argsL) (rest := rest) hlen hst (by show 2 * 0 + _ ≤ _; omega) hd (fun _ _ => ⟨rfl, eT, hc, hs⟩)
  dsimp only [Pt.U, Pt.locs, Pt.cells, Pt.slots] at X' l' y' z' st hQ
  subst l' y' z'
  exact Rt.go (fun _ q => st.trans q) (hh v T' _ Lc ⟨_, X', Fr.app N (hF _ _ _ hQ), rfl⟩ hQ)
/-- a constructor by its contract -/
theorem Rt.getS (X : Sd p l e R s m args below meth c T n0 cells slots h0) (hx : p.tables.exec = Jvm.exec) {Z : State} {a0 : Array Value} (hZ : Z.Warmed39 s.vm) {own K f d host : String} {index : Nat} (hown : s.vm.findClass own = some m.cls) (w : (Cond.fieldLink own index K f d).before a0 Z = true ∨ (Cond.fieldLinkNest own index K f d host).before a0 Z = true) {v : Value} (F : Sta Z h0 K f d v) {pc pc' : Nat} {Ls : Array Slot} {S : List Value} (hd : decode c.code pc = .ok (.getstatic index, 3)) (hp : pc + 3 = pc')
    (hh : ∀ T', Sd p l e R s m args below meth c T' n0 cells slots h0 → Rt p e below s k n P (T'.setTop (mkF m pc' Ls (v :: S)))) : Rt p e below s k n P (T.setTop (mkF m pc Ls S)) := by
  subst hp
  obtain ⟨locs, X, N, eT⟩ := X
  obtain ⟨T', X', e', st⟩ := getS2 X hx hZ hown (host := host) w Via.refl eT F (g := mkF m pc Ls S) rfl hd
  exact Rt.go st (hh T' ⟨_, X', N, e'⟩)
theorem Rt.getF (X : Sd p l e R s m args below meth c T n0 cells slots h0) (hx : p.tables.exec = Jvm.exec) {Z : State} {a0 : Array Value} (hZ : Z.Warmed39 s.vm) {own K f d host : String} {index : Nat} (hown : s.vm.findClass own = some m.cls) (w : (Cond.fieldLink own index K f d).before a0 Z = true ∨ (Cond.fieldLinkNest own index K f d host).before a0 Z = true) {v : Value} {a : Addr} (F : Fld Z h0 a K f d v) {pc pc' : Nat} {Ls : Array Slot} {S : List Value} (hd : decode c.code pc = .ok (.getfield index, 3)) (hp : pc + 3 = pc')
    (hh : ∀ T', Sd p l e R s m args below meth c T' n0 cells slots h0 → Rt p e below s k n P (T'.setTop (mkF m pc' Ls (v :: S)))) : Rt p e below s k n P (T.setTop (mkF m pc Ls (.ref a :: S))) := by
  subst hp
  obtain ⟨locs, X, N, eT⟩ := X
  obtain ⟨T', X', e', st⟩ := Jvm.RoadKit.getF X hx hZ hown (host := host) w Via.refl eT F (g := mkF m pc Ls (.ref a :: S)) rfl rfl hd
  exact Rt.go st (hh T' ⟨_, X', N, e'⟩)
def IA (Z : State) (h : Heap) (a : Addr) (ty : FieldType) (vs : List Value) : Prop := ∃ cl : Cell, Arr Z h a cl ty ∧ cl.slots = vs.toArray ∧ vs.length < 2 ^ 31
section Arrays
variable {Z : State} {h h' : Heap} {a b : Addr} {ty : FieldType} {vs : List Value}
theorem IA.lt (F : IA Z h a ty vs) : a < h.size := by obtain ⟨_, A, -⟩ := F; exact A.lt
theorem IA.ext (F : IA Z h a ty vs) (E : Ext h h') : IA Z h' a ty vs := by obtain ⟨c, A, r⟩ := F; exact ⟨c, A.ext E, r⟩
theorem IA.other {sl : Nat} {v : Value} (F : IA Z h a ty vs) (W : Wr h h' b sl v) (q : a ≠ b) : IA Z h' a ty vs := by obtain ⟨c, A, r⟩ := F; exact ⟨c, A.other W q, r⟩
theorem IA.keep {ws : List Addr} (F : IA Z h a ty vs) (K : Keep h h' ws) (q : a ∉ ws) : IA Z h' a ty vs := by obtain ⟨c, A, r⟩ := F; exact ⟨c, ⟨K.2.1 a c A.1 q, A.2⟩, r⟩
theorem inA {cl : Cell} {j : Int32} {i : Nat} (r : cl.slots = vs.toArray) (hj : ¬ j < 0) (hi : j.toNatClampNeg = i) (hv : i < vs.length) : ¬ (j < 0 ∨ cl.slots.size ≤ j.toNatClampNeg) := by
  rintro (q | q)
  · exact hj q
  · rw [r, hi] at q; simp at q; omega
end Arrays
theorem Rt.arraylength (X : Sd p l e R s m args below meth c T n0 cells slots h0) (hx : p.tables.exec = Jvm.exec) {Z : State} (hZ : Z.Warmed39 s.vm) {ty : FieldType} {a : Addr} {vs : List Value} (F : IA Z h0 a ty vs) {v : Int32} (hv : vs.length.toInt32 = v) {pc pc' : Nat} {Ls : Array Slot} {S : List Value} (hd : decode c.code pc = .ok (.arraylength, 1)) (hp : pc + 1 = pc')
    (h : Rt p e below s k n P (T.setTop (mkF m pc' Ls (.int v :: S)))) : Rt p e below s k n P (T.setTop (mkF m pc Ls (.ref a :: S))) := by
  subst hp hv
  obtain ⟨locs, X, N, eT⟩ := X
  obtain ⟨cl, A, r, q⟩ := F
  have e1 : vs.length = cl.slots.size := by rw [r]; simp
  rw [e1] at h
  exact Rt.go (X.arraylength hx (by rw [eT]; exact A.1) (State.isArrayOf_alike hZ.alike A.2.1) (g := mkF m pc Ls (.ref a :: S)) rfl rfl hd) h

theorem Rt.baload (X : Sd p l e R s m args below meth c T n0 cells slots h0) (hx : p.tables.exec = Jvm.exec) {Z : State} (hZ : Z.Warmed39 s.vm) {a : Addr} {vs : List Value} (F : IA Z h0 a .byte vs) {j : Int32} {i : Nat} (hi : j.toNatClampNeg = i) (hj : ¬ j < 0) {v : Value} (hv : vs[i]? = some v) {pc pc' : Nat} {Ls : Array Slot} {S : List Value} (hd : decode c.code pc = .ok (.baload, 1)) (hp : pc + 1 = pc')
    (h : Rt p e below s k n P (T.setTop (mkF m pc' Ls (v :: S)))) : Rt p e below s k n P (T.setTop (mkF m pc Ls (.int j :: .ref a :: S))) := by
  subst hp
  obtain ⟨locs, X, N, eT⟩ := X
  obtain ⟨cl, A, r, q⟩ := F
  exact Rt.go (X.baloadBytes hx (j := j) (v := v) (by rw [eT]; exact A.1) (State.isArrayOf_alike hZ.alike A.2.1) A.2.2 (inA r hj hi (List.getElem?_eq_some_iff.mp hv).1) (by rw [r, hi]; simpa using hv) (g := mkF m pc Ls (.int j :: .ref a :: S)) rfl rfl hd) h
def IL (Z : State) (h : Heap) (a : Addr) (ty : FieldType) (N : Nat) : Prop := ∃ vs, IA Z h a ty vs ∧ vs.length = N
section Arrays
variable {Z : State} {h h' : Heap} {a b : Addr} {ty : FieldType} {N : Nat}
theorem IL.lt (F : IL Z h a ty N) : a < h.size := by obtain ⟨_, A, -⟩ := F; exact A.lt
theorem IL.ext (F : IL Z h a ty N) (E : Ext h h') : IL Z h' a ty N := by obtain ⟨c, A, r⟩ := F; exact ⟨c, A.ext E, r⟩
theorem IL.other {sl : Nat} {v : Value} (F : IL Z h a ty N) (W : Wr h h' b sl v) (q : a ≠ b) : IL Z h' a ty N := by obtain ⟨c, A, r⟩ := F; exact ⟨c, A.other W q, r⟩
theorem IL.keep {ws : List Addr} (F : IL Z h a ty N) (K : Keep h h' ws) : IL Z h' a ty N := by
  obtain ⟨vs, ⟨c, ⟨A1, ⟨A2, A3⟩, A4⟩, r1, r2⟩, r⟩ := F
  obtain ⟨c', q, e1, e2, e3⟩ := K.2.2 a c A1
  refine ⟨c'.slots.toList, ⟨c', ⟨q, ⟨?_, ?_⟩, by rw [e2]; exact A4⟩, by simp, ?_⟩, ?_⟩
  · rw [e2]; exact A2
  · rw [e1]; exact A3
  · rw [Array.length_toList, e3, r1]; simpa using r2
  · rw [Array.length_toList, e3, r1]; simpa using r
end Arrays
def Rw (p : Program) (e : Env) (below : List Frame) (s : State) (k n : Nat) (P : Option Value → Heap → List Loc → Prop) (A : State) : Prop :=
  ∃ s₂ o, Steps p.tables e below A s₂ ∧ s₂.status = .running ∧ Ended s₂ below o ∧ ∃ v L, o = .returned v ∧ P v s₂.heap L ∧ ReturnedEndW s o s₂ L k n
theorem Rw.go {A B : State} (f : ∀ t, Steps p.tables e below B t → Steps p.tables e below A t) (h : Rw p e below s k n P B) : Rw p e below s k n P A := by
  obtain ⟨s₂, o, h1, h2⟩ := h
  exact ⟨s₂, o, f _ h1, h2⟩
theorem Rw.iloadN (X : Sd p l e R s m args below meth c T n0 cells slots h0) (hx : p.tables.exec = Jvm.exec) {pc pc' : Nat} {Ls : Array Slot} {S : List Value} {j : Fin 4} {v : Int32} (hd : decode c.code pc = .ok (.iload_n j, 1)) (hl : Ls[j.val]? = some (.val (.int v))) (hp : pc + 1 = pc')
    (h : Rw p e below s k n P (T.setTop (mkF m pc' Ls (.int v :: S)))) : Rw p e below s k n P (T.setTop (mkF m pc Ls (S))) := by
  subst hp; obtain ⟨_, X, _, _⟩ := X; exact Rw.go (fun _ => XS.iloadN X.here hx rfl hd hl) h
theorem Rw.iload (X : Sd p l e R s m args below meth c T n0 cells slots h0) (hx : p.tables.exec = Jvm.exec) {pc pc' : Nat} {Ls : Array Slot} {S : List Value} {j : Nat} {v : Int32} (hd : decode c.code pc = .ok (.iload j, 2)) (hl : Ls[j]? = some (.val (.int v))) (hp : pc + 2 = pc')
    (h : Rw p e below s k n P (T.setTop (mkF m pc' Ls (.int v :: S)))) : Rw p e below s k n P (T.setTop (mkF m pc Ls (S))) := by
  subst hp; obtain ⟨_, X, _, _⟩ := X; exact Rw.go (fun _ => XS.iload X.here hx rfl hd hl) h
theorem Rw.istoreN (X : Sd p l e R s m args below meth c T n0 cells slots h0) (hx : p.tables.exec = Jvm.exec) {pc pc' : Nat} {Ls : Array Slot} {S : List Value} {j : Fin 4} {v : Int32} {l' : Array Slot} (hd : decode c.code pc = .ok (.istore_n j, 1)) (hl : storeLocals Ls j.val (.int v) = some l') (hp : pc + 1 = pc')
    (h : Rw p e below s k n P (T.setTop (mkF m pc' l' (S)))) : Rw p e below s k n P (T.setTop (mkF m pc Ls (.int v :: S))) := by
  subst hp; obtain ⟨_, X, _, _⟩ := X; exact Rw.go (fun _ => XS.istoreN X.here hx rfl hd rfl hl) h
theorem Rw.istore (X : Sd p l e R s m args below meth c T n0 cells slots h0) (hx : p.tables.exec = Jvm.exec) {pc pc' : Nat} {Ls : Array Slot} {S : List Value} {j : Nat} {v : Int32} {l' : Array Slot} (hd : decode c.code pc = .ok (.istore j, 2)) (hl : storeLocals Ls j (.int v) = some l') (hp : pc + 2 = pc')
    (h : Rw p e below s k n P (T.setTop (mkF m pc' l' (S)))) : Rw p e below s k n P (T.setTop (mkF m pc Ls (.int v :: S))) := by
  subst hp; obtain ⟨_, X, _, _⟩ := X; exact Rw.go (fun _ => XS.istore X.here hx rfl hd rfl hl) h
theorem Rw.iconst (X : Sd p l e R s m args below meth c T n0 cells slots h0) (hx : p.tables.exec = Jvm.exec) {pc pc' : Nat} {Ls : Array Slot} {S : List Value} {i : Int} {v : Int32} (hd : decode c.code pc = .ok (.iconst i, 1)) (hv : Int32.ofInt i = v) (hp : pc + 1 = pc')
    (h : Rw p e below s k n P (T.setTop (mkF m pc' Ls (.int v :: S)))) : Rw p e below s k n P (T.setTop (mkF m pc Ls S)) := by
  subst hp hv; obtain ⟨_, X, _, _⟩ := X; exact Rw.go (fun _ => XS.iconst X.here hx rfl hd) h
theorem Rw.bipush (X : Sd p l e R s m args below meth c T n0 cells slots h0) (hx : p.tables.exec = Jvm.exec) {pc pc' : Nat} {Ls : Array Slot} {S : List Value} {i : Int} {v : Int32} (hd : decode c.code pc = .ok (.bipush i, 2)) (hv : (Int8.ofInt i).toInt32 = v) (hp : pc + 2 = pc')
    (h : Rw p e below s k n P (T.setTop (mkF m pc' Ls (.int v :: S)))) : Rw p e below s k n P (T.setTop (mkF m pc Ls S)) := by
  subst hp hv; obtain ⟨_, X, _, _⟩ := X; exact Rw.go (fun _ => XS.bipush X.here hx rfl hd) h
theorem Rw.iand (X : Sd p l e R s m args below meth c T n0 cells slots h0) (hx : p.tables.exec = Jvm.exec) {pc pc' : Nat} {Ls : Array Slot} {S : List Value} {x y r : Int32} (hd : decode c.code pc = .ok (.iand, 1)) (hr : x &&& y = r) (hp : pc + 1 = pc')
    (h : Rw p e below s k n P (T.setTop (mkF m pc' Ls (.int r :: S)))) : Rw p e below s k n P (T.setTop (mkF m pc Ls (.int y :: .int x :: S))) := by
  subst hp hr; obtain ⟨_, X, _, _⟩ := X; exact Rw.go (fun _ => XS.iand X.here hx rfl hd rfl) h
theorem Rw.i2c (X : Sd p l e R s m args below meth c T n0 cells slots h0) (hx : p.tables.exec = Jvm.exec) {pc pc' : Nat} {Ls : Array Slot} {S : List Value} {v : Int32} {r : Int32} (hd : decode c.code pc = .ok (.i2c, 1)) (hr : v.toUInt32.toUInt16.toUInt32.toInt32 = r) (hp : pc + 1 = pc')
    (h : Rw p e below s k n P (T.setTop (mkF m pc' Ls (.int r :: S)))) : Rw p e below s k n P (T.setTop (mkF m pc Ls (.int v :: S))) := by
  subst hp hr; obtain ⟨_, X, _, _⟩ := X; exact Rw.go (fun _ => XS.i2c X.here hx rfl hd rfl) h
theorem Rw.goto (X : Sd p l e R s m args below meth c T n0 cells slots h0) (hx : p.tables.exec = Jvm.exec) {pc pc' : Nat} {Ls : Array Slot} {S : List Value} {o : Int} (hd : decode c.code pc = .ok (.goto o, 3)) (ho : 0 ≤ (pc : Int) + o) (hp : ((pc : Int) + o).toNat = pc')
    (h : Rw p e below s k n P (T.setTop (mkF m pc' Ls S))) : Rw p e below s k n P (T.setTop (mkF m pc Ls S)) := by
  obtain ⟨_, X, _, _⟩ := X; exact Rw.go (fun _ => XS.goto X.here hx rfl (pc0 := pc) rfl hd ho hp) h
theorem Rw.ifY (X : Sd p l e R s m args below meth c T n0 cells slots h0) (hx : p.tables.exec = Jvm.exec) {pc pc' : Nat} {Ls : Array Slot} {S : List Value} {o : Int} {cd : ClassFile.Cond} {x : Int32} (hd : decode c.code pc = .ok (.ifCond cd o, 3)) (hc : ifCond.holds cd x = true) (ho : 0 ≤ (pc : Int) + o) (hp : ((pc : Int) + o).toNat = pc')
    (h : Rw p e below s k n P (T.setTop (mkF m pc' Ls S))) : Rw p e below s k n P (T.setTop (mkF m pc Ls (.int x :: S))) := by
  obtain ⟨_, X, _, _⟩ := X; exact Rw.go (fun _ => XS.ifYes X.here hx rfl (pc0 := pc) rfl hd rfl hc ho hp) h
theorem Rw.ifN (X : Sd p l e R s m args below meth c T n0 cells slots h0) (hx : p.tables.exec = Jvm.exec) {pc pc' : Nat} {Ls : Array Slot} {S : List Value} {o : Int} {cd : ClassFile.Cond} {x : Int32} (hd : decode c.code pc = .ok (.ifCond cd o, 3)) (hc : ifCond.holds cd x = false) (hp : pc + 3 = pc')
    (h : Rw p e below s k n P (T.setTop (mkF m pc' Ls S))) : Rw p e below s k n P (T.setTop (mkF m pc Ls (.int x :: S))) := by
  subst hp; obtain ⟨_, X, _, _⟩ := X; exact Rw.go (fun _ => XS.ifNo X.here hx rfl hd rfl hc) h
theorem Rw.icmpY (X : Sd p l e R s m args below meth c T n0 cells slots h0) (hx : p.tables.exec = Jvm.exec) {pc pc' : Nat} {Ls : Array Slot} {S : List Value} {o : Int} {cd : ClassFile.Cond} {x y : Int32} (hd : decode c.code pc = .ok (.if_icmp cd o, 3)) (hc : if_icmp.holds cd x y = true) (ho : 0 ≤ (pc : Int) + o) (hp : ((pc : Int) + o).toNat = pc')
    (h : Rw p e below s k n P (T.setTop (mkF m pc' Ls S))) : Rw p e below s k n P (T.setTop (mkF m pc Ls (.int y :: .int x :: S))) := by
  obtain ⟨_, X, _, _⟩ := X; exact Rw.go (fun _ => XS.icmpYes X.here hx rfl (pc0 := pc) rfl hd rfl hc ho hp) h
theorem Rw.icmpN (X : Sd p l e R s m args below meth c T n0 cells slots h0) (hx : p.tables.exec = Jvm.exec) {pc pc' : Nat} {Ls : Array Slot} {S : List Value} {o : Int} {cd : ClassFile.Cond} {x y : Int32} (hd : decode c.code pc = .ok (.if_icmp cd o, 3)) (hc : if_icmp.holds cd x y = false) (hp : pc + 3 = pc')
    (h : Rw p e below s k n P (T.setTop (mkF m pc' Ls S))) : Rw p e below s k n P (T.setTop (mkF m pc Ls (.int y :: .int x :: S))) := by
  subst hp; obtain ⟨_, X, _, _⟩ := X; exact Rw.go (fun _ => XS.icmpNo X.here hx rfl hd rfl hc) h
theorem Rw.retZ (X : Sd p l e R s m args below meth c T n0 cells slots h0) (hx : p.tables.exec = Jvm.exec) (hlk : meth.locks = false) {t : FieldType} (hret : meth.sig.returnType = some t) (ht : t = .boolean ∨ t = .byte ∨ t = .char ∨ t = .short) {pc : Nat} {Ls : Array Slot} {S : List Value} {z w : Int32} (hd : decode c.code pc = .ok (.ireturn, 1)) (hw : nar t z = w) (hk : cells ≤ k) (hn : slots ≤ n)
    (hP : ∀ L, Fr n0 L → P (some (.int w)) h0 L) : Rw p e below s k n P (T.setTop (mkF m pc Ls (.int z :: S))) := by
  subst hw; obtain ⟨locs, X, N, eh⟩ := X
  obtain ⟨fs, hr, hrun, hended, hW, hsame⟩ := X.leave (v := some (.int (nar t z))) (fun h => by rw [hret] at h; cases h) hlk
  exact ⟨_, _, retN X hx hret ht hd hr, hrun, hended, _, _, rfl, by show P _ T.heap _; rw [eh]; exact hP _ N, ReturnedEndW.of_narrow ⟨_, rfl⟩ hW (hsame.mono hk hn)⟩
theorem Rw.ldcInt (X : Sd p l e R s m args below meth c T n0 cells slots h0) (hx : p.tables.exec = Jvm.exec) {Z : State} {a0 : Array Value} (hZ : Z.Warmed39 s.vm) {own : String} {index : Nat} {v : Int32} (hown : s.vm.findClass own = some m.cls) (w : (Cond.constant own index v).before a0 Z = true) {pc pc' : Nat} {Ls : Array Slot} {S : List Value} (hd : decode c.code pc = .ok (.ldc index, 2)) (hp : pc + 2 = pc')
    (h : Rw p e below s k n P (T.setTop (mkF m pc' Ls (.int v :: S)))) : Rw p e below s k n P (T.setTop (mkF m pc Ls S)) := by
  subst hp; obtain ⟨_, X, _, _⟩ := X; exact Rw.go (X.ldcInt hx hown (mvT hZ w) (g := mkF m pc Ls S) rfl hd) h
theorem Rw.callS (X : Sd p l e R s m args below meth c T n0 cells slots h0) (hx : p.tables.exec = Jvm.exec) {Z : State} {a0 : Array Value} (hZ : Z.Warmed39 s.vm) {own : String} {index : Nat} {y : MethodName} {bytes : ByteArray} {maxL W : Nat} {ret : Option FieldType} {rm : Room} {as' : Array Value} {Q : Option Value → Heap → List Loc → Prop}
    (hown : s.vm.findClass own = some m.cls) (w1 : (Cond.methodLink own index y).before a0 Z = true) (w2 : (Cond.static y).before a0 Z = true) (w3 : (Cond.initialized y.cls).before a0 Z = true) (w4 : (Cond.code y bytes maxL ret).before a0 Z = true) (hy : y.cls ≠ "java/lang/invoke/MethodHandle" ∧ y.cls ≠ "java/lang/invoke/VarHandle")
    (hM : Mt l Z y [Cond.code y bytes maxL ret] rm as' h0 Q) (hF : ∀ v h L, Q v h L → Fr n0 L) (hf : rm.frames + 1 ≤ R.frames) (hl : W + (maxL + 11) + rm.locals ≤ R.locals) (hc : cells + rm.cells ≤ R.cells) (hs : slots + rm.slots ≤ R.slots)
    {pc pc' : Nat} {Ls : Array Slot} {S argsL rest : List Value} (hsize : Ls.size = c.maxLocals) (hlen : ∀ sig, parseMethodDescriptor y.desc = some sig → argsL.length = sig.parameters.length) (hst : S = argsL.reverse ++ rest) (has : argsL.toArray = as') (hW : (rest.map fun v => v.category).sum ≤ W) (hd : decode c.code pc = .ok (.invokestatic index, 3)) (hp : pc + 3 = pc')
    (hh : ∀ v T' h' L, Sd p l e R s m args below meth c T' n0 (cells + rm.cells) (slots + rm.slots) h' → Q v h' L → Rw p e below s k n P (T'.setTop (mkF m pc' Ls (v.toList ++ rest)))) : Rw p e below s k n P (T.setTop (mkF m pc Ls S)) := by
  subst hp has
  obtain ⟨locs, X, N, eT⟩ := X
  obtain ⟨v, _, ⟨T', L', k', n'⟩, -, X', ⟨Lc, hQ, l', y', z'⟩, st⟩ := Jvm.LawKit.callS X hx (y := y) hown (mvT hZ w1) (mvT hZ w2) (mvT hZ w3) (mvT hZ w4) hy (backOf (W := W) hM hZ w4 w3 hf hl) (g := mkF m pc Ls S) rfl hsize (argsL := argsL) (rest := rest) hlen hst (by show 2 * 0 + _ ≤ _; omega) hd (fun _ _ => ⟨rfl, eT, hc, hs⟩)
  dsimp only [Pt.U, Pt.locs, Pt.cells, Pt.slots] at X' l' y' z' st hQ
  subst l' y' z'
  exact Rw.go st (hh v T' _ Lc ⟨_, X', Fr.app N (hF _ _ _ hQ), rfl⟩ hQ)
/-- a static method that writes nothing -/
theorem Rw.callP (X : Sd p l e R s m args below meth c T n0 cells slots h0) (hx : p.tables.exec = Jvm.exec) {Z : State} {a0 : Array Value} (hZ : Z.Warmed39 s.vm) {own : String} {index : Nat} {y : MethodName} {bytes : ByteArray} {maxL W : Nat} {ret : Option FieldType} {rm : Room} {as' : Array Value} {r : Value}
    (hown : s.vm.findClass own = some m.cls) (w1 : (Cond.methodLink own index y).before a0 Z = true) (w2 : (Cond.static y).before a0 Z = true) (w3 : (Cond.initialized y.cls).before a0 Z = true) (w4 : (Cond.code y bytes maxL ret).before a0 Z = true) (hy : y.cls ≠ "java/lang/invoke/MethodHandle" ∧ y.cls ≠ "java/lang/invoke/VarHandle")
    (hM : Mt l Z y [Cond.code y bytes maxL ret] rm as' h0 (fun v h L => v = some r ∧ Fr n0 L ∧ h = h0)) (hf : rm.frames + 1 ≤ R.frames) (hl : W + (maxL + 11) + rm.locals ≤ R.locals) (hc : cells + rm.cells ≤ R.cells) (hs : slots + rm.slots ≤ R.slots) (hc0 : rm.cells = 0) (hs0 : rm.slots = 0)
    {pc pc' : Nat} {Ls : Array Slot} {S argsL rest : List Value} (hsize : Ls.size = c.maxLocals) (hlen : ∀ sig, parseMethodDescriptor y.desc = some sig → argsL.length = sig.parameters.length) (hst : S = argsL.reverse ++ rest) (has : argsL.toArray = as') (hW : (rest.map fun v => v.category).sum ≤ W) (hd : decode c.code pc = .ok (.invokestatic index, 3)) (hp : pc + 3 = pc')
    (hh : ∀ T', Sd p l e R s m args below meth c T' n0 cells slots h0 → Rw p e below s k n P (T'.setTop (mkF m pc' Ls (r :: rest)))) : Rw p e below s k n P (T.setTop (mkF m pc Ls S)) := by
  refine Rw.callS X hx hZ hown w1 w2 w3 w4 hy hM (fun _ _ _ q => q.2.1) hf hl hc hs hsize hlen hst has hW hd hp ?_
  rintro v T' h' L X' ⟨rfl, _, rfl⟩
  rw [hc0, hs0, Nat.add_zero, Nat.add_zero] at X'
  exact hh T' X'
/-- an instance method, by the contract of the body that the receiver's class selects -/
theorem Rw.callV (X : Sd p l e R s m args below meth c T n0 cells slots h0) (hx : p.tables.exec = Jvm.exec) {Z : State} {a0 : Array Value} (hZ : Z.Warmed39 s.vm) {own : String} {index : Nat} {y : MethodName} {bytes : ByteArray} {maxL W : Nat} {ret : Option FieldType} {rm : Room} {as' : Array Value} {Q : Option Value → Heap → List Loc → Prop} {K : String} {yz : MethodName}
    (hown : s.vm.findClass own = some m.cls) (w1 : (Cond.methodLink own index y).before a0 Z = true) (w2 : (Cond.declares y).before a0 Z = true) (hnf : NotFace s y) (w5 : (Cond.selects K y yz).before a0 Z = true) (w6 : (Cond.instanceMethod yz).before a0 Z = true) (w3 : (Cond.initialized yz.cls).before a0 Z = true) (w4 : (Cond.code yz bytes maxL ret).before a0 Z = true) (hy : y.cls ≠ "java/lang/invoke/MethodHandle" ∧ y.cls ≠ "java/lang/invoke/VarHandle")
    {a : Addr} (E : Exa Z h0 a K) (hM : Mt l Z yz [Cond.code yz bytes maxL ret] rm as' h0 Q) (hF : ∀ v h L, Q v h L → Fr n0 L) (hf : rm.frames + 1 ≤ R.frames) (hl : W + (maxL + 11) + rm.locals ≤ R.locals) (hc : cells + rm.cells ≤ R.cells) (hs : slots + rm.slots ≤ R.slots)
    {pc pc' : Nat} {Ls : Array Slot} {S argsL rest : List Value} (hsize : Ls.size = c.maxLocals) (hlen : ∀ sig, parseMethodDescriptor y.desc = some sig → argsL.length = sig.parameters.length) (hst : S = argsL.reverse ++ .ref a :: rest) (has : (.ref a :: argsL).toArray = as') (hW : (rest.map fun v => v.category).sum ≤ W) (hd : decode c.code pc = .ok (.invokevirtual index, 3)) (hp : pc + 3 = pc')
    (hh : ∀ v T' h' L, Sd p l e R s m args below meth c T' n0 (cells + rm.cells) (slots + rm.slots) h' → Q v h' L → Rw p e below s k n P (T'.setTop (mkF m pc' Ls (v.toList ++ rest)))) : Rw p e below s k n P (T.setTop (mkF m pc Ls S)) := by
  subst hp has
  obtain ⟨locs, X, N, eT⟩ := X
  obtain ⟨cq, kq, qa, qb, qc⟩ := isOf hZ eT E
  obtain ⟨v, _, ⟨T', L', k', n'⟩, -, X', ⟨Lc, hQ, l', y', z'⟩, st⟩ := X.virtualBack hx (y := y) (z := yz) hown (mvT hZ w1) (mvT hZ w2) hnf (mvT hZ w5) (mvT hZ w6) hy (backOf (W := W) hM hZ w4 w3 hf hl) qa qc (g := mkF m pc Ls S) rfl hsize (Steps.refl _) (argsL := argsL) (rest := rest) hlen hst (by show 2 * 0 + _ ≤ _; omega) hd (fun _ _ => ⟨rfl, eT, hc, hs⟩)
  dsimp only [Pt.U, Pt.locs, Pt.cells, Pt.slots] at X' l' y' z' st hQ
  subst l' y' z'
  exact Rw.go (fun _ q => st.trans q) (hh v T' _ Lc ⟨_, X', Fr.app N (hF _ _ _ hQ), rfl⟩ hQ)
/-- a constructor by its contract -/
theorem own_rebase {Z t : State} {o : Outcome} {L : List Loc} {k n k1 : Nat} {vm0 vm1 : Vm} (h : ReturnedEndW (Z.setVm vm1) o t L k n) (hS : (Z.setVm vm0).Since vm1 k1) (hk : k1 ≤ t.heap.size) : ReturnedEndW (Z.setVm vm0) o t L k n := by
  obtain ⟨h1, h2, h3, h4⟩ := h
  have q := State.Since.trans (s := Z.setVm vm0) hS (n₂ := t.heap.size) ⟨h2, h3⟩ hk
  obtain ⟨g1, g2⟩ := h4
  exact ⟨h1, q.1, q.2, congrArg (fun x : State => x.setVm vm0) g1, g2⟩
theorem own_iaOf {Z : State} {h : Heap} {b : Addr} {kk : ClassId} {ty : FieldType} {z : Int32} {vs : List Value} {d : Value} (F : Arv Z h b kk ty z vs d) (hz : z.toNatClampNeg = vs.length) (hb : vs.length < 2 ^ 31) : IA Z h b ty vs := by
  obtain ⟨cl, A, -, hs, -, H, -⟩ := F
  refine ⟨cl, A, ?_, hb⟩
  apply Array.ext_getElem?
  intro j
  by_cases q : j < cl.slots.size
  · rw [H j q]
    have q' : j < vs.length := by omega
    simp [List.getD_eq_getElem?_getD, List.getElem?_eq_getElem q']
  · rw [Array.getElem?_eq_none (by omega), Array.getElem?_eq_none (by simp; omega)]
theorem Rw.ldcS {Z : State} {vm0 : Vm} {Ts : List String} (X : Sd p l e R (Z.setVm vm0) m args below meth c T n0 cells slots h0) (hx : p.tables.exec = Jvm.exec) (hn0 : Z.heap.size ≤ n0) {a0 : Array Value} {own text : String} {index : Nat} (hZ : Z.Warmed39 (Z.setVm vm0).vm) (hown : (Z.setVm vm0).vm.findClass own = some m.cls) (w : (Cond.stringLink own index text).before a0 Z = true) (wS : ∀ a ∈ Bundle.stringAtoms, a.before a0 Z = true) (I : IB Z vm0 Ts) (hnot : text ∉ Ts) (hh0 : Jvm.Lit.constHeld Z own index) (hcw : Jvm.Lit.compactW.before a0 Z = true) {vs : List Value} (ht : (∀ c ∈ text.toList, c.toNat < 256) ∧ text.toList.map (fun c => Value.int (Jvm.Lit.byteI c.toNat.toUInt16)) = vs) {z : Int32} (hz : ¬ z < 0) (hlz : z.toNatClampNeg = vs.length) (hvb : vs.length < 2 ^ 31) {nn : Nat} (hn : 4 * text.toList.length ≤ nn) (hbig : nn ≤ 536870912) (hc : cells + 2 ≤ R.cells) (hl : slots + (nn + 4) ≤ R.slots) {pc pc' : Nat} {Ls : Array Slot} {S : List Value} (hd : decode c.code pc = .ok (.ldc index, 2)) (hp : pc + 2 = pc')
    (hh : ∀ (a b : Addr) (T' : State) (h' : Heap) (vm1 : Vm), Sd p l e R (Z.setVm vm1) m args below meth c T' n0 (cells + 2) (slots + (nn + 4)) h' → Ext h0 h' → Z.Warmed39 (Z.setVm vm1).vm → (Z.setVm vm1).vm.findClass own = some m.cls → Exa Z h' a "java/lang/String" → Fld Z h' a "java/lang/String" "coder" "B" (.int 0) → Fld Z h' a "java/lang/String" "value" "[B" (.ref b) → IA Z h' b .byte vs → IB Z vm1 (text :: Ts) → Jvm.RoadKit.Lit (Z.setVm vm1) own index a → (∀ {i : Nat} {x : Addr}, Jvm.RoadKit.Lit (Z.setVm vm0) own i x → Jvm.RoadKit.Lit (Z.setVm vm1) own i x) → Rw p e below (Z.setVm vm1) k n (fun v hf L => P v hf L ∧ h'.size ≤ hf.size) (T'.setTop (mkF m pc' Ls (.ref a :: S)))) : Rw p e below (Z.setVm vm0) k n P (T.setTop (mkF m pc Ls S)) := by
  subst hp
  obtain ⟨locs, X, N, eT⟩ := X
  obtain ⟨a, T', h', k1, b, kk, X', e', E', S', hk1, Z', own', x1, x2, x3, x4, -, -, I', L', st⟩ := Jvm.RoadKit.ldcSVL (s := Z.setVm vm0) (vm0 := vm0) X hx hZ hown w wS eT (k0 := h0.size) ((State.WarmedH.refl _).since _) (Nat.le_refl _) (fun y hy => Nat.le_trans hn0 (N y hy)) (fun _ _ h => h) I hnot hh0 hcw ht hz hlz (g := mkF m pc Ls S) rfl hd hn hbig hc hl
  obtain ⟨s₂, o, h1, h2, h3, v, L, h4, ⟨h5, h5'⟩, h6⟩ := hh a b T' h' T'.vm ⟨locs, X', N, e'⟩ E' Z' own' x1 x2 x3 (own_iaOf x4 hlz hvb) I' L' (fun q => Jvm.RoadKit.Lit.stays (s := Z) q S'.1)
  exact ⟨s₂, o, st _ h1, h2, h3, v, L, h4, h5, own_rebase h6 S' (Nat.le_trans hk1 h5')⟩
theorem Rw.ldcAgain {Z : State} {vm0 : Vm} (X : Sd p l e R (Z.setVm vm0) m args below meth c T n0 cells slots h0) (hx : p.tables.exec = Jvm.exec) {a0 : Array Value} {own text : String} {index : Nat} (hZ : Z.Warmed39 (Z.setVm vm0).vm) (hown : (Z.setVm vm0).vm.findClass own = some m.cls) (w : (Cond.stringLink own index text).before a0 Z = true) {a : Addr} (Lt : Jvm.RoadKit.Lit (Z.setVm vm0) own index a) {pc pc' : Nat} {Ls : Array Slot} {S : List Value} (hd : decode c.code pc = .ok (.ldc index, 2)) (hp : pc + 2 = pc')
    (h : Rw p e below (Z.setVm vm0) k n P (T.setTop (mkF m pc' Ls (.ref a :: S)))) : Rw p e below (Z.setVm vm0) k n P (T.setTop (mkF m pc Ls S)) := by
  subst hp
  obtain ⟨locs, X, N, eT⟩ := X
  exact Rw.go (Jvm.RoadKit.ldcAgain (s := Z) X hx hZ hown w Lt (g := mkF m pc Ls S) rfl hd) h
abbrev Mw (l : Launch) (Z : State) (y : MethodName) (ws : List Jvm.Cond) (rm : Room) (as' : Array Value) (Q : Option Value → Heap → List Loc → Prop) : Prop :=
  MetFree l y (head1 ws rm) (fun a U => a = as' ∧ U = Z) (fun _ _ _ _ _ => True) (fun _ U o U' => ∃ v L, o = .returned v ∧ Q v U'.heap L ∧ ReturnedEndW U o U' L rm.cells rm.slots)
theorem Mw.of {Z : State} {y : MethodName} {bytes : ByteArray} {maxL : Nat} {ret : Option FieldType} {ws : List Jvm.Cond} {rm : Room} {as' : Array Value} {h : Heap} {Q : Option Value → Heap → List Loc → Prop} (n0 : Nat) (hh0 : Z.heap = h) (hpl : plainFor y = true)
    (body : ∀ (p : Program) (e : Env) (m : MethodId) (below : List Frame) (meth : Method) (c : Code) (T : State), Sd p l e rm (Z.setVm Z.vm) m as' below meth c T n0 0 0 h → p.tables.exec = Jvm.exec → Z.Warmed39 (Z.setVm Z.vm).vm → c.code = bytes → c.maxLocals = maxL → (Z.setVm Z.vm).vm.findClass y.cls = some m.cls → meth.sig.returnType = ret → meth.locks = false → meth.name = y.name →
      Rw p e below (Z.setVm Z.vm) rm.cells rm.slots Q (T.setTop (entryFrame m as' maxL))) : Mw l Z y (Jvm.Cond.code y bytes maxL ret :: ws) rm as' Q := by
  refine MetFree.of_bodySF hpl hisR ?_
  intro p e s m args below meth c s₁ Bd hml0 hP hK
  obtain ⟨rfl, rfl⟩ := hP
  have e0 : s₁.heap = h := by rw [← hh0, Bd.state]; rfl
  obtain ⟨s₂, o, h1, h2, h3, v, L, h4, h5, h6⟩ := body p e m below meth c s₁ ⟨[], Stand.of_body Bd, Fr.nil n0, e0⟩ Bd.exec (State.Warmed39.refl _) Bd.bytes hml0 (findClass_of_methodNamed Bd.named) Bd.returns (BodyLoose.notSynchronized Bd) (name_of_methodNamed Bd.named Bd.method).1
  exact ⟨s₂, o, h1, h2, h3, v, L, h4, h5, h6⟩
theorem own_wS {a0 : Array Value} {Z : State} (hw : ∀ d ∈ tables_1, d.before a0 Z = true) : ∀ d ∈ Bundle.stringAtoms, d.before a0 Z = true := fun d hd => hw d ((by decide +kernel : ∀ d ∈ Bundle.stringAtoms, d ∈ tables_1) d hd)
end Own
theorem own_g {a0 : Array Value} {Z : State} (hw : ∀ d ∈ tables_1, d.before a0 Z = true) {w : Jvm.Cond} (i : Nat) (h : tables_1[i]? = some w) : w.before a0 Z = true := hw w (List.mem_of_getElem? h)
abbrev nm1 : String := "jdk/internal/util/Preconditions"
abbrev nm2 : String := "Ljava/util/function/BiFunction;"
abbrev mt1 : MethodName := ⟨"jdk/internal/util/Preconditions", "checkIndex", "(IILjava/util/function/BiFunction;)I"⟩
abbrev mt2 : MethodName := ⟨"java/lang/String", "checkIndex", "(II)V"⟩
abbrev mt3 : MethodName := ⟨"java/lang/StringLatin1", "charAt", "([BI)C"⟩
abbrev mt4 : MethodName := ⟨"java/lang/String", "isLatin1", "()Z"⟩
abbrev mt5 : MethodName := ⟨"java/lang/String", "charAt", "(I)C"⟩
abbrev mt6 : MethodName := ⟨"com/example/methodical_gateway/methodicalgateway/core/http/HttpMessageReader", "hexDigit", "(C)I"⟩
theorem own_lt16 {i : Int32} (h : ¬ (15 : Int32) < i) : i < (16 : Int32) := by
  have l : (15 : Int32).toInt = 15 := by decide
  have l' : (16 : Int32).toInt = 16 := by decide
  rw [Int32.lt_iff_toInt_lt] at *
  omega
def own_at (xs : List Int32) (i : Int32) : Int32 := xs.getD i.toNatClampNeg 0
theorem own_hv (xs : List Int32) (i : Int32) (h0 : ¬ i < (0 : Int32)) (h : ¬ (15 : Int32) < i) (hl : 16 ≤ xs.length) : (xs.map Value.int)[i.toNatClampNeg]? = some (.int (own_at xs i)) := by
  have q : i.toNatClampNeg < xs.length := by
    have l : (15 : Int32).toInt = 15 := by decide
    rw [Int32.lt_iff_toInt_lt] at h
    have e : i.toNatClampNeg = i.toInt.toNat := rfl
    omega
  simp [own_at, List.getElem?_map, List.getD_eq_getElem?_getD, List.getElem?_eq_getElem q]
theorem d5_0 : decode jdk_41_method_11_code 0 = .ok (.iload_n 0, 1) := by decide +kernel
theorem d5_1 : decode jdk_41_method_11_code 1 = .ok (.ifCond .lt 8, 3) := by decide +kernel
theorem d5_4 : decode jdk_41_method_11_code 4 = .ok (.iload_n 0, 1) := by decide +kernel
theorem d5_5 : decode jdk_41_method_11_code 5 = .ok (.iload_n 1, 1) := by decide +kernel
theorem d5_6 : decode jdk_41_method_11_code 6 = .ok (.if_icmp .lt 10, 3) := by decide +kernel
theorem d5_16 : decode jdk_41_method_11_code 16 = .ok (.iload_n 0, 1) := by decide +kernel
theorem d5_17 : decode jdk_41_method_11_code 17 = .ok (.ireturn, 1) := by decide +kernel
def f5 (p1 : Int32) : Int32 := p1
def Q5 (p1 : Int32) (vf : Value) (h0 : Heap) (n0 : Nat) (v : Option Value) (h : Heap) (L : List Loc) : Prop := v = some (.int (f5 p1)) ∧ Fr n0 L ∧ h = h0
def rmR5 : Room := { frames := 0, cells := 0, slots := 0, locals := 0 }
theorem ef_5 (m : MethodId) (p1 : Int32) (vf : Value) (hv : vf.isRef = true) : entryFrame m #[(.int p1), (.int (16 : Int32)), vf] 3 = mkF m 0 #[.val (.int p1), .val (.int (16 : Int32)), .val vf] [] := by cases vf <;> first | rfl | (exact absurd hv (by decide)) | (simp [Value.isRef] at hv)
theorem pn_jdk_internal_util_Preconditions : plainName "jdk/internal/util/Preconditions" = true := by first | (simp [plainName, overriddenIn]; done) | decide +kernel
set_option maxRecDepth 65536 in
set_option maxHeartbeats 40000000 in
theorem rm5 (l : Launch) (Z : State) (a0 : Array Value) (hw : ∀ d ∈ tables_1, d.before a0 Z = true) (ws : List Jvm.Cond) (p1 : Int32) (vf : Value) (h0 : Heap) (n0 : Nat) (hp1 : ¬ p1 < (0 : Int32)) (hp2 : ¬ (15 : Int32) < p1) (hvf : vf.isRef = true) :
    Mt l Z mt1 (Jvm.Cond.code mt1 jdk_41_method_11_code 3 (some .int) :: ws) rmR5 #[(.int p1), (.int (16 : Int32)), vf] h0 (Q5 p1 vf h0 n0) := by
  refine Mt.of n0 (plainFor_of_name pn_jdk_internal_util_Preconditions) ?_
  intro p e s m below meth c T0 X0 hx hZ hby hml hown hret hlk hnm hs0
  have hown : s.vm.findClass "jdk/internal/util/Preconditions" = some m.cls := hown
  rw [ef_5 (hv := hvf)]
  show Rt p e below s rmR5.cells rmR5.slots (Q5 p1 vf h0 n0) (T0.setTop (mkF m 0 #[.val (.int p1), .val (.int (16 : Int32)), .val vf] []))
  refine Rt.iloadN (pc' := 1) X0 hx (hb hby d5_0) rfl rfl ?_
  refine Rt.ifN (pc' := 4) X0 hx (hb hby d5_1) ((if0 _ _).trans (flt hp1).1) rfl ?_
  refine Rt.iloadN (pc' := 5) X0 hx (hb hby d5_4) rfl rfl ?_
  refine Rt.iloadN (pc' := 6) X0 hx (hb hby d5_5) rfl rfl ?_
  refine Rt.icmpY (pc' := 16) X0 hx (hb hby d5_6) (tlt (own_lt16 hp2)).1 (by decide) (by decide) ?_
  refine Rt.iloadN (pc' := 17) X0 hx (hb hby d5_16) rfl rfl ?_
  exact Rt.retI X0 hx hlk hret (hb hby d5_17) (by decide) (by decide) (fun L N => ⟨congrArg some (congrArg Value.int (by rw [f5])), N, rfl⟩)
theorem d4_0 : decode jdk_42_method_155_code 0 = .ok (.iload_n 0, 1) := by decide +kernel
theorem d4_1 : decode jdk_42_method_155_code 1 = .ok (.iload_n 1, 1) := by decide +kernel
theorem d4_2 : decode jdk_42_method_155_code 2 = .ok (.getstatic 1053, 3) := by decide +kernel
theorem pd_0 : parseMethodDescriptor "(IILjava/util/function/BiFunction;)I" = some ⟨[.int, .int, (.object "java/util/function/BiFunction")], some .int⟩ := by decide +kernel
theorem d4_5 : decode jdk_42_method_155_code 5 = .ok (.invokestatic 1059, 3) := by decide +kernel
theorem d4_8 : decode jdk_42_method_155_code 8 = .ok (.pop, 1) := by decide +kernel
theorem d4_9 : decode jdk_42_method_155_code 9 = .ok (.return_, 1) := by decide +kernel
def Q4 (p1 : Int32) (vf : Value) (h0 : Heap) (n0 : Nat) (v : Option Value) (h : Heap) (L : List Loc) : Prop := v = none ∧ Fr n0 L ∧ h = h0
def rmR4 : Room := { frames := 1, cells := 0, slots := 0, locals := 14 }
theorem ef_4 (m : MethodId) (p1 : Int32) : entryFrame m #[(.int p1), (.int (16 : Int32))] 2 = mkF m 0 #[.val (.int p1), .val (.int (16 : Int32))] [] := by first | (simp [entryFrame, mkF, argsToLocals, Value.category]; done) | rfl
theorem pn_java_lang_String : plainName "java/lang/String" = true := by first | (simp [plainName, overriddenIn]; done) | decide +kernel
set_option maxRecDepth 65536 in
set_option maxHeartbeats 40000000 in
theorem rm4 (l : Launch) (Z : State) (a0 : Array Value) (hw : ∀ d ∈ tables_1, d.before a0 Z = true) (ws : List Jvm.Cond) (p1 : Int32) (vf : Value) (h0 : Heap) (n0 : Nat) (F_S_jdk_internal_util_Preconditions_SIOOBE_FORMATTER : Sta Z h0 nm1 "SIOOBE_FORMATTER" nm2 vf) (hp1 : ¬ p1 < (0 : Int32)) (hp2 : ¬ (15 : Int32) < p1) (hvf : vf.isRef = true) :
    Mt l Z mt2 (Jvm.Cond.code mt2 jdk_42_method_155_code 2 none :: ws) rmR4 #[(.int p1), (.int (16 : Int32))] h0 (Q4 p1 vf h0 n0) := by
  refine Mt.of n0 (plainFor_of_name pn_java_lang_String) ?_
  intro p e s m below meth c T0 X0 hx hZ hby hml hown hret hlk hnm hs0
  have hown : s.vm.findClass "java/lang/String" = some m.cls := hown
  rw [ef_4]
  show Rt p e below s rmR4.cells rmR4.slots (Q4 p1 vf h0 n0) (T0.setTop (mkF m 0 #[.val (.int p1), .val (.int (16 : Int32))] []))
  refine Rt.iloadN (pc' := 1) X0 hx (hb hby d4_0) rfl rfl ?_
  refine Rt.iloadN (pc' := 2) X0 hx (hb hby d4_1) rfl rfl ?_
  refine Rt.getS (pc' := 5) (v := vf) X0 hx hZ hown (host := "") (Or.inl (own_g hw 29 rfl)) F_S_jdk_internal_util_Preconditions_SIOOBE_FORMATTER (hb hby d4_2) rfl ?_
  intro T2 X2
  refine Rt.callP (pc' := 8) (r := (.int (f5 p1))) X2 hx hZ (y := mt1) hown (own_g hw 31 rfl) (own_g hw 32 rfl) (own_g hw 30 rfl) (own_g hw 33 rfl) (by decide) (rm5 l Z a0 hw [] p1 vf h0 n0 hp1 hp2 hvf) (W := 0) (by decide) (by decide) (by decide) (by decide) rfl rfl (argsL := [(.int p1), (.int (16 : Int32)), vf]) (rest := []) (by rw [hml]; rfl) (lenOf pd_0 rfl) rfl rfl (Nat.le_of_eq rfl) (hb hby d4_5) rfl ?_
  intro T3 X3
  refine Rt.pop (pc' := 9) X3 hx (hb hby d4_8) rfl rfl ?_
  exact Rt.retV X3 hx hlk hret (hb hby d4_9) (by decide) (by decide) (fun L N => ⟨rfl, N, rfl⟩)
theorem d3_0 : decode jdk_43_method_2_code 0 = .ok (.iload_n 1, 1) := by decide +kernel
theorem d3_1 : decode jdk_43_method_2_code 1 = .ok (.aload_n 0, 1) := by decide +kernel
theorem d3_2 : decode jdk_43_method_2_code 2 = .ok (.arraylength, 1) := by decide +kernel
theorem pd_1 : parseMethodDescriptor "(II)V" = some ⟨[.int, .int], none⟩ := by decide +kernel
theorem d3_3 : decode jdk_43_method_2_code 3 = .ok (.invokestatic 9, 3) := by decide +kernel
theorem d3_6 : decode jdk_43_method_2_code 6 = .ok (.aload_n 0, 1) := by decide +kernel
theorem d3_7 : decode jdk_43_method_2_code 7 = .ok (.iload_n 1, 1) := by decide +kernel
theorem d3_8 : decode jdk_43_method_2_code 8 = .ok (.baload, 1) := by decide +kernel
theorem d3_9 : decode jdk_43_method_2_code 9 = .ok (.sipush 255, 3) := by decide +kernel
theorem d3_12 : decode jdk_43_method_2_code 12 = .ok (.iand, 1) := by decide +kernel
theorem d3_13 : decode jdk_43_method_2_code 13 = .ok (.i2c, 1) := by decide +kernel
theorem d3_14 : decode jdk_43_method_2_code 14 = .ok (.ireturn, 1) := by decide +kernel
def f3 (p2 : Int32) (x0 : Int32) (x1 : Int32) (x2 : Int32) (x3 : Int32) (x4 : Int32) (x5 : Int32) (x6 : Int32) (x7 : Int32) (x8 : Int32) (x9 : Int32) (x10 : Int32) (x11 : Int32) (x12 : Int32) (x13 : Int32) (x14 : Int32) (x15 : Int32) : Int32 := (nar .char (((own_at [x0, x1, x2, x3, x4, x5, x6, x7, x8, x9, x10, x11, x12, x13, x14, x15] p2) &&& (255 : Int32)).toUInt32.toUInt16.toUInt32.toInt32))
def Q3 (a1 : Addr) (p2 : Int32) (x0 : Int32) (x1 : Int32) (x2 : Int32) (x3 : Int32) (x4 : Int32) (x5 : Int32) (x6 : Int32) (x7 : Int32) (x8 : Int32) (x9 : Int32) (x10 : Int32) (x11 : Int32) (x12 : Int32) (x13 : Int32) (x14 : Int32) (x15 : Int32) (vf : Value) (h0 : Heap) (n0 : Nat) (v : Option Value) (h : Heap) (L : List Loc) : Prop := v = some (.int (f3 p2 x0 x1 x2 x3 x4 x5 x6 x7 x8 x9 x10 x11 x12 x13 x14 x15)) ∧ Fr n0 L ∧ h = h0
def rmR3 : Room := { frames := 2, cells := 0, slots := 0, locals := 27 }
theorem ef_3 (m : MethodId) (a1 : Addr) (p2 : Int32) : entryFrame m #[(.ref a1), (.int p2)] 2 = mkF m 0 #[.val (.ref a1), .val (.int p2)] [] := by first | (simp [entryFrame, mkF, argsToLocals, Value.category]; done) | rfl
theorem pn_java_lang_StringLatin1 : plainName "java/lang/StringLatin1" = true := by first | (simp [plainName, overriddenIn]; done) | decide +kernel
set_option maxRecDepth 65536 in
set_option maxHeartbeats 40000000 in
theorem rm3 (l : Launch) (Z : State) (a0 : Array Value) (hw : ∀ d ∈ tables_1, d.before a0 Z = true) (ws : List Jvm.Cond) (a1 : Addr) (p2 : Int32) (x0 : Int32) (x1 : Int32) (x2 : Int32) (x3 : Int32) (x4 : Int32) (x5 : Int32) (x6 : Int32) (x7 : Int32) (x8 : Int32) (x9 : Int32) (x10 : Int32) (x11 : Int32) (x12 : Int32) (x13 : Int32) (x14 : Int32) (x15 : Int32) (vf : Value) (h0 : Heap) (n0 : Nat) (F_A_a1 : IA Z h0 a1 .byte [(.int x0), (.int x1), (.int x2), (.int x3), (.int x4), (.int x5), (.int x6), (.int x7), (.int x8), (.int x9), (.int x10), (.int x11), (.int x12), (.int x13), (.int x14), (.int x15)]) (F_S_jdk_internal_util_Preconditions_SIOOBE_FORMATTER : Sta Z h0 nm1 "SIOOBE_FORMATTER" nm2 vf) (hp1 : ¬ p2 < (0 : Int32)) (hp2 : ¬ (15 : Int32) < p2) (hvf : vf.isRef = true) :
    Mt l Z mt3 (Jvm.Cond.code mt3 jdk_43_method_2_code 2 (some .char) :: ws) rmR3 #[(.ref a1), (.int p2)] h0 (Q3 a1 p2 x0 x1 x2 x3 x4 x5 x6 x7 x8 x9 x10 x11 x12 x13 x14 x15 vf h0 n0) := by
  refine Mt.of n0 (plainFor_of_name pn_java_lang_StringLatin1) ?_
  intro p e s m below meth c T0 X0 hx hZ hby hml hown hret hlk hnm hs0
  have hown : s.vm.findClass "java/lang/StringLatin1" = some m.cls := hown
  rw [ef_3]
  show Rt p e below s rmR3.cells rmR3.slots (Q3 a1 p2 x0 x1 x2 x3 x4 x5 x6 x7 x8 x9 x10 x11 x12 x13 x14 x15 vf h0 n0) (T0.setTop (mkF m 0 #[.val (.ref a1), .val (.int p2)] []))
  refine Rt.iloadN (pc' := 1) X0 hx (hb hby d3_0) rfl rfl ?_
  refine Rt.aloadN (pc' := 2) X0 hx (hb hby d3_1) rfl rfl rfl ?_
  refine Rt.arraylength (pc' := 3) X0 hx hZ F_A_a1 (v := (16 : Int32)) rfl (hb hby d3_2) rfl ?_
  refine Rt.callS (pc' := 6) X0 hx hZ (y := mt2) hown (own_g hw 26 rfl) (own_g hw 27 rfl) (own_g hw 2 rfl) (own_g hw 28 rfl) (by decide) (rm4 l Z a0 hw [] p2 vf h0 n0 F_S_jdk_internal_util_Preconditions_SIOOBE_FORMATTER hp1 hp2 hvf) (fun _ _ _ q => q.2.1) (W := 0) (by decide) (by decide) (by decide) (by decide) (argsL := [(.int p2), (.int (16 : Int32))]) (rest := []) (by rw [hml]; rfl) (lenOf pd_1 rfl) rfl rfl (Nat.le_of_eq rfl) (hb hby d3_3) rfl ?_
  rintro _ T1 h1 L1 X1 ⟨rfl, N1, e1⟩
  rw [e1] at X1
  show Rt _ _ _ _ _ _ _ (T1.setTop (mkF m 6 #[.val (.ref a1), .val (.int p2)] []))
  refine Rt.aloadN (pc' := 7) X1 hx (hb hby d3_6) rfl rfl rfl ?_
  refine Rt.iloadN (pc' := 8) X1 hx (hb hby d3_7) rfl rfl ?_
  refine Rt.baload (pc' := 9) X1 hx hZ F_A_a1 (i := (p2).toNatClampNeg) rfl hp1 (v := (.int (own_at [x0, x1, x2, x3, x4, x5, x6, x7, x8, x9, x10, x11, x12, x13, x14, x15] p2))) (own_hv [x0, x1, x2, x3, x4, x5, x6, x7, x8, x9, x10, x11, x12, x13, x14, x15] _ hp1 hp2 (Nat.le_refl 16)) (hb hby d3_8) rfl ?_
  refine Rt.sipush (pc' := 12) (v := (255 : Int32)) X1 hx (hb hby d3_9) rfl rfl ?_
  refine Rt.iand (pc' := 13) (r := ((own_at [x0, x1, x2, x3, x4, x5, x6, x7, x8, x9, x10, x11, x12, x13, x14, x15] p2) &&& (255 : Int32))) X1 hx (hb hby d3_12) rfl rfl ?_
  refine Rt.i2c (pc' := 14) (r := (((own_at [x0, x1, x2, x3, x4, x5, x6, x7, x8, x9, x10, x11, x12, x13, x14, x15] p2) &&& (255 : Int32)).toUInt32.toUInt16.toUInt32.toInt32)) X1 hx (hb hby d3_13) rfl rfl ?_
  exact Rt.retZ (w := (nar .char (((own_at [x0, x1, x2, x3, x4, x5, x6, x7, x8, x9, x10, x11, x12, x13, x14, x15] p2) &&& (255 : Int32)).toUInt32.toUInt16.toUInt32.toInt32))) X1 hx hlk hret (by simp) (hb hby d3_14) rfl (by decide) (by decide) (fun L N => ⟨congrArg some (congrArg Value.int (by rw [f3])), N, rfl⟩)
theorem d2_0 : decode jdk_42_method_154_code 0 = .ok (.getstatic 38, 3) := by decide +kernel
theorem d2_3 : decode jdk_42_method_154_code 3 = .ok (.ifCond .eq 14, 3) := by decide +kernel
theorem d2_6 : decode jdk_42_method_154_code 6 = .ok (.aload_n 0, 1) := by decide +kernel
theorem d2_7 : decode jdk_42_method_154_code 7 = .ok (.getfield 15, 3) := by decide +kernel
theorem d2_10 : decode jdk_42_method_154_code 10 = .ok (.ifCond .ne 7, 3) := by decide +kernel
theorem d2_13 : decode jdk_42_method_154_code 13 = .ok (.iconst 1, 1) := by decide +kernel
theorem d2_14 : decode jdk_42_method_154_code 14 = .ok (.goto 4, 3) := by decide +kernel
theorem d2_18 : decode jdk_42_method_154_code 18 = .ok (.ireturn, 1) := by decide +kernel
def Q2 (a1 : Addr) (cs : Int32) (h0 : Heap) (n0 : Nat) (v : Option Value) (h : Heap) (L : List Loc) : Prop := v = some (.int (1 : Int32)) ∧ Fr n0 L ∧ h = h0
def rmR2 : Room := { frames := 0, cells := 0, slots := 0, locals := 0 }
theorem ef_2 (m : MethodId) (a1 : Addr) : entryFrame m #[(.ref a1)] 1 = mkF m 0 #[.val (.ref a1)] [] := by first | (simp [entryFrame, mkF, argsToLocals, Value.category]; done) | rfl
set_option maxRecDepth 65536 in
set_option maxHeartbeats 40000000 in
theorem rm2 (l : Launch) (Z : State) (a0 : Array Value) (hw : ∀ d ∈ tables_1, d.before a0 Z = true) (ws : List Jvm.Cond) (a1 : Addr) (cs : Int32) (h0 : Heap) (n0 : Nat) (F_F_a1_coder : Fld Z h0 a1 "java/lang/String" "coder" "B" (.int (0 : Int32))) (F_S_java_lang_String_COMPACT_STRINGS : Sta Z h0 "java/lang/String" "COMPACT_STRINGS" "Z" (.int cs)) (c_s : ¬ cs = (0 : Int32)) :
    Mt l Z mt4 (Jvm.Cond.code mt4 jdk_42_method_154_code 1 (some .boolean) :: ws) rmR2 #[(.ref a1)] h0 (Q2 a1 cs h0 n0) := by
  refine Mt.of n0 (plainFor_of_name pn_java_lang_String) ?_
  intro p e s m below meth c T0 X0 hx hZ hby hml hown hret hlk hnm hs0
  have hown : s.vm.findClass "java/lang/String" = some m.cls := hown
  rw [ef_2]
  show Rt p e below s rmR2.cells rmR2.slots (Q2 a1 cs h0 n0) (T0.setTop (mkF m 0 #[.val (.ref a1)] []))
  refine Rt.getS (pc' := 3) (v := (.int cs)) X0 hx hZ hown (host := "") (Or.inl (own_g hw 19 rfl)) F_S_java_lang_String_COMPACT_STRINGS (hb hby d2_0) rfl ?_
  intro T2 X2
  refine Rt.ifN (pc' := 6) X2 hx (hb hby d2_3) ((if0 _ _).trans (feq c_s).1) rfl ?_
  refine Rt.aloadN (pc' := 7) X2 hx (hb hby d2_6) rfl rfl rfl ?_
  refine Rt.getF (pc' := 10) (v := (.int (0 : Int32))) X2 hx hZ hown (host := "") (Or.inl (own_g hw 20 rfl)) F_F_a1_coder (hb hby d2_7) rfl ?_
  intro T3 X3
  refine Rt.ifN (pc' := 13) X3 hx (hb hby d2_10) ((if0 _ _).trans (teq (by decide : (0 : Int32) = (0 : Int32))).2) rfl ?_
  refine Rt.iconst (pc' := 14) (v := (1 : Int32)) X3 hx (hb hby d2_13) rfl rfl ?_
  refine Rt.goto (pc' := 18) X3 hx (hb hby d2_14) (by decide) (by decide) ?_
  exact Rt.retZ (w := (1 : Int32)) X3 hx hlk hret (by simp) (hb hby d2_18) (by decide) (by decide) (by decide) (fun L N => ⟨rfl, N, rfl⟩)
theorem d1_0 : decode jdk_42_method_56_code 0 = .ok (.aload_n 0, 1) := by decide +kernel
theorem pd_2 : parseMethodDescriptor "()Z" = some ⟨[], some .boolean⟩ := by decide +kernel
theorem d1_1 : decode jdk_42_method_56_code 1 = .ok (.invokevirtual 492, 3) := by decide +kernel
theorem d1_4 : decode jdk_42_method_56_code 4 = .ok (.ifCond .eq 12, 3) := by decide +kernel
theorem d1_7 : decode jdk_42_method_56_code 7 = .ok (.aload_n 0, 1) := by decide +kernel
theorem d1_8 : decode jdk_42_method_56_code 8 = .ok (.getfield 9, 3) := by decide +kernel
theorem d1_11 : decode jdk_42_method_56_code 11 = .ok (.iload_n 1, 1) := by decide +kernel
theorem pd_3 : parseMethodDescriptor "([BI)C" = some ⟨[(.array .byte), .int], some .char⟩ := by decide +kernel
theorem d1_12 : decode jdk_42_method_56_code 12 = .ok (.invokestatic 495, 3) := by decide +kernel
theorem d1_15 : decode jdk_42_method_56_code 15 = .ok (.ireturn, 1) := by decide +kernel
def f1 (p2 : Int32) (x0 : Int32) (x1 : Int32) (x2 : Int32) (x3 : Int32) (x4 : Int32) (x5 : Int32) (x6 : Int32) (x7 : Int32) (x8 : Int32) (x9 : Int32) (x10 : Int32) (x11 : Int32) (x12 : Int32) (x13 : Int32) (x14 : Int32) (x15 : Int32) : Int32 := (nar .char (f3 p2 x0 x1 x2 x3 x4 x5 x6 x7 x8 x9 x10 x11 x12 x13 x14 x15))
def Q1 (a1 : Addr) (p2 : Int32) (cs : Int32) (b : Addr) (x0 : Int32) (x1 : Int32) (x2 : Int32) (x3 : Int32) (x4 : Int32) (x5 : Int32) (x6 : Int32) (x7 : Int32) (x8 : Int32) (x9 : Int32) (x10 : Int32) (x11 : Int32) (x12 : Int32) (x13 : Int32) (x14 : Int32) (x15 : Int32) (vf : Value) (h0 : Heap) (n0 : Nat) (v : Option Value) (h : Heap) (L : List Loc) : Prop := v = some (.int (f1 p2 x0 x1 x2 x3 x4 x5 x6 x7 x8 x9 x10 x11 x12 x13 x14 x15)) ∧ Fr n0 L ∧ h = h0
def rmR1 : Room := { frames := 3, cells := 0, slots := 0, locals := 40 }
theorem ef_1 (m : MethodId) (a1 : Addr) (p2 : Int32) : entryFrame m #[(.ref a1), (.int p2)] 2 = mkF m 0 #[.val (.ref a1), .val (.int p2)] [] := by first | (simp [entryFrame, mkF, argsToLocals, Value.category]; done) | rfl
set_option maxRecDepth 65536 in
set_option maxHeartbeats 40000000 in
theorem rm1 (l : Launch) (Z : State) (a0 : Array Value) (hw : ∀ d ∈ tables_1, d.before a0 Z = true) (ws : List Jvm.Cond) (a1 : Addr) (p2 : Int32) (cs : Int32) (b : Addr) (x0 : Int32) (x1 : Int32) (x2 : Int32) (x3 : Int32) (x4 : Int32) (x5 : Int32) (x6 : Int32) (x7 : Int32) (x8 : Int32) (x9 : Int32) (x10 : Int32) (x11 : Int32) (x12 : Int32) (x13 : Int32) (x14 : Int32) (x15 : Int32) (vf : Value) (h0 : Heap) (n0 : Nat) (F_E_a1 : Exa Z h0 a1 "java/lang/String") (F_F_a1_coder : Fld Z h0 a1 "java/lang/String" "coder" "B" (.int (0 : Int32))) (F_F_a1_value : Fld Z h0 a1 "java/lang/String" "value" "[B" (.ref b)) (F_A_b : IA Z h0 b .byte [(.int x0), (.int x1), (.int x2), (.int x3), (.int x4), (.int x5), (.int x6), (.int x7), (.int x8), (.int x9), (.int x10), (.int x11), (.int x12), (.int x13), (.int x14), (.int x15)]) (F_S_java_lang_String_COMPACT_STRINGS : Sta Z h0 "java/lang/String" "COMPACT_STRINGS" "Z" (.int cs)) (F_S_jdk_internal_util_Preconditions_SIOOBE_FORMATTER : Sta Z h0 nm1 "SIOOBE_FORMATTER" nm2 vf) (hp1 : ¬ p2 < (0 : Int32)) (hp2 : ¬ (15 : Int32) < p2) (hvf : vf.isRef = true) (c_s : ¬ cs = (0 : Int32)) :
    Mt l Z mt5 (Jvm.Cond.code mt5 jdk_42_method_56_code 2 (some .char) :: ws) rmR1 #[(.ref a1), (.int p2)] h0 (Q1 a1 p2 cs b x0 x1 x2 x3 x4 x5 x6 x7 x8 x9 x10 x11 x12 x13 x14 x15 vf h0 n0) := by
  refine Mt.of n0 (plainFor_of_name pn_java_lang_String) ?_
  intro p e s m below meth c T0 X0 hx hZ hby hml hown hret hlk hnm hs0
  have hown : s.vm.findClass "java/lang/String" = some m.cls := hown
  rw [ef_1]
  show Rt p e below s rmR1.cells rmR1.slots (Q1 a1 p2 cs b x0 x1 x2 x3 x4 x5 x6 x7 x8 x9 x10 x11 x12 x13 x14 x15 vf h0 n0) (T0.setTop (mkF m 0 #[.val (.ref a1), .val (.int p2)] []))
  refine Rt.aloadN (pc' := 1) X0 hx (hb hby d1_0) rfl rfl rfl ?_
  refine Rt.callV (pc' := 4) X0 hx hZ (y := mt4) (yz := mt4) hown (own_g hw 14 rfl) (own_g hw 15 rfl) (notFace_of_selects (args := #[]) (mvT hZ (own_g hw 17 rfl))) (own_g hw 17 rfl) (own_g hw 16 rfl) (own_g hw 2 rfl) (own_g hw 18 rfl) (by decide) F_E_a1 (rm2 l Z a0 hw [] a1 cs h0 n0 F_F_a1_coder F_S_java_lang_String_COMPACT_STRINGS c_s) (fun _ _ _ q => q.2.1) (W := 0) (by decide) (by decide) (by decide) (by decide) (argsL := []) (rest := []) (by rw [hml]; rfl) (lenOf pd_2 rfl) rfl rfl (Nat.le_of_eq rfl) (hb hby d1_1) rfl ?_
  rintro _ T1 h1 L1 X1 ⟨rfl, N1, e1⟩
  rw [e1] at X1
  show Rt _ _ _ _ _ _ _ (T1.setTop (mkF m 4 #[.val (.ref a1), .val (.int p2)] [(.int (1 : Int32))]))
  refine Rt.ifN (pc' := 7) X1 hx (hb hby d1_4) ((if0 _ _).trans (feq (by decide : ¬ ((1 : Int32) = (0 : Int32)))).1) rfl ?_
  refine Rt.aloadN (pc' := 8) X1 hx (hb hby d1_7) rfl rfl rfl ?_
  refine Rt.getF (pc' := 11) (v := (.ref b)) X1 hx hZ hown (host := "") (Or.inl (own_g hw 21 rfl)) F_F_a1_value (hb hby d1_8) rfl ?_
  intro T2 X2
  refine Rt.iloadN (pc' := 12) X2 hx (hb hby d1_11) rfl rfl ?_
  refine Rt.callP (pc' := 15) (r := (.int (f3 p2 x0 x1 x2 x3 x4 x5 x6 x7 x8 x9 x10 x11 x12 x13 x14 x15))) X2 hx hZ (y := mt3) hown (own_g hw 22 rfl) (own_g hw 23 rfl) (own_g hw 24 rfl) (own_g hw 25 rfl) (by decide) (rm3 l Z a0 hw [] b p2 x0 x1 x2 x3 x4 x5 x6 x7 x8 x9 x10 x11 x12 x13 x14 x15 vf h0 n0 F_A_b F_S_jdk_internal_util_Preconditions_SIOOBE_FORMATTER hp1 hp2 hvf) (W := 0) (by decide) (by decide) (by decide) (by decide) rfl rfl (argsL := [(.ref b), (.int p2)]) (rest := []) (by rw [hml]; rfl) (lenOf pd_3 rfl) rfl rfl (Nat.le_of_eq rfl) (hb hby d1_12) rfl ?_
  intro T3 X3
  exact Rt.retZ (w := (nar .char (f3 p2 x0 x1 x2 x3 x4 x5 x6 x7 x8 x9 x10 x11 x12 x13 x14 x15))) X3 hx hlk hret (by simp) (hb hby d1_15) rfl (by decide) (by decide) (fun L N => ⟨congrArg some (congrArg Value.int (by rw [f1])), N, rfl⟩)
theorem d6_0 : decode prog_18_method_36_code 0 = .ok (.iload_n 0, 1) := by decide +kernel
theorem d6_1 : decode prog_18_method_36_code 1 = .ok (.bipush 48, 2) := by decide +kernel
theorem d6_3 : decode prog_18_method_36_code 3 = .ok (.if_icmp .lt 14, 3) := by decide +kernel
theorem d6_17 : decode prog_18_method_36_code 17 = .ok (.iload_n 0, 1) := by decide +kernel
theorem d6_18 : decode prog_18_method_36_code 18 = .ok (.bipush 97, 2) := by decide +kernel
theorem d6_20 : decode prog_18_method_36_code 20 = .ok (.if_icmp .lt 17, 3) := by decide +kernel
theorem d6_37 : decode prog_18_method_36_code 37 = .ok (.iload_n 0, 1) := by decide +kernel
theorem d6_38 : decode prog_18_method_36_code 38 = .ok (.bipush 65, 2) := by decide +kernel
theorem d6_40 : decode prog_18_method_36_code 40 = .ok (.if_icmp .lt 17, 3) := by decide +kernel
theorem d6_57 : decode prog_18_method_36_code 57 = .ok (.iconst (-1), 1) := by decide +kernel
theorem d6_58 : decode prog_18_method_36_code 58 = .ok (.ireturn, 1) := by decide +kernel
theorem d6_43 : decode prog_18_method_36_code 43 = .ok (.iload_n 0, 1) := by decide +kernel
theorem d6_44 : decode prog_18_method_36_code 44 = .ok (.bipush 70, 2) := by decide +kernel
theorem d6_46 : decode prog_18_method_36_code 46 = .ok (.if_icmp .gt 11, 3) := by decide +kernel
theorem d6_49 : decode prog_18_method_36_code 49 = .ok (.iload_n 0, 1) := by decide +kernel
theorem d6_50 : decode prog_18_method_36_code 50 = .ok (.bipush 65, 2) := by decide +kernel
theorem d6_52 : decode prog_18_method_36_code 52 = .ok (.isub, 1) := by decide +kernel
theorem d6_53 : decode prog_18_method_36_code 53 = .ok (.bipush 10, 2) := by decide +kernel
theorem d6_55 : decode prog_18_method_36_code 55 = .ok (.iadd, 1) := by decide +kernel
theorem d6_56 : decode prog_18_method_36_code 56 = .ok (.ireturn, 1) := by decide +kernel
theorem d6_23 : decode prog_18_method_36_code 23 = .ok (.iload_n 0, 1) := by decide +kernel
theorem d6_24 : decode prog_18_method_36_code 24 = .ok (.bipush 102, 2) := by decide +kernel
theorem d6_26 : decode prog_18_method_36_code 26 = .ok (.if_icmp .gt 11, 3) := by decide +kernel
theorem d6_29 : decode prog_18_method_36_code 29 = .ok (.iload_n 0, 1) := by decide +kernel
theorem d6_30 : decode prog_18_method_36_code 30 = .ok (.bipush 97, 2) := by decide +kernel
theorem d6_32 : decode prog_18_method_36_code 32 = .ok (.isub, 1) := by decide +kernel
theorem d6_33 : decode prog_18_method_36_code 33 = .ok (.bipush 10, 2) := by decide +kernel
theorem d6_35 : decode prog_18_method_36_code 35 = .ok (.iadd, 1) := by decide +kernel
theorem d6_36 : decode prog_18_method_36_code 36 = .ok (.ireturn, 1) := by decide +kernel
theorem d6_6 : decode prog_18_method_36_code 6 = .ok (.iload_n 0, 1) := by decide +kernel
theorem d6_7 : decode prog_18_method_36_code 7 = .ok (.bipush 57, 2) := by decide +kernel
theorem d6_9 : decode prog_18_method_36_code 9 = .ok (.if_icmp .gt 8, 3) := by decide +kernel
theorem d6_12 : decode prog_18_method_36_code 12 = .ok (.iload_n 0, 1) := by decide +kernel
theorem d6_13 : decode prog_18_method_36_code 13 = .ok (.bipush 48, 2) := by decide +kernel
theorem d6_15 : decode prog_18_method_36_code 15 = .ok (.isub, 1) := by decide +kernel
theorem d6_16 : decode prog_18_method_36_code 16 = .ok (.ireturn, 1) := by decide +kernel
def f6 (p1 : Int32) : Int32 := (if p1 < (48 : Int32) then (if p1 < (97 : Int32) then (if p1 < (65 : Int32) then (-1 : Int32) else (if (70 : Int32) < p1 then (-1 : Int32) else ((p1 - (65 : Int32)) + (10 : Int32)))) else (if (102 : Int32) < p1 then (if p1 < (65 : Int32) then (-1 : Int32) else (if (70 : Int32) < p1 then (-1 : Int32) else ((p1 - (65 : Int32)) + (10 : Int32)))) else ((p1 - (97 : Int32)) + (10 : Int32)))) else (if (57 : Int32) < p1 then (if p1 < (97 : Int32) then (if p1 < (65 : Int32) then (-1 : Int32) else (if (70 : Int32) < p1 then (-1 : Int32) else ((p1 - (65 : Int32)) + (10 : Int32)))) else (if (102 : Int32) < p1 then (if p1 < (65 : Int32) then (-1 : Int32) else (if (70 : Int32) < p1 then (-1 : Int32) else ((p1 - (65 : Int32)) + (10 : Int32)))) else ((p1 - (97 : Int32)) + (10 : Int32)))) else (p1 - (48 : Int32))))
def Q6 (p1 : Int32) (h0 : Heap) (n0 : Nat) (v : Option Value) (h : Heap) (L : List Loc) : Prop := v = some (.int (f6 p1)) ∧ Fr n0 L ∧ h = h0
def rmR6 : Room := { frames := 0, cells := 0, slots := 0, locals := 0 }
theorem ef_6 (m : MethodId) (p1 : Int32) : entryFrame m #[(.int p1)] 1 = mkF m 0 #[.val (.int p1)] [] := by first | (simp [entryFrame, mkF, argsToLocals, Value.category]; done) | rfl
theorem pn_com_example_methodical_gateway_methodicalgateway_core_http_HttpMessageReader : plainName "com/example/methodical_gateway/methodicalgateway/core/http/HttpMessageReader" = true := by first | (simp [plainName, overriddenIn]; done) | decide +kernel
set_option maxRecDepth 65536 in
set_option maxHeartbeats 40000000 in
theorem rm6 (l : Launch) (Z : State) (a0 : Array Value) (hw : ∀ d ∈ tables_1, d.before a0 Z = true) (ws : List Jvm.Cond) (p1 : Int32) (h0 : Heap) (n0 : Nat) :
    Mt l Z mt6 (Jvm.Cond.code mt6 prog_18_method_36_code 1 (some .int) :: ws) rmR6 #[(.int p1)] h0 (Q6 p1 h0 n0) := by
  refine Mt.of n0 (plainFor_of_name pn_com_example_methodical_gateway_methodicalgateway_core_http_HttpMessageReader) ?_
  intro p e s m below meth c T0 X0 hx hZ hby hml hown hret hlk hnm hs0
  have hown : s.vm.findClass "com/example/methodical_gateway/methodicalgateway/core/http/HttpMessageReader" = some m.cls := hown
  rw [ef_6]
  show Rt p e below s rmR6.cells rmR6.slots (Q6 p1 h0 n0) (T0.setTop (mkF m 0 #[.val (.int p1)] []))
  refine Rt.iloadN (pc' := 1) X0 hx (hb hby d6_0) rfl rfl ?_
  refine Rt.bipush (pc' := 3) (v := (48 : Int32)) X0 hx (hb hby d6_1) rfl rfl ?_
  by_cases hc3_1 : p1 < (48 : Int32)
  · refine Rt.icmpY (pc' := 17) X0 hx (hb hby d6_3) (tlt hc3_1).1 (by decide) (by decide) ?_
    refine Rt.iloadN (pc' := 18) X0 hx (hb hby d6_17) rfl rfl ?_
    refine Rt.bipush (pc' := 20) (v := (97 : Int32)) X0 hx (hb hby d6_18) rfl rfl ?_
    by_cases hc20_2 : p1 < (97 : Int32)
    · refine Rt.icmpY (pc' := 37) X0 hx (hb hby d6_20) (tlt hc20_2).1 (by decide) (by decide) ?_
      refine Rt.iloadN (pc' := 38) X0 hx (hb hby d6_37) rfl rfl ?_
      refine Rt.bipush (pc' := 40) (v := (65 : Int32)) X0 hx (hb hby d6_38) rfl rfl ?_
      by_cases hc40_3 : p1 < (65 : Int32)
      · refine Rt.icmpY (pc' := 57) X0 hx (hb hby d6_40) (tlt hc40_3).1 (by decide) (by decide) ?_
        refine Rt.iconst (pc' := 58) (v := (-1 : Int32)) X0 hx (hb hby d6_57) rfl rfl ?_
        exact Rt.retI X0 hx hlk hret (hb hby d6_58) (by decide) (by decide) (fun L N => ⟨congrArg some (congrArg Value.int (by rw [f6, if_pos hc3_1, if_pos hc20_2, if_pos hc40_3])), N, rfl⟩)
      · refine Rt.icmpN (pc' := 43) X0 hx (hb hby d6_40) (flt hc40_3).1 rfl ?_
        refine Rt.iloadN (pc' := 44) X0 hx (hb hby d6_43) rfl rfl ?_
        refine Rt.bipush (pc' := 46) (v := (70 : Int32)) X0 hx (hb hby d6_44) rfl rfl ?_
        by_cases hc46_4 : (70 : Int32) < p1
        · refine Rt.icmpY (pc' := 57) X0 hx (hb hby d6_46) (tlt hc46_4).2.2.1 (by decide) (by decide) ?_
          refine Rt.iconst (pc' := 58) (v := (-1 : Int32)) X0 hx (hb hby d6_57) rfl rfl ?_
          exact Rt.retI X0 hx hlk hret (hb hby d6_58) (by decide) (by decide) (fun L N => ⟨congrArg some (congrArg Value.int (by rw [f6, if_pos hc3_1, if_pos hc20_2, if_neg hc40_3, if_pos hc46_4])), N, rfl⟩)
        · refine Rt.icmpN (pc' := 49) X0 hx (hb hby d6_46) (flt hc46_4).2.2.1 rfl ?_
          refine Rt.iloadN (pc' := 50) X0 hx (hb hby d6_49) rfl rfl ?_
          refine Rt.bipush (pc' := 52) (v := (65 : Int32)) X0 hx (hb hby d6_50) rfl rfl ?_
          refine Rt.isub (pc' := 53) (r := (p1 - (65 : Int32))) X0 hx (hb hby d6_52) rfl rfl ?_
          refine Rt.bipush (pc' := 55) (v := (10 : Int32)) X0 hx (hb hby d6_53) rfl rfl ?_
          refine Rt.iadd (pc' := 56) (r := ((p1 - (65 : Int32)) + (10 : Int32))) X0 hx (hb hby d6_55) rfl rfl ?_
          exact Rt.retI X0 hx hlk hret (hb hby d6_56) (by decide) (by decide) (fun L N => ⟨congrArg some (congrArg Value.int (by rw [f6, if_pos hc3_1, if_pos hc20_2, if_neg hc40_3, if_neg hc46_4])), N, rfl⟩)
    · refine Rt.icmpN (pc' := 23) X0 hx (hb hby d6_20) (flt hc20_2).1 rfl ?_
      refine Rt.iloadN (pc' := 24) X0 hx (hb hby d6_23) rfl rfl ?_
      refine Rt.bipush (pc' := 26) (v := (102 : Int32)) X0 hx (hb hby d6_24) rfl rfl ?_
      by_cases hc26_5 : (102 : Int32) < p1
      · refine Rt.icmpY (pc' := 37) X0 hx (hb hby d6_26) (tlt hc26_5).2.2.1 (by decide) (by decide) ?_
        refine Rt.iloadN (pc' := 38) X0 hx (hb hby d6_37) rfl rfl ?_
        refine Rt.bipush (pc' := 40) (v := (65 : Int32)) X0 hx (hb hby d6_38) rfl rfl ?_
        by_cases hc40_6 : p1 < (65 : Int32)
        · refine Rt.icmpY (pc' := 57) X0 hx (hb hby d6_40) (tlt hc40_6).1 (by decide) (by decide) ?_
          refine Rt.iconst (pc' := 58) (v := (-1 : Int32)) X0 hx (hb hby d6_57) rfl rfl ?_
          exact Rt.retI X0 hx hlk hret (hb hby d6_58) (by decide) (by decide) (fun L N => ⟨congrArg some (congrArg Value.int (by rw [f6, if_pos hc3_1, if_neg hc20_2, if_pos hc26_5, if_pos hc40_6])), N, rfl⟩)
        · refine Rt.icmpN (pc' := 43) X0 hx (hb hby d6_40) (flt hc40_6).1 rfl ?_
          refine Rt.iloadN (pc' := 44) X0 hx (hb hby d6_43) rfl rfl ?_
          refine Rt.bipush (pc' := 46) (v := (70 : Int32)) X0 hx (hb hby d6_44) rfl rfl ?_
          by_cases hc46_7 : (70 : Int32) < p1
          · refine Rt.icmpY (pc' := 57) X0 hx (hb hby d6_46) (tlt hc46_7).2.2.1 (by decide) (by decide) ?_
            refine Rt.iconst (pc' := 58) (v := (-1 : Int32)) X0 hx (hb hby d6_57) rfl rfl ?_
            exact Rt.retI X0 hx hlk hret (hb hby d6_58) (by decide) (by decide) (fun L N => ⟨congrArg some (congrArg Value.int (by rw [f6, if_pos hc3_1, if_neg hc20_2, if_pos hc26_5, if_neg hc40_6, if_pos hc46_7])), N, rfl⟩)
          · refine Rt.icmpN (pc' := 49) X0 hx (hb hby d6_46) (flt hc46_7).2.2.1 rfl ?_
            refine Rt.iloadN (pc' := 50) X0 hx (hb hby d6_49) rfl rfl ?_
            refine Rt.bipush (pc' := 52) (v := (65 : Int32)) X0 hx (hb hby d6_50) rfl rfl ?_
            refine Rt.isub (pc' := 53) (r := (p1 - (65 : Int32))) X0 hx (hb hby d6_52) rfl rfl ?_
            refine Rt.bipush (pc' := 55) (v := (10 : Int32)) X0 hx (hb hby d6_53) rfl rfl ?_
            refine Rt.iadd (pc' := 56) (r := ((p1 - (65 : Int32)) + (10 : Int32))) X0 hx (hb hby d6_55) rfl rfl ?_
            exact Rt.retI X0 hx hlk hret (hb hby d6_56) (by decide) (by decide) (fun L N => ⟨congrArg some (congrArg Value.int (by rw [f6, if_pos hc3_1, if_neg hc20_2, if_pos hc26_5, if_neg hc40_6, if_neg hc46_7])), N, rfl⟩)
      · refine Rt.icmpN (pc' := 29) X0 hx (hb hby d6_26) (flt hc26_5).2.2.1 rfl ?_
        refine Rt.iloadN (pc' := 30) X0 hx (hb hby d6_29) rfl rfl ?_
        refine Rt.bipush (pc' := 32) (v := (97 : Int32)) X0 hx (hb hby d6_30) rfl rfl ?_
        refine Rt.isub (pc' := 33) (r := (p1 - (97 : Int32))) X0 hx (hb hby d6_32) rfl rfl ?_
        refine Rt.bipush (pc' := 35) (v := (10 : Int32)) X0 hx (hb hby d6_33) rfl rfl ?_
        refine Rt.iadd (pc' := 36) (r := ((p1 - (97 : Int32)) + (10 : Int32))) X0 hx (hb hby d6_35) rfl rfl ?_
        exact Rt.retI X0 hx hlk hret (hb hby d6_36) (by decide) (by decide) (fun L N => ⟨congrArg some (congrArg Value.int (by rw [f6, if_pos hc3_1, if_neg hc20_2, if_neg hc26_5])), N, rfl⟩)
  · refine Rt.icmpN (pc' := 6) X0 hx (hb hby d6_3) (flt hc3_1).1 rfl ?_
    refine Rt.iloadN (pc' := 7) X0 hx (hb hby d6_6) rfl rfl ?_
    refine Rt.bipush (pc' := 9) (v := (57 : Int32)) X0 hx (hb hby d6_7) rfl rfl ?_
    by_cases hc9_8 : (57 : Int32) < p1
    · refine Rt.icmpY (pc' := 17) X0 hx (hb hby d6_9) (tlt hc9_8).2.2.1 (by decide) (by decide) ?_
      refine Rt.iloadN (pc' := 18) X0 hx (hb hby d6_17) rfl rfl ?_
      refine Rt.bipush (pc' := 20) (v := (97 : Int32)) X0 hx (hb hby d6_18) rfl rfl ?_
      by_cases hc20_9 : p1 < (97 : Int32)
      · refine Rt.icmpY (pc' := 37) X0 hx (hb hby d6_20) (tlt hc20_9).1 (by decide) (by decide) ?_
        refine Rt.iloadN (pc' := 38) X0 hx (hb hby d6_37) rfl rfl ?_
        refine Rt.bipush (pc' := 40) (v := (65 : Int32)) X0 hx (hb hby d6_38) rfl rfl ?_
        by_cases hc40_10 : p1 < (65 : Int32)
        · refine Rt.icmpY (pc' := 57) X0 hx (hb hby d6_40) (tlt hc40_10).1 (by decide) (by decide) ?_
          refine Rt.iconst (pc' := 58) (v := (-1 : Int32)) X0 hx (hb hby d6_57) rfl rfl ?_
          exact Rt.retI X0 hx hlk hret (hb hby d6_58) (by decide) (by decide) (fun L N => ⟨congrArg some (congrArg Value.int (by rw [f6, if_neg hc3_1, if_pos hc9_8, if_pos hc20_9, if_pos hc40_10])), N, rfl⟩)
        · refine Rt.icmpN (pc' := 43) X0 hx (hb hby d6_40) (flt hc40_10).1 rfl ?_
          refine Rt.iloadN (pc' := 44) X0 hx (hb hby d6_43) rfl rfl ?_
          refine Rt.bipush (pc' := 46) (v := (70 : Int32)) X0 hx (hb hby d6_44) rfl rfl ?_
          by_cases hc46_11 : (70 : Int32) < p1
          · refine Rt.icmpY (pc' := 57) X0 hx (hb hby d6_46) (tlt hc46_11).2.2.1 (by decide) (by decide) ?_
            refine Rt.iconst (pc' := 58) (v := (-1 : Int32)) X0 hx (hb hby d6_57) rfl rfl ?_
            exact Rt.retI X0 hx hlk hret (hb hby d6_58) (by decide) (by decide) (fun L N => ⟨congrArg some (congrArg Value.int (by rw [f6, if_neg hc3_1, if_pos hc9_8, if_pos hc20_9, if_neg hc40_10, if_pos hc46_11])), N, rfl⟩)
          · refine Rt.icmpN (pc' := 49) X0 hx (hb hby d6_46) (flt hc46_11).2.2.1 rfl ?_
            refine Rt.iloadN (pc' := 50) X0 hx (hb hby d6_49) rfl rfl ?_
            refine Rt.bipush (pc' := 52) (v := (65 : Int32)) X0 hx (hb hby d6_50) rfl rfl ?_
            refine Rt.isub (pc' := 53) (r := (p1 - (65 : Int32))) X0 hx (hb hby d6_52) rfl rfl ?_
            refine Rt.bipush (pc' := 55) (v := (10 : Int32)) X0 hx (hb hby d6_53) rfl rfl ?_
            refine Rt.iadd (pc' := 56) (r := ((p1 - (65 : Int32)) + (10 : Int32))) X0 hx (hb hby d6_55) rfl rfl ?_
            exact Rt.retI X0 hx hlk hret (hb hby d6_56) (by decide) (by decide) (fun L N => ⟨congrArg some (congrArg Value.int (by rw [f6, if_neg hc3_1, if_pos hc9_8, if_pos hc20_9, if_neg hc40_10, if_neg hc46_11])), N, rfl⟩)
      · refine Rt.icmpN (pc' := 23) X0 hx (hb hby d6_20) (flt hc20_9).1 rfl ?_
        refine Rt.iloadN (pc' := 24) X0 hx (hb hby d6_23) rfl rfl ?_
        refine Rt.bipush (pc' := 26) (v := (102 : Int32)) X0 hx (hb hby d6_24) rfl rfl ?_
        by_cases hc26_12 : (102 : Int32) < p1
        · refine Rt.icmpY (pc' := 37) X0 hx (hb hby d6_26) (tlt hc26_12).2.2.1 (by decide) (by decide) ?_
          refine Rt.iloadN (pc' := 38) X0 hx (hb hby d6_37) rfl rfl ?_
          refine Rt.bipush (pc' := 40) (v := (65 : Int32)) X0 hx (hb hby d6_38) rfl rfl ?_
          by_cases hc40_13 : p1 < (65 : Int32)
          · refine Rt.icmpY (pc' := 57) X0 hx (hb hby d6_40) (tlt hc40_13).1 (by decide) (by decide) ?_
            refine Rt.iconst (pc' := 58) (v := (-1 : Int32)) X0 hx (hb hby d6_57) rfl rfl ?_
            exact Rt.retI X0 hx hlk hret (hb hby d6_58) (by decide) (by decide) (fun L N => ⟨congrArg some (congrArg Value.int (by rw [f6, if_neg hc3_1, if_pos hc9_8, if_neg hc20_9, if_pos hc26_12, if_pos hc40_13])), N, rfl⟩)
          · refine Rt.icmpN (pc' := 43) X0 hx (hb hby d6_40) (flt hc40_13).1 rfl ?_
            refine Rt.iloadN (pc' := 44) X0 hx (hb hby d6_43) rfl rfl ?_
            refine Rt.bipush (pc' := 46) (v := (70 : Int32)) X0 hx (hb hby d6_44) rfl rfl ?_
            by_cases hc46_14 : (70 : Int32) < p1
            · refine Rt.icmpY (pc' := 57) X0 hx (hb hby d6_46) (tlt hc46_14).2.2.1 (by decide) (by decide) ?_
              refine Rt.iconst (pc' := 58) (v := (-1 : Int32)) X0 hx (hb hby d6_57) rfl rfl ?_
              exact Rt.retI X0 hx hlk hret (hb hby d6_58) (by decide) (by decide) (fun L N => ⟨congrArg some (congrArg Value.int (by rw [f6, if_neg hc3_1, if_pos hc9_8, if_neg hc20_9, if_pos hc26_12, if_neg hc40_13, if_pos hc46_14])), N, rfl⟩)
            · refine Rt.icmpN (pc' := 49) X0 hx (hb hby d6_46) (flt hc46_14).2.2.1 rfl ?_
              refine Rt.iloadN (pc' := 50) X0 hx (hb hby d6_49) rfl rfl ?_
              refine Rt.bipush (pc' := 52) (v := (65 : Int32)) X0 hx (hb hby d6_50) rfl rfl ?_
              refine Rt.isub (pc' := 53) (r := (p1 - (65 : Int32))) X0 hx (hb hby d6_52) rfl rfl ?_
              refine Rt.bipush (pc' := 55) (v := (10 : Int32)) X0 hx (hb hby d6_53) rfl rfl ?_
              refine Rt.iadd (pc' := 56) (r := ((p1 - (65 : Int32)) + (10 : Int32))) X0 hx (hb hby d6_55) rfl rfl ?_
              exact Rt.retI X0 hx hlk hret (hb hby d6_56) (by decide) (by decide) (fun L N => ⟨congrArg some (congrArg Value.int (by rw [f6, if_neg hc3_1, if_pos hc9_8, if_neg hc20_9, if_pos hc26_12, if_neg hc40_13, if_neg hc46_14])), N, rfl⟩)
        · refine Rt.icmpN (pc' := 29) X0 hx (hb hby d6_26) (flt hc26_12).2.2.1 rfl ?_
          refine Rt.iloadN (pc' := 30) X0 hx (hb hby d6_29) rfl rfl ?_
          refine Rt.bipush (pc' := 32) (v := (97 : Int32)) X0 hx (hb hby d6_30) rfl rfl ?_
          refine Rt.isub (pc' := 33) (r := (p1 - (97 : Int32))) X0 hx (hb hby d6_32) rfl rfl ?_
          refine Rt.bipush (pc' := 35) (v := (10 : Int32)) X0 hx (hb hby d6_33) rfl rfl ?_
          refine Rt.iadd (pc' := 36) (r := ((p1 - (97 : Int32)) + (10 : Int32))) X0 hx (hb hby d6_35) rfl rfl ?_
          exact Rt.retI X0 hx hlk hret (hb hby d6_36) (by decide) (by decide) (fun L N => ⟨congrArg some (congrArg Value.int (by rw [f6, if_neg hc3_1, if_pos hc9_8, if_neg hc20_9, if_neg hc26_12])), N, rfl⟩)
    · refine Rt.icmpN (pc' := 12) X0 hx (hb hby d6_9) (flt hc9_8).2.2.1 rfl ?_
      refine Rt.iloadN (pc' := 13) X0 hx (hb hby d6_12) rfl rfl ?_
      refine Rt.bipush (pc' := 15) (v := (48 : Int32)) X0 hx (hb hby d6_13) rfl rfl ?_
      refine Rt.isub (pc' := 16) (r := (p1 - (48 : Int32))) X0 hx (hb hby d6_15) rfl rfl ?_
      exact Rt.retI X0 hx hlk hret (hb hby d6_16) (by decide) (by decide) (fun L N => ⟨congrArg some (congrArg Value.int (by rw [f6, if_neg hc3_1, if_neg hc9_8])), N, rfl⟩)
theorem pd_4 : parseMethodDescriptor "(I)C" = some ⟨[.int], some .char⟩ := by decide +kernel
theorem pd_5 : parseMethodDescriptor "(C)I" = some ⟨[.char], some .int⟩ := by decide +kernel
def f0_v5 (p1 : Int32) : Int32 := ((p1 &&& (65535 : Int32)).toUInt32.toUInt16.toUInt32.toInt32)
def f0_v10 (p2 : Int32) : Int32 := (p2 &&& (15 : Int32))
def f0_a17_0 (p2 : Int32) : Int32 := (f1 (f0_v10 p2) (48 : Int32) (49 : Int32) (50 : Int32) (51 : Int32) (52 : Int32) (53 : Int32) (54 : Int32) (55 : Int32) (56 : Int32) (57 : Int32) (97 : Int32) (98 : Int32) (99 : Int32) (100 : Int32) (101 : Int32) (102 : Int32))
def f0_a30_0 (p2 : Int32) : Int32 := (f1 (f0_v10 p2) (48 : Int32) (49 : Int32) (50 : Int32) (51 : Int32) (52 : Int32) (53 : Int32) (54 : Int32) (55 : Int32) (56 : Int32) (57 : Int32) (65 : Int32) (66 : Int32) (67 : Int32) (68 : Int32) (69 : Int32) (70 : Int32))
def f0_v48 (p1 : Int32) : Int32 := (f6 (f0_v5 p1))
def f0_j101_s0 (p1 : Int32) : Int32 := (if (f0_v5 p1) = (f1 (f0_v48 p1) (48 : Int32) (49 : Int32) (50 : Int32) (51 : Int32) (52 : Int32) (53 : Int32) (54 : Int32) (55 : Int32) (56 : Int32) (57 : Int32) (97 : Int32) (98 : Int32) (99 : Int32) (100 : Int32) (101 : Int32) (102 : Int32)) then (1 : Int32) else (if (f0_v5 p1) = (f1 (f0_v48 p1) (48 : Int32) (49 : Int32) (50 : Int32) (51 : Int32) (52 : Int32) (53 : Int32) (54 : Int32) (55 : Int32) (56 : Int32) (57 : Int32) (65 : Int32) (66 : Int32) (67 : Int32) (68 : Int32) (69 : Int32) (70 : Int32)) then (1 : Int32) else (0 : Int32)))
def f0_j109_l6 (p1 : Int32) : Int32 := (if (f0_v48 p1) = (-1 : Int32) then (1 : Int32) else (if (f0_v48 p1) < (0 : Int32) then (0 : Int32) else (if (15 : Int32) < (f0_v48 p1) then (0 : Int32) else (f0_j101_s0 p1))))
def f0 (p1 : Int32) : Int32 := (if (f0_j109_l6 p1) = (0 : Int32) then (0 : Int32) else (1 : Int32))
def own_16 : List Int32 := [0, 1, 2, 3, 4, 5, 6, 7, 8, 9, 10, 11, 12, 13, 14, 15]
theorem own_m16 (y : Int32) : f0_v10 y ∈ own_16 := by
  unfold f0_v10
  have g := c_mask y 15 4 (by decide) (by decide)
  have l0 : (0 : Int32).toInt = 0 := by decide
  have l1 : (1 : Int32).toInt = 1 := by decide
  have l2 : (2 : Int32).toInt = 2 := by decide
  have l3 : (3 : Int32).toInt = 3 := by decide
  have l4 : (4 : Int32).toInt = 4 := by decide
  have l5 : (5 : Int32).toInt = 5 := by decide
  have l6 : (6 : Int32).toInt = 6 := by decide
  have l7 : (7 : Int32).toInt = 7 := by decide
  have l8 : (8 : Int32).toInt = 8 := by decide
  have l9 : (9 : Int32).toInt = 9 := by decide
  have l10 : (10 : Int32).toInt = 10 := by decide
  have l11 : (11 : Int32).toInt = 11 := by decide
  have l12 : (12 : Int32).toInt = 12 := by decide
  have l13 : (13 : Int32).toInt = 13 := by decide
  have l14 : (14 : Int32).toInt = 14 := by decide
  have l15 : (15 : Int32).toInt = 15 := by decide
  simp only [own_16, List.mem_cons, List.not_mem_nil, or_false, ← Int32.toInt_inj]
  omega
theorem own_d0 (y : Int32) : ¬ (f0_v10 y) < (0 : Int32) := (by decide +kernel : ∀ d ∈ own_16, ¬ d < (0 : Int32)) _ (own_m16 y)
theorem own_d15 (y : Int32) : ¬ (15 : Int32) < (f0_v10 y) := (by decide +kernel : ∀ d ∈ own_16, ¬ (15 : Int32) < d) _ (own_m16 y)
theorem own_lo (y : Int32) : f6 (f0_a17_0 y) = f0_v10 y := (by decide +kernel : ∀ d ∈ own_16, f6 (f1 d (48 : Int32) (49 : Int32) (50 : Int32) (51 : Int32) (52 : Int32) (53 : Int32) (54 : Int32) (55 : Int32) (56 : Int32) (57 : Int32) (97 : Int32) (98 : Int32) (99 : Int32) (100 : Int32) (101 : Int32) (102 : Int32)) = d) _ (own_m16 y)
theorem own_up (y : Int32) : f6 (f0_a30_0 y) = f0_v10 y := (by decide +kernel : ∀ d ∈ own_16, f6 (f1 d (48 : Int32) (49 : Int32) (50 : Int32) (51 : Int32) (52 : Int32) (53 : Int32) (54 : Int32) (55 : Int32) (56 : Int32) (57 : Int32) (65 : Int32) (66 : Int32) (67 : Int32) (68 : Int32) (69 : Int32) (70 : Int32)) = d) _ (own_m16 y)
def own_hex : List Int32 := [48, 49, 50, 51, 52, 53, 54, 55, 56, 57, 97, 98, 99, 100, 101, 102, 65, 66, 67, 68, 69, 70]
def own_j (c : Int32) : Int32 := if c = (f1 (f6 c) (48 : Int32) (49 : Int32) (50 : Int32) (51 : Int32) (52 : Int32) (53 : Int32) (54 : Int32) (55 : Int32) (56 : Int32) (57 : Int32) (97 : Int32) (98 : Int32) (99 : Int32) (100 : Int32) (101 : Int32) (102 : Int32)) then 1 else (if c = (f1 (f6 c) (48 : Int32) (49 : Int32) (50 : Int32) (51 : Int32) (52 : Int32) (53 : Int32) (54 : Int32) (55 : Int32) (56 : Int32) (57 : Int32) (65 : Int32) (66 : Int32) (67 : Int32) (68 : Int32) (69 : Int32) (70 : Int32)) then 1 else 0)
def own_k (c : Int32) : Int32 := if f6 c = (-1 : Int32) then 1 else (if f6 c < 0 then 0 else (if 15 < f6 c then 0 else own_j c))
theorem own_out (c : Int32) (h : c ∉ own_hex) : f6 c = -1 := by
  have l48 : (48 : Int32).toInt = 48 := by decide
  have l49 : (49 : Int32).toInt = 49 := by decide
  have l50 : (50 : Int32).toInt = 50 := by decide
  have l51 : (51 : Int32).toInt = 51 := by decide
  have l52 : (52 : Int32).toInt = 52 := by decide
  have l53 : (53 : Int32).toInt = 53 := by decide
  have l54 : (54 : Int32).toInt = 54 := by decide
  have l55 : (55 : Int32).toInt = 55 := by decide
  have l56 : (56 : Int32).toInt = 56 := by decide
  have l57 : (57 : Int32).toInt = 57 := by decide
  have l97 : (97 : Int32).toInt = 97 := by decide
  have l98 : (98 : Int32).toInt = 98 := by decide
  have l99 : (99 : Int32).toInt = 99 := by decide
  have l100 : (100 : Int32).toInt = 100 := by decide
  have l101 : (101 : Int32).toInt = 101 := by decide
  have l102 : (102 : Int32).toInt = 102 := by decide
  have l65 : (65 : Int32).toInt = 65 := by decide
  have l66 : (66 : Int32).toInt = 66 := by decide
  have l67 : (67 : Int32).toInt = 67 := by decide
  have l68 : (68 : Int32).toInt = 68 := by decide
  have l69 : (69 : Int32).toInt = 69 := by decide
  have l70 : (70 : Int32).toInt = 70 := by decide
  simp only [own_hex, List.mem_cons, List.not_mem_nil, or_false, ← Int32.toInt_inj] at h
  unfold f6
  simp only [Int32.lt_iff_toInt_lt]
  repeat' split
  all_goals first | rfl | (exfalso; omega)
theorem own_law (p q : Int32) : f0 p = 1 := by
  have e : f0_j109_l6 p = own_k (f0_v5 p) := rfl
  have k : own_k (f0_v5 p) = 1 := by
    by_cases h : f0_v5 p ∈ own_hex
    · exact (by decide +kernel : ∀ c ∈ own_hex, own_k c = 1) _ h
    · unfold own_k
      rw [if_pos (own_out _ h)]
  unfold f0
  rw [e, k]
  rfl
def Q0 (Z : State) (p1 : Int32) (p2 : Int32) (cs : Int32) (vf : Value) (h0 : Heap) (n0 : Nat) (v : Option Value) (h : Heap) (L : List Loc) : Prop := v = some (.int (f0 p1)) ∧ Fr n0 L ∧ Keep h0 h []
theorem ef_0 (m : MethodId) (p1 : Int32) (p2 : Int32) : entryFrame m #[(.int p1), (.int p2)] maxLocals = mkF m 0 #[.val (.int p1), .val (.int p2), .unset, .unset, .unset, .unset, .unset] [] := by first | (simp [entryFrame, mkF, argsToLocals, Value.category, maxLocals]; done) | rfl
theorem pn_com_example_methodical_gateway_methodicalgateway_core_http_HttpMessageReaderHexDigitPinLaw : plainName "com/example/methodical_gateway/methodicalgateway/core/http/HttpMessageReaderHexDigitPinLaw" = true := by first | (simp [plainName, overriddenIn]; done) | decide +kernel
set_option maxRecDepth 65536 in
set_option maxHeartbeats 40000000 in
theorem rm0 (l : Launch) (Z : State) (a0 : Array Value) (hw : ∀ d ∈ tables_1, d.before a0 Z = true) (ws : List Jvm.Cond) (p1 : Int32) (p2 : Int32) (cs : Int32) (vf : Value) (h0 : Heap) (n0 : Nat) (Z0 : n0 ≤ h0.size) (F_S_java_lang_String_COMPACT_STRINGS : Sta Z h0 "java/lang/String" "COMPACT_STRINGS" "Z" (.int cs)) (F_S_jdk_internal_util_Preconditions_SIOOBE_FORMATTER : Sta Z h0 nm1 "SIOOBE_FORMATTER" nm2 vf) (c_s : ¬ cs = (0 : Int32)) (hvf : vf.isRef = true) (hh0 : Z.heap = h0) (hn0 : Z.heap.size ≤ n0) (hH8 : Jvm.Lit.constHeld Z "com/example/methodical_gateway/methodicalgateway/core/http/HttpMessageReaderHexDigitPinLaw" 8) (hH22 : Jvm.Lit.constHeld Z "com/example/methodical_gateway/methodicalgateway/core/http/HttpMessageReaderHexDigitPinLaw" 22) (hcw : Jvm.Lit.compactW.before a0 Z = true) :
    Mw l Z x (Jvm.Cond.code x code maxLocals ret :: ws) room_1 #[(.int p1), (.int p2)] (Q0 Z p1 p2 cs vf h0 n0) := by
  refine Mw.of n0 hh0 (plainFor_of_name pn_com_example_methodical_gateway_methodicalgateway_core_http_HttpMessageReaderHexDigitPinLaw) ?_
  intro p e m below meth c T0 X0 hx hZ hby hml hown hret hlk hnm
  have hml : c.maxLocals = 7 := hml
  have hret : meth.sig.returnType = some .boolean := hret
  have hown : (Z.setVm Z.vm).vm.findClass "com/example/methodical_gateway/methodicalgateway/core/http/HttpMessageReaderHexDigitPinLaw" = some m.cls := hown
  rw [ef_0]
  have IBc : IB Z Z.vm [] := IB.start
  show Rw p e below (Z.setVm Z.vm) room_1.cells room_1.slots (Q0 Z p1 p2 cs vf h0 n0) (T0.setTop (mkF m 0 #[.val (.int p1), .val (.int p2), .unset, .unset, .unset, .unset, .unset] []))
  refine Rw.iloadN (pc' := 1) X0 hx (hb hby at_0) rfl rfl ?_
  refine Rw.ldcInt (pc' := 3) X0 hx hZ hown (own_g hw 0 rfl) (hb hby at_1) rfl ?_
  refine Rw.iand (pc' := 4) (r := (p1 &&& (65535 : Int32))) X0 hx (hb hby at_3) rfl rfl ?_
  refine Rw.i2c (pc' := 5) (r := ((p1 &&& (65535 : Int32)).toUInt32.toUInt16.toUInt32.toInt32)) X0 hx (hb hby at_4) rfl rfl ?_
  refine Rw.istoreN (pc' := 6) (v := (f0_v5 p1)) (l' := #[.val (.int p1), .val (.int p2), .val (.int (f0_v5 p1)), .unset, .unset, .unset, .unset]) X0 hx (hb hby at_5) rfl rfl ?_
  refine Rw.iloadN (pc' := 7) X0 hx (hb hby at_6) rfl rfl ?_
  refine Rw.bipush (pc' := 9) (v := (15 : Int32)) X0 hx (hb hby at_7) rfl rfl ?_
  refine Rw.iand (pc' := 10) (r := (p2 &&& (15 : Int32))) X0 hx (hb hby at_9) rfl rfl ?_
  refine Rw.istoreN (pc' := 11) (v := (f0_v10 p2)) (l' := #[.val (.int p1), .val (.int p2), .val (.int (f0_v5 p1)), .val (.int (f0_v10 p2)), .unset, .unset, .unset]) X0 hx (hb hby at_10) rfl rfl ?_
  refine Rw.ldcS (pc' := 13) (P := (Q0 Z p1 p2 cs vf h0 n0)) X0 hx hn0 hZ hown (own_g hw 1 rfl) (own_wS hw) IBc (by decide) hH8 hcw (vs := [(.int (48 : Int32)), (.int (49 : Int32)), (.int (50 : Int32)), (.int (51 : Int32)), (.int (52 : Int32)), (.int (53 : Int32)), (.int (54 : Int32)), (.int (55 : Int32)), (.int (56 : Int32)), (.int (57 : Int32)), (.int (97 : Int32)), (.int (98 : Int32)), (.int (99 : Int32)), (.int (100 : Int32)), (.int (101 : Int32)), (.int (102 : Int32))]) (by decide +kernel) (z := (16 : Int32)) (by decide) rfl (by decide) (nn := 64) (by decide) (by decide) (by decide) (by decide) (hb hby at_11) rfl ?_
  intro sa11 sb11 Ts11 hs11 vms11 Xs11 Es11 hZ hown As11 Cs11 Vs11 Bs11 IBc Lt8 Lss11
  have F1 := F_S_java_lang_String_COMPACT_STRINGS.ext Es11
  have F2 := F_S_jdk_internal_util_Preconditions_SIOOBE_FORMATTER.ext Es11
  have K3 := (Keep.refl h0 []).ext Es11
  have Z4 := Nat.le_trans Z0 Es11.1
  refine Rw.iloadN (pc' := 14) Xs11 hx (hb hby at_13) rfl rfl ?_
  refine Rw.callV (pc' := 17) Xs11 hx hZ (y := mt5) (yz := mt5) hown (own_g hw 9 rfl) (own_g hw 10 rfl) (notFace_of_selects (args := #[]) (mvT hZ (own_g hw 12 rfl))) (own_g hw 12 rfl) (own_g hw 11 rfl) (own_g hw 2 rfl) (own_g hw 13 rfl) (by decide) As11 (rm1 l Z a0 hw [] sa11 (f0_v10 p2) cs sb11 (48 : Int32) (49 : Int32) (50 : Int32) (51 : Int32) (52 : Int32) (53 : Int32) (54 : Int32) (55 : Int32) (56 : Int32) (57 : Int32) (97 : Int32) (98 : Int32) (99 : Int32) (100 : Int32) (101 : Int32) (102 : Int32) vf hs11 n0 As11 Cs11 Vs11 Bs11 F1 F2 (own_d0 p2) (own_d15 p2) hvf c_s) (fun _ _ _ q => q.2.1) (W := 0) (by decide) (by decide) (by decide) (by decide) (argsL := [(.int (f0_v10 p2))]) (rest := []) (by rw [hml]; rfl) (lenOf pd_4 rfl) rfl rfl (Nat.le_of_eq rfl) (hb hby at_14) rfl ?_
  rintro _ T5 h5 L5 X5 ⟨rfl, N5, e5⟩
  rw [e5] at X5
  show Rw _ _ _ _ _ _ _ (T5.setTop (mkF m 17 #[.val (.int p1), .val (.int p2), .val (.int (f0_v5 p1)), .val (.int (f0_v10 p2)), .unset, .unset, .unset] [(.int (f1 (f0_v10 p2) (48 : Int32) (49 : Int32) (50 : Int32) (51 : Int32) (52 : Int32) (53 : Int32) (54 : Int32) (55 : Int32) (56 : Int32) (57 : Int32) (97 : Int32) (98 : Int32) (99 : Int32) (100 : Int32) (101 : Int32) (102 : Int32)))]))
  refine Rw.callP (pc' := 20) (r := (.int (f6 (f0_a17_0 p2)))) X5 hx hZ (y := mt6) hown (own_g hw 34 rfl) (own_g hw 35 rfl) (own_g hw 36 rfl) (own_g hw 37 rfl) (by decide) (rm6 l Z a0 hw [] (f0_a17_0 p2) hs11 n0) (W := 0) (by decide) (by decide) (by decide) (by decide) rfl rfl (argsL := [(.int (f0_a17_0 p2))]) (rest := []) (by rw [hml]; rfl) (lenOf pd_5 rfl) rfl rfl (Nat.le_of_eq rfl) (hb hby at_17) rfl ?_
  intro T6 X6
  refine Rw.iloadN (pc' := 21) X6 hx (hb hby at_20) rfl rfl ?_
  refine Rw.icmpN (pc' := 24) X6 hx (hb hby at_21) (teq (own_lo p2)).2 rfl ?_
  refine Rw.ldcS (pc' := 26) (P := (fun v hf L => (Q0 Z p1 p2 cs vf h0 n0) v hf L ∧ hs11.size ≤ hf.size)) X6 hx hn0 hZ hown (own_g hw 38 rfl) (own_wS hw) IBc (by decide) hH22 hcw (vs := [(.int (48 : Int32)), (.int (49 : Int32)), (.int (50 : Int32)), (.int (51 : Int32)), (.int (52 : Int32)), (.int (53 : Int32)), (.int (54 : Int32)), (.int (55 : Int32)), (.int (56 : Int32)), (.int (57 : Int32)), (.int (65 : Int32)), (.int (66 : Int32)), (.int (67 : Int32)), (.int (68 : Int32)), (.int (69 : Int32)), (.int (70 : Int32))]) (by decide +kernel) (z := (16 : Int32)) (by decide) rfl (by decide) (nn := 64) (by decide) (by decide) (by decide) (by decide) (hb hby at_24) rfl ?_
  intro sa24 sb24 Ts24 hs24 vms24 Xs24 Es24 hZ hown As24 Cs24 Vs24 Bs24 IBc Lt22 Lss24
  have Lt8 := Lss24 Lt8
  have F7 := F1.ext Es24
  have F8 := F2.ext Es24
  have F9 := As11.ext Es24
  have F10 := Cs11.ext Es24
  have F11 := Vs11.ext Es24
  have F12 := Bs11.ext Es24
  have K13 := K3.ext Es24
  have Z14 := Nat.le_trans Z4 Es24.1
  refine Rw.iloadN (pc' := 27) Xs24 hx (hb hby at_26) rfl rfl ?_
  refine Rw.callV (pc' := 30) Xs24 hx hZ (y := mt5) (yz := mt5) hown (own_g hw 9 rfl) (own_g hw 10 rfl) (notFace_of_selects (args := #[]) (mvT hZ (own_g hw 12 rfl))) (own_g hw 12 rfl) (own_g hw 11 rfl) (own_g hw 2 rfl) (own_g hw 13 rfl) (by decide) As24 (rm1 l Z a0 hw [] sa24 (f0_v10 p2) cs sb24 (48 : Int32) (49 : Int32) (50 : Int32) (51 : Int32) (52 : Int32) (53 : Int32) (54 : Int32) (55 : Int32) (56 : Int32) (57 : Int32) (65 : Int32) (66 : Int32) (67 : Int32) (68 : Int32) (69 : Int32) (70 : Int32) vf hs24 n0 As24 Cs24 Vs24 Bs24 F7 F8 (own_d0 p2) (own_d15 p2) hvf c_s) (fun _ _ _ q => q.2.1) (W := 0) (by decide) (by decide) (by decide) (by decide) (argsL := [(.int (f0_v10 p2))]) (rest := []) (by rw [hml]; rfl) (lenOf pd_4 rfl) rfl rfl (Nat.le_of_eq rfl) (hb hby at_27) rfl ?_
  rintro _ T15 h15 L15 X15 ⟨rfl, N15, e15⟩
  rw [e15] at X15
  show Rw _ _ _ _ _ _ _ (T15.setTop (mkF m 30 #[.val (.int p1), .val (.int p2), .val (.int (f0_v5 p1)), .val (.int (f0_v10 p2)), .unset, .unset, .unset] [(.int (f1 (f0_v10 p2) (48 : Int32) (49 : Int32) (50 : Int32) (51 : Int32) (52 : Int32) (53 : Int32) (54 : Int32) (55 : Int32) (56 : Int32) (57 : Int32) (65 : Int32) (66 : Int32) (67 : Int32) (68 : Int32) (69 : Int32) (70 : Int32)))]))
  refine Rw.callP (pc' := 33) (r := (.int (f6 (f0_a30_0 p2)))) X15 hx hZ (y := mt6) hown (own_g hw 34 rfl) (own_g hw 35 rfl) (own_g hw 36 rfl) (own_g hw 37 rfl) (by decide) (rm6 l Z a0 hw [] (f0_a30_0 p2) hs24 n0) (W := 0) (by decide) (by decide) (by decide) (by decide) rfl rfl (argsL := [(.int (f0_a30_0 p2))]) (rest := []) (by rw [hml]; rfl) (lenOf pd_5 rfl) rfl rfl (Nat.le_of_eq rfl) (hb hby at_30) rfl ?_
  intro T16 X16
  refine Rw.iloadN (pc' := 34) X16 hx (hb hby at_33) rfl rfl ?_
  refine Rw.icmpN (pc' := 37) X16 hx (hb hby at_34) (teq (own_up p2)).2 rfl ?_
  refine Rw.iconst (pc' := 38) (v := (1 : Int32)) X16 hx (hb hby at_37) rfl rfl ?_
  refine Rw.goto (pc' := 42) X16 hx (hb hby at_38) (by decide) (by decide) ?_
  refine Rw.istore (pc' := 44) (v := (1 : Int32)) (l' := #[.val (.int p1), .val (.int p2), .val (.int (f0_v5 p1)), .val (.int (f0_v10 p2)), .val (.int (1 : Int32)), .unset, .unset]) X16 hx (hb hby at_42) rfl rfl ?_
  refine Rw.iloadN (pc' := 45) X16 hx (hb hby at_44) rfl rfl ?_
  refine Rw.callP (pc' := 48) (r := (.int (f6 (f0_v5 p1)))) X16 hx hZ (y := mt6) hown (own_g hw 34 rfl) (own_g hw 35 rfl) (own_g hw 36 rfl) (own_g hw 37 rfl) (by decide) (rm6 l Z a0 hw [] (f0_v5 p1) hs24 n0) (W := 0) (by decide) (by decide) (by decide) (by decide) rfl rfl (argsL := [(.int (f0_v5 p1))]) (rest := []) (by rw [hml]; rfl) (lenOf pd_5 rfl) rfl rfl (Nat.le_of_eq rfl) (hb hby at_45) rfl ?_
  intro T17 X17
  refine Rw.istore (pc' := 50) (v := (f0_v48 p1)) (l' := #[.val (.int p1), .val (.int p2), .val (.int (f0_v5 p1)), .val (.int (f0_v10 p2)), .val (.int (1 : Int32)), .val (.int (f0_v48 p1)), .unset]) X17 hx (hb hby at_48) rfl rfl ?_
  refine Rw.iload (pc' := 52) X17 hx (hb hby at_50) rfl rfl ?_
  refine Rw.iconst (pc' := 53) (v := (-1 : Int32)) X17 hx (hb hby at_52) rfl rfl ?_
  have J53_18 : ∀ T18  , Sd p l e room_1 (Z.setVm vms24) m #[(.int p1), (.int p2)] below meth c T18 n0 4 136 hs24 → Rw p e below (Z.setVm vms24) room_1.cells room_1.slots (fun v hf L => (fun v hf L => (Q0 Z p1 p2 cs vf h0 n0) v hf L ∧ hs11.size ≤ hf.size) v hf L ∧ hs24.size ≤ hf.size) (T18.setTop (mkF m 109 #[.val (.int p1), .val (.int p2), .val (.int (f0_v5 p1)), .val (.int (f0_v10 p2)), .val (.int (1 : Int32)), .val (.int (f0_v48 p1)), .val (.int (f0_j109_l6 p1))] [])) := by
    intro T18   X18 
    refine Rw.iload (pc' := 111) X18 hx (hb hby at_109) rfl rfl ?_
    refine Rw.ifN (pc' := 114) X18 hx (hb hby at_111) ((if0 _ _).trans (feq (by decide : ¬ ((1 : Int32) = (0 : Int32)))).1) rfl ?_
    refine Rw.iload (pc' := 116) X18 hx (hb hby at_114) rfl rfl ?_
    by_cases hc116_19 : (f0_j109_l6 p1) = (0 : Int32)
    · refine Rw.ifY (pc' := 123) X18 hx (hb hby at_116) ((if0 _ _).trans (teq hc116_19).1) (by decide) (by decide) ?_
      refine Rw.iconst (pc' := 124) (v := (0 : Int32)) X18 hx (hb hby at_123) rfl rfl ?_
      exact Rw.retZ (w := (0 : Int32)) X18 hx hlk hret (by simp) (hb hby at_124) (by decide) (by decide) (by decide) (fun L N => ⟨⟨⟨congrArg some (congrArg Value.int (by rw [f0, if_pos hc116_19])), N, K13⟩, Es24.1⟩, Nat.le_refl _⟩)
    · refine Rw.ifN (pc' := 119) X18 hx (hb hby at_116) ((if0 _ _).trans (feq hc116_19).1) rfl ?_
      refine Rw.iconst (pc' := 120) (v := (1 : Int32)) X18 hx (hb hby at_119) rfl rfl ?_
      refine Rw.goto (pc' := 124) X18 hx (hb hby at_120) (by decide) (by decide) ?_
      exact Rw.retZ (w := (1 : Int32)) X18 hx hlk hret (by simp) (hb hby at_124) (by decide) (by decide) (by decide) (fun L N => ⟨⟨⟨congrArg some (congrArg Value.int (by rw [f0, if_neg hc116_19])), N, K13⟩, Es24.1⟩, Nat.le_refl _⟩)
  by_cases hc53_20 : (f0_v48 p1) = (-1 : Int32)
  · refine Rw.icmpN (pc' := 56) X17 hx (hb hby at_53) (teq hc53_20).2 rfl ?_
    refine Rw.iconst (pc' := 57) (v := (1 : Int32)) X17 hx (hb hby at_56) rfl rfl ?_
    refine Rw.istore (pc' := 59) (v := (1 : Int32)) (l' := #[.val (.int p1), .val (.int p2), .val (.int (f0_v5 p1)), .val (.int (f0_v10 p2)), .val (.int (1 : Int32)), .val (.int (f0_v48 p1)), .val (.int (1 : Int32))]) X17 hx (hb hby at_57) rfl rfl ?_
    refine Rw.goto (pc' := 109) X17 hx (hb hby at_59) (by decide) (by decide) ?_
    have q := J53_18 T17   X17
    rw [show (f0_j109_l6 p1) = (1 : Int32) from by rw [f0_j109_l6, if_pos hc53_20]] at q
    exact q
  · refine Rw.icmpY (pc' := 62) X17 hx (hb hby at_53) (feq hc53_20).2 (by decide) (by decide) ?_
    refine Rw.iload (pc' := 64) X17 hx (hb hby at_62) rfl rfl ?_
    by_cases hc64_21 : (f0_v48 p1) < (0 : Int32)
    · refine Rw.ifY (pc' := 106) X17 hx (hb hby at_64) ((if0 _ _).trans (tlt hc64_21).1) (by decide) (by decide) ?_
      refine Rw.iconst (pc' := 107) (v := (0 : Int32)) X17 hx (hb hby at_106) rfl rfl ?_
      refine Rw.istore (pc' := 109) (v := (0 : Int32)) (l' := #[.val (.int p1), .val (.int p2), .val (.int (f0_v5 p1)), .val (.int (f0_v10 p2)), .val (.int (1 : Int32)), .val (.int (f0_v48 p1)), .val (.int (0 : Int32))]) X17 hx (hb hby at_107) rfl rfl ?_
      have q := J53_18 T17   X17
      rw [show (f0_j109_l6 p1) = (0 : Int32) from by rw [f0_j109_l6, if_neg hc53_20, if_pos hc64_21]] at q
      exact q
    · refine Rw.ifN (pc' := 67) X17 hx (hb hby at_64) ((if0 _ _).trans (flt hc64_21).1) rfl ?_
      refine Rw.iload (pc' := 69) X17 hx (hb hby at_67) rfl rfl ?_
      refine Rw.bipush (pc' := 71) (v := (15 : Int32)) X17 hx (hb hby at_69) rfl rfl ?_
      by_cases hc71_22 : (15 : Int32) < (f0_v48 p1)
      · refine Rw.icmpY (pc' := 106) X17 hx (hb hby at_71) (tlt hc71_22).2.2.1 (by decide) (by decide) ?_
        refine Rw.iconst (pc' := 107) (v := (0 : Int32)) X17 hx (hb hby at_106) rfl rfl ?_
        refine Rw.istore (pc' := 109) (v := (0 : Int32)) (l' := #[.val (.int p1), .val (.int p2), .val (.int (f0_v5 p1)), .val (.int (f0_v10 p2)), .val (.int (1 : Int32)), .val (.int (f0_v48 p1)), .val (.int (0 : Int32))]) X17 hx (hb hby at_107) rfl rfl ?_
        have q := J53_18 T17   X17
        rw [show (f0_j109_l6 p1) = (0 : Int32) from by rw [f0_j109_l6, if_neg hc53_20, if_neg hc64_21, if_pos hc71_22]] at q
        exact q
      · refine Rw.icmpN (pc' := 74) X17 hx (hb hby at_71) (flt hc71_22).2.2.1 rfl ?_
        refine Rw.iloadN (pc' := 75) X17 hx (hb hby at_74) rfl rfl ?_
        refine Rw.ldcAgain (pc' := 77) X17 hx hZ hown (own_g hw 1 rfl) Lt8 (hb hby at_75) rfl ?_
        refine Rw.iload (pc' := 79) X17 hx (hb hby at_77) rfl rfl ?_
        refine Rw.callV (pc' := 82) X17 hx hZ (y := mt5) (yz := mt5) hown (own_g hw 9 rfl) (own_g hw 10 rfl) (notFace_of_selects (args := #[]) (mvT hZ (own_g hw 12 rfl))) (own_g hw 12 rfl) (own_g hw 11 rfl) (own_g hw 2 rfl) (own_g hw 13 rfl) (by decide) F9 (rm1 l Z a0 hw [] sa11 (f0_v48 p1) cs sb11 (48 : Int32) (49 : Int32) (50 : Int32) (51 : Int32) (52 : Int32) (53 : Int32) (54 : Int32) (55 : Int32) (56 : Int32) (57 : Int32) (97 : Int32) (98 : Int32) (99 : Int32) (100 : Int32) (101 : Int32) (102 : Int32) vf hs24 n0 F9 F10 F11 F12 F7 F8 hc64_21 hc71_22 hvf c_s) (fun _ _ _ q => q.2.1) (W := 1) (by decide) (by decide) (by decide) (by decide) (argsL := [(.int (f0_v48 p1))]) (rest := [(.int (f0_v5 p1))]) (by rw [hml]; rfl) (lenOf pd_4 rfl) rfl rfl (Nat.le_of_eq rfl) (hb hby at_79) rfl ?_
        rintro _ T23 h23 L23 X23 ⟨rfl, N23, e23⟩
        rw [e23] at X23
        show Rw _ _ _ _ _ _ _ (T23.setTop (mkF m 82 #[.val (.int p1), .val (.int p2), .val (.int (f0_v5 p1)), .val (.int (f0_v10 p2)), .val (.int (1 : Int32)), .val (.int (f0_v48 p1)), .unset] [(.int (f1 (f0_v48 p1) (48 : Int32) (49 : Int32) (50 : Int32) (51 : Int32) (52 : Int32) (53 : Int32) (54 : Int32) (55 : Int32) (56 : Int32) (57 : Int32) (97 : Int32) (98 : Int32) (99 : Int32) (100 : Int32) (101 : Int32) (102 : Int32))), (.int (f0_v5 p1))]))
        have J82_24 : ∀ T24  , Sd p l e room_1 (Z.setVm vms24) m #[(.int p1), (.int p2)] below meth c T24 n0 4 136 hs24 → Rw p e below (Z.setVm vms24) room_1.cells room_1.slots (fun v hf L => (fun v hf L => (Q0 Z p1 p2 cs vf h0 n0) v hf L ∧ hs11.size ≤ hf.size) v hf L ∧ hs24.size ≤ hf.size) (T24.setTop (mkF m 101 #[.val (.int p1), .val (.int p2), .val (.int (f0_v5 p1)), .val (.int (f0_v10 p2)), .val (.int (1 : Int32)), .val (.int (f0_v48 p1)), .unset] [(.int (f0_j101_s0 p1))])) := by
          intro T24   X24 
          refine Rw.istore (pc' := 103) (v := (f0_j101_s0 p1)) (l' := #[.val (.int p1), .val (.int p2), .val (.int (f0_v5 p1)), .val (.int (f0_v10 p2)), .val (.int (1 : Int32)), .val (.int (f0_v48 p1)), .val (.int (f0_j101_s0 p1))]) X24 hx (hb hby at_101) rfl rfl ?_
          refine Rw.goto (pc' := 109) X24 hx (hb hby at_103) (by decide) (by decide) ?_
          have q := J53_18 T24   X24
          rw [show (f0_j109_l6 p1) = (f0_j101_s0 p1) from by rw [f0_j109_l6, if_neg hc53_20, if_neg hc64_21, if_neg hc71_22]] at q
          exact q
        by_cases hc82_25 : (f0_v5 p1) = (f1 (f0_v48 p1) (48 : Int32) (49 : Int32) (50 : Int32) (51 : Int32) (52 : Int32) (53 : Int32) (54 : Int32) (55 : Int32) (56 : Int32) (57 : Int32) (97 : Int32) (98 : Int32) (99 : Int32) (100 : Int32) (101 : Int32) (102 : Int32))
        · refine Rw.icmpY (pc' := 96) X23 hx (hb hby at_82) (teq hc82_25).1 (by decide) (by decide) ?_
          refine Rw.iconst (pc' := 97) (v := (1 : Int32)) X23 hx (hb hby at_96) rfl rfl ?_
          refine Rw.goto (pc' := 101) X23 hx (hb hby at_97) (by decide) (by decide) ?_
          have q := J82_24 T23   X23
          rw [show (f0_j101_s0 p1) = (1 : Int32) from by rw [f0_j101_s0, if_pos hc82_25]] at q
          exact q
        · refine Rw.icmpN (pc' := 85) X23 hx (hb hby at_82) (feq hc82_25).1 rfl ?_
          refine Rw.iloadN (pc' := 86) X23 hx (hb hby at_85) rfl rfl ?_
          refine Rw.ldcAgain (pc' := 88) X23 hx hZ hown (own_g hw 38 rfl) Lt22 (hb hby at_86) rfl ?_
          refine Rw.iload (pc' := 90) X23 hx (hb hby at_88) rfl rfl ?_
          refine Rw.callV (pc' := 93) X23 hx hZ (y := mt5) (yz := mt5) hown (own_g hw 9 rfl) (own_g hw 10 rfl) (notFace_of_selects (args := #[]) (mvT hZ (own_g hw 12 rfl))) (own_g hw 12 rfl) (own_g hw 11 rfl) (own_g hw 2 rfl) (own_g hw 13 rfl) (by decide) As24 (rm1 l Z a0 hw [] sa24 (f0_v48 p1) cs sb24 (48 : Int32) (49 : Int32) (50 : Int32) (51 : Int32) (52 : Int32) (53 : Int32) (54 : Int32) (55 : Int32) (56 : Int32) (57 : Int32) (65 : Int32) (66 : Int32) (67 : Int32) (68 : Int32) (69 : Int32) (70 : Int32) vf hs24 n0 As24 Cs24 Vs24 Bs24 F7 F8 hc64_21 hc71_22 hvf c_s) (fun _ _ _ q => q.2.1) (W := 1) (by decide) (by decide) (by decide) (by decide) (argsL := [(.int (f0_v48 p1))]) (rest := [(.int (f0_v5 p1))]) (by rw [hml]; rfl) (lenOf pd_4 rfl) rfl rfl (Nat.le_of_eq rfl) (hb hby at_90) rfl ?_
          rintro _ T26 h26 L26 X26 ⟨rfl, N26, e26⟩
          rw [e26] at X26
          show Rw _ _ _ _ _ _ _ (T26.setTop (mkF m 93 #[.val (.int p1), .val (.int p2), .val (.int (f0_v5 p1)), .val (.int (f0_v10 p2)), .val (.int (1 : Int32)), .val (.int (f0_v48 p1)), .unset] [(.int (f1 (f0_v48 p1) (48 : Int32) (49 : Int32) (50 : Int32) (51 : Int32) (52 : Int32) (53 : Int32) (54 : Int32) (55 : Int32) (56 : Int32) (57 : Int32) (65 : Int32) (66 : Int32) (67 : Int32) (68 : Int32) (69 : Int32) (70 : Int32))), (.int (f0_v5 p1))]))
          by_cases hc93_27 : (f0_v5 p1) = (f1 (f0_v48 p1) (48 : Int32) (49 : Int32) (50 : Int32) (51 : Int32) (52 : Int32) (53 : Int32) (54 : Int32) (55 : Int32) (56 : Int32) (57 : Int32) (65 : Int32) (66 : Int32) (67 : Int32) (68 : Int32) (69 : Int32) (70 : Int32))
          · refine Rw.icmpN (pc' := 96) X26 hx (hb hby at_93) (teq hc93_27).2 rfl ?_
            refine Rw.iconst (pc' := 97) (v := (1 : Int32)) X26 hx (hb hby at_96) rfl rfl ?_
            refine Rw.goto (pc' := 101) X26 hx (hb hby at_97) (by decide) (by decide) ?_
            have q := J82_24 T26   X26
            rw [show (f0_j101_s0 p1) = (1 : Int32) from by rw [f0_j101_s0, if_neg hc82_25, if_pos hc93_27]] at q
            exact q
          · refine Rw.icmpY (pc' := 100) X26 hx (hb hby at_93) (feq hc93_27).2 (by decide) (by decide) ?_
            refine Rw.iconst (pc' := 101) (v := (0 : Int32)) X26 hx (hb hby at_100) rfl rfl ?_
            have q := J82_24 T26   X26
            rw [show (f0_j101_s0 p1) = (0 : Int32) from by rw [f0_j101_s0, if_neg hc82_25, if_neg hc93_27]] at q
            exact q
set_option maxRecDepth 65536 in
set_option maxHeartbeats 40000000 in
theorem comes_1 {Post : Tables → Env → Array Value → State → Outcome → State → Prop} (hpost : ∀ tb e args s v u, (limb_1_1.after args s (.returned v) u = true ∧ limb_1_2.after args s (.returned v) u = true ∧ True) → ReturnedEndW s (.returned v) u (Jvm.fieldLocs frame_1_writes args s ++ Jvm.arrayLocs frame_1_arrays args s ++ Jvm.staticLocs frame_1_statics s) 8 2112 → Post tb e args s (.returned v) u) :
    ArmFor flags0 classFile x code maxLocals ret World_1 tables_1 room_1 Calls_1 rest_1 Pre_1 Post := by
  intro l hfl _ _ p e ha hc hk s m args below hf hA hF happ hP
  obtain ⟨hcalls, hrest, hpre⟩ := hP
  obtain ⟨-, -, -, hnamed, -, -, -, hat⟩ := (Spec.applies_iff hf).mp happ
  obtain ⟨hg, hn⟩ := and_e (Cond.before_iff.mp (show (Jvm.Cond.and given_1 narrow_1).before args s = true from hpre))
  obtain ⟨g1, g2⟩ := and_e hg
  obtain ⟨g3, g4⟩ := and_e g2
  obtain ⟨w0, w1, rfl⟩ : ∃ w0 w1 : Value, args = #[w0, w1] := by
    have hs : args.size = 2 := by simpa [Cond.value, given_1] using g1
    obtain ⟨L⟩ := args
    match L, hs with
    | [w0, w1], _ => exact ⟨w0, w1, rfl⟩
  have hw := fun d (hd : d ∈ tables_1) => atoms_spec (ws := Jvm.Cond.code x code maxLocals ret :: tables_1) hat d (List.mem_cons_of_mem _ hd)
  have hfit : Fit s := fun {y c} hc i hi => by
    obtain ⟨ha, rfl⟩ := Array.getElem?_eq_some_iff.mp hc
    have q := List.all_eq_true.mp ((Array.all_eq_true_iff_forall_mem.mp hF) _ (Array.getElem_mem ha)) i (List.mem_range.mpr hi)
    simpa [Array.getElem?_eq_getElem hi] using q
  obtain ⟨hsets, hown0⟩ := atoms_of _ (rest_1_c_eq ▸ (show rest_1_c.before _ s = true from hrest))
  have hr0 := Cond.before_iff.mp hown0
  obtain ⟨i0, ei0⟩ := is_v g3
  obtain rfl : w0 = (.int i0) := Option.some.inj ei0
  obtain ⟨i1, ei1⟩ := is_v g4
  obtain rfl : w1 = (.int i1) := Option.some.inj ei1
  have S0 := hsets _ (List.mem_of_getElem? (i := 0) rfl)
  obtain ⟨cs, ecs⟩ := is_v (Cond.before_iff.mp (hsets _ (List.mem_of_getElem? (i := 1) rfl)))
  have hcw := hsets _ (List.mem_of_getElem? (i := 2) rfl)
  have n3 := not_v (Cond.before_iff.mp hcw)
  have SS := Sta.start ecs (Or.inl S0)
  have csn : ¬ cs = (0 : Int32) := gotF (Cond.eq_ints ecs (Term.int_eval (0))) n3
  obtain ⟨vf, evf, hvf⟩ := isR_v (Cond.before_iff.mp (hsets _ (List.mem_of_getElem? (i := 8) rfl)))
  have SF := Sta.start evf (Or.inl (hsets _ (List.mem_of_getElem? (i := 7) rfl)))
  have hH8 := hcalls.1 _ (List.mem_of_getElem? (i := 0) rfl)
  have hH22 := hcalls.1 _ (List.mem_of_getElem? (i := 1) rfl)
  obtain ⟨n, o, h1, h2, h3, _, L, rfl, ⟨rfl, N, -⟩, hq⟩ := rm0 l s _ hw tables_1 i0 i1 cs vf s.heap s.heap.size (Nat.le_refl _) SS SF csn hvf rfl (Nat.le_refl _) hH8 hH22 hcw p e ha hc hk s m _ below hf ((Spec.applies_iff_loose hf).mp happ).1 ⟨rfl, rfl⟩ trivial
  rw [own_law i0 i1] at *
  refine ⟨n, _, h1, h2, h3, hpost _ _ _ _ _ _ ⟨Cond.after_iff.mpr rfl, Cond.after_iff.mpr (eq_i res_at (Term.int_eval (1)) rfl), trivial⟩ ⟨hq.1, hq.2.1, hq.2.2.1, (hq.2.2.2.sift fun y hy => Or.inr (N y hy)).mono (by decide) (by decide)⟩⟩
theorem main_1_1 : Claimed_1_1 := comes_1 fun _ _ _ _ _ _ h hF => ⟨h.1, hF⟩
theorem main_1_2 : Claimed_1_2 := comes_1 fun _ _ _ _ _ _ h hF => ⟨h.2.1, hF⟩
end Jvm.Pilot.@@N@@
namespace Jvm.Pilot.@@N@@
open Jvm Jvm.ClassFile Sem Op Lib Jvm.Free Jvm.Stand Jvm.Pilot.@@N@@.Jvm.D
/-! MADE BY PROGRAM (witnessworld.py) out of the Statement's table words and the real class files: 17 classes; the members and pool entries that the words name. The judged class is class 1, her method 1. -/
namespace start1
open Jvm.ClassFile
def u (s : String) : CpInfo := .utf8 (stringToUtf16 s)
/-- a pool by its gaps: so many unusable entries, then the entry; so many at the end -/
def gap : Nat → List CpInfo → List CpInfo
  | 0, r => r
  | n + 1, r => .unusable :: gap n r
def poolList (es : List (Nat × CpInfo)) (last : Nat) : List CpInfo := es.foldr (fun e r => gap e.1 (e.2 :: r)) (gap last [])
def pool (es : List (Nat × CpInfo)) (last : Nat) : Array CpInfo := ⟨poolList es last⟩
def fileOf (pool : Array CpInfo) (this : Nat) (attrs : Array Attribute := #[]) (ms : Array MethodInfo := #[]) (fl : Nat := 33) (sup : Nat := 0) (ifs : Array Nat := #[]) (fds : Array FieldInfo := #[]) : ClassFile where
  minorVersion := 0
  majorVersion := 65
  constantPool := pool
  accessFlags := fl
  thisClass := this
  superClass := sup
  interfaces := ifs
  fields := fds
  methods := ms
  attributes := attrs
def plain (name : String) (sup : Option ClassId) : Class where
  name := name
  kind := .ordinary
  loader := none
  accessFlags := 33
  super := sup
  interfaces := #[]
  cf := none
  fields := #[]
  methods := #[]
  instanceTypes := #[]
  staticTypes := #[]
  resolved := #[]
  callSites := []
  init := .initialized
  statics := none
  mirror := none

def pool0 : Array CpInfo := pool [(5, u "<init>"), (0, u "()V"), (1, .class_ 10), (1, u "java/lang/Object")] 113

def k0m0 : Method := { name := "<init>", desc := "()V", sig := { parameters := [], returnType := none }, accessFlags := 1, code := none }
/-- java/lang/Object -/
def k0 : Class := { plain "java/lang/Object" none with
  accessFlags := 33
  interfaces := #[]
  cf := some (fileOf pool0 8 #[] #[{ accessFlags := 1, nameIndex := 5, descriptorIndex := 6, attributes := #[] }] 33 0 #[] #[])
  fields := #[]
  methods := #[k0m0]
  instanceTypes := #[]
  staticTypes := #[]
  resolved := Array.replicate 124 none
  statics := none }

def pool1 : Array CpInfo := pool [(2, .class_ 4), (1, u "java/lang/Object"), (0, u "<init>"), (0, u "()V"), (0, .integer 65535), (0, .string 9), (0, u "0123456789abcdef"), (0, .methodref 11 12), (0, .class_ 13), (0, .nameAndType 14 15), (0, u "java/lang/String"), (0, u "charAt"), (0, u "(I)C"), (0, .methodref 17 18), (0, .class_ 19), (0, .nameAndType 20 21), (0, u "com/example/methodical_gateway/methodicalgateway/core/http/HttpMessageReader"), (0, u "hexDigit"), (0, u "(C)I"), (0, .string 23), (0, u "0123456789ABCDEF"), (0, .class_ 25), (0, u "com/example/methodical_gateway/methodicalgateway/core/http/HttpMessageReaderHexDigitPinLaw"), (2, u "law"), (0, u "(II)Z")] 3

def k1m0 : Method := { name := "<init>", desc := "()V", sig := { parameters := [], returnType := none }, accessFlags := 1, code := none }
def k1c1 : Code := { maxStack := 3, maxLocals := 7, code := code, exceptionTable := #[], attributes := #[] }
def k1m1 : Method := { name := "law", desc := "(II)Z", sig := { parameters := [.int, .int], returnType := some .boolean }, accessFlags := 9, code := some k1c1 }
/-- com/example/methodical_gateway/methodicalgateway/core/http/HttpMessageReaderHexDigitPinLaw -/
def k1 : Class := { plain "com/example/methodical_gateway/methodicalgateway/core/http/HttpMessageReaderHexDigitPinLaw" (some 0) with
  accessFlags := 49
  interfaces := #[]
  cf := some (fileOf pool1 24 #[] #[{ accessFlags := 1, nameIndex := 5, descriptorIndex := 6, attributes := #[] }, { accessFlags := 9, nameIndex := 28, descriptorIndex := 29, attributes := #[] }] 49 2 #[] #[])
  fields := #[]
  methods := #[k1m0, k1m1]
  instanceTypes := #[]
  staticTypes := #[]
  resolved := Array.replicate 33 none
  statics := none }

def pool2 : Array CpInfo := pool [(1, .class_ 2), (0, u "java/io/Serializable"), (0, .class_ 4), (0, u "java/lang/Object")] 2

/-- java/io/Serializable -/
def k2 : Class := { plain "java/io/Serializable" (some 0) with
  accessFlags := 1537
  interfaces := #[]
  cf := some (fileOf pool2 1 #[] #[] 1537 3 #[] #[])
  fields := #[]
  methods := #[]
  instanceTypes := #[]
  staticTypes := #[]
  resolved := Array.replicate 7 none
  statics := none }

def pool3 : Array CpInfo := pool [(1, .class_ 2), (0, u "java/lang/Comparable"), (0, .class_ 4), (0, u "java/lang/Object")] 7

/-- java/lang/Comparable -/
def k3 : Class := { plain "java/lang/Comparable" (some 0) with
  accessFlags := 1537
  interfaces := #[]
  cf := some (fileOf pool3 1 #[] #[] 1537 3 #[] #[])
  fields := #[]
  methods := #[]
  instanceTypes := #[]
  staticTypes := #[]
  resolved := Array.replicate 12 none
  statics := none }

def pool4 : Array CpInfo := pool [(2, .class_ 4), (1, u "java/lang/CharSequence"), (42, .class_ 48), (0, u "java/lang/CharSequence$1CodePointIterator"), (10, .class_ 60), (0, u "java/lang/CharSequence$1CharIterator"), (5, .class_ 67), (0, u "java/lang/Object")] 63

/-- java/lang/CharSequence -/
def k4 : Class := { plain "java/lang/CharSequence" (some 0) with
  accessFlags := 1537
  interfaces := #[]
  cf := some (fileOf pool4 2 #[.nestMembers #[47, 59]] #[] 1537 66 #[] #[])
  fields := #[]
  methods := #[]
  instanceTypes := #[]
  staticTypes := #[]
  resolved := Array.replicate 131 none
  statics := none }

def pool5 : Array CpInfo := pool [(1, .class_ 2), (0, u "java/lang/constant/Constable"), (0, .class_ 4), (0, u "java/lang/Object")] 6

/-- java/lang/constant/Constable -/
def k5 : Class := { plain "java/lang/constant/Constable" (some 0) with
  accessFlags := 1537
  interfaces := #[]
  cf := some (fileOf pool5 1 #[] #[] 1537 3 #[] #[])
  fields := #[]
  methods := #[]
  instanceTypes := #[]
  staticTypes := #[]
  resolved := Array.replicate 11 none
  statics := none }

def pool6 : Array CpInfo := pool [(1, .class_ 2), (0, u "java/lang/constant/ConstantDesc"), (0, .class_ 4), (0, u "java/lang/Object")] 32

/-- java/lang/constant/ConstantDesc -/
def k6 : Class := { plain "java/lang/constant/ConstantDesc" (some 0) with
  accessFlags := 1537
  interfaces := #[]
  cf := some (fileOf pool6 1 #[] #[] 1537 3 #[] #[])
  fields := #[]
  methods := #[]
  instanceTypes := #[]
  staticTypes := #[]
  resolved := Array.replicate 37 none
  statics := none }

def pool7 : Array CpInfo := pool [(2, .class_ 4), (1, u "java/lang/Object"), (0, u "<init>"), (0, u "()V"), (2, .fieldref 10 11), (0, .class_ 12), (0, .nameAndType 13 14), (0, u "java/lang/String"), (0, u "value"), (0, u "[B"), (0, .fieldref 10 16), (0, .nameAndType 17 18), (0, u "coder"), (0, u "B"), (2, u "hash"), (0, u "I"), (2, u "hashIsZero"), (0, u "Z"), (11, .fieldref 10 39), (0, .nameAndType 40 26), (0, u "COMPACT_STRINGS"), (66, .class_ 109), (1, u "java/lang/StringLatin1"), (32, u "()Z"), (220, u "([BI)C"), (27, u "(II)V"), (35, u "(I)C"), (64, .methodref 10 493), (0, .nameAndType 494 142), (0, u "isLatin1"), (0, .methodref 107 496), (0, .nameAndType 497 363), (0, u "charAt"), (3, u "checkIndex"), (73, .class_ 576), (0, u "java/lang/CharSequence"), (22, u "CASE_INSENSITIVE_ORDER"), (0, u "Ljava/util/Comparator;"), (452, .fieldref 1054 1055), (0, .class_ 1056), (0, .nameAndType 1057 1058), (0, u "jdk/internal/util/Preconditions"), (0, u "SIOOBE_FORMATTER"), (0, u "Ljava/util/function/BiFunction;"), (0, .methodref 1054 1060), (0, .nameAndType 501 1061), (0, u "(IILjava/util/function/BiFunction;)I"), (39, u "serialPersistentFields"), (0, u "[Ljava/io/ObjectStreamField;"), (0, .class_ 1104), (0, u "java/lang/String$CaseInsensitiveComparator"), (1, .class_ 1107), (0, u "java/io/Serializable"), (0, .class_ 1109), (0, u "java/lang/Comparable"), (0, .class_ 1111), (0, u "java/lang/constant/Constable"), (0, .class_ 1113), (0, u "java/lang/constant/ConstantDesc"), (2, u "serialVersionUID"), (0, u "J"), (3, u "REPL"), (0, u "C"), (2, u "LATIN1"), (1, u "UTF16")] 323

def k7m0 : Method := { name := "<init>", desc := "()V", sig := { parameters := [], returnType := none }, accessFlags := 1, code := none }
def k7c1 : Code := { maxStack := 2, maxLocals := 2, code := jdk_42_method_56_code, exceptionTable := #[], attributes := #[] }
def k7m1 : Method := { name := "charAt", desc := "(I)C", sig := { parameters := [.int], returnType := some .char }, accessFlags := 1, code := some k7c1 }
def k7c2 : Code := { maxStack := 1, maxLocals := 1, code := jdk_42_method_154_code, exceptionTable := #[], attributes := #[] }
def k7m2 : Method := { name := "isLatin1", desc := "()Z", sig := { parameters := [], returnType := some .boolean }, accessFlags := 0, code := some k7c2 }
def k7c3 : Code := { maxStack := 3, maxLocals := 2, code := jdk_42_method_155_code, exceptionTable := #[], attributes := #[] }
def k7m3 : Method := { name := "checkIndex", desc := "(II)V", sig := { parameters := [.int, .int], returnType := none }, accessFlags := 8, code := some k7c3 }
/-- java/lang/String -/
def k7 : Class := { plain "java/lang/String" (some 0) with
  accessFlags := 49
  interfaces := #[2, 3, 4, 5, 6]
  cf := some (fileOf pool7 10 #[.nestMembers #[1103]] #[{ accessFlags := 1, nameIndex := 5, descriptorIndex := 6, attributes := #[] }, { accessFlags := 1, nameIndex := 497, descriptorIndex := 427, attributes := #[] }, { accessFlags := 0, nameIndex := 494, descriptorIndex := 142, attributes := #[] }, { accessFlags := 8, nameIndex := 501, descriptorIndex := 391, attributes := #[] }] 49 2 #[1106, 1108, 575, 1110, 1112] #[{ accessFlags := 18, nameIndex := 13, descriptorIndex := 14, attributes := #[] }, { accessFlags := 18, nameIndex := 17, descriptorIndex := 18, attributes := #[] }, { accessFlags := 2, nameIndex := 21, descriptorIndex := 22, attributes := #[] }, { accessFlags := 2, nameIndex := 25, descriptorIndex := 26, attributes := #[] }, { accessFlags := 26, nameIndex := 1116, descriptorIndex := 1117, attributes := #[] }, { accessFlags := 24, nameIndex := 40, descriptorIndex := 26, attributes := #[] }, { accessFlags := 26, nameIndex := 1101, descriptorIndex := 1102, attributes := #[] }, { accessFlags := 26, nameIndex := 1121, descriptorIndex := 1122, attributes := #[] }, { accessFlags := 25, nameIndex := 599, descriptorIndex := 600, attributes := #[] }, { accessFlags := 24, nameIndex := 1125, descriptorIndex := 18, attributes := #[] }, { accessFlags := 24, nameIndex := 1127, descriptorIndex := 18, attributes := #[] }])
  fields := #[{ name := "value", type := (.array .byte), accessFlags := 18, slot := 0, constantValue := 0 }, { name := "coder", type := .byte, accessFlags := 18, slot := 1, constantValue := 0 }, { name := "hash", type := .int, accessFlags := 2, slot := 2, constantValue := 0 }, { name := "hashIsZero", type := .boolean, accessFlags := 2, slot := 3, constantValue := 0 }, { name := "serialVersionUID", type := .long, accessFlags := 26, slot := 0, constantValue := 0 }, { name := "COMPACT_STRINGS", type := .boolean, accessFlags := 24, slot := 1, constantValue := 0 }, { name := "serialPersistentFields", type := (.array (.object "java/io/ObjectStreamField")), accessFlags := 26, slot := 2, constantValue := 0 }, { name := "REPL", type := .char, accessFlags := 26, slot := 3, constantValue := 0 }, { name := "CASE_INSENSITIVE_ORDER", type := (.object "java/util/Comparator"), accessFlags := 25, slot := 4, constantValue := 0 }, { name := "LATIN1", type := .byte, accessFlags := 24, slot := 5, constantValue := 0 }, { name := "UTF16", type := .byte, accessFlags := 24, slot := 6, constantValue := 0 }]
  methods := #[k7m0, k7m1, k7m2, k7m3]
  instanceTypes := #[(.array .byte), .byte, .int, .boolean]
  staticTypes := #[.long, .boolean, (.array (.object "java/io/ObjectStreamField")), .char, (.object "java/util/Comparator"), .byte, .byte]
  resolved := Array.replicate 1451 none
  statics := some 0 }

def pool8 : Array CpInfo := pool [(1, .class_ 2), (0, u "java/lang/String"), (1, .class_ 6), (1, u "java/lang/Object"), (0, u "<init>"), (0, u "()V"), (0, .methodref 1 10), (0, .nameAndType 11 12), (0, u "checkIndex"), (0, u "(II)V"), (1, .class_ 16), (1, u "java/lang/StringLatin1"), (36, u "([BI)C"), (67, u "$assertionsDisabled"), (0, u "Z"), (98, .class_ 223), (1, u "java/lang/StringLatin1$LinesSpliterator"), (28, u "charAt"), (137, .class_ 391), (0, u "java/lang/StringLatin1$CharsSpliterator")] 3

def k8m0 : Method := { name := "<init>", desc := "()V", sig := { parameters := [], returnType := none }, accessFlags := 0, code := none }
def k8c1 : Code := { maxStack := 2, maxLocals := 2, code := jdk_43_method_2_code, exceptionTable := #[], attributes := #[] }
def k8m1 : Method := { name := "charAt", desc := "([BI)C", sig := { parameters := [(.array .byte), .int], returnType := some .char }, accessFlags := 9, code := some k8c1 }
/-- java/lang/StringLatin1 -/
def k8 : Class := { plain "java/lang/StringLatin1" (some 0) with
  accessFlags := 48
  interfaces := #[]
  cf := some (fileOf pool8 14 #[.nestMembers #[390, 221]] #[{ accessFlags := 0, nameIndex := 7, descriptorIndex := 8, attributes := #[] }, { accessFlags := 9, nameIndex := 252, descriptorIndex := 53, attributes := #[] }] 48 4 #[] #[{ accessFlags := 4120, nameIndex := 121, descriptorIndex := 122, attributes := #[] }])
  fields := #[{ name := "$assertionsDisabled", type := .boolean, accessFlags := 4120, slot := 0, constantValue := 0 }]
  methods := #[k8m0, k8m1]
  instanceTypes := #[]
  staticTypes := #[.boolean]
  resolved := Array.replicate 395 none
  statics := none }

def pool9 : Array CpInfo := pool [(2, .class_ 4), (1, u "java/lang/Object"), (0, u "<init>"), (0, u "()V"), (17, .class_ 26), (1, u "jdk/internal/util/Preconditions"), (6, u "checkIndex"), (21, .class_ 56), (0, u "jdk/internal/util/Preconditions$4"), (57, .class_ 115), (0, u "jdk/internal/util/Preconditions$1"), (7, u "SIOOBE_FORMATTER"), (0, u "Ljava/util/function/BiFunction;"), (0, .class_ 126), (0, u "jdk/internal/util/Preconditions$2"), (3, u "AIOOBE_FORMATTER"), (0, .class_ 132), (0, u "jdk/internal/util/Preconditions$3"), (3, u "IOOBE_FORMATTER"), (41, u "(IILjava/util/function/BiFunction;)I")] 15

def k9m0 : Method := { name := "<init>", desc := "()V", sig := { parameters := [], returnType := none }, accessFlags := 1, code := none }
def k9c1 : Code := { maxStack := 3, maxLocals := 3, code := jdk_41_method_11_code, exceptionTable := #[], attributes := #[] }
def k9m1 : Method := { name := "checkIndex", desc := "(IILjava/util/function/BiFunction;)I", sig := { parameters := [.int, .int, (.object "java/util/function/BiFunction")], returnType := some .int }, accessFlags := 9, code := some k9c1 }
/-- jdk/internal/util/Preconditions -/
def k9 : Class := { plain "jdk/internal/util/Preconditions" (some 0) with
  accessFlags := 33
  interfaces := #[]
  cf := some (fileOf pool9 24 #[.nestMembers #[55, 131, 125, 114]] #[{ accessFlags := 1, nameIndex := 5, descriptorIndex := 6, attributes := #[] }, { accessFlags := 9, nameIndex := 33, descriptorIndex := 178, attributes := #[] }] 33 2 #[] #[{ accessFlags := 25, nameIndex := 123, descriptorIndex := 124, attributes := #[] }, { accessFlags := 25, nameIndex := 130, descriptorIndex := 124, attributes := #[] }, { accessFlags := 25, nameIndex := 136, descriptorIndex := 124, attributes := #[] }])
  fields := #[{ name := "SIOOBE_FORMATTER", type := (.object "java/util/function/BiFunction"), accessFlags := 25, slot := 0, constantValue := 0 }, { name := "AIOOBE_FORMATTER", type := (.object "java/util/function/BiFunction"), accessFlags := 25, slot := 1, constantValue := 0 }, { name := "IOOBE_FORMATTER", type := (.object "java/util/function/BiFunction"), accessFlags := 25, slot := 2, constantValue := 0 }]
  methods := #[k9m0, k9m1]
  instanceTypes := #[]
  staticTypes := #[(.object "java/util/function/BiFunction"), (.object "java/util/function/BiFunction"), (.object "java/util/function/BiFunction")]
  resolved := Array.replicate 194 none
  statics := some 1 }

def pool10 : Array CpInfo := pool [(2, .class_ 4), (1, u "java/lang/Object"), (3, .class_ 10), (1, u "com/example/methodical_gateway/methodicalgateway/core/http/HttpMessageReader$Part"), (1, u "Lcom/example/methodical_gateway/methodicalgateway/core/http/HttpMessageReader$Part;"), (1, .class_ 16), (1, u "com/example/methodical_gateway/methodicalgateway/core/http/HttpMessageReader"), (0, u "part"), (4, u "length"), (0, u "J"), (2, u "maxHeaderBytes"), (2, u "maxBodyBytes"), (2, u "bodyRunsToEnd"), (0, u "Z"), (52, u "closes"), (2, u "http10"), (2, u "untilEnd"), (1, .class_ 96), (1, u "com/example/methodical_gateway/methodicalgateway/core/http/HttpMessageReader$AfterHead"), (42, u "heldLength"), (0, u "I"), (22, u "held"), (0, u "[B"), (14, u "headerBytes"), (129, u "transferCodings"), (8, u "chunked"), (49, u "bodyLength"), (6, u "hexDigit"), (0, u "(C)I"), (16, u "MAX_LINE"), (2, u "FIRST_HELD_LINE"), (1, u "TOKEN_MARKS"), (0, u "Ljava/lang/String;"), (0, u "HTTP_1")] 51

def k10c0 : Code := { maxStack := 2, maxLocals := 1, code := prog_18_method_36_code, exceptionTable := #[], attributes := #[] }
def k10m0 : Method := { name := "hexDigit", desc := "(C)I", sig := { parameters := [.char], returnType := some .int }, accessFlags := 8, code := some k10c0 }
/-- com/example/methodical_gateway/methodicalgateway/core/http/HttpMessageReader -/
def k10 : Class := { plain "com/example/methodical_gateway/methodicalgateway/core/http/HttpMessageReader" (some 0) with
  accessFlags := 1056
  interfaces := #[]
  cf := some (fileOf pool10 14 #[.nestMembers #[94, 8]] #[{ accessFlags := 8, nameIndex := 375, descriptorIndex := 376, attributes := #[] }] 1056 2 #[] #[{ accessFlags := 24, nameIndex := 393, descriptorIndex := 140, attributes := #[] }, { accessFlags := 26, nameIndex := 396, descriptorIndex := 140, attributes := #[] }, { accessFlags := 26, nameIndex := 398, descriptorIndex := 399, attributes := #[] }, { accessFlags := 26, nameIndex := 400, descriptorIndex := 399, attributes := #[] }, { accessFlags := 18, nameIndex := 26, descriptorIndex := 23, attributes := #[] }, { accessFlags := 18, nameIndex := 29, descriptorIndex := 23, attributes := #[] }, { accessFlags := 18, nameIndex := 32, descriptorIndex := 33, attributes := #[] }, { accessFlags := 2, nameIndex := 163, descriptorIndex := 164, attributes := #[] }, { accessFlags := 2, nameIndex := 139, descriptorIndex := 140, attributes := #[] }, { accessFlags := 2, nameIndex := 17, descriptorIndex := 12, attributes := #[] }, { accessFlags := 2, nameIndex := 179, descriptorIndex := 23, attributes := #[] }, { accessFlags := 2, nameIndex := 22, descriptorIndex := 23, attributes := #[] }, { accessFlags := 2, nameIndex := 368, descriptorIndex := 23, attributes := #[] }, { accessFlags := 2, nameIndex := 309, descriptorIndex := 140, attributes := #[] }, { accessFlags := 2, nameIndex := 318, descriptorIndex := 33, attributes := #[] }, { accessFlags := 2, nameIndex := 92, descriptorIndex := 33, attributes := #[] }, { accessFlags := 2, nameIndex := 86, descriptorIndex := 33, attributes := #[] }, { accessFlags := 2, nameIndex := 89, descriptorIndex := 33, attributes := #[] }])
  fields := #[{ name := "MAX_LINE", type := .int, accessFlags := 24, slot := 0, constantValue := 0 }, { name := "FIRST_HELD_LINE", type := .int, accessFlags := 26, slot := 1, constantValue := 0 }, { name := "TOKEN_MARKS", type := (.object "java/lang/String"), accessFlags := 26, slot := 2, constantValue := 0 }, { name := "HTTP_1", type := (.object "java/lang/String"), accessFlags := 26, slot := 3, constantValue := 0 }, { name := "maxHeaderBytes", type := .long, accessFlags := 18, slot := 0, constantValue := 0 }, { name := "maxBodyBytes", type := .long, accessFlags := 18, slot := 1, constantValue := 0 }, { name := "bodyRunsToEnd", type := .boolean, accessFlags := 18, slot := 2, constantValue := 0 }, { name := "held", type := (.array .byte), accessFlags := 2, slot := 3, constantValue := 0 }, { name := "heldLength", type := .int, accessFlags := 2, slot := 4, constantValue := 0 }, { name := "part", type := (.object "com/example/methodical_gateway/methodicalgateway/core/http/HttpMessageReader$Part"), accessFlags := 2, slot := 5, constantValue := 0 }, { name := "headerBytes", type := .long, accessFlags := 2, slot := 6, constantValue := 0 }, { name := "length", type := .long, accessFlags := 2, slot := 7, constantValue := 0 }, { name := "bodyLength", type := .long, accessFlags := 2, slot := 8, constantValue := 0 }, { name := "transferCodings", type := .int, accessFlags := 2, slot := 9, constantValue := 0 }, { name := "chunked", type := .boolean, accessFlags := 2, slot := 10, constantValue := 0 }, { name := "untilEnd", type := .boolean, accessFlags := 2, slot := 11, constantValue := 0 }, { name := "closes", type := .boolean, accessFlags := 2, slot := 12, constantValue := 0 }, { name := "http10", type := .boolean, accessFlags := 2, slot := 13, constantValue := 0 }]
  methods := #[k10m0]
  instanceTypes := #[.long, .long, .boolean, (.array .byte), .int, (.object "com/example/methodical_gateway/methodicalgateway/core/http/HttpMessageReader$Part"), .long, .long, .long, .int, .boolean, .boolean, .boolean, .boolean]
  staticTypes := #[.int, .int, (.object "java/lang/String"), (.object "java/lang/String")]
  resolved := Array.replicate 452 none
  statics := none }

def pool11 : Array CpInfo := pool [(9, u "<init>"), (6, .class_ 18), (1, u "java/lang/Object"), (0, u "()V"), (1, .class_ 23), (1, u "jdk/internal/util/ArraysSupport"), (0, u "LOG2_ARRAY_LONG_INDEX_SCALE"), (0, u "I"), (2, u "U"), (0, u "Ljdk/internal/misc/Unsafe;"), (8, u "BIG_ENDIAN"), (0, u "Z"), (8, u "LOG2_BYTE_BIT_SIZE"), (4, u "LOG2_ARRAY_INT_INDEX_SCALE"), (54, u "JLA"), (0, u "Ljdk/internal/access/JavaLangAccess;"), (11, u "LOG2_ARRAY_BOOLEAN_INDEX_SCALE"), (9, u "LOG2_ARRAY_BYTE_INDEX_SCALE"), (5, u "LOG2_ARRAY_CHAR_INDEX_SCALE"), (5, u "LOG2_ARRAY_SHORT_INDEX_SCALE"), (18, u "LOG2_ARRAY_FLOAT_INDEX_SCALE"), (24, u "LOG2_ARRAY_DOUBLE_INDEX_SCALE"), (89, u "T_BOOLEAN"), (2, u "T_CHAR"), (1, u "T_FLOAT"), (1, u "T_DOUBLE"), (1, u "T_BYTE"), (1, u "T_SHORT"), (1, u "T_INT"), (1, u "T_LONG"), (1, u "SOFT_MAX_ARRAY_LENGTH")] 83

def k11m0 : Method := { name := "<init>", desc := "()V", sig := { parameters := [], returnType := none }, accessFlags := 2, code := none }
/-- jdk/internal/util/ArraysSupport -/
def k11 : Class := { plain "jdk/internal/util/ArraysSupport" (some 0) with
  accessFlags := 33
  interfaces := #[]
  cf := some (fileOf pool11 21 #[] #[{ accessFlags := 2, nameIndex := 9, descriptorIndex := 19, attributes := #[] }] 33 16 #[] #[{ accessFlags := 24, nameIndex := 28, descriptorIndex := 29, attributes := #[] }, { accessFlags := 26, nameIndex := 38, descriptorIndex := 39, attributes := #[] }, { accessFlags := 25, nameIndex := 121, descriptorIndex := 25, attributes := #[] }, { accessFlags := 25, nameIndex := 131, descriptorIndex := 25, attributes := #[] }, { accessFlags := 25, nameIndex := 137, descriptorIndex := 25, attributes := #[] }, { accessFlags := 25, nameIndex := 143, descriptorIndex := 25, attributes := #[] }, { accessFlags := 25, nameIndex := 53, descriptorIndex := 25, attributes := #[] }, { accessFlags := 25, nameIndex := 24, descriptorIndex := 25, attributes := #[] }, { accessFlags := 25, nameIndex := 162, descriptorIndex := 25, attributes := #[] }, { accessFlags := 25, nameIndex := 187, descriptorIndex := 25, attributes := #[] }, { accessFlags := 26, nameIndex := 48, descriptorIndex := 25, attributes := #[] }, { accessFlags := 25, nameIndex := 277, descriptorIndex := 25, attributes := #[] }, { accessFlags := 25, nameIndex := 280, descriptorIndex := 25, attributes := #[] }, { accessFlags := 25, nameIndex := 282, descriptorIndex := 25, attributes := #[] }, { accessFlags := 25, nameIndex := 284, descriptorIndex := 25, attributes := #[] }, { accessFlags := 25, nameIndex := 286, descriptorIndex := 25, attributes := #[] }, { accessFlags := 25, nameIndex := 288, descriptorIndex := 25, attributes := #[] }, { accessFlags := 25, nameIndex := 290, descriptorIndex := 25, attributes := #[] }, { accessFlags := 25, nameIndex := 292, descriptorIndex := 25, attributes := #[] }, { accessFlags := 26, nameIndex := 108, descriptorIndex := 109, attributes := #[] }, { accessFlags := 25, nameIndex := 294, descriptorIndex := 25, attributes := #[] }])
  fields := #[{ name := "U", type := (.object "jdk/internal/misc/Unsafe"), accessFlags := 24, slot := 0, constantValue := 0 }, { name := "BIG_ENDIAN", type := .boolean, accessFlags := 26, slot := 1, constantValue := 0 }, { name := "LOG2_ARRAY_BOOLEAN_INDEX_SCALE", type := .int, accessFlags := 25, slot := 2, constantValue := 0 }, { name := "LOG2_ARRAY_BYTE_INDEX_SCALE", type := .int, accessFlags := 25, slot := 3, constantValue := 0 }, { name := "LOG2_ARRAY_CHAR_INDEX_SCALE", type := .int, accessFlags := 25, slot := 4, constantValue := 0 }, { name := "LOG2_ARRAY_SHORT_INDEX_SCALE", type := .int, accessFlags := 25, slot := 5, constantValue := 0 }, { name := "LOG2_ARRAY_INT_INDEX_SCALE", type := .int, accessFlags := 25, slot := 6, constantValue := 0 }, { name := "LOG2_ARRAY_LONG_INDEX_SCALE", type := .int, accessFlags := 25, slot := 7, constantValue := 0 }, { name := "LOG2_ARRAY_FLOAT_INDEX_SCALE", type := .int, accessFlags := 25, slot := 8, constantValue := 0 }, { name := "LOG2_ARRAY_DOUBLE_INDEX_SCALE", type := .int, accessFlags := 25, slot := 9, constantValue := 0 }, { name := "LOG2_BYTE_BIT_SIZE", type := .int, accessFlags := 26, slot := 10, constantValue := 0 }, { name := "T_BOOLEAN", type := .int, accessFlags := 25, slot := 11, constantValue := 0 }, { name := "T_CHAR", type := .int, accessFlags := 25, slot := 12, constantValue := 0 }, { name := "T_FLOAT", type := .int, accessFlags := 25, slot := 13, constantValue := 0 }, { name := "T_DOUBLE", type := .int, accessFlags := 25, slot := 14, constantValue := 0 }, { name := "T_BYTE", type := .int, accessFlags := 25, slot := 15, constantValue := 0 }, { name := "T_SHORT", type := .int, accessFlags := 25, slot := 16, constantValue := 0 }, { name := "T_INT", type := .int, accessFlags := 25, slot := 17, constantValue := 0 }, { name := "T_LONG", type := .int, accessFlags := 25, slot := 18, constantValue := 0 }, { name := "JLA", type := (.object "jdk/internal/access/JavaLangAccess"), accessFlags := 26, slot := 19, constantValue := 0 }, { name := "SOFT_MAX_ARRAY_LENGTH", type := .int, accessFlags := 25, slot := 20, constantValue := 0 }]
  methods := #[k11m0]
  instanceTypes := #[]
  staticTypes := #[(.object "jdk/internal/misc/Unsafe"), .boolean, .int, .int, .int, .int, .int, .int, .int, .int, .int, .int, .int, .int, .int, .int, .int, .int, .int, (.object "jdk/internal/access/JavaLangAccess"), .int]
  resolved := Array.replicate 378 none
  statics := none }

def pool12 : Array CpInfo := pool [(1, u "java/lang/Cloneable"), (0, .class_ 1), (0, u "java/lang/Object"), (0, .class_ 3)] 3

/-- java/lang/Cloneable -/
def k12 : Class := { plain "java/lang/Cloneable" (some 0) with
  accessFlags := 1537
  interfaces := #[]
  cf := some (fileOf pool12 2 #[] #[] 1537 4 #[] #[])
  fields := #[]
  methods := #[]
  instanceTypes := #[]
  staticTypes := #[]
  resolved := Array.replicate 8 none
  statics := none }

/-- the primitive byte -/
def k13 : Class := { plain "byte" none with kind := .primitive 'B', accessFlags := 0x411 }
/-- [B -/
def k14 : Class := { plain "[B" (some 0) with kind := .array 13 .byte, interfaces := #[12, 2], accessFlags := 1041 }

/-- the primitive int -/
def k15 : Class := { plain "int" none with kind := .primitive 'I', accessFlags := 0x411 }
/-- [I -/
def k16 : Class := { plain "[I" (some 0) with kind := .array 15 .int, interfaces := #[12, 2], accessFlags := 1041 }

def heap : Heap := #[{ cls := 7, slots := #[.long 0, .int 1, .null, .int 0, .null, .int 0, .int 0], vm := .statics 7 },
  { cls := 9, slots := #[.null, .null, .null], vm := .statics 9 }]
def classes : Array Class := #[k0, k1, k2, k3, k4, k5, k6, k7, k8, k9, k10, k11, k12, k13, k14, k15, k16]
def interned : List (Array UInt16 × Addr) := []
def slotsUsed : Nat := 10
def theMethod : MethodId := ⟨1, 1⟩
def args0 : Array Value := #[.int 5, .int 7]
def aboutOver (below : List Frame) : State where
  vm := { classes := classes, interned := interned.toArray }
  heap := heap
  slotsUsed := slotsUsed
  threads := #[{ frames := .invoking theMethod args0 :: below }]
def below0 : List Frame := [.native { method := ⟨0, 0⟩, args := #[] }]
def about1 : State := aboutOver below0
def p0 : Program := .bare "" "" ""
def e0 : Env := launch0.env 0 0 0
theorem w_frames : about1.frames = Frame.invoking theMethod args0 :: below0 := rfl
set_option maxRecDepth 65536 in
theorem w_args : argsFit about1.vm theMethod args0 = true := by decide +kernel
set_option maxRecDepth 65536 in
theorem w_heap : heapFits about1 = true := by decide +kernel
set_option maxRecDepth 65536 in
theorem w_runnable : about1.curStatus? = some .runnable := by decide +kernel
set_option maxRecDepth 65536 in
theorem w_alone : about1.alone = true := by decide +kernel
set_option maxRecDepth 65536 in
theorem w_named : about1.methodNamed? x = some theMethod := by decide +kernel
set_option maxRecDepth 65536 in
theorem w_hears : about1.hears theMethod below0 = true := by decide +kernel
set_option maxRecDepth 65536 in
theorem w_ripe : about1.ripe theMethod args0 below0 = true := by decide +kernel
theorem w_running : about1.status = .running := rfl
set_option maxRecDepth 65536 in
theorem w_room : about1.hasRoom e0.platform room_1 = true :=
  launch0.hasRoom_least _ room_1 (by decide +kernel) (by decide +kernel) (by decide +kernel) (by decide +kernel) (by decide +kernel) (by decide +kernel)
theorem allAtoms_all (ts : List Jvm.Cond) (a : Array Jvm.Value) (st : Jvm.State) : (allAtoms ts).before a st = ts.all (fun c => c.before a st) := by
  induction ts with
  | nil => rfl
  | cons c t ih =>
    show (Jvm.Cond.and c (allAtoms t)).before a st = _
    rw [Jvm.Cond.before_and, ih, List.all_cons]
def words1 : List Jvm.Cond := Jvm.Cond.code x code maxLocals ret :: tables_1
/-- a 'code' word, met by the world's own term for the bytes: nothing is compared byte by byte -/
theorem code_word {y : MethodName} {bytes : ByteArray} {mx : Nat} {rt : Option FieldType} {a : Array Value} {s : State} {m : MethodId} {meth : Method} {c : Code} (h1 : s.methodNamed? y = some m) (h2 : s.vm.method? m = some meth) (h3 : meth.code = some c) (h4 : c.code = bytes)
    (h5 : (c.maxLocals == mx && c.exceptionTable.isEmpty && decide (c.maxStack ≤ mostOperands) && decide (meth.sig.returnType = rt) && !meth.locks && decide (parseMethodDescriptor y.desc = some meth.sig)) = true) : (Jvm.Cond.code y bytes mx rt).before a s = true := by
  simp only [Bool.and_eq_true, beq_iff_eq, Bool.not_eq_true', decide_eq_true_eq] at h5
  obtain ⟨⟨⟨⟨⟨g1, g2⟩, g3⟩, g4⟩, g5⟩, g6⟩ := h5
  simp [Cond.before, Cond.holds, Cond.value, h1, h2, h3, h4, g1, g2, g3, g4, g5, g6]
def isCode : Jvm.Cond → Bool
  | .code _ _ _ _ => true
  | _ => false
theorem all_split {L : List Jvm.Cond} {P : Jvm.Cond → Bool} (h1 : L.all (fun c => isCode c || P c) = true) (h2 : ∀ c ∈ L.filter isCode, P c = true) : L.all P = true := by
  refine List.all_eq_true.mpr fun c hc => ?_
  have h := List.all_eq_true.mp h1 c hc
  rcases Bool.eq_false_or_eq_true (isCode c) with hi | hi
  · exact h2 c (List.mem_filter.mpr ⟨hc, hi⟩)
  · simpa [hi] using h
set_option maxRecDepth 65536 in
theorem w_c0 : (Jvm.Cond.code x code maxLocals ret).before args0 about1 = true := code_word (m := ⟨1, 1⟩) (meth := k1m1) (c := k1c1) (by decide +kernel) rfl rfl rfl (by decide +kernel)
set_option maxRecDepth 65536 in
theorem w_c1 : (Jvm.Cond.code ({ cls := "java/lang/String", name := "charAt", desc := "(I)C" } : Jvm.MethodName) jdk_42_method_56_code (2 : Nat) (Option.some Jvm.ClassFile.FieldType.char)).before args0 about1 = true := code_word (m := ⟨7, 1⟩) (meth := k7m1) (c := k7c1) (by decide +kernel) rfl rfl rfl (by decide +kernel)
set_option maxRecDepth 65536 in
theorem w_c2 : (Jvm.Cond.code ({ cls := "java/lang/String", name := "isLatin1", desc := "()Z" } : Jvm.MethodName) jdk_42_method_154_code (1 : Nat) (Option.some Jvm.ClassFile.FieldType.boolean)).before args0 about1 = true := code_word (m := ⟨7, 2⟩) (meth := k7m2) (c := k7c2) (by decide +kernel) rfl rfl rfl (by decide +kernel)
set_option maxRecDepth 65536 in
theorem w_c3 : (Jvm.Cond.code ({ cls := "java/lang/StringLatin1", name := "charAt", desc := "([BI)C" } : Jvm.MethodName) jdk_43_method_2_code (2 : Nat) (Option.some Jvm.ClassFile.FieldType.char)).before args0 about1 = true := code_word (m := ⟨8, 1⟩) (meth := k8m1) (c := k8c1) (by decide +kernel) rfl rfl rfl (by decide +kernel)
set_option maxRecDepth 65536 in
theorem w_c4 : (Jvm.Cond.code ({ cls := "java/lang/String", name := "checkIndex", desc := "(II)V" } : Jvm.MethodName) jdk_42_method_155_code (2 : Nat) (Option.none : Option Jvm.ClassFile.FieldType)).before args0 about1 = true := code_word (m := ⟨7, 3⟩) (meth := k7m3) (c := k7c3) (by decide +kernel) rfl rfl rfl (by decide +kernel)
set_option maxRecDepth 65536 in
theorem w_c5 : (Jvm.Cond.code ({ cls := "jdk/internal/util/Preconditions", name := "checkIndex", desc := "(IILjava/util/function/BiFunction;)I" } : Jvm.MethodName) jdk_41_method_11_code (3 : Nat) (Option.some Jvm.ClassFile.FieldType.int)).before args0 about1 = true := code_word (m := ⟨9, 1⟩) (meth := k9m1) (c := k9c1) (by decide +kernel) rfl rfl rfl (by decide +kernel)
set_option maxRecDepth 65536 in
theorem w_c6 : (Jvm.Cond.code ({ cls := "com/example/methodical_gateway/methodicalgateway/core/http/HttpMessageReader", name := "hexDigit", desc := "(C)I" } : Jvm.MethodName) prog_18_method_36_code (1 : Nat) (Option.some Jvm.ClassFile.FieldType.int)).before args0 about1 = true := code_word (m := ⟨10, 0⟩) (meth := k10m0) (c := k10c0) (by decide +kernel) rfl rfl rfl (by decide +kernel)
def codes1 : List Jvm.Cond := [Jvm.Cond.code x code maxLocals ret, Jvm.Cond.code ({ cls := "java/lang/String", name := "charAt", desc := "(I)C" } : Jvm.MethodName) jdk_42_method_56_code (2 : Nat) (Option.some Jvm.ClassFile.FieldType.char), Jvm.Cond.code ({ cls := "java/lang/String", name := "isLatin1", desc := "()Z" } : Jvm.MethodName) jdk_42_method_154_code (1 : Nat) (Option.some Jvm.ClassFile.FieldType.boolean), Jvm.Cond.code ({ cls := "java/lang/StringLatin1", name := "charAt", desc := "([BI)C" } : Jvm.MethodName) jdk_43_method_2_code (2 : Nat) (Option.some Jvm.ClassFile.FieldType.char), Jvm.Cond.code ({ cls := "java/lang/String", name := "checkIndex", desc := "(II)V" } : Jvm.MethodName) jdk_42_method_155_code (2 : Nat) (Option.none : Option Jvm.ClassFile.FieldType), Jvm.Cond.code ({ cls := "jdk/internal/util/Preconditions", name := "checkIndex", desc := "(IILjava/util/function/BiFunction;)I" } : Jvm.MethodName) jdk_41_method_11_code (3 : Nat) (Option.some Jvm.ClassFile.FieldType.int), Jvm.Cond.code ({ cls := "com/example/methodical_gateway/methodicalgateway/core/http/HttpMessageReader", name := "hexDigit", desc := "(C)I" } : Jvm.MethodName) prog_18_method_36_code (1 : Nat) (Option.some Jvm.ClassFile.FieldType.int)]
set_option maxRecDepth 65536 in
theorem codes_eq : words1.filter isCode = codes1 := rfl
theorem w_codes : ∀ c ∈ words1.filter isCode, c.before args0 about1 = true := by
  rw [codes_eq]
  intro c hc
  simp only [codes1, List.mem_cons, List.not_mem_nil, or_false] at hc
  rcases hc with rfl | rfl | rfl | rfl | rfl | rfl | rfl
  · exact w_c0
  · exact w_c1
  · exact w_c2
  · exact w_c3
  · exact w_c4
  · exact w_c5
  · exact w_c6
set_option maxRecDepth 65536 in
theorem w_t1 : (words1.take 24).all (fun c => isCode c || c.before args0 about1) = true := by decide +kernel
set_option maxRecDepth 65536 in
theorem w_t2 : (words1.drop 24).all (fun c => isCode c || c.before args0 about1) = true := by decide +kernel
theorem w_tables : (allAtoms (Jvm.Cond.code x code maxLocals ret :: tables_1)).before args0 about1 = true := by
  rw [allAtoms_all]
  show words1.all (fun c => c.before args0 about1) = true
  refine all_split ?_ w_codes
  rw [← List.take_append_drop 24 words1, List.all_append, w_t1, w_t2]
  rfl
set_option maxRecDepth 65536 in
theorem w_rest : rest_1_c.before args0 about1 = true := by decide +kernel
set_option maxRecDepth 65536 in
theorem w_case : (Jvm.Cond.and given_1 narrow_1).before args0 about1 = true := by decide +kernel
set_option maxRecDepth 65536 in
theorem w_consts : constsHeld consts_1 about1 := Jvm.Lit.constsHeldB_iff.mp (by decide +kernel)
theorem w_applies : (headSpec (Jvm.Cond.code x code maxLocals ret :: tables_1) room_1).applies x e0.platform about1 = true :=
  (Spec.applies_iff w_frames).mpr ⟨w_running, w_runnable, w_alone, w_named, w_hears, w_ripe, w_room, w_tables⟩
theorem atStart : AtStart classFile x code maxLocals ret World_1 tables_1 room_1 Calls_1 rest_1 Pre_1 launch0 p0 e0 about1 theMethod args0 below0 :=
  ⟨lists_1, trivial, launch0.admits_env _ _ _, launch0.least_env, fairChoices_fair.cas, fairChoices_fair.clock, w_frames, w_args, w_heap, w_applies, ⟨w_consts, trivial⟩, w_rest, w_case⟩
end start1
theorem witness_1 : WitnessClaimed_1 := ⟨start1.p0, start1.e0, start1.about1, start1.theMethod, start1.args0, start1.below0, start1.atStart⟩
end Jvm.Pilot.@@N@@
