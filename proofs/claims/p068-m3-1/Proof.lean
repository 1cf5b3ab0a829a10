import JvmDerived
import JvmDerived.Pilot.@@N@@Statement
import JvmDerived.Pilot.@@N@@Code
set_option linter.unusedVariables false
set_option linter.unusedSimpArgs false
namespace Jvm.RoadKit
open Sem ClassFile Op Lib Jvm.Stand Jvm.Free Jvm.LawKit
section Own
variable {p : Program} {l : Launch} {e : Env} {R : Room} {s : State} {m : MethodId} {args : Array Value} {below : List Frame} {meth : Method} {c : Code} {T T' : State} {locs : List Loc} {cells slots : Nat} {g g' : JFrame} {Qf : Option Value → Heap → List Loc → Prop} {C S : Nat} {Z : State} {a0 : Array Value} {h : Heap} {pc n : Nat} {Ls : Array Slot} {sk : List Value}
theorem nz {a b : Addr} (h : ¬ @Eq Nat a b) : a ≠ b := h
theorem ny {a b : Nat} (h : a < b) : a < b := h
theorem nx {a b : Nat} (h : a = b) : a = b := h
theorem nw {a b : Nat} (h : ¬ a = b) : ¬ a = b := h
theorem retI (X : Stand p l e R s m args below meth c T locs cells slots) (hx : p.tables.exec = Jvm.exec) {z : Int32} {rest : List Value} (hret : meth.sig.returnType = some .int) (hd : decode c.code pc = .ok (.ireturn, 1)) {fs : List Frame}
    (hl : ∀ (f : JFrame) (acts : List Action), f.method = m → f.locked = none → f.entered = [] → (doReturn e (T.setTop f) acts (some (.int z))).1 = T.setFrames fs) : Steps p.tables e below (T.setTop (mkF m pc Ls (.int z :: rest))) (T.setFrames fs) := by
  have hm' : T.vm.method? m = some meth := X.method'
  have hn : narrow .int (.int z) = .int z := rfl
  show Steps p.tables e below (T.setTop { method := m, pc := pc, locals := Ls, stack := _ :: rest, locked := none }) _
  jvm_step X.here [X.here.top, hx, hd, hm', hret, hn]
  first | (intro acts; rw [hl _ acts rfl rfl rfl]) | rw [hl _ _ rfl rfl rfl]
  exact Steps.refl _
theorem retL (X : Stand p l e R s m args below meth c T locs cells slots) (hx : p.tables.exec = Jvm.exec) {z : Int64} {rest : List Value} (hret : meth.sig.returnType = some .long) (hd : decode c.code pc = .ok (.lreturn, 1)) {fs : List Frame}
    (hl : ∀ (f : JFrame) (acts : List Action), f.method = m → f.locked = none → f.entered = [] → (doReturn e (T.setTop f) acts (some (.long z))).1 = T.setFrames fs) : Steps p.tables e below (T.setTop (mkF m pc Ls (.long z :: rest))) (T.setFrames fs) := by
  have hm' : T.vm.method? m = some meth := X.method'
  show Steps p.tables e below (T.setTop { method := m, pc := pc, locals := Ls, stack := _ :: rest, locked := none }) _
  jvm_step X.here [X.here.top, hx, hd, hm', hret, narrow]
  first | (intro acts; rw [hl _ acts rfl rfl rfl]) | rw [hl _ _ rfl rfl rfl]
  exact Steps.refl _
theorem retA (X : Stand p l e R s m args below meth c T locs cells slots) (hx : p.tables.exec = Jvm.exec) {z : Value} {t : FieldType} {rest : List Value} (hz : z.isRef = true) (hret : meth.sig.returnType = some t) (ht : t.isReference = true) (hd : decode c.code pc = .ok (.areturn, 1)) {fs : List Frame}
    (hl : ∀ (f : JFrame) (acts : List Action), f.method = m → f.locked = none → f.entered = [] → (doReturn e (T.setTop f) acts (some z)).1 = T.setFrames fs) : Steps p.tables e below (T.setTop (mkF m pc Ls (z :: rest))) (T.setFrames fs) := by
  have hm' : T.vm.method? m = some meth := X.method'
  show Steps p.tables e below (T.setTop { method := m, pc := pc, locals := Ls, stack := _ :: rest, locked := none }) _
  jvm_step X.here [X.here.top, hx, hd, hm', hret, hz, ht]
  first | (intro acts; rw [hl _ acts rfl rfl rfl]) | rw [hl _ _ rfl rfl rfl]
  exact Steps.refl _
theorem retNz (X : Stand p l e R s m args below meth c T locs cells slots) (hx : p.tables.exec = Jvm.exec) {z z' : Int32} {t : FieldType} {rest : List Value} (hz : nar t z = z') (hret : meth.sig.returnType = some t) (ht : t = .boolean ∨ t = .byte ∨ t = .char ∨ t = .short)
    (hd : decode c.code pc = .ok (.ireturn, 1)) {fs : List Frame} (hl : ∀ (f : JFrame) (acts : List Action), f.method = m → f.locked = none → f.entered = [] → (doReturn e (T.setTop f) acts (some (.int z'))).1 = T.setFrames fs) :
    Steps p.tables e below (T.setTop (mkF m pc Ls (.int z :: rest))) (T.setFrames fs) := by
  subst hz
  exact retN X hx hret ht hd hl
/-- from here the body comes back, with what Qf says of the value, the heap and the places written -/
def Wk (p : Program) (e : Env) (below : List Frame) (s : State) (Qf : Option Value → Heap → List Loc → Prop) (C S : Nat) (T : State) (g : JFrame) : Prop :=
  ∃ s₂ o, Steps p.tables e below (T.setTop g) s₂ ∧ s₂.status = .running ∧ Ended s₂ below o ∧ ∃ v L, o = .returned v ∧ Qf v s₂.heap L ∧ FrameEnd s o s₂ L C S
theorem Wk.go (k : ∀ t, Steps p.tables e below (T'.setTop g') t → Steps p.tables e below (T.setTop g) t) (w : Wk p e below s Qf C S T' g') : Wk p e below s Qf C S T g := by
  obtain ⟨s₂, o, a, r⟩ := w
  exact ⟨s₂, o, k _ a, r⟩
theorem Wk.leave (X : Stand p l e R s m args below meth c T locs cells slots) {v : Option Value} (hv : meth.sig.returnType = none → v = none) (hlocks : meth.locks = false) (eT : T.heap = h) (hQ : Qf v h locs) (hC : cells ≤ C) (hS : slots ≤ S)
    (k : ∀ fs, (∀ (f : JFrame) (acts : List Action), f.method = m → f.locked = none → f.entered = [] → (doReturn e (T.setTop f) acts v).1 = T.setFrames fs) → Steps p.tables e below (T.setTop g) (T.setFrames fs)) : Wk p e below s Qf C S T g := by
  obtain ⟨fs, hr, hrun, hended, hW, hsame⟩ := X.leave hv hlocks
  subst eT
  exact ⟨_, _, k fs hr, hrun, hended, _, _, rfl, hQ, ⟨_, rfl⟩, hW, hsame.mono hC hS⟩
theorem Wk.aloadN (X : Stand p l e R s m args below meth c T locs cells slots) (hx : p.tables.exec = Jvm.exec) {k : Fin 4} {v : Value} (hd : decode c.code pc = .ok (.aload_n k, 1)) (hp : pc + 1 = n) (hl : Ls[k.val]? = some (.val v)) (hv : v.isRef = true) (w : Wk p e below s Qf C S T (mkF m n Ls (v :: sk))) : Wk p e below s Qf C S T (mkF m pc Ls sk) := by
  subst hp
  exact Wk.go (fun _ k => XS.aloadN X.here hx rfl hd hl hv k) w
theorem Wk.iloadN (X : Stand p l e R s m args below meth c T locs cells slots) (hx : p.tables.exec = Jvm.exec) {k : Fin 4} {v : Int32} (hd : decode c.code pc = .ok (.iload_n k, 1)) (hp : pc + 1 = n) (hl : Ls[k.val]? = some (.val (.int v))) (w : Wk p e below s Qf C S T (mkF m n Ls (.int v :: sk))) : Wk p e below s Qf C S T (mkF m pc Ls sk) := by
  subst hp
  exact Wk.go (fun _ k => XS.iloadN X.here hx rfl hd hl k) w
theorem Wk.lloadN (X : Stand p l e R s m args below meth c T locs cells slots) (hx : p.tables.exec = Jvm.exec) {k : Fin 4} {v : Int64} (hd : decode c.code pc = .ok (.lload_n k, 1)) (hp : pc + 1 = n) (hl : Ls[k.val]? = some (.val (.long v))) (w : Wk p e below s Qf C S T (mkF m n Ls (.long v :: sk))) : Wk p e below s Qf C S T (mkF m pc Ls sk) := by
  subst hp
  exact Wk.go (fun _ k => XS.lloadN X.here hx rfl hd hl k) w
theorem Wk.istoreN (X : Stand p l e R s m args below meth c T locs cells slots) (hx : p.tables.exec = Jvm.exec) {k : Fin 4} {v : Int32} {L' : Array Slot} (hd : decode c.code pc = .ok (.istore_n k, 1)) (hp : pc + 1 = n) (hl : storeLocals Ls k.val (.int v) = some L') (w : Wk p e below s Qf C S T (mkF m n L' sk)) : Wk p e below s Qf C S T (mkF m pc Ls (.int v :: sk)) := by
  subst hp
  exact Wk.go (fun _ k => XS.istoreN X.here hx rfl hd rfl hl k) w
theorem Wk.lstoreN (X : Stand p l e R s m args below meth c T locs cells slots) (hx : p.tables.exec = Jvm.exec) {k : Fin 4} {v : Int64} {L' : Array Slot} (hd : decode c.code pc = .ok (.lstore_n k, 1)) (hp : pc + 1 = n) (hl : storeLocals Ls k.val (.long v) = some L') (w : Wk p e below s Qf C S T (mkF m n L' sk)) : Wk p e below s Qf C S T (mkF m pc Ls (.long v :: sk)) := by
  subst hp
  exact Wk.go (fun _ k => XS.lstoreN X.here hx rfl hd rfl hl k) w
theorem Wk.astoreN (X : Stand p l e R s m args below meth c T locs cells slots) (hx : p.tables.exec = Jvm.exec) {k : Fin 4} {v : Value} {L' : Array Slot} (hd : decode c.code pc = .ok (.astore_n k, 1)) (hp : pc + 1 = n) (hv : v.isRef = true) (hl : storeLocals Ls k.val v = some L') (w : Wk p e below s Qf C S T (mkF m n L' sk)) : Wk p e below s Qf C S T (mkF m pc Ls (v :: sk)) := by
  subst hp
  exact Wk.go (fun _ k => XS.astoreN X.here hx rfl hd rfl hv hl k) w
theorem Wk.aload (X : Stand p l e R s m args below meth c T locs cells slots) (hx : p.tables.exec = Jvm.exec) {k : Nat} {v : Value} (hd : decode c.code pc = .ok (.aload k, 2)) (hp : pc + 2 = n) (hl : Ls[k]? = some (.val v)) (hv : v.isRef = true) (w : Wk p e below s Qf C S T (mkF m n Ls (v :: sk))) : Wk p e below s Qf C S T (mkF m pc Ls sk) := by
  subst hp
  exact Wk.go (fun _ k => XS.aload X.here hx rfl hd hl hv k) w
theorem Wk.iload (X : Stand p l e R s m args below meth c T locs cells slots) (hx : p.tables.exec = Jvm.exec) {k : Nat} {v : Int32} (hd : decode c.code pc = .ok (.iload k, 2)) (hp : pc + 2 = n) (hl : Ls[k]? = some (.val (.int v))) (w : Wk p e below s Qf C S T (mkF m n Ls (.int v :: sk))) : Wk p e below s Qf C S T (mkF m pc Ls sk) := by
  subst hp
  exact Wk.go (fun _ k => XS.iload X.here hx rfl hd hl k) w
theorem Wk.lload (X : Stand p l e R s m args below meth c T locs cells slots) (hx : p.tables.exec = Jvm.exec) {k : Nat} {v : Int64} (hd : decode c.code pc = .ok (.lload k, 2)) (hp : pc + 2 = n) (hl : Ls[k]? = some (.val (.long v))) (w : Wk p e below s Qf C S T (mkF m n Ls (.long v :: sk))) : Wk p e below s Qf C S T (mkF m pc Ls sk) := by
  subst hp
  exact Wk.go (fun _ k => XS.lload X.here hx rfl hd hl k) w
theorem Wk.istore (X : Stand p l e R s m args below meth c T locs cells slots) (hx : p.tables.exec = Jvm.exec) {k : Nat} {v : Int32} {L' : Array Slot} (hd : decode c.code pc = .ok (.istore k, 2)) (hp : pc + 2 = n) (hl : storeLocals Ls k (.int v) = some L') (w : Wk p e below s Qf C S T (mkF m n L' sk)) : Wk p e below s Qf C S T (mkF m pc Ls (.int v :: sk)) := by
  subst hp
  exact Wk.go (fun _ k => XS.istore X.here hx rfl hd rfl hl k) w
theorem Wk.lstore (X : Stand p l e R s m args below meth c T locs cells slots) (hx : p.tables.exec = Jvm.exec) {k : Nat} {v : Int64} {L' : Array Slot} (hd : decode c.code pc = .ok (.lstore k, 2)) (hp : pc + 2 = n) (hl : storeLocals Ls k (.long v) = some L') (w : Wk p e below s Qf C S T (mkF m n L' sk)) : Wk p e below s Qf C S T (mkF m pc Ls (.long v :: sk)) := by
  subst hp
  exact Wk.go (fun _ k => XS.lstore X.here hx rfl hd rfl hl k) w
theorem Wk.astore (X : Stand p l e R s m args below meth c T locs cells slots) (hx : p.tables.exec = Jvm.exec) {k : Nat} {v : Value} {L' : Array Slot} (hd : decode c.code pc = .ok (.astore k, 2)) (hp : pc + 2 = n) (hv : v.isRef = true) (hl : storeLocals Ls k v = some L') (w : Wk p e below s Qf C S T (mkF m n L' sk)) : Wk p e below s Qf C S T (mkF m pc Ls (v :: sk)) := by
  subst hp
  exact Wk.go (fun _ k => XS.astore X.here hx rfl hd rfl hv hl k) w
theorem Wk.iconst (X : Stand p l e R s m args below meth c T locs cells slots) (hx : p.tables.exec = Jvm.exec) {i : Int} {z : Int32} (hd : decode c.code pc = .ok (.iconst i, 1)) (hp : pc + 1 = n) (hz : Int32.ofInt i = z) (w : Wk p e below s Qf C S T (mkF m n Ls (.int z :: sk))) : Wk p e below s Qf C S T (mkF m pc Ls sk) := by
  subst hp; subst hz
  exact Wk.go (fun _ k => XS.iconst X.here hx rfl hd  k) w
theorem Wk.bipush (X : Stand p l e R s m args below meth c T locs cells slots) (hx : p.tables.exec = Jvm.exec) {i : Int} {z : Int32} (hd : decode c.code pc = .ok (.bipush i, 2)) (hp : pc + 2 = n) (hz : (Int8.ofInt i).toInt32 = z) (w : Wk p e below s Qf C S T (mkF m n Ls (.int z :: sk))) : Wk p e below s Qf C S T (mkF m pc Ls sk) := by
  subst hp; subst hz
  exact Wk.go (fun _ k => XS.bipush X.here hx rfl hd  k) w
theorem Wk.sipush (X : Stand p l e R s m args below meth c T locs cells slots) (hx : p.tables.exec = Jvm.exec) {i : Int} {z : Int32} (hd : decode c.code pc = .ok (.sipush i, 3)) (hp : pc + 3 = n) (hz : (Int16.ofInt i).toInt32 = z) (w : Wk p e below s Qf C S T (mkF m n Ls (.int z :: sk))) : Wk p e below s Qf C S T (mkF m pc Ls sk) := by
  subst hp; subst hz
  exact Wk.go (fun _ k => XS.sipush X.here hx rfl hd  k) w
theorem Wk.lconst (X : Stand p l e R s m args below meth c T locs cells slots) (hx : p.tables.exec = Jvm.exec) {k : Fin 2} {z : Int64} (hd : decode c.code pc = .ok (.lconst k, 1)) (hp : pc + 1 = n) (hz : Int64.ofNat k = z) (w : Wk p e below s Qf C S T (mkF m n Ls (.long z :: sk))) : Wk p e below s Qf C S T (mkF m pc Ls sk) := by
  subst hp; subst hz
  exact Wk.go (fun _ k => XS.lconst X.here hx rfl hd  k) w
theorem Wk.aconstNull (X : Stand p l e R s m args below meth c T locs cells slots) (hx : p.tables.exec = Jvm.exec)  (hd : decode c.code pc = .ok (.aconst_null, 1)) (hp : pc + 1 = n)  (w : Wk p e below s Qf C S T (mkF m n Ls (.null :: sk))) : Wk p e below s Qf C S T (mkF m pc Ls sk) := by
  subst hp
  exact Wk.go (fun _ k => XS.aconstNull X.here hx rfl hd  k) w
theorem Wk.iadd (X : Stand p l e R s m args below meth c T locs cells slots) (hx : p.tables.exec = Jvm.exec) {x y : Int32} (hd : decode c.code pc = .ok (.iadd, 1)) (hp : pc + 1 = n)  (w : Wk p e below s Qf C S T (mkF m n Ls (.int (x + y) :: sk))) : Wk p e below s Qf C S T (mkF m pc Ls (.int y :: .int x :: sk)) := by
  subst hp
  exact Wk.go (fun _ k => XS.iadd X.here hx rfl hd rfl k) w
theorem Wk.ladd (X : Stand p l e R s m args below meth c T locs cells slots) (hx : p.tables.exec = Jvm.exec) {x y : Int64} (hd : decode c.code pc = .ok (.ladd, 1)) (hp : pc + 1 = n)  (w : Wk p e below s Qf C S T (mkF m n Ls (.long (x + y) :: sk))) : Wk p e below s Qf C S T (mkF m pc Ls (.long y :: .long x :: sk)) := by
  subst hp
  exact Wk.go (fun _ k => XS.ladd X.here hx rfl hd rfl k) w
theorem Wk.isub (X : Stand p l e R s m args below meth c T locs cells slots) (hx : p.tables.exec = Jvm.exec) {x y : Int32} (hd : decode c.code pc = .ok (.isub, 1)) (hp : pc + 1 = n)  (w : Wk p e below s Qf C S T (mkF m n Ls (.int (x - y) :: sk))) : Wk p e below s Qf C S T (mkF m pc Ls (.int y :: .int x :: sk)) := by
  subst hp
  exact Wk.go (fun _ k => XS.isub X.here hx rfl hd rfl k) w
theorem Wk.lsub (X : Stand p l e R s m args below meth c T locs cells slots) (hx : p.tables.exec = Jvm.exec) {x y : Int64} (hd : decode c.code pc = .ok (.lsub, 1)) (hp : pc + 1 = n)  (w : Wk p e below s Qf C S T (mkF m n Ls (.long (x - y) :: sk))) : Wk p e below s Qf C S T (mkF m pc Ls (.long y :: .long x :: sk)) := by
  subst hp
  exact Wk.go (fun _ k => XS.lsub X.here hx rfl hd rfl k) w
theorem Wk.imul (X : Stand p l e R s m args below meth c T locs cells slots) (hx : p.tables.exec = Jvm.exec) {x y : Int32} (hd : decode c.code pc = .ok (.imul, 1)) (hp : pc + 1 = n)  (w : Wk p e below s Qf C S T (mkF m n Ls (.int (x * y) :: sk))) : Wk p e below s Qf C S T (mkF m pc Ls (.int y :: .int x :: sk)) := by
  subst hp
  exact Wk.go (fun _ k => XS.imul X.here hx rfl hd rfl k) w
theorem Wk.lmul (X : Stand p l e R s m args below meth c T locs cells slots) (hx : p.tables.exec = Jvm.exec) {x y : Int64} (hd : decode c.code pc = .ok (.lmul, 1)) (hp : pc + 1 = n)  (w : Wk p e below s Qf C S T (mkF m n Ls (.long (x * y) :: sk))) : Wk p e below s Qf C S T (mkF m pc Ls (.long y :: .long x :: sk)) := by
  subst hp
  exact Wk.go (fun _ k => XS.lmul X.here hx rfl hd rfl k) w
theorem Wk.iand (X : Stand p l e R s m args below meth c T locs cells slots) (hx : p.tables.exec = Jvm.exec) {x y : Int32} (hd : decode c.code pc = .ok (.iand, 1)) (hp : pc + 1 = n)  (w : Wk p e below s Qf C S T (mkF m n Ls (.int (x &&& y) :: sk))) : Wk p e below s Qf C S T (mkF m pc Ls (.int y :: .int x :: sk)) := by
  subst hp
  exact Wk.go (fun _ k => XS.iand X.here hx rfl hd rfl k) w
theorem Wk.land (X : Stand p l e R s m args below meth c T locs cells slots) (hx : p.tables.exec = Jvm.exec) {x y : Int64} (hd : decode c.code pc = .ok (.land, 1)) (hp : pc + 1 = n)  (w : Wk p e below s Qf C S T (mkF m n Ls (.long (x &&& y) :: sk))) : Wk p e below s Qf C S T (mkF m pc Ls (.long y :: .long x :: sk)) := by
  subst hp
  exact Wk.go (fun _ k => XS.land X.here hx rfl hd rfl k) w
theorem Wk.ior (X : Stand p l e R s m args below meth c T locs cells slots) (hx : p.tables.exec = Jvm.exec) {x y : Int32} (hd : decode c.code pc = .ok (.ior, 1)) (hp : pc + 1 = n)  (w : Wk p e below s Qf C S T (mkF m n Ls (.int (x ||| y) :: sk))) : Wk p e below s Qf C S T (mkF m pc Ls (.int y :: .int x :: sk)) := by
  subst hp
  exact Wk.go (fun _ k => XS.ior X.here hx rfl hd rfl k) w
theorem Wk.lor (X : Stand p l e R s m args below meth c T locs cells slots) (hx : p.tables.exec = Jvm.exec) {x y : Int64} (hd : decode c.code pc = .ok (.lor, 1)) (hp : pc + 1 = n)  (w : Wk p e below s Qf C S T (mkF m n Ls (.long (x ||| y) :: sk))) : Wk p e below s Qf C S T (mkF m pc Ls (.long y :: .long x :: sk)) := by
  subst hp
  exact Wk.go (fun _ k => XS.lor X.here hx rfl hd rfl k) w
theorem Wk.ixor (X : Stand p l e R s m args below meth c T locs cells slots) (hx : p.tables.exec = Jvm.exec) {x y : Int32} (hd : decode c.code pc = .ok (.ixor, 1)) (hp : pc + 1 = n)  (w : Wk p e below s Qf C S T (mkF m n Ls (.int (x ^^^ y) :: sk))) : Wk p e below s Qf C S T (mkF m pc Ls (.int y :: .int x :: sk)) := by
  subst hp
  exact Wk.go (fun _ k => XS.ixor X.here hx rfl hd rfl k) w
theorem Wk.lxor (X : Stand p l e R s m args below meth c T locs cells slots) (hx : p.tables.exec = Jvm.exec) {x y : Int64} (hd : decode c.code pc = .ok (.lxor, 1)) (hp : pc + 1 = n)  (w : Wk p e below s Qf C S T (mkF m n Ls (.long (x ^^^ y) :: sk))) : Wk p e below s Qf C S T (mkF m pc Ls (.long y :: .long x :: sk)) := by
  subst hp
  exact Wk.go (fun _ k => XS.lxor X.here hx rfl hd rfl k) w
theorem Wk.ineg (X : Stand p l e R s m args below meth c T locs cells slots) (hx : p.tables.exec = Jvm.exec) {x : Int32} (hd : decode c.code pc = .ok (.ineg, 1)) (hp : pc + 1 = n)  (w : Wk p e below s Qf C S T (mkF m n Ls (.int (-x) :: sk))) : Wk p e below s Qf C S T (mkF m pc Ls (.int x :: sk)) := by
  subst hp
  exact Wk.go (fun _ k => XS.ineg X.here hx rfl hd rfl k) w
theorem Wk.lneg (X : Stand p l e R s m args below meth c T locs cells slots) (hx : p.tables.exec = Jvm.exec) {x : Int64} (hd : decode c.code pc = .ok (.lneg, 1)) (hp : pc + 1 = n)  (w : Wk p e below s Qf C S T (mkF m n Ls (.long (-x) :: sk))) : Wk p e below s Qf C S T (mkF m pc Ls (.long x :: sk)) := by
  subst hp
  exact Wk.go (fun _ k => XS.lneg X.here hx rfl hd rfl k) w
theorem Wk.i2l (X : Stand p l e R s m args below meth c T locs cells slots) (hx : p.tables.exec = Jvm.exec) {x : Int32} (hd : decode c.code pc = .ok (.i2l, 1)) (hp : pc + 1 = n)  (w : Wk p e below s Qf C S T (mkF m n Ls (.long (x.toInt64) :: sk))) : Wk p e below s Qf C S T (mkF m pc Ls (.int x :: sk)) := by
  subst hp
  exact Wk.go (fun _ k => XS.i2l X.here hx rfl hd rfl k) w
theorem Wk.l2i (X : Stand p l e R s m args below meth c T locs cells slots) (hx : p.tables.exec = Jvm.exec) {x : Int64} (hd : decode c.code pc = .ok (.l2i, 1)) (hp : pc + 1 = n)  (w : Wk p e below s Qf C S T (mkF m n Ls (.int (x.toInt32) :: sk))) : Wk p e below s Qf C S T (mkF m pc Ls (.long x :: sk)) := by
  subst hp
  exact Wk.go (fun _ k => XS.l2i X.here hx rfl hd rfl k) w
theorem Wk.i2b (X : Stand p l e R s m args below meth c T locs cells slots) (hx : p.tables.exec = Jvm.exec) {x : Int32} (hd : decode c.code pc = .ok (.i2b, 1)) (hp : pc + 1 = n)  (w : Wk p e below s Qf C S T (mkF m n Ls (.int (x.toInt8.toInt32) :: sk))) : Wk p e below s Qf C S T (mkF m pc Ls (.int x :: sk)) := by
  subst hp
  exact Wk.go (fun _ k => XS.i2b X.here hx rfl hd rfl k) w
theorem Wk.i2s (X : Stand p l e R s m args below meth c T locs cells slots) (hx : p.tables.exec = Jvm.exec) {x : Int32} (hd : decode c.code pc = .ok (.i2s, 1)) (hp : pc + 1 = n)  (w : Wk p e below s Qf C S T (mkF m n Ls (.int (x.toInt16.toInt32) :: sk))) : Wk p e below s Qf C S T (mkF m pc Ls (.int x :: sk)) := by
  subst hp
  exact Wk.go (fun _ k => XS.i2s X.here hx rfl hd rfl k) w
theorem Wk.i2c (X : Stand p l e R s m args below meth c T locs cells slots) (hx : p.tables.exec = Jvm.exec) {x z : Int32} (hd : decode c.code pc = .ok (.i2c, 1)) (hp : pc + 1 = n) (hz : x.toUInt32.toUInt16.toUInt32.toInt32 = z) (w : Wk p e below s Qf C S T (mkF m n Ls (.int z :: sk))) : Wk p e below s Qf C S T (mkF m pc Ls (.int x :: sk)) := by
  subst hp; subst hz
  exact Wk.go (fun _ k => XS.i2c X.here hx rfl hd rfl k) w
theorem Wk.ishl (X : Stand p l e R s m args below meth c T locs cells slots) (hx : p.tables.exec = Jvm.exec) {x y : Int32} (hd : decode c.code pc = .ok (.ishl, 1)) (hp : pc + 1 = n)  (w : Wk p e below s Qf C S T (mkF m n Ls (.int (x <<< (y &&& 31)) :: sk))) : Wk p e below s Qf C S T (mkF m pc Ls (.int y :: .int x :: sk)) := by
  subst hp
  exact Wk.go (fun _ k => XS.ishl X.here hx rfl hd rfl k) w
theorem Wk.ishr (X : Stand p l e R s m args below meth c T locs cells slots) (hx : p.tables.exec = Jvm.exec) {x y : Int32} (hd : decode c.code pc = .ok (.ishr, 1)) (hp : pc + 1 = n)  (w : Wk p e below s Qf C S T (mkF m n Ls (.int (x >>> (y &&& 31)) :: sk))) : Wk p e below s Qf C S T (mkF m pc Ls (.int y :: .int x :: sk)) := by
  subst hp
  exact Wk.go (fun _ k => XS.ishr X.here hx rfl hd rfl k) w
theorem Wk.iushr (X : Stand p l e R s m args below meth c T locs cells slots) (hx : p.tables.exec = Jvm.exec) {x y : Int32} (hd : decode c.code pc = .ok (.iushr, 1)) (hp : pc + 1 = n)  (w : Wk p e below s Qf C S T (mkF m n Ls (.int ((x.toUInt32 >>> (y &&& 31).toUInt32).toInt32) :: sk))) : Wk p e below s Qf C S T (mkF m pc Ls (.int y :: .int x :: sk)) := by
  subst hp
  exact Wk.go (fun _ k => XS.iushr X.here hx rfl hd rfl k) w
theorem Wk.lshl (X : Stand p l e R s m args below meth c T locs cells slots) (hx : p.tables.exec = Jvm.exec) {x z : Int64} {y : Int32} (hd : decode c.code pc = .ok (.lshl, 1)) (hp : pc + 1 = n) (hz : (x <<< (y &&& 63).toInt64) = z) (w : Wk p e below s Qf C S T (mkF m n Ls (.long z :: sk))) : Wk p e below s Qf C S T (mkF m pc Ls (.int y :: .long x :: sk)) := by
  subst hp; subst hz
  exact Wk.go (fun _ k => XS.lshl X.here hx rfl hd rfl k) w
theorem Wk.lshr (X : Stand p l e R s m args below meth c T locs cells slots) (hx : p.tables.exec = Jvm.exec) {x z : Int64} {y : Int32} (hd : decode c.code pc = .ok (.lshr, 1)) (hp : pc + 1 = n) (hz : (x >>> (y &&& 63).toInt64) = z) (w : Wk p e below s Qf C S T (mkF m n Ls (.long z :: sk))) : Wk p e below s Qf C S T (mkF m pc Ls (.int y :: .long x :: sk)) := by
  subst hp; subst hz
  exact Wk.go (fun _ k => XS.lshr X.here hx rfl hd rfl k) w
theorem Wk.lushr (X : Stand p l e R s m args below meth c T locs cells slots) (hx : p.tables.exec = Jvm.exec) {x z : Int64} {y : Int32} (hd : decode c.code pc = .ok (.lushr, 1)) (hp : pc + 1 = n) (hz : (x.toUInt64 >>> (y &&& 63).toInt64.toUInt64).toInt64 = z) (w : Wk p e below s Qf C S T (mkF m n Ls (.long z :: sk))) : Wk p e below s Qf C S T (mkF m pc Ls (.int y :: .long x :: sk)) := by
  subst hp; subst hz
  exact Wk.go (fun _ k => XS.lushr X.here hx rfl hd rfl k) w
theorem Wk.lcmp (X : Stand p l e R s m args below meth c T locs cells slots) (hx : p.tables.exec = Jvm.exec) {x y : Int64} (hd : decode c.code pc = .ok (.lcmp, 1)) (hp : pc + 1 = n)  (w : Wk p e below s Qf C S T (mkF m n Ls (.int (lcmpW x y) :: sk))) : Wk p e below s Qf C S T (mkF m pc Ls (.long y :: .long x :: sk)) := by
  subst hp
  exact Wk.go (fun _ k => XS.lcmp X.here hx rfl hd rfl k) w
theorem Wk.idiv (X : Stand p l e R s m args below meth c T locs cells slots) (hx : p.tables.exec = Jvm.exec) {x y : Int32} (hd : decode c.code pc = .ok (.idiv, 1)) (hp : pc + 1 = n) (hy : y ≠ 0) (w : Wk p e below s Qf C S T (mkF m n Ls (.int (x / y) :: sk))) : Wk p e below s Qf C S T (mkF m pc Ls (.int y :: .int x :: sk)) := by
  subst hp
  exact Wk.go (fun _ k => XS.idiv X.here hx rfl hd rfl hy k) w
theorem Wk.ldiv (X : Stand p l e R s m args below meth c T locs cells slots) (hx : p.tables.exec = Jvm.exec) {x y : Int64} (hd : decode c.code pc = .ok (.ldiv, 1)) (hp : pc + 1 = n) (hy : y ≠ 0) (w : Wk p e below s Qf C S T (mkF m n Ls (.long (x / y) :: sk))) : Wk p e below s Qf C S T (mkF m pc Ls (.long y :: .long x :: sk)) := by
  subst hp
  exact Wk.go (fun _ k => XS.ldiv X.here hx rfl hd rfl hy k) w
theorem Wk.irem (X : Stand p l e R s m args below meth c T locs cells slots) (hx : p.tables.exec = Jvm.exec) {x y : Int32} (hd : decode c.code pc = .ok (.irem, 1)) (hp : pc + 1 = n) (hy : y ≠ 0) (w : Wk p e below s Qf C S T (mkF m n Ls (.int (x % y) :: sk))) : Wk p e below s Qf C S T (mkF m pc Ls (.int y :: .int x :: sk)) := by
  subst hp
  exact Wk.go (fun _ k => iremM X hx rfl hd rfl hy k) w
theorem Wk.lrem (X : Stand p l e R s m args below meth c T locs cells slots) (hx : p.tables.exec = Jvm.exec) {x y : Int64} (hd : decode c.code pc = .ok (.lrem, 1)) (hp : pc + 1 = n) (hy : y ≠ 0) (w : Wk p e below s Qf C S T (mkF m n Ls (.long (x - (x / y) * y) :: sk))) : Wk p e below s Qf C S T (mkF m pc Ls (.long y :: .long x :: sk)) := by
  subst hp
  exact Wk.go (fun _ k => XS.lrem X.here hx rfl hd rfl hy k) w
theorem Wk.iinc (X : Stand p l e R s m args below meth c T locs cells slots) (hx : p.tables.exec = Jvm.exec) {k : Nat} {cst : Int} {x : Int32} {L' : Array Slot} (hd : decode c.code pc = .ok (.iinc k cst, 3)) (hp : pc + 3 = n) (hl : Ls[k]? = some (.val (.int x))) (hl' : storeLocals Ls k (.int (x + Int32.ofInt cst)) = some L') (w : Wk p e below s Qf C S T (mkF m n L' sk)) : Wk p e below s Qf C S T (mkF m pc Ls sk) := by
  subst hp
  exact Wk.go (fun _ k => XS.iinc X.here hx rfl hd hl hl' k) w
theorem Wk.dup (X : Stand p l e R s m args below meth c T locs cells slots) (hx : p.tables.exec = Jvm.exec) {x : Value} (hd : decode c.code pc = .ok (.dup, 1)) (hp : pc + 1 = n) (hc : x.category = 1) (w : Wk p e below s Qf C S T (mkF m n Ls (x :: x :: sk))) : Wk p e below s Qf C S T (mkF m pc Ls (x :: sk)) := by
  subst hp
  exact Wk.go (fun _ k => XS.dup X.here hx rfl hd rfl hc k) w
theorem Wk.pop (X : Stand p l e R s m args below meth c T locs cells slots) (hx : p.tables.exec = Jvm.exec) {x : Value} (hd : decode c.code pc = .ok (.pop, 1)) (hp : pc + 1 = n) (hc : x.category = 1) (w : Wk p e below s Qf C S T (mkF m n Ls sk)) : Wk p e below s Qf C S T (mkF m pc Ls (x :: sk)) := by
  subst hp
  exact Wk.go (fun _ k => XS.pop X.here hx rfl hd rfl hc k) w
theorem Wk.dupX1 (X : Stand p l e R s m args below meth c T locs cells slots) (hx : p.tables.exec = Jvm.exec) {x y : Value} (hd : decode c.code pc = .ok (.dup_x1, 1)) (hp : pc + 1 = n) (hc : x.category = 1) (hc' : y.category = 1) (w : Wk p e below s Qf C S T (mkF m n Ls (x :: y :: x :: sk))) : Wk p e below s Qf C S T (mkF m pc Ls (x :: y :: sk)) := by
  subst hp
  exact Wk.go (fun _ k => XS.dupX1 X.here hx rfl hd rfl hc hc' k) w
theorem Wk.dup2 (X : Stand p l e R s m args below meth c T locs cells slots) (hx : p.tables.exec = Jvm.exec) {x y : Value} (hd : decode c.code pc = .ok (.dup2, 1)) (hp : pc + 1 = n) (hc : x.category = 1) (hc' : y.category = 1) (w : Wk p e below s Qf C S T (mkF m n Ls (x :: y :: x :: y :: sk))) : Wk p e below s Qf C S T (mkF m pc Ls (x :: y :: sk)) := by
  subst hp
  exact Wk.go (fun _ k => Jvm.Free.XT.dup2 X.here hx rfl hd rfl hc hc' k) w
theorem Wk.dup2L (X : Stand p l e R s m args below meth c T locs cells slots) (hx : p.tables.exec = Jvm.exec) {x : Int64} (hd : decode c.code pc = .ok (.dup2, 1)) (hp : pc + 1 = n)  (w : Wk p e below s Qf C S T (mkF m n Ls (.long x :: .long x :: sk))) : Wk p e below s Qf C S T (mkF m pc Ls (.long x :: sk)) := by
  subst hp
  exact Wk.go (fun _ k => Jvm.Free.XT.dup2L X.here hx rfl hd rfl k) w
theorem Wk.goto (X : Stand p l e R s m args below meth c T locs cells slots) (hx : p.tables.exec = Jvm.exec)  {o : Int} (hd : decode c.code pc = .ok (.goto o, 3))  (ho : 0 ≤ (pc : Int) + o) (hp : ((pc : Int) + o).toNat = n) (w : Wk p e below s Qf C S T (mkF m n Ls sk)) : Wk p e below s Qf C S T (mkF m pc Ls sk) := Wk.go (fun _ k => XS.goto X.here hx rfl rfl hd  ho hp k) w
theorem Wk.ifYes (X : Stand p l e R s m args below meth c T locs cells slots) (hx : p.tables.exec = Jvm.exec) {cd : ClassFile.Cond} {x : Int32} {o : Int} (hd : decode c.code pc = .ok (.ifCond cd o, 3)) (hc : ifCond.holds cd x = true) (ho : 0 ≤ (pc : Int) + o) (hp : ((pc : Int) + o).toNat = n) (w : Wk p e below s Qf C S T (mkF m n Ls sk)) : Wk p e below s Qf C S T (mkF m pc Ls (.int x :: sk)) := Wk.go (fun _ k => XS.ifYes X.here hx rfl rfl hd rfl hc ho hp k) w
theorem Wk.icmpYes (X : Stand p l e R s m args below meth c T locs cells slots) (hx : p.tables.exec = Jvm.exec) {cd : ClassFile.Cond} {x y : Int32} {o : Int} (hd : decode c.code pc = .ok (.if_icmp cd o, 3)) (hc : if_icmp.holds cd x y = true) (ho : 0 ≤ (pc : Int) + o) (hp : ((pc : Int) + o).toNat = n) (w : Wk p e below s Qf C S T (mkF m n Ls sk)) : Wk p e below s Qf C S T (mkF m pc Ls (.int y :: .int x :: sk)) := Wk.go (fun _ k => XS.icmpYes X.here hx rfl rfl hd rfl hc ho hp k) w
theorem Wk.ifnullYes (X : Stand p l e R s m args below meth c T locs cells slots) (hx : p.tables.exec = Jvm.exec)  {o : Int} (hd : decode c.code pc = .ok (.ifnull o, 3))  (ho : 0 ≤ (pc : Int) + o) (hp : ((pc : Int) + o).toNat = n) (w : Wk p e below s Qf C S T (mkF m n Ls sk)) : Wk p e below s Qf C S T (mkF m pc Ls (.null :: sk)) := Wk.go (fun _ k => XS.ifnullYes X.here hx rfl rfl hd rfl ho hp k) w
theorem Wk.ifnonnullYes (X : Stand p l e R s m args below meth c T locs cells slots) (hx : p.tables.exec = Jvm.exec) {b : Addr} {o : Int} (hd : decode c.code pc = .ok (.ifnonnull o, 3))  (ho : 0 ≤ (pc : Int) + o) (hp : ((pc : Int) + o).toNat = n) (w : Wk p e below s Qf C S T (mkF m n Ls sk)) : Wk p e below s Qf C S T (mkF m pc Ls (.ref b :: sk)) := Wk.go (fun _ k => XS.ifnonnullYes X.here hx rfl rfl hd rfl ho hp k) w
theorem Wk.ifNo (X : Stand p l e R s m args below meth c T locs cells slots) (hx : p.tables.exec = Jvm.exec) {cd : ClassFile.Cond} {o : Int} {x : Int32} (hd : decode c.code pc = .ok (.ifCond cd o, 3)) (hp : pc + 3 = n) (hc : ifCond.holds cd x = false) (w : Wk p e below s Qf C S T (mkF m n Ls sk)) : Wk p e below s Qf C S T (mkF m pc Ls (.int x :: sk)) := by
  subst hp
  exact Wk.go (fun _ k => XS.ifNo X.here hx rfl hd rfl hc k) w
theorem Wk.icmpNo (X : Stand p l e R s m args below meth c T locs cells slots) (hx : p.tables.exec = Jvm.exec) {cd : ClassFile.Cond} {o : Int} {x y : Int32} (hd : decode c.code pc = .ok (.if_icmp cd o, 3)) (hp : pc + 3 = n) (hc : if_icmp.holds cd x y = false) (w : Wk p e below s Qf C S T (mkF m n Ls sk)) : Wk p e below s Qf C S T (mkF m pc Ls (.int y :: .int x :: sk)) := by
  subst hp
  exact Wk.go (fun _ k => XS.icmpNo X.here hx rfl hd rfl hc k) w
theorem Wk.ifnullNo (X : Stand p l e R s m args below meth c T locs cells slots) (hx : p.tables.exec = Jvm.exec) {o : Int} {b : Addr} (hd : decode c.code pc = .ok (.ifnull o, 3)) (hp : pc + 3 = n)  (w : Wk p e below s Qf C S T (mkF m n Ls sk)) : Wk p e below s Qf C S T (mkF m pc Ls (.ref b :: sk)) := by
  subst hp
  exact Wk.go (fun _ k => XS.ifnullNo X.here hx rfl hd rfl k) w
theorem Wk.ifnonnullNo (X : Stand p l e R s m args below meth c T locs cells slots) (hx : p.tables.exec = Jvm.exec) {o : Int} (hd : decode c.code pc = .ok (.ifnonnull o, 3)) (hp : pc + 3 = n)  (w : Wk p e below s Qf C S T (mkF m n Ls sk)) : Wk p e below s Qf C S T (mkF m pc Ls (.null :: sk)) := by
  subst hp
  exact Wk.go (fun _ k => XS.ifnonnullNo X.here hx rfl hd rfl k) w
theorem Wk.acmp (X : Stand p l e R s m args below meth c T locs cells slots) (hx : p.tables.exec = Jvm.exec) {cd : ACond} {x y : Value} {same : Bool} {o : Int} (h1 : x.isRef = true) (h2 : y.isRef = true) (hd : decode c.code pc = .ok (.if_acmp cd o, 3)) (hq : decide (x = y) = same) (ho : 0 ≤ (pc : Int) + o) (hp : n = if acV cd same = true then ((pc : Int) + o).toNat else pc + 3) (w : Wk p e below s Qf C S T (mkF m n Ls sk)) : Wk p e below s Qf C S T (mkF m pc Ls (y :: x :: sk)) := Wk.go (fun _ k => RoadKit.acmp (g := mkF m pc Ls (y :: x :: sk)) X hx rfl h1 h2 rfl hd rfl hq ho hp k) w
theorem Wk.ldcInt (X : Stand p l e R s m args below meth c T locs cells slots) (hx : p.tables.exec = Jvm.exec) {own : String} {index : Nat} {v : Int32} (hown : s.vm.findClass own = some m.cls) (hc : (Cond.constant own index v).before args s = true) (hd : decode c.code pc = .ok (.ldc index, 2)) (hp : pc + 2 = n) (w : Wk p e below s Qf C S T (mkF m n Ls (.int v :: sk))) : Wk p e below s Qf C S T (mkF m pc Ls sk) := by
  subst hp
  exact Wk.go (X.ldcInt hx hown hc (g := mkF m pc Ls sk) rfl hd) w
theorem Wk.ldc2Long (X : Stand p l e R s m args below meth c T locs cells slots) (hx : p.tables.exec = Jvm.exec) {own : String} {index : Nat} {v : Int64} (hown : s.vm.findClass own = some m.cls) (hc : (Cond.constantLong own index v).before args s = true) (hd : decode c.code pc = .ok (.ldc2_w index, 3)) (hp : pc + 3 = n) (w : Wk p e below s Qf C S T (mkF m n Ls (.long v :: sk))) : Wk p e below s Qf C S T (mkF m pc Ls sk) := by
  subst hp
  exact Wk.go (X.ldc2Long hx hown hc (g := mkF m pc Ls sk) rfl hd) w
theorem Wk.newO (X : Stand p l e R s m args below meth c T locs cells slots) (hx : p.tables.exec = Jvm.exec) (hZ : Z.Warmed39 s.vm) {own K : String} {index k : Nat} (hown : s.vm.findClass own = some m.cls) (w : (Cond.classLink own index K).before a0 Z = true) (wi : (Cond.instantiable K k).before a0 Z = true) (wz : (Cond.initialized K).before a0 Z = true) (eT : T.heap = h) (hd : decode c.code pc = .ok (.new index, 3)) (hp : pc + 3 = n) (hc : cells + 1 ≤ R.cells) (hl : slots + k ≤ R.slots)
    (kk : ∀ (T' : State) (h' : Heap) (b : Addr), b = h.size → Stand p l e R s m args below meth c T' locs (cells + 1) (slots + k) → T'.heap = h' → Ext h h' → Exa Z h' b K → (∀ {O nm d : String} {ty : FieldType}, Laid Z a0 K O nm d → parseFieldDescriptor d = some ty → Fld Z h' b O nm d (defaultValue ty)) → Unt h' b → Wk p e below s Qf C S T' (mkF m n Ls (.ref b :: sk))) : Wk p e below s Qf C S T (mkF m pc Ls sk) := by
  subst hp
  obtain ⟨T', h', X', e', E', A', D', Y', st'⟩ := RoadKit.newO X hx hZ hown w wi wz eT (g := mkF m pc Ls sk) rfl hd hc hl
  exact Wk.go st' (kk T' h' _ rfl X' e' E' A' (fun L q => D' L q) Y')
theorem Wk.getF (X : Stand p l e R s m args below meth c T locs cells slots) (hx : p.tables.exec = Jvm.exec) (hZ : Z.Warmed39 s.vm) {own R0 O f d host : String} {index : Nat} (hown : s.vm.findClass own = some m.cls) (w : (Cond.fieldLink own index R0 f d).before a0 Z = true ∨ (Cond.fieldLinkNest own index R0 f d host).before a0 Z = true) (via : Via Z R0 O f d) (eT : T.heap = h) {a : Addr} {v : Value} (F : Fld Z h a O f d v) (hd : decode c.code pc = .ok (.getfield index, 3)) (hp : pc + 3 = n) (kk : ∀ T' : State, Stand p l e R s m args below meth c T' locs cells slots → T'.heap = h → Wk p e below s Qf C S T' (mkF m n Ls (v :: sk))) : Wk p e below s Qf C S T (mkF m pc Ls (.ref a :: sk)) := by
  subst hp
  obtain ⟨T', X', e', st'⟩ := RoadKit.getF X hx hZ hown w via eT F (g := mkF m pc Ls (.ref a :: sk)) rfl rfl hd
  exact Wk.go st' (kk T' X' e')
theorem Wk.getS (X : Stand p l e R s m args below meth c T locs cells slots) (hx : p.tables.exec = Jvm.exec) (hZ : Z.Warmed39 s.vm) {own R0 O f d host : String} {index : Nat} (hown : s.vm.findClass own = some m.cls) (w : (Cond.fieldLink own index R0 f d).before a0 Z = true ∨ (Cond.fieldLinkNest own index R0 f d host).before a0 Z = true) (via : Via Z R0 O f d) (eT : T.heap = h) {v : Value} (F : Sta Z h O f d v) (hd : decode c.code pc = .ok (.getstatic index, 3)) (hp : pc + 3 = n) (kk : ∀ T' : State, Stand p l e R s m args below meth c T' locs cells slots → T'.heap = h → Wk p e below s Qf C S T' (mkF m n Ls (v :: sk))) : Wk p e below s Qf C S T (mkF m pc Ls sk) := by
  subst hp
  obtain ⟨T', X', e', st'⟩ := RoadKit.getS2 X hx hZ hown w via eT F (g := mkF m pc Ls sk) rfl hd
  exact Wk.go st' (kk T' X' e')
theorem Wk.putF (X : Stand p l e R s m args below meth c T locs cells slots) (hx : p.tables.exec = Jvm.exec) (hZ : Z.Warmed39 s.vm) {own R0 O f d host : String} {index : Nat} (hown : s.vm.findClass own = some m.cls) (w : (Cond.fieldLink own index R0 f d).before a0 Z = true ∨ (Cond.fieldLinkNest own index R0 f d host).before a0 Z = true) (via : Via Z R0 O f d) (eT : T.heap = h) {K : String} {kk' : Nat} {ty : FieldType} {a : Addr} {v old : Value} (F : Fld Z h a O f d old) (E : Exa Z h a K) (L : (Cond.lays K O f d).before a0 Z = true ∨ ((Cond.laysFinal K O f d).before a0 Z = true ∧ own = O ∧ meth.name = "<init>")) (wi : (Cond.instantiable K kk').before a0 Z = true) (hty : parseFieldDescriptor d = some ty) (hn : narrow ty v = v) (hf : fits ty v = true) (hd : decode c.code pc = .ok (.putfield index, 3)) (hp : pc + 3 = n) (kk : ∀ (T' : State) (h' : Heap), Stand p l e R s m args below meth c T' (locs ++ [⟨a, slotOf Z O f d⟩]) cells slots → T'.heap = h' → Wr h h' a (slotOf Z O f d) v → Wk p e below s Qf C S T' (mkF m n Ls sk)) : Wk p e below s Qf C S T (mkF m pc Ls (v :: .ref a :: sk)) := by
  subst hp
  obtain ⟨T', h', X', e', W', st'⟩ := RoadKit.putF X hx hZ hown w via eT F E L wi hty hn hf (g := mkF m pc Ls (v :: .ref a :: sk)) rfl rfl hd
  exact Wk.go st' (kk T' h' X' e' W')
theorem Wk.putFN (X : Stand p l e R s m args below meth c T locs cells slots) (hx : p.tables.exec = Jvm.exec) (hZ : Z.Warmed39 s.vm) {own R0 O f d : String} {index : Nat} (hown : s.vm.findClass own = some m.cls) (w : (Cond.fieldLink own index R0 f d).before a0 Z = true) (via : Via Z R0 O f d) (eT : T.heap = h) {K : String} {kk' : Nat} {ty : FieldType} {a : Addr} {v old : Value} (F : Fld Z h a O f d old) (E : Exa Z h a K) (L : (Cond.lays K O f d).before a0 Z = true ∨ ((Cond.laysFinal K O f d).before a0 Z = true ∧ own = O ∧ meth.name = "<init>")) (wi : (Cond.instantiable K kk').before a0 Z = true) (hty : parseFieldDescriptor d = some ty) {v' : Value} (hn : narrow ty v = v') (hf : fits ty v' = true) (hd : decode c.code pc = .ok (.putfield index, 3)) (hp : pc + 3 = n) (kk : ∀ (T' : State) (h' : Heap), Stand p l e R s m args below meth c T' (locs ++ [⟨a, slotOf Z O f d⟩]) cells slots → T'.heap = h' → Wr h h' a (slotOf Z O f d) v' → Wk p e below s Qf C S T' (mkF m n Ls sk)) : Wk p e below s Qf C S T (mkF m pc Ls (v :: .ref a :: sk)) := by
  subst hp
  obtain ⟨T', h', X', e', W', st'⟩ := RoadKit.putFN X hx hZ hown w via eT F E L wi hty hn hf (g := mkF m pc Ls (v :: .ref a :: sk)) rfl rfl hd
  exact Wk.go st' (kk T' h' X' e' W')
theorem Wk.initO (X : Stand p l e R s m args below meth c T locs cells slots) (hx : p.tables.exec = Jvm.exec) (hZ : Z.Warmed39 s.vm) {own : String} {idx : Nat} (hown : s.vm.findClass own = some m.cls) (w1 : (Cond.methodLink own idx Lib.objectInit).before a0 Z = true) (w2 : (Cond.instanceMethod Lib.objectInit).before a0 Z = true) (w3 : (Cond.code Lib.objectInit ⟨#[0xb1]⟩ 1 none).before a0 Z = true) (eT : T.heap = h) (hsz : Ls.size = c.maxLocals) {a : Addr} (hd : decode c.code pc = .ok (.invokespecial idx, 3)) (hp : pc + 3 = n) (hf : 1 ≤ R.frames) {w : Nat} (hw : (sk.map fun v => v.category).sum ≤ w) (hl : w + 12 ≤ R.locals) (kk : ∀ T' : State, Stand p l e R s m args below meth c T' locs cells slots → T'.heap = h → Wk p e below s Qf C S T' (mkF m n Ls sk)) : Wk p e below s Qf C S T (mkF m pc Ls (.ref a :: sk)) := by
  subst hp
  obtain ⟨T', X', e', st'⟩ := RoadKit.initO X hx hZ hown w1 w2 w3 eT (g := mkF m pc Ls (.ref a :: sk)) rfl hsz rfl hd hf (W := w) (by show 2 * 0 + _ ≤ _; omega) hl
  exact Wk.go st' (kk T' X' e')
theorem Wk.newP (X : Stand p l e R s m args below meth c T locs cells slots) (hx : p.tables.exec = Jvm.exec) (hZ : Z.Warmed39 s.vm) {aty : ArrayType} (w : (Cond.arrayClass (newarray.typeOf aty)).before a0 Z = true) (eT : T.heap = h) (hd : decode c.code pc = .ok (.newarray aty, 2)) (hp : pc + 2 = n) {z : Int32} (hz : ¬ z < 0) {cap : Nat} (hcap : z.toNatClampNeg ≤ cap) (hb : cap * 8 ≤ 536870912) (hc : cells + 1 ≤ R.cells) (hl : slots + cap ≤ R.slots)
    (kk : ∀ (T' : State) (h' : Heap) (b : Addr) (cA : ClassId), b = h.size → Stand p l e R s m args below meth c T' locs (cells + 1) (slots + cap) → T'.heap = h' → Ext h h' → Arr Z h' b (newA cA (newarray.typeOf aty) z) (newarray.typeOf aty) → Wk p e below s Qf C S T' (mkF m n Ls (.ref b :: sk))) : Wk p e below s Qf C S T (mkF m pc Ls (.int z :: sk)) := by
  subst hp
  obtain ⟨T', h', cA, X', e', E', A', st'⟩ := RoadKit.newP X hx hZ w eT (g := mkF m pc Ls (.int z :: sk)) rfl hd rfl hz hcap hb hc hl
  exact Wk.go st' (kk T' h' _ cA rfl X' e' E' A')
theorem Wk.newR (X : Stand p l e R s m args below meth c T locs cells slots) (hx : p.tables.exec = Jvm.exec) (hZ : Z.Warmed39 s.vm) {own K : String} {index : Nat} (hown : s.vm.findClass own = some m.cls) (w1 : (Cond.classLink own index K).before a0 Z = true) (w2 : (Cond.arrayOver (.object K)).before a0 Z = true) (eT : T.heap = h) (hd : decode c.code pc = .ok (.anewarray index, 3)) (hp : pc + 3 = n) {z : Int32} (hz : ¬ z < 0) {cap : Nat} (hcap : z.toNatClampNeg ≤ cap) (hb : cap * 8 ≤ 536870912) (hc : cells + 1 ≤ R.cells) (hl : slots + cap ≤ R.slots)
    (kk : ∀ (T' : State) (h' : Heap) (b : Addr) (cA : ClassId), b = h.size → Stand p l e R s m args below meth c T' locs (cells + 1) (slots + cap) → T'.heap = h' → Ext h h' → Arr Z h' b (newA cA (.object K) z) (.object K) → Ovr Z cA K → Wk p e below s Qf C S T' (mkF m n Ls (.ref b :: sk))) : Wk p e below s Qf C S T (mkF m pc Ls (.int z :: sk)) := by
  subst hp
  obtain ⟨T', h', cA, X', e', E', A', O', st'⟩ := RoadKit.newR X hx hZ hown w1 w2 eT (g := mkF m pc Ls (.int z :: sk)) rfl hd rfl hz hcap hb hc hl
  exact Wk.go st' (kk T' h' _ cA rfl X' e' E' A' O')
theorem Wk.stI (X : Stand p l e R s m args below meth c T locs cells slots) (hx : p.tables.exec = Jvm.exec) (hZ : Z.Warmed39 s.vm) (eT : T.heap = h) {a : Addr} {cl : Cell} (A : Arr Z h a cl .int) {j : Int32} {x : Int32} (hj : ¬ (j < 0 ∨ cl.slots.size ≤ j.toNatClampNeg)) (hd : decode c.code pc = .ok (.iastore, 1)) (hp : pc + 1 = n) (kk : ∀ (T' : State) (h' : Heap), Stand p l e R s m args below meth c T' (locs ++ [⟨a, j.toNatClampNeg⟩]) cells slots → T'.heap = h' → Wr h h' a j.toNatClampNeg (.int x) → Wk p e below s Qf C S T' (mkF m n Ls sk)) : Wk p e below s Qf C S T (mkF m pc Ls ((.int x) :: .int j :: .ref a :: sk)) := by
  subst hp
  obtain ⟨T', h', X', e', W', st'⟩ := RoadKit.stI X hx hZ eT A hj (g := mkF m pc Ls ((.int x) :: .int j :: .ref a :: sk)) rfl rfl hd
  exact Wk.go st' (kk T' h' X' e' W')
theorem Wk.stC (X : Stand p l e R s m args below meth c T locs cells slots) (hx : p.tables.exec = Jvm.exec) (hZ : Z.Warmed39 s.vm) (eT : T.heap = h) {a : Addr} {cl : Cell} (A : Arr Z h a cl .char) {j : Int32} {x : Int32} (hj : ¬ (j < 0 ∨ cl.slots.size ≤ j.toNatClampNeg)) (hd : decode c.code pc = .ok (.castore, 1)) (hp : pc + 1 = n) (kk : ∀ (T' : State) (h' : Heap), Stand p l e R s m args below meth c T' (locs ++ [⟨a, j.toNatClampNeg⟩]) cells slots → T'.heap = h' → Wr h h' a j.toNatClampNeg (.int (nar .char x)) → Wk p e below s Qf C S T' (mkF m n Ls sk)) : Wk p e below s Qf C S T (mkF m pc Ls ((.int x) :: .int j :: .ref a :: sk)) := by
  subst hp
  obtain ⟨T', h', X', e', W', st'⟩ := RoadKit.stC X hx hZ eT A hj (g := mkF m pc Ls ((.int x) :: .int j :: .ref a :: sk)) rfl rfl hd
  exact Wk.go st' (kk T' h' X' e' W')
theorem Wk.stS (X : Stand p l e R s m args below meth c T locs cells slots) (hx : p.tables.exec = Jvm.exec) (hZ : Z.Warmed39 s.vm) (eT : T.heap = h) {a : Addr} {cl : Cell} (A : Arr Z h a cl .short) {j : Int32} {x : Int32} (hj : ¬ (j < 0 ∨ cl.slots.size ≤ j.toNatClampNeg)) (hd : decode c.code pc = .ok (.sastore, 1)) (hp : pc + 1 = n) (kk : ∀ (T' : State) (h' : Heap), Stand p l e R s m args below meth c T' (locs ++ [⟨a, j.toNatClampNeg⟩]) cells slots → T'.heap = h' → Wr h h' a j.toNatClampNeg (.int (nar .short x)) → Wk p e below s Qf C S T' (mkF m n Ls sk)) : Wk p e below s Qf C S T (mkF m pc Ls ((.int x) :: .int j :: .ref a :: sk)) := by
  subst hp
  obtain ⟨T', h', X', e', W', st'⟩ := RoadKit.stS X hx hZ eT A hj (g := mkF m pc Ls ((.int x) :: .int j :: .ref a :: sk)) rfl rfl hd
  exact Wk.go st' (kk T' h' X' e' W')
theorem Wk.stB (X : Stand p l e R s m args below meth c T locs cells slots) (hx : p.tables.exec = Jvm.exec) (hZ : Z.Warmed39 s.vm) (eT : T.heap = h) {a : Addr} {cl : Cell} (A : Arr Z h a cl .byte) {j : Int32} {x : Int32} (hj : ¬ (j < 0 ∨ cl.slots.size ≤ j.toNatClampNeg)) (hd : decode c.code pc = .ok (.bastore, 1)) (hp : pc + 1 = n) (kk : ∀ (T' : State) (h' : Heap), Stand p l e R s m args below meth c T' (locs ++ [⟨a, j.toNatClampNeg⟩]) cells slots → T'.heap = h' → Wr h h' a j.toNatClampNeg (.int (nar .byte x)) → Wk p e below s Qf C S T' (mkF m n Ls sk)) : Wk p e below s Qf C S T (mkF m pc Ls ((.int x) :: .int j :: .ref a :: sk)) := by
  subst hp
  obtain ⟨T', h', X', e', W', st'⟩ := RoadKit.stB X hx hZ eT A hj (g := mkF m pc Ls ((.int x) :: .int j :: .ref a :: sk)) rfl rfl hd
  exact Wk.go st' (kk T' h' X' e' W')
theorem Wk.stZ (X : Stand p l e R s m args below meth c T locs cells slots) (hx : p.tables.exec = Jvm.exec) (hZ : Z.Warmed39 s.vm) (eT : T.heap = h) {a : Addr} {cl : Cell} (A : Arr Z h a cl .boolean) {j : Int32} {x : Int32} (hj : ¬ (j < 0 ∨ cl.slots.size ≤ j.toNatClampNeg)) (hd : decode c.code pc = .ok (.bastore, 1)) (hp : pc + 1 = n) (kk : ∀ (T' : State) (h' : Heap), Stand p l e R s m args below meth c T' (locs ++ [⟨a, j.toNatClampNeg⟩]) cells slots → T'.heap = h' → Wr h h' a j.toNatClampNeg (.int (nar .boolean x)) → Wk p e below s Qf C S T' (mkF m n Ls sk)) : Wk p e below s Qf C S T (mkF m pc Ls ((.int x) :: .int j :: .ref a :: sk)) := by
  subst hp
  obtain ⟨T', h', X', e', W', st'⟩ := RoadKit.stZ X hx hZ eT A hj (g := mkF m pc Ls ((.int x) :: .int j :: .ref a :: sk)) rfl rfl hd
  exact Wk.go st' (kk T' h' X' e' W')
theorem Wk.stJ (X : Stand p l e R s m args below meth c T locs cells slots) (hx : p.tables.exec = Jvm.exec) (hZ : Z.Warmed39 s.vm) (eT : T.heap = h) {a : Addr} {cl : Cell} (A : Arr Z h a cl .long) {j : Int32} {x : Int64} (hj : ¬ (j < 0 ∨ cl.slots.size ≤ j.toNatClampNeg)) (hd : decode c.code pc = .ok (.lastore, 1)) (hp : pc + 1 = n) (kk : ∀ (T' : State) (h' : Heap), Stand p l e R s m args below meth c T' (locs ++ [⟨a, j.toNatClampNeg⟩]) cells slots → T'.heap = h' → Wr h h' a j.toNatClampNeg (.long x) → Wk p e below s Qf C S T' (mkF m n Ls sk)) : Wk p e below s Qf C S T (mkF m pc Ls ((.long x) :: .int j :: .ref a :: sk)) := by
  subst hp
  obtain ⟨T', h', X', e', W', st'⟩ := RoadKit.stJ X hx hZ eT A hj (g := mkF m pc Ls ((.long x) :: .int j :: .ref a :: sk)) rfl rfl hd
  exact Wk.go st' (kk T' h' X' e' W')
theorem Wk.stR (X : Stand p l e R s m args below meth c T locs cells slots) (hx : p.tables.exec = Jvm.exec) (hZ : Z.Warmed39 s.vm) (eT : T.heap = h) {a : Addr} {cl : Cell} {ty : FieldType} (A : Arr Z h a cl ty) {j : Int32} {v : Value} (hj : ¬ (j < 0 ∨ cl.slots.size ≤ j.toNatClampNeg)) (hty : ty.isReference = true) (F : Sto Z h a v) (hd : decode c.code pc = .ok (.aastore, 1)) (hp : pc + 1 = n) (kk : ∀ (T' : State) (h' : Heap), Stand p l e R s m args below meth c T' (locs ++ [⟨a, j.toNatClampNeg⟩]) cells slots → T'.heap = h' → Wr h h' a j.toNatClampNeg v → Wk p e below s Qf C S T' (mkF m n Ls sk)) : Wk p e below s Qf C S T (mkF m pc Ls (v :: .int j :: .ref a :: sk)) := by
  subst hp
  obtain ⟨T', h', X', e', W', st'⟩ := RoadKit.stR X hx hZ eT A hj hty F (g := mkF m pc Ls (v :: .int j :: .ref a :: sk)) rfl rfl hd
  exact Wk.go st' (kk T' h' X' e' W')
theorem Wk.iaload (X : Stand p l e R s m args below meth c T locs cells slots) (hx : p.tables.exec = Jvm.exec) (hZ : Z.Warmed39 s.vm) (eT : T.heap = h) {a : Addr} {cl : Cell} (A : Arr Z h a cl .int) {j : Int32} {v : Value} (hj : ¬ (j < 0 ∨ cl.slots.size ≤ j.toNatClampNeg)) (ha : cl.slots[j.toNatClampNeg]? = some v) (hd : decode c.code pc = .ok (.iaload, 1)) (hp : pc + 1 = n) (w : Wk p e below s Qf C S T (mkF m n Ls (v :: sk))) : Wk p e below s Qf C S T (mkF m pc Ls (.int j :: .ref a :: sk)) := by
  subst hp
  exact Wk.go (X.iaload hx (by rw [eT]; exact A.1) (State.isArrayOf_alike hZ.alike A.2.1) A.2.2 hj ha (g := mkF m pc Ls (.int j :: .ref a :: sk)) rfl rfl hd) w
theorem Wk.caload (X : Stand p l e R s m args below meth c T locs cells slots) (hx : p.tables.exec = Jvm.exec) (hZ : Z.Warmed39 s.vm) (eT : T.heap = h) {a : Addr} {cl : Cell} (A : Arr Z h a cl .char) {j : Int32} {v : Value} (hj : ¬ (j < 0 ∨ cl.slots.size ≤ j.toNatClampNeg)) (ha : cl.slots[j.toNatClampNeg]? = some v) (hd : decode c.code pc = .ok (.caload, 1)) (hp : pc + 1 = n) (w : Wk p e below s Qf C S T (mkF m n Ls (v :: sk))) : Wk p e below s Qf C S T (mkF m pc Ls (.int j :: .ref a :: sk)) := by
  subst hp
  exact Wk.go (X.caload hx (by rw [eT]; exact A.1) (State.isArrayOf_alike hZ.alike A.2.1) A.2.2 hj ha (g := mkF m pc Ls (.int j :: .ref a :: sk)) rfl rfl hd) w
theorem Wk.saload (X : Stand p l e R s m args below meth c T locs cells slots) (hx : p.tables.exec = Jvm.exec) (hZ : Z.Warmed39 s.vm) (eT : T.heap = h) {a : Addr} {cl : Cell} (A : Arr Z h a cl .short) {j : Int32} {v : Value} (hj : ¬ (j < 0 ∨ cl.slots.size ≤ j.toNatClampNeg)) (ha : cl.slots[j.toNatClampNeg]? = some v) (hd : decode c.code pc = .ok (.saload, 1)) (hp : pc + 1 = n) (w : Wk p e below s Qf C S T (mkF m n Ls (v :: sk))) : Wk p e below s Qf C S T (mkF m pc Ls (.int j :: .ref a :: sk)) := by
  subst hp
  exact Wk.go (X.saload hx (by rw [eT]; exact A.1) (State.isArrayOf_alike hZ.alike A.2.1) A.2.2 hj ha (g := mkF m pc Ls (.int j :: .ref a :: sk)) rfl rfl hd) w
theorem Wk.laload (X : Stand p l e R s m args below meth c T locs cells slots) (hx : p.tables.exec = Jvm.exec) (hZ : Z.Warmed39 s.vm) (eT : T.heap = h) {a : Addr} {cl : Cell} (A : Arr Z h a cl .long) {j : Int32} {v : Value} (hj : ¬ (j < 0 ∨ cl.slots.size ≤ j.toNatClampNeg)) (ha : cl.slots[j.toNatClampNeg]? = some v) (hd : decode c.code pc = .ok (.laload, 1)) (hp : pc + 1 = n) (w : Wk p e below s Qf C S T (mkF m n Ls (v :: sk))) : Wk p e below s Qf C S T (mkF m pc Ls (.int j :: .ref a :: sk)) := by
  subst hp
  exact Wk.go (X.laload hx (by rw [eT]; exact A.1) (State.isArrayOf_alike hZ.alike A.2.1) A.2.2 hj ha (g := mkF m pc Ls (.int j :: .ref a :: sk)) rfl rfl hd) w
theorem Wk.baloadBytes (X : Stand p l e R s m args below meth c T locs cells slots) (hx : p.tables.exec = Jvm.exec) (hZ : Z.Warmed39 s.vm) (eT : T.heap = h) {a : Addr} {cl : Cell} (A : Arr Z h a cl .byte) {j : Int32} {v : Value} (hj : ¬ (j < 0 ∨ cl.slots.size ≤ j.toNatClampNeg)) (ha : cl.slots[j.toNatClampNeg]? = some v) (hd : decode c.code pc = .ok (.baload, 1)) (hp : pc + 1 = n) (w : Wk p e below s Qf C S T (mkF m n Ls (v :: sk))) : Wk p e below s Qf C S T (mkF m pc Ls (.int j :: .ref a :: sk)) := by
  subst hp
  exact Wk.go (X.baloadBytes hx (by rw [eT]; exact A.1) (State.isArrayOf_alike hZ.alike A.2.1) A.2.2 hj ha (g := mkF m pc Ls (.int j :: .ref a :: sk)) rfl rfl hd) w
theorem Wk.aaload (X : Stand p l e R s m args below meth c T locs cells slots) (hx : p.tables.exec = Jvm.exec) (hZ : Z.Warmed39 s.vm) (eT : T.heap = h) {a : Addr} {cl : Cell} {ty : FieldType} (A : Arr Z h a cl ty) {j : Int32} {v : Value} (hty : ty.isReference = true) (hj : ¬ (j < 0 ∨ cl.slots.size ≤ j.toNatClampNeg)) (ha : cl.slots[j.toNatClampNeg]? = some v) (hd : decode c.code pc = .ok (.aaload, 1)) (hp : pc + 1 = n) (w : Wk p e below s Qf C S T (mkF m n Ls (v :: sk))) : Wk p e below s Qf C S T (mkF m pc Ls (.int j :: .ref a :: sk)) := by
  subst hp
  exact Wk.go (X.aaload hx (by rw [eT]; exact A.1) (State.isArrayOf_alike hZ.alike A.2.1) hty A.2.2 hj ha (g := mkF m pc Ls (.int j :: .ref a :: sk)) rfl rfl hd) w
theorem Wk.arrlen (X : Stand p l e R s m args below meth c T locs cells slots) (hx : p.tables.exec = Jvm.exec) (hZ : Z.Warmed39 s.vm) (eT : T.heap = h) {a : Addr} {cl : Cell} {ty : FieldType} {z : Int32} (A : Arr Z h a cl ty) (S' : cl.slots.size = z.toNatClampNeg) (hz : ¬ z < 0) (hd : decode c.code pc = .ok (.arraylength, 1)) (hp : pc + 1 = n) (w : Wk p e below s Qf C S T (mkF m n Ls (.int z :: sk))) : Wk p e below s Qf C S T (mkF m pc Ls (.ref a :: sk)) := by
  subst hp
  have q := X.arraylength hx (by rw [eT]; exact A.1) (State.isArrayOf_alike hZ.alike A.2.1) (g := mkF m pc Ls (.ref a :: sk)) rfl rfl hd
  rw [len_of S' hz] at q
  exact Wk.go q w
theorem Wk.castY (X : Stand p l e R s m args below meth c T locs cells slots) (hx : p.tables.exec = Jvm.exec) (hZ : Z.Warmed39 s.vm) {own K : String} {index : Nat} (hown : s.vm.findClass own = some m.cls) (w : (Cond.classLink own index K).before a0 Z = true) (eT : T.heap = h) {a : Addr} (F : Ins Z h a K true) (hd : decode c.code pc = .ok (.checkcast index, 3)) (hp : pc + 3 = n) (kk : ∀ T' : State, Stand p l e R s m args below meth c T' locs cells slots → T'.heap = h → Wk p e below s Qf C S T' (mkF m n Ls (.ref a :: sk))) : Wk p e below s Qf C S T (mkF m pc Ls (.ref a :: sk)) := by
  subst hp
  obtain ⟨T', X', e', st'⟩ := RoadKit.castY X hx hZ hown w eT F (g := mkF m pc Ls (.ref a :: sk)) rfl rfl hd
  exact Wk.go st' (kk T' X' e')
theorem Wk.instY (X : Stand p l e R s m args below meth c T locs cells slots) (hx : p.tables.exec = Jvm.exec) (hZ : Z.Warmed39 s.vm) {own K : String} {index : Nat} (hown : s.vm.findClass own = some m.cls) (w : (Cond.classLink own index K).before a0 Z = true) (eT : T.heap = h) {a : Addr} (F : Ins Z h a K true) (hd : decode c.code pc = .ok (.instanceof index, 3)) (hp : pc + 3 = n) (kk : ∀ T' : State, Stand p l e R s m args below meth c T' locs cells slots → T'.heap = h → Wk p e below s Qf C S T' (mkF m n Ls (.int 1 :: sk))) : Wk p e below s Qf C S T (mkF m pc Ls (.ref a :: sk)) := by
  subst hp
  obtain ⟨T', X', e', st'⟩ := RoadKit.instY X hx hZ hown w eT F (g := mkF m pc Ls (.ref a :: sk)) rfl rfl hd
  exact Wk.go st' (kk T' X' e')
theorem Wk.back {rc rs : Nat} {Q : Option Value → Heap → List Loc → Prop} {rest : List Value} (call : ∃ (v : Option Value) (vm₁ : Vm) (B : Pt), s.WarmedH vm₁ ∧ Stand p l e R s m args below meth c B.U B.locs B.cells B.slots ∧ (∃ L, Q v B.U.heap L ∧ B.locs = locs ++ L ∧ B.cells = cells + rc ∧ B.slots = slots + rs) ∧ Steps p.tables e below (T.setTop (mkF m pc Ls sk)) (B.U.setTop (mkF m n Ls (v.toList ++ rest)))) (kk : ∀ (v : Option Value) (T' : State) (L : List Loc), Stand p l e R s m args below meth c T' (locs ++ L) (cells + rc) (slots + rs) → Q v T'.heap L → Wk p e below s Qf C S T' (mkF m n Ls (v.toList ++ rest))) : Wk p e below s Qf C S T (mkF m pc Ls sk) := by
  obtain ⟨v, _, ⟨T', L', c', s'⟩, -, X', ⟨L, hQ, h1, h2, h3⟩, k⟩ := call
  dsimp only [Pt.U, Pt.locs, Pt.cells, Pt.slots] at X' h1 h2 h3 k hQ
  subst h1 h2 h3
  exact Wk.go (fun _ r => k.trans r) (kk v T' L X' hQ)
theorem Wk.backS {rc rs : Nat} {Q : Option Value → Heap → List Loc → Prop} {rest : List Value} (call : ∃ (v : Option Value) (vm₁ : Vm) (B : Pt), s.WarmedH vm₁ ∧ Stand p l e R s m args below meth c B.U B.locs B.cells B.slots ∧ (∃ L, Q v B.U.heap L ∧ B.locs = locs ++ L ∧ B.cells = cells + rc ∧ B.slots = slots + rs) ∧ ∀ target, Steps p.tables e below (B.U.setTop (mkF m n Ls (v.toList ++ rest))) target → Steps p.tables e below (T.setTop (mkF m pc Ls sk)) target) (kk : ∀ (v : Option Value) (T' : State) (L : List Loc), Stand p l e R s m args below meth c T' (locs ++ L) (cells + rc) (slots + rs) → Q v T'.heap L → Wk p e below s Qf C S T' (mkF m n Ls (v.toList ++ rest))) : Wk p e below s Qf C S T (mkF m pc Ls sk) := by
  obtain ⟨v, _, ⟨T', L', c', s'⟩, -, X', ⟨L, hQ, h1, h2, h3⟩, k⟩ := call
  dsimp only [Pt.U, Pt.locs, Pt.cells, Pt.slots] at X' h1 h2 h3 k hQ
  subst h1 h2 h3
  exact Wk.go k (kk v T' L X' hQ)
end Own
end Jvm.RoadKit
namespace Jvm.Pilot.@@N@@
open Jvm Jvm.ClassFile Sem Op Lib Jvm.Free Jvm.Stand Jvm.LawKit Jvm.RoadKit Bundle Jvm.Pilot.@@N@@.Jvm.D
theorem own_fld {args : Array Value} {s : State} {t u : Term} {C n d : String} {a : Addr} {z : Int32} (ev : t.eval args s none [] s = some (.ref a)) (hu : u.eval args s none [] s = some (.int z)) (h : (Jvm.Cond.eq (Term.field t C n d) u).value args s none s [] = some true) : Fld s s.heap a C n d (.int z) := by
  obtain ⟨x, y, h1, h2, -, k2⟩ := cmp_v (Or.inl h)
  rw [hu] at h2
  cases h2
  obtain ⟨x', rfl⟩ := k2
  have e2 : x' = z := gotT (P := x' = z) (by simp [Cond.value, h1, hu]) h
  subst e2
  rw [fld_at ev] at h1
  exact Fld.start h1
theorem own_fldL {args : Array Value} {s : State} {t : Term} {C n d : String} {a : Addr} {z : Int64} (ev : t.eval args s none [] s = some (.ref a)) (h : (Jvm.Cond.eq (Term.field t C n d) (Term.long z)).value args s none s [] = some true) : Fld s s.heap a C n d (.long z) := by
  obtain ⟨x, y, h1, h2, -, k2⟩ := cmp_v (Or.inl h)
  rw [long_at] at h2
  cases h2
  obtain ⟨x', rfl⟩ := k2
  have e2 : x' = z := gotT (eq_L h1 (long_at z)) h
  subst e2
  rw [fld_at ev] at h1
  exact Fld.start h1
theorem own_up {cs : List Int32} (h : ∀ c ∈ cs, ¬ c < 0 ∧ ¬ (255 : Int32) < c) : ∀ c ∈ cs, ¬ c < 0 ∧ ¬ (65535 : Int32) < c := fun c hc => ⟨(h c hc).1, fun q => (h c hc).2 (Int32.lt_trans (by decide) q)⟩
theorem own_c255 (x : Int32) : nar .char ((x &&& (255 : Int32)).toUInt32.toUInt16.toUInt32.toInt32) = (x &&& (255 : Int32)).toUInt32.toUInt16.toUInt32.toInt32 := by
  show ((x &&& (255 : Int32)).toUInt32.toUInt16.toUInt32.toInt32).toUInt32.toUInt16.toUInt32.toInt32 = _
  rw [i2c_mask, i2c_mask]
theorem own_r255 (x : Int32) : ¬ ((x &&& (255 : Int32)).toUInt32.toUInt16.toUInt32.toInt32) < 0 ∧ ¬ (255 : Int32) < ((x &&& (255 : Int32)).toUInt32.toUInt16.toUInt32.toInt32) := by
  rw [i2c_mask]
  have h := c_and x 255 (by decide)
  have e : (255 : Int32).toInt = 255 := rfl
  have e0 : (0 : Int32).toInt = 0 := rfl
  constructor <;> rw [Int32.lt_iff_toInt_lt] <;> omega
theorem own_ne0 {args : Array Value} {s : State} {t : Term} {z : Int32} (ev : t.eval args s none [] s = some (.int z)) (h : (Jvm.Cond.not (Jvm.Cond.eq t (Term.int (0 : Int32)))).value args s none s [] = some true) : ¬ z = 0 := by
  have h2 := not_v h
  exact gotF (P := z = 0) (by simp [Cond.value, ev, Term.eval]) h2
theorem own_len {args : Array Value} {s : State} {t : Term} {a : Addr} {c : Cell} {ty : FieldType} {z : Int32} (ev : t.eval args s none [] s = some (.ref a)) (A : Arr s s.heap a c ty) (h : (Jvm.Cond.eq (Term.length t) (Term.int z)).value args s none s [] = some true) : c.slots.size < 2 ^ 31 ∧ c.slots.size.toInt32 = z := by
  have hA := A.fin (Vm.Alike.refl _)
  by_cases q : c.slots.size < 2 ^ 31
  · exact ⟨q, gotT (Cond.eq_ints (len_f ev hA q) (Term.int_eval z)) h⟩
  · obtain ⟨x, y, h1, -⟩ := cmp_v (Or.inl h)
    simp [Term.eval, ev, hA, q] at h1
theorem own_narb (x : Int32) : nar .byte (x.toInt8.toInt32) = x.toInt8.toInt32 := by simp [nar]
theorem own_fitb {z : Int32} (h : nar .byte z = z) : fits .byte (.int z) = true := by
  rw [← h]
  exact fits_nar_byte _
theorem own_n4 (x : Int32) : ((x &&& (3 : Int32)) + (1 : Int32)) = (1 : Int32) ∨ ((x &&& (3 : Int32)) + (1 : Int32)) = (2 : Int32) ∨ ((x &&& (3 : Int32)) + (1 : Int32)) = (3 : Int32) ∨ ((x &&& (3 : Int32)) + (1 : Int32)) = (4 : Int32) := by
  have h := c_and x 3 (by decide)
  have h2 := c_iadd (x &&& 3) 1
  have e : (3 : Int32).toInt = 3 := rfl
  have e1 : (1 : Int32).toInt = 1 := rfl
  have e2 : (2 : Int32).toInt = 2 := rfl
  have e4 : (4 : Int32).toInt = 4 := rfl
  have b1 := ((x &&& 3) + 1).toInt_lt
  have b2 := ((x &&& 3) + 1).le_toInt
  simp only [← Int32.toInt_inj]
  omega
theorem own_arv0 {args : Array Value} {s : State} {t : Term} {a : Addr} {c : Cell} {ty : FieldType} (hf : Fit s) (A : Arr s s.heap a c ty) (ev : t.eval args s none [] s = some (.ref a)) (h : (Jvm.Cond.eq (Term.length t) (Term.int (0 : Int32))).value args s none s [] = some true) : Arv s s.heap a c.cls ty (0 : Int32) [] .null := by
  obtain ⟨q, e⟩ := own_len ev A h
  exact Arv.start hf A q e (by decide) rfl trivial
theorem own_cache {Z : State} {a : Addr} {c : Cell} (B : Bxs Z a c "java/lang/Integer" "I" (256 : Int32) (fun j => .int (j - (128 : Int32)))) : ∀ j : Int32, ¬ j < (-128 : Int32) → ¬ (127 : Int32) < j → ¬ (j + (128 : Int32) < 0 ∨ c.slots.size ≤ (j + (128 : Int32)).toNatClampNeg) ∧ ∃ r : Addr, c.slots[(j + (128 : Int32)).toNatClampNeg]? = some (.ref r) ∧ Exa Z Z.heap r "java/lang/Integer" ∧ Fld Z Z.heap r "java/lang/Integer" "value" "I" (.int j) := by
  intro j h1 h2
  have hb : ¬ (j + (128 : Int32)) < 0 ∧ (j + (128 : Int32)) < (256 : Int32) := by
    have q := c_iadd j 128
    have b1 := (j + 128).toInt_lt
    have b2 := (j + 128).le_toInt
    have e0 : (0 : Int32).toInt = 0 := rfl
    have e1 : (128 : Int32).toInt = 128 := rfl
    have e2 : (256 : Int32).toInt = 256 := rfl
    have e3 : (-128 : Int32).toInt = -128 := rfl
    have e4 : (127 : Int32).toInt = 127 := rfl
    rw [Int32.lt_iff_toInt_lt] at h1 h2
    constructor <;> rw [Int32.lt_iff_toInt_lt] <;> omega
  have hin := inb_of B.2.1 hb
  obtain ⟨r, e1, e2, e3⟩ := B.2.2.2 (j + 128) hin
  refine ⟨hin, r, e1, e2, ?_⟩
  have q : (j + (128 : Int32)) - (128 : Int32) = j := by simp
  have e4 : Fld Z Z.heap r "java/lang/Integer" "value" "I" (.int ((j + (128 : Int32)) - (128 : Int32))) := e3
  rw [q] at e4
  exact e4
theorem own_sub {args : Array Value} {s : State} {a b : Term} {idx : List Nat} {x y : Int32} (ha : a.eval args s none idx s = some (.int x)) (hb : b.eval args s none idx s = some (.int y)) : (Term.sub a b).eval args s none idx s = some (.int (x - y)) := by simp [Term.eval, ha, hb]
theorem own_max {n q z : Int32} (h1 : n < q → z = q) (h2 : ¬ n < q → z = n) : ¬ z < n := by
  by_cases h : n < q
  · rw [h1 h]; exact fun k => absurd (Int32.lt_trans h k) Int32.lt_irrefl
  · rw [h2 h]; exact Int32.lt_irrefl
def Q_rmMx (Z : State) (p1 : Int32) (p2 : Int32) (h0 : Heap) (n0 : Nat) (v : Option Value) (h : Heap) (L : List Loc) : Prop := ∃ (z : Int32), v = some (.int z) ∧ Fr n0 L ∧ h = h0 ∧ (p1 < p2 → z = p2) ∧ (¬ p1 < p2 → z = p1)
theorem ef_rmMx (m : MethodId) (x0 : Int32) (x1 : Int32) : entryFrame m #[(.int x0), (.int x1)] 2 = mkF m 0 #[.val (.int x0), .val (.int x1)] [] := by first | (simp [entryFrame, mkF, argsToLocals, Value.category]; done) | rfl
theorem d_jdk_29_m65_0 : decode jdk_29_method_65_code 0 = .ok (.iload_n 0, 1) := by decide +kernel
theorem d_jdk_29_m65_1 : decode jdk_29_method_65_code 1 = .ok (.iload_n 1, 1) := by decide +kernel
theorem d_jdk_29_m65_2 : decode jdk_29_method_65_code 2 = .ok (.if_icmp .lt 7, 3) := by decide +kernel
theorem d_jdk_29_m65_9 : decode jdk_29_method_65_code 9 = .ok (.iload_n 1, 1) := by decide +kernel
theorem d_jdk_29_m65_10 : decode jdk_29_method_65_code 10 = .ok (.ireturn, 1) := by decide +kernel
theorem d_jdk_29_m65_5 : decode jdk_29_method_65_code 5 = .ok (.iload_n 0, 1) := by decide +kernel
theorem d_jdk_29_m65_6 : decode jdk_29_method_65_code 6 = .ok (.goto 4, 3) := by decide +kernel
set_option maxRecDepth 65536 in
set_option maxHeartbeats 40000000 in
theorem rmMx (l : Launch) (Z : State) (a0 : Array Value) (hw : ∀ d ∈ tables_1, d.before a0 Z = true) (ws : List Jvm.Cond) (p1 : Int32) (p2 : Int32) (h0 : Heap) (n0 : Nat) (Z0 : n0 ≤ h0.size) :
    MetFree l (⟨"java/lang/Math", "max", "(II)I"⟩ : MethodName) (head1 (Jvm.Cond.code (⟨"java/lang/Math", "max", "(II)I"⟩ : MethodName) jdk_29_method_65_code 2 (some .int) :: ws) ({ frames := 0, cells := 0, slots := 0, locals := 0 } : Room)) (fun a U => a = #[(.int p1), (.int p2)] ∧ Z.Warmed39 U.vm ∧ U.heap = h0) (fun _ _ _ _ _ => True) (fun _ U o U' => ∃ v L, o = .returned v ∧ Q_rmMx Z p1 p2 h0 n0 v U'.heap L ∧ FrameEnd U o U' L ({ frames := 0, cells := 0, slots := 0, locals := 0 } : Room).cells ({ frames := 0, cells := 0, slots := 0, locals := 0 } : Room).slots) := by
  refine MetFree.of_bodySF (Jvm.Free.JP.mathPlain rfl (by decide +kernel)) hisR ?_
  intro p e s m args below meth c s₁ Bd hml0 hP hK
  obtain ⟨rfl, hZ, hh⟩ := hP
  have hx := Bd.exec
  have hby := Bd.bytes
  have hlk := BodyLoose.notSynchronized Bd
  have hml : c.maxLocals = 2 := hml0
  have hown : s.vm.findClass "java/lang/Math" = some m.cls := findClass_of_methodNamed Bd.named
  have hnm := (name_of_methodNamed Bd.named Bd.method).1
  have X0 : Stand p l e ({ frames := 0, cells := 0, slots := 0, locals := 0 } : Room) s m #[(.int p1), (.int p2)] below meth c s₁ [] 0 0 := Stand.of_body Bd
  have e0 : s₁.heap = h0 := by rw [← hh, Bd.state]; rfl
  have N0 := Fr.nil n0
  have K0 := Keep.refl h0 []
  clear hh
  show Wk p e below s (Q_rmMx Z p1 p2 h0 n0) ({ frames := 0, cells := 0, slots := 0, locals := 0 } : Room).cells ({ frames := 0, cells := 0, slots := 0, locals := 0 } : Room).slots s₁ (entryFrame m #[(.int p1), (.int p2)] 2)
  rw [ef_rmMx]
  refine Wk.iloadN X0 hx (hb hby d_jdk_29_m65_0) (n := 1) rfl rfl ?_
  refine Wk.iloadN X0 hx (hb hby d_jdk_29_m65_1) (n := 2) rfl rfl ?_
  by_cases hc2 : p1 < p2
  ·
    refine Wk.icmpYes X0 hx (hb hby d_jdk_29_m65_2) (tlt hc2).1 (by decide) (n := 9) (by decide) ?_
    refine Wk.iloadN X0 hx (hb hby d_jdk_29_m65_9) (n := 10) rfl rfl ?_
    exact Wk.leave X0 (v := some (.int p2)) (fun h => by rw [Bd.returns] at h; cases h) hlk e0 ⟨p2, rfl, N0, rfl, (fun _ => rfl), (fun q => absurd hc2 q)⟩ (by decide) (by decide) (fun fs hr => retI X0 hx Bd.returns (hb hby d_jdk_29_m65_10) hr)
  ·
    refine Wk.icmpNo X0 hx (hb hby d_jdk_29_m65_2) (n := 5) rfl (flt hc2).1 ?_
    refine Wk.iloadN X0 hx (hb hby d_jdk_29_m65_5) (n := 6) rfl rfl ?_
    refine Wk.goto X0 hx (hb hby d_jdk_29_m65_6) (by decide) (n := 10) (by decide) ?_
    exact Wk.leave X0 (v := some (.int p1)) (fun h => by rw [Bd.returns] at h; cases h) hlk e0 ⟨p1, rfl, N0, rfl, (fun q => absurd q hc2), (fun _ => rfl)⟩ (by decide) (by decide) (fun fs hr => retI X0 hx Bd.returns (hb hby d_jdk_29_m65_10) hr)
def Q_rmCol (Z : State) (a1 : Addr) (h0 : Heap) (n0 : Nat) (v : Option Value) (h : Heap) (L : List Loc) : Prop := v = none ∧ Fr n0 L ∧ h = h0
theorem ef_rmCol (m : MethodId) (x0 : Addr) : entryFrame m #[(.ref x0)] 1 = mkF m 0 #[.val (.ref x0)] [] := by first | (simp [entryFrame, mkF, argsToLocals, Value.category]; done) | rfl
theorem pn_java_util_AbstractCollection : plainName "java/util/AbstractCollection" = true := by first | (simp [plainName, overriddenIn]; done) | decide +kernel
theorem d_jdk_22_m1_0 : decode jdk_22_method_1_code 0 = .ok (.aload_n 0, 1) := by decide +kernel
theorem d_jdk_22_m1_1 : decode jdk_22_method_1_code 1 = .ok (.invokespecial 1, 3) := by decide +kernel
theorem d_jdk_22_m1_4 : decode jdk_22_method_1_code 4 = .ok (.return_, 1) := by decide +kernel
set_option maxRecDepth 65536 in
set_option maxHeartbeats 40000000 in
theorem rmCol (l : Launch) (Z : State) (a0 : Array Value) (hw : ∀ d ∈ tables_1, d.before a0 Z = true) (ws : List Jvm.Cond) (a1 : Addr) (h0 : Heap) (n0 : Nat) (Z0 : n0 ≤ h0.size) :
    MetFree l (⟨"java/util/AbstractCollection", "<init>", "()V"⟩ : MethodName) (head1 (Jvm.Cond.code (⟨"java/util/AbstractCollection", "<init>", "()V"⟩ : MethodName) jdk_22_method_1_code 1 none :: ws) ({ frames := 1, cells := 0, slots := 0, locals := 12 } : Room)) (fun a U => a = #[(.ref a1)] ∧ Z.Warmed39 U.vm ∧ U.heap = h0) (fun _ _ _ _ _ => True) (fun _ U o U' => ∃ v L, o = .returned v ∧ Q_rmCol Z a1 h0 n0 v U'.heap L ∧ FrameEnd U o U' L ({ frames := 1, cells := 0, slots := 0, locals := 12 } : Room).cells ({ frames := 1, cells := 0, slots := 0, locals := 12 } : Room).slots) := by
  refine MetFree.of_bodySF (plainFor_of_name pn_java_util_AbstractCollection) hisR ?_
  intro p e s m args below meth c s₁ Bd hml0 hP hK
  obtain ⟨rfl, hZ, hh⟩ := hP
  have hx := Bd.exec
  have hby := Bd.bytes
  have hlk := BodyLoose.notSynchronized Bd
  have hml : c.maxLocals = 1 := hml0
  have hown : s.vm.findClass "java/util/AbstractCollection" = some m.cls := findClass_of_methodNamed Bd.named
  have hnm := (name_of_methodNamed Bd.named Bd.method).1
  have X0 : Stand p l e ({ frames := 1, cells := 0, slots := 0, locals := 12 } : Room) s m #[(.ref a1)] below meth c s₁ [] 0 0 := Stand.of_body Bd
  have e0 : s₁.heap = h0 := by rw [← hh, Bd.state]; rfl
  have N0 := Fr.nil n0
  have K0 := Keep.refl h0 []
  clear hh
  show Wk p e below s (Q_rmCol Z a1 h0 n0) ({ frames := 1, cells := 0, slots := 0, locals := 12 } : Room).cells ({ frames := 1, cells := 0, slots := 0, locals := 12 } : Room).slots s₁ (entryFrame m #[(.ref a1)] 1)
  rw [ef_rmCol]
  refine Wk.aloadN X0 hx (hb hby d_jdk_22_m1_0) (n := 1) rfl rfl rfl ?_
  refine Wk.initO X0 hx hZ hown (hw _ (List.mem_of_getElem? (i := 22) rfl)) (hw _ (List.mem_of_getElem? (i := 23) rfl)) (hw _ (List.mem_of_getElem? (i := 24) rfl)) e0 (by rw [hml]; rfl) (hb hby d_jdk_22_m1_1) (n := 4) rfl (by decide) (w := 0) (Nat.le_of_eq rfl) (by decide) fun T1 X1 e1 => ?_
  exact Wk.leave X1 (v := none) (fun _ => rfl) hlk e1 ⟨rfl, N0, rfl⟩ (by decide) (by decide) (fun fs hr => X1.returnOut hx Bd.returns (hb hby d_jdk_22_m1_4) hr)
def Q_rmAbs (Z : State) (a1 : Addr) (u1 : Value) (u2 : Value) (u3 : Value) (h0 : Heap) (n0 : Nat) (v : Option Value) (h : Heap) (L : List Loc) : Prop := v = none ∧ Fr n0 L ∧ Keep h0 h [a1] ∧ Exa Z h a1 "java/util/ArrayList" ∧ Fld Z h a1 "java/util/AbstractList" "modCount" "I" (.int (0 : Int32)) ∧ Fld Z h a1 "java/util/ArrayList" "elementData" "[Ljava/lang/Object;" u2 ∧ Fld Z h a1 "java/util/ArrayList" "size" "I" u3
theorem ef_rmAbs (m : MethodId) (x0 : Addr) : entryFrame m #[(.ref x0)] 1 = mkF m 0 #[.val (.ref x0)] [] := by first | (simp [entryFrame, mkF, argsToLocals, Value.category]; done) | rfl
theorem pn_java_util_AbstractList : plainName "java/util/AbstractList" = true := by first | (simp [plainName, overriddenIn]; done) | decide +kernel
theorem d_jdk_39_m1_0 : decode jdk_39_method_1_code 0 = .ok (.aload_n 0, 1) := by decide +kernel
theorem d_jdk_39_m1_1 : decode jdk_39_method_1_code 1 = .ok (.invokespecial 1, 3) := by decide +kernel
theorem pd_0 : parseMethodDescriptor "()V" = some ⟨[], none⟩ := by decide +kernel
theorem d_jdk_39_m1_4 : decode jdk_39_method_1_code 4 = .ok (.aload_n 0, 1) := by decide +kernel
theorem d_jdk_39_m1_5 : decode jdk_39_method_1_code 5 = .ok (.iconst 0, 1) := by decide +kernel
theorem d_jdk_39_m1_6 : decode jdk_39_method_1_code 6 = .ok (.putfield 7, 3) := by decide +kernel
theorem d_jdk_39_m1_9 : decode jdk_39_method_1_code 9 = .ok (.return_, 1) := by decide +kernel
set_option maxRecDepth 65536 in
set_option maxHeartbeats 40000000 in
theorem rmAbs (l : Launch) (Z : State) (a0 : Array Value) (hw : ∀ d ∈ tables_1, d.before a0 Z = true) (ws : List Jvm.Cond) (a1 : Addr) (u1 : Value) (u2 : Value) (u3 : Value) (h0 : Heap) (n0 : Nat) (Z0 : n0 ≤ h0.size) (E1 : Exa Z h0 a1 "java/util/ArrayList") (F1 : Fld Z h0 a1 "java/util/AbstractList" "modCount" "I" u1) (F2 : Fld Z h0 a1 "java/util/ArrayList" "elementData" "[Ljava/lang/Object;" u2) (F3 : Fld Z h0 a1 "java/util/ArrayList" "size" "I" u3) (g1 : n0 ≤ a1) :
    MetFree l (⟨"java/util/AbstractList", "<init>", "()V"⟩ : MethodName) (head1 (Jvm.Cond.code (⟨"java/util/AbstractList", "<init>", "()V"⟩ : MethodName) jdk_39_method_1_code 1 none :: ws) ({ frames := 2, cells := 0, slots := 0, locals := 24 } : Room)) (fun a U => a = #[(.ref a1)] ∧ Z.Warmed39 U.vm ∧ U.heap = h0) (fun _ _ _ _ _ => True) (fun _ U o U' => ∃ v L, o = .returned v ∧ Q_rmAbs Z a1 u1 u2 u3 h0 n0 v U'.heap L ∧ FrameEnd U o U' L ({ frames := 2, cells := 0, slots := 0, locals := 24 } : Room).cells ({ frames := 2, cells := 0, slots := 0, locals := 24 } : Room).slots) := by
  refine MetFree.of_bodySF (plainFor_of_name pn_java_util_AbstractList) hisR ?_
  intro p e s m args below meth c s₁ Bd hml0 hP hK
  obtain ⟨rfl, hZ, hh⟩ := hP
  have hx := Bd.exec
  have hby := Bd.bytes
  have hlk := BodyLoose.notSynchronized Bd
  have hml : c.maxLocals = 1 := hml0
  have hown : s.vm.findClass "java/util/AbstractList" = some m.cls := findClass_of_methodNamed Bd.named
  have hnm := (name_of_methodNamed Bd.named Bd.method).1
  have X0 : Stand p l e ({ frames := 2, cells := 0, slots := 0, locals := 24 } : Room) s m #[(.ref a1)] below meth c s₁ [] 0 0 := Stand.of_body Bd
  have e0 : s₁.heap = h0 := by rw [← hh, Bd.state]; rfl
  have N0 := Fr.nil n0
  have K0 := Keep.refl h0 [a1]
  clear hh
  show Wk p e below s (Q_rmAbs Z a1 u1 u2 u3 h0 n0) ({ frames := 2, cells := 0, slots := 0, locals := 24 } : Room).cells ({ frames := 2, cells := 0, slots := 0, locals := 24 } : Room).slots s₁ (entryFrame m #[(.ref a1)] 1)
  rw [ef_rmAbs]
  have lt_E1 := ny E1.lt
  have lt_F1 := ny F1.lt
  have lt_F2 := ny F2.lt
  have lt_F3 := ny F3.lt
  refine Wk.aloadN X0 hx (hb hby d_jdk_39_m1_0) (n := 1) rfl rfl rfl ?_
  have cl1_ := fun (Ls : Array Slot) (hLs : Ls.size = c.maxLocals) => X0.specialBack hx (y := (⟨"java/util/AbstractCollection", "<init>", "()V"⟩ : MethodName)) rfl hown (mvT hZ (hw _ (List.mem_of_getElem? (i := 16) rfl))) (mvT hZ (hw _ (List.mem_of_getElem? (i := 17) rfl))) (mvT hZ (hw _ (List.mem_of_getElem? (i := 21) rfl))) (by decide) (backOf (W := 0) (rmCol l Z a0 hw [] a1 h0 n0 (by omega)) hZ (hw _ (List.mem_of_getElem? (i := 21) rfl)) (hw _ (List.mem_of_getElem? (i := 20) rfl)) (by decide) (by decide)) (g := mkF m 1 Ls [(.ref a1)]) rfl hLs (Steps.refl _) (a := a1) (argsL := []) (rest := []) (lenOf pd_0 rfl) rfl (by show 2 * 0 + _ ≤ _; exact Nat.le_of_eq rfl) (hb hby d_jdk_39_m1_1) (fun _ _ => ⟨rfl, e0, (by decide : 0 + 0 ≤ _), (by decide : 0 + 0 ≤ _)⟩)
  refine Wk.back (n := 4) (rc := 0) (rs := 0) (Q := Q_rmCol Z a1 h0 n0) (cl1_ _ (by rw [hml]; rfl)) fun vn1 T1 L1 X1 hQ1 => ?_
  clear cl1_
  obtain ⟨rfl, M1, e1⟩ := hQ1
  have N1 := Fr.app N0 M1
  show Wk p e below s _ _ _ T1 (mkF m 4 _ [])
  refine Wk.aloadN X1 hx (hb hby d_jdk_39_m1_4) (n := 5) rfl rfl rfl ?_
  refine Wk.iconst X1 hx (hb hby d_jdk_39_m1_5) (n := 6) rfl (z := (0 : Int32)) rfl ?_
  refine Wk.putF X1 hx hZ hown (host := "") (Or.inl (hw _ (List.mem_of_getElem? (i := 25) rfl))) Via.refl e1 F1 E1 (Or.inl (hw _ (List.mem_of_getElem? (i := 26) rfl))) (hw _ (List.mem_of_getElem? (i := 5) rfl)) (ty := .int) (by decide) rfl rfl (hb hby d_jdk_39_m1_6) (n := 9) rfl fun T2 H2 X2 e2 Wn2 => ?_
  have sz2 := Wn2.size
  have Fn2 := F1.same Wn2
  have K2 := K0.wr Wn2 (Or.inl (List.mem_of_getElem? (i := 0) rfl))
  have N2 := Fr.snoc X2 N1 (by omega)
  have f3 := (E1.wr Wn2)
  have f4 := (F2.other Wn2 (Or.inr (slot_ne (Or.inl (hw _ (List.mem_of_getElem? (i := 29) rfl))) (Or.inl (hw _ (List.mem_of_getElem? (i := 26) rfl))) (by decide) (t := (.array (.object "java/lang/Object"))) (t' := .int) (by decide) (by decide))))
  have f5 := (F3.other Wn2 (Or.inr (slot_ne (Or.inl (hw _ (List.mem_of_getElem? (i := 45) rfl))) (Or.inl (hw _ (List.mem_of_getElem? (i := 26) rfl))) (by decide) (t := .int) (t' := .int) (by decide) (by decide))))
  exact Wk.leave X2 (v := none) (fun _ => rfl) hlk e2 ⟨rfl, N2, K2, f3, Fn2, f4, f5⟩ (by decide) (by decide) (fun fs hr => X2.returnOut hx Bd.returns (hb hby d_jdk_39_m1_9) hr)
def Q_rmIni (Z : State) (a1 : Addr) (u1 : Value) (u2 : Value) (u3 : Value) (wE : Addr) (h0 : Heap) (n0 : Nat) (v : Option Value) (h : Heap) (L : List Loc) : Prop := v = none ∧ Fr n0 L ∧ Keep h0 h [a1] ∧ Exa Z h a1 "java/util/ArrayList" ∧ Fld Z h a1 "java/util/AbstractList" "modCount" "I" (.int (0 : Int32)) ∧ Fld Z h a1 "java/util/ArrayList" "elementData" "[Ljava/lang/Object;" (.ref wE) ∧ Fld Z h a1 "java/util/ArrayList" "size" "I" u3
theorem ef_rmIni (m : MethodId) (x0 : Addr) : entryFrame m #[(.ref x0)] 1 = mkF m 0 #[.val (.ref x0)] [] := by first | (simp [entryFrame, mkF, argsToLocals, Value.category]; done) | rfl
theorem pn_java_util_ArrayList : plainName "java/util/ArrayList" = true := by first | (simp [plainName, overriddenIn]; done) | decide +kernel
theorem d_jdk_38_m2_0 : decode jdk_38_method_2_code 0 = .ok (.aload_n 0, 1) := by decide +kernel
theorem d_jdk_38_m2_1 : decode jdk_38_method_2_code 1 = .ok (.invokespecial 1, 3) := by decide +kernel
theorem d_jdk_38_m2_4 : decode jdk_38_method_2_code 4 = .ok (.aload_n 0, 1) := by decide +kernel
theorem d_jdk_38_m2_5 : decode jdk_38_method_2_code 5 = .ok (.getstatic 39, 3) := by decide +kernel
theorem d_jdk_38_m2_8 : decode jdk_38_method_2_code 8 = .ok (.putfield 9, 3) := by decide +kernel
theorem d_jdk_38_m2_11 : decode jdk_38_method_2_code 11 = .ok (.return_, 1) := by decide +kernel
set_option maxRecDepth 65536 in
set_option maxHeartbeats 40000000 in
theorem rmIni (l : Launch) (Z : State) (a0 : Array Value) (hw : ∀ d ∈ tables_1, d.before a0 Z = true) (ws : List Jvm.Cond) (a1 : Addr) (u1 : Value) (u2 : Value) (u3 : Value) (wE : Addr) (h0 : Heap) (n0 : Nat) (Z0 : n0 ≤ h0.size) (E1 : Exa Z h0 a1 "java/util/ArrayList") (F1 : Fld Z h0 a1 "java/util/AbstractList" "modCount" "I" u1) (F2 : Fld Z h0 a1 "java/util/ArrayList" "elementData" "[Ljava/lang/Object;" u2) (F3 : Fld Z h0 a1 "java/util/ArrayList" "size" "I" u3) (S1 : Sta Z Z.heap "java/util/ArrayList" "DEFAULTCAPACITY_EMPTY_ELEMENTDATA" "[Ljava/lang/Object;" (.ref wE)) (O1 : Old Z n0 h0) (g1 : n0 ≤ a1) :
    MetFree l (⟨"java/util/ArrayList", "<init>", "()V"⟩ : MethodName) (head1 (Jvm.Cond.code (⟨"java/util/ArrayList", "<init>", "()V"⟩ : MethodName) jdk_38_method_2_code 1 none :: ws) ({ frames := 3, cells := 0, slots := 0, locals := 36 } : Room)) (fun a U => a = #[(.ref a1)] ∧ Z.Warmed39 U.vm ∧ U.heap = h0) (fun _ _ _ _ _ => True) (fun _ U o U' => ∃ v L, o = .returned v ∧ Q_rmIni Z a1 u1 u2 u3 wE h0 n0 v U'.heap L ∧ FrameEnd U o U' L ({ frames := 3, cells := 0, slots := 0, locals := 36 } : Room).cells ({ frames := 3, cells := 0, slots := 0, locals := 36 } : Room).slots) := by
  refine MetFree.of_bodySF (plainFor_of_name pn_java_util_ArrayList) hisR ?_
  intro p e s m args below meth c s₁ Bd hml0 hP hK
  obtain ⟨rfl, hZ, hh⟩ := hP
  have hx := Bd.exec
  have hby := Bd.bytes
  have hlk := BodyLoose.notSynchronized Bd
  have hml : c.maxLocals = 1 := hml0
  have hown : s.vm.findClass "java/util/ArrayList" = some m.cls := findClass_of_methodNamed Bd.named
  have hnm := (name_of_methodNamed Bd.named Bd.method).1
  have X0 : Stand p l e ({ frames := 3, cells := 0, slots := 0, locals := 36 } : Room) s m #[(.ref a1)] below meth c s₁ [] 0 0 := Stand.of_body Bd
  have e0 : s₁.heap = h0 := by rw [← hh, Bd.state]; rfl
  have N0 := Fr.nil n0
  have K0 := Keep.refl h0 [a1]
  clear hh
  show Wk p e below s (Q_rmIni Z a1 u1 u2 u3 wE h0 n0) ({ frames := 3, cells := 0, slots := 0, locals := 36 } : Room).cells ({ frames := 3, cells := 0, slots := 0, locals := 36 } : Room).slots s₁ (entryFrame m #[(.ref a1)] 1)
  rw [ef_rmIni]
  have lt_E1 := ny E1.lt
  have lt_F1 := ny F1.lt
  have lt_F2 := ny F2.lt
  have lt_F3 := ny F3.lt
  refine Wk.aloadN X0 hx (hb hby d_jdk_38_m2_0) (n := 1) rfl rfl rfl ?_
  have cl1_ := fun (Ls : Array Slot) (hLs : Ls.size = c.maxLocals) => X0.specialBack hx (y := (⟨"java/util/AbstractList", "<init>", "()V"⟩ : MethodName)) rfl hown (mvT hZ (hw _ (List.mem_of_getElem? (i := 10) rfl))) (mvT hZ (hw _ (List.mem_of_getElem? (i := 11) rfl))) (mvT hZ (hw _ (List.mem_of_getElem? (i := 15) rfl))) (by decide) (backOf (W := 0) (rmAbs l Z a0 hw [] a1 u1 u2 u3 h0 n0 (by omega) E1 F1 F2 F3 (by omega)) hZ (hw _ (List.mem_of_getElem? (i := 15) rfl)) (hw _ (List.mem_of_getElem? (i := 14) rfl)) (by decide) (by decide)) (g := mkF m 1 Ls [(.ref a1)]) rfl hLs (Steps.refl _) (a := a1) (argsL := []) (rest := []) (lenOf pd_0 rfl) rfl (by show 2 * 0 + _ ≤ _; exact Nat.le_of_eq rfl) (hb hby d_jdk_38_m2_1) (fun _ _ => ⟨rfl, e0, (by decide : 0 + 0 ≤ _), (by decide : 0 + 0 ≤ _)⟩)
  refine Wk.back (n := 4) (rc := 0) (rs := 0) (Q := Q_rmAbs Z a1 u1 u2 u3 h0 n0) (cl1_ _ (by rw [hml]; rfl)) fun vn1 T1 L1 X1 hQ1 => ?_
  clear cl1_
  obtain ⟨rfl, M1, J1, p1_0, p1_1, p1_2, p1_3⟩ := hQ1
  have N1 := Fr.app N0 M1
  have sz1 := J1.1
  have K1 := K0.trans J1 (allS (Or.inl (List.mem_of_getElem? (i := 0) rfl)) all0)
  have lt_p1_0 := ny p1_0.lt
  show Wk p e below s _ _ _ T1 (mkF m 4 _ [])
  refine Wk.aloadN X1 hx (hb hby d_jdk_38_m2_4) (n := 5) rfl rfl rfl ?_
  have f2 := (O1.keep J1 (allS (by omega) all0))
  refine Wk.getS X1 hx hZ hown (host := "") (Or.inl (hw _ (List.mem_of_getElem? (i := 27) rfl))) Via.refl rfl (Sta.ext f2.2 S1) (hb hby d_jdk_38_m2_5) (n := 8) rfl fun T3 X3 e3 => ?_
  refine Wk.putF X3 hx hZ hown (host := "") (Or.inl (hw _ (List.mem_of_getElem? (i := 28) rfl))) Via.refl e3 p1_2 p1_0 (Or.inl (hw _ (List.mem_of_getElem? (i := 29) rfl))) (hw _ (List.mem_of_getElem? (i := 5) rfl)) (ty := (.array (.object "java/lang/Object"))) (by decide) rfl rfl (hb hby d_jdk_38_m2_8) (n := 11) rfl fun T4 H4 X4 e4 Wn4 => ?_
  have sz4 := Wn4.size
  have Fn4 := p1_2.same Wn4
  have K4 := K1.wr Wn4 (Or.inl (List.mem_of_getElem? (i := 0) rfl))
  have N4 := Fr.snoc X4 N1 (by omega)
  have f5 := (p1_0.wr Wn4)
  have f6 := (p1_1.other Wn4 (Or.inr (slot_ne (Or.inl (hw _ (List.mem_of_getElem? (i := 26) rfl))) (Or.inl (hw _ (List.mem_of_getElem? (i := 29) rfl))) (by decide) (t := .int) (t' := (.array (.object "java/lang/Object"))) (by decide) (by decide))))
  have f7 := (p1_3.other Wn4 (Or.inr (slot_ne (Or.inl (hw _ (List.mem_of_getElem? (i := 45) rfl))) (Or.inl (hw _ (List.mem_of_getElem? (i := 29) rfl))) (by decide) (t := .int) (t' := (.array (.object "java/lang/Object"))) (by decide) (by decide))))
  exact Wk.leave X4 (v := none) (fun _ => rfl) hlk e4 ⟨rfl, N4, K4, f5, f6, Fn4, f7⟩ (by decide) (by decide) (fun fs hr => X4.returnOut hx Bd.returns (hb hby d_jdk_38_m2_11) hr)
def Q_rmNum (Z : State) (a1 : Addr) (h0 : Heap) (n0 : Nat) (v : Option Value) (h : Heap) (L : List Loc) : Prop := v = none ∧ Fr n0 L ∧ h = h0
theorem ef_rmNum (m : MethodId) (x0 : Addr) : entryFrame m #[(.ref x0)] 1 = mkF m 0 #[.val (.ref x0)] [] := by first | (simp [entryFrame, mkF, argsToLocals, Value.category]; done) | rfl
theorem pn_java_lang_Number : plainName "java/lang/Number" = true := by first | (simp [plainName, overriddenIn]; done) | decide +kernel
theorem d_jdk_18_m1_0 : decode jdk_18_method_1_code 0 = .ok (.aload_n 0, 1) := by decide +kernel
theorem d_jdk_18_m1_1 : decode jdk_18_method_1_code 1 = .ok (.invokespecial 1, 3) := by decide +kernel
theorem d_jdk_18_m1_4 : decode jdk_18_method_1_code 4 = .ok (.return_, 1) := by decide +kernel
set_option maxRecDepth 65536 in
set_option maxHeartbeats 40000000 in
theorem rmNum (l : Launch) (Z : State) (a0 : Array Value) (hw : ∀ d ∈ tables_1, d.before a0 Z = true) (ws : List Jvm.Cond) (a1 : Addr) (h0 : Heap) (n0 : Nat) (Z0 : n0 ≤ h0.size) :
    MetFree l (⟨"java/lang/Number", "<init>", "()V"⟩ : MethodName) (head1 (Jvm.Cond.code (⟨"java/lang/Number", "<init>", "()V"⟩ : MethodName) jdk_18_method_1_code 1 none :: ws) ({ frames := 1, cells := 0, slots := 0, locals := 12 } : Room)) (fun a U => a = #[(.ref a1)] ∧ Z.Warmed39 U.vm ∧ U.heap = h0) (fun _ _ _ _ _ => True) (fun _ U o U' => ∃ v L, o = .returned v ∧ Q_rmNum Z a1 h0 n0 v U'.heap L ∧ FrameEnd U o U' L ({ frames := 1, cells := 0, slots := 0, locals := 12 } : Room).cells ({ frames := 1, cells := 0, slots := 0, locals := 12 } : Room).slots) := by
  refine MetFree.of_bodySF (plainFor_of_name pn_java_lang_Number) hisR ?_
  intro p e s m args below meth c s₁ Bd hml0 hP hK
  obtain ⟨rfl, hZ, hh⟩ := hP
  have hx := Bd.exec
  have hby := Bd.bytes
  have hlk := BodyLoose.notSynchronized Bd
  have hml : c.maxLocals = 1 := hml0
  have hown : s.vm.findClass "java/lang/Number" = some m.cls := findClass_of_methodNamed Bd.named
  have hnm := (name_of_methodNamed Bd.named Bd.method).1
  have X0 : Stand p l e ({ frames := 1, cells := 0, slots := 0, locals := 12 } : Room) s m #[(.ref a1)] below meth c s₁ [] 0 0 := Stand.of_body Bd
  have e0 : s₁.heap = h0 := by rw [← hh, Bd.state]; rfl
  have N0 := Fr.nil n0
  have K0 := Keep.refl h0 []
  clear hh
  show Wk p e below s (Q_rmNum Z a1 h0 n0) ({ frames := 1, cells := 0, slots := 0, locals := 12 } : Room).cells ({ frames := 1, cells := 0, slots := 0, locals := 12 } : Room).slots s₁ (entryFrame m #[(.ref a1)] 1)
  rw [ef_rmNum]
  refine Wk.aloadN X0 hx (hb hby d_jdk_18_m1_0) (n := 1) rfl rfl rfl ?_
  refine Wk.initO X0 hx hZ hown (hw _ (List.mem_of_getElem? (i := 152) rfl)) (hw _ (List.mem_of_getElem? (i := 23) rfl)) (hw _ (List.mem_of_getElem? (i := 24) rfl)) e0 (by rw [hml]; rfl) (hb hby d_jdk_18_m1_1) (n := 4) rfl (by decide) (w := 0) (Nat.le_of_eq rfl) (by decide) fun T1 X1 e1 => ?_
  exact Wk.leave X1 (v := none) (fun _ => rfl) hlk e1 ⟨rfl, N0, rfl⟩ (by decide) (by decide) (fun fs hr => X1.returnOut hx Bd.returns (hb hby d_jdk_18_m1_4) hr)
def Q_rmIIn (Z : State) (a1 : Addr) (p1 : Int32) (u1 : Value) (h0 : Heap) (n0 : Nat) (v : Option Value) (h : Heap) (L : List Loc) : Prop := v = none ∧ Fr n0 L ∧ Keep h0 h [a1] ∧ Exa Z h a1 "java/lang/Integer" ∧ Fld Z h a1 "java/lang/Integer" "value" "I" (.int p1)
theorem ef_rmIIn (m : MethodId) (x0 : Addr) (x1 : Int32) : entryFrame m #[(.ref x0), (.int x1)] 2 = mkF m 0 #[.val (.ref x0), .val (.int x1)] [] := by first | (simp [entryFrame, mkF, argsToLocals, Value.category]; done) | rfl
theorem pn_java_lang_Integer : plainName "java/lang/Integer" = true := by first | (simp [plainName, overriddenIn]; done) | decide +kernel
theorem d_jdk_33_m23_0 : decode jdk_33_method_23_code 0 = .ok (.aload_n 0, 1) := by decide +kernel
theorem d_jdk_33_m23_1 : decode jdk_33_method_23_code 1 = .ok (.invokespecial 202, 3) := by decide +kernel
theorem d_jdk_33_m23_4 : decode jdk_33_method_23_code 4 = .ok (.aload_n 0, 1) := by decide +kernel
theorem d_jdk_33_m23_5 : decode jdk_33_method_23_code 5 = .ok (.iload_n 1, 1) := by decide +kernel
theorem d_jdk_33_m23_6 : decode jdk_33_method_23_code 6 = .ok (.putfield 205, 3) := by decide +kernel
theorem d_jdk_33_m23_9 : decode jdk_33_method_23_code 9 = .ok (.return_, 1) := by decide +kernel
set_option maxRecDepth 65536 in
set_option maxHeartbeats 40000000 in
theorem rmIIn (l : Launch) (Z : State) (a0 : Array Value) (hw : ∀ d ∈ tables_1, d.before a0 Z = true) (ws : List Jvm.Cond) (a1 : Addr) (p1 : Int32) (u1 : Value) (h0 : Heap) (n0 : Nat) (Z0 : n0 ≤ h0.size) (E1 : Exa Z h0 a1 "java/lang/Integer") (F1 : Fld Z h0 a1 "java/lang/Integer" "value" "I" u1) (g1 : n0 ≤ a1) :
    MetFree l (⟨"java/lang/Integer", "<init>", "(I)V"⟩ : MethodName) (head1 (Jvm.Cond.code (⟨"java/lang/Integer", "<init>", "(I)V"⟩ : MethodName) jdk_33_method_23_code 2 none :: ws) ({ frames := 2, cells := 0, slots := 0, locals := 24 } : Room)) (fun a U => a = #[(.ref a1), (.int p1)] ∧ Z.Warmed39 U.vm ∧ U.heap = h0) (fun _ _ _ _ _ => True) (fun _ U o U' => ∃ v L, o = .returned v ∧ Q_rmIIn Z a1 p1 u1 h0 n0 v U'.heap L ∧ FrameEnd U o U' L ({ frames := 2, cells := 0, slots := 0, locals := 24 } : Room).cells ({ frames := 2, cells := 0, slots := 0, locals := 24 } : Room).slots) := by
  refine MetFree.of_bodySF (plainFor_of_name pn_java_lang_Integer) hisR ?_
  intro p e s m args below meth c s₁ Bd hml0 hP hK
  obtain ⟨rfl, hZ, hh⟩ := hP
  have hx := Bd.exec
  have hby := Bd.bytes
  have hlk := BodyLoose.notSynchronized Bd
  have hml : c.maxLocals = 2 := hml0
  have hown : s.vm.findClass "java/lang/Integer" = some m.cls := findClass_of_methodNamed Bd.named
  have hnm := (name_of_methodNamed Bd.named Bd.method).1
  have X0 : Stand p l e ({ frames := 2, cells := 0, slots := 0, locals := 24 } : Room) s m #[(.ref a1), (.int p1)] below meth c s₁ [] 0 0 := Stand.of_body Bd
  have e0 : s₁.heap = h0 := by rw [← hh, Bd.state]; rfl
  have N0 := Fr.nil n0
  have K0 := Keep.refl h0 [a1]
  clear hh
  show Wk p e below s (Q_rmIIn Z a1 p1 u1 h0 n0) ({ frames := 2, cells := 0, slots := 0, locals := 24 } : Room).cells ({ frames := 2, cells := 0, slots := 0, locals := 24 } : Room).slots s₁ (entryFrame m #[(.ref a1), (.int p1)] 2)
  rw [ef_rmIIn]
  have lt_E1 := ny E1.lt
  have lt_F1 := ny F1.lt
  refine Wk.aloadN X0 hx (hb hby d_jdk_33_m23_0) (n := 1) rfl rfl rfl ?_
  have cl1_ := fun (Ls : Array Slot) (hLs : Ls.size = c.maxLocals) => X0.specialBack hx (y := (⟨"java/lang/Number", "<init>", "()V"⟩ : MethodName)) rfl hown (mvT hZ (hw _ (List.mem_of_getElem? (i := 146) rfl))) (mvT hZ (hw _ (List.mem_of_getElem? (i := 147) rfl))) (mvT hZ (hw _ (List.mem_of_getElem? (i := 151) rfl))) (by decide) (backOf (W := 0) (rmNum l Z a0 hw [] a1 h0 n0 (by omega)) hZ (hw _ (List.mem_of_getElem? (i := 151) rfl)) (hw _ (List.mem_of_getElem? (i := 150) rfl)) (by decide) (by decide)) (g := mkF m 1 Ls [(.ref a1)]) rfl hLs (Steps.refl _) (a := a1) (argsL := []) (rest := []) (lenOf pd_0 rfl) rfl (by show 2 * 0 + _ ≤ _; exact Nat.le_of_eq rfl) (hb hby d_jdk_33_m23_1) (fun _ _ => ⟨rfl, e0, (by decide : 0 + 0 ≤ _), (by decide : 0 + 0 ≤ _)⟩)
  refine Wk.back (n := 4) (rc := 0) (rs := 0) (Q := Q_rmNum Z a1 h0 n0) (cl1_ _ (by rw [hml]; rfl)) fun vn1 T1 L1 X1 hQ1 => ?_
  clear cl1_
  obtain ⟨rfl, M1, e1⟩ := hQ1
  have N1 := Fr.app N0 M1
  show Wk p e below s _ _ _ T1 (mkF m 4 _ [])
  refine Wk.aloadN X1 hx (hb hby d_jdk_33_m23_4) (n := 5) rfl rfl rfl ?_
  refine Wk.iloadN X1 hx (hb hby d_jdk_33_m23_5) (n := 6) rfl rfl ?_
  refine Wk.putF X1 hx hZ hown (host := "") (Or.inl (hw _ (List.mem_of_getElem? (i := 139) rfl))) Via.refl e1 F1 E1 (Or.inr ⟨(hw _ (List.mem_of_getElem? (i := 140) rfl)), rfl, hnm⟩) (hw _ (List.mem_of_getElem? (i := 142) rfl)) (ty := .int) (by decide) rfl rfl (hb hby d_jdk_33_m23_6) (n := 9) rfl fun T2 H2 X2 e2 Wn2 => ?_
  have sz2 := Wn2.size
  have Fn2 := F1.same Wn2
  have K2 := K0.wr Wn2 (Or.inl (List.mem_of_getElem? (i := 0) rfl))
  have N2 := Fr.snoc X2 N1 (by omega)
  have f3 := (E1.wr Wn2)
  exact Wk.leave X2 (v := none) (fun _ => rfl) hlk e2 ⟨rfl, N2, K2, f3, Fn2⟩ (by decide) (by decide) (fun fs hr => X2.returnOut hx Bd.returns (hb hby d_jdk_33_m23_9) hr)
def Q_rmVO (Z : State) (p1 : Int32) (wC : Addr) (cC : Cell) (h0 : Heap) (n0 : Nat) (v : Option Value) (h : Heap) (L : List Loc) : Prop := ∃ (r : Addr), v = some (.ref r) ∧ Fr n0 L ∧ Keep h0 h [] ∧ Exa Z h r "java/lang/Integer" ∧ Fld Z h r "java/lang/Integer" "value" "I" (.int p1)
theorem ef_rmVO (m : MethodId) (x0 : Int32) : entryFrame m #[(.int x0)] 1 = mkF m 0 #[.val (.int x0)] [] := by first | (simp [entryFrame, mkF, argsToLocals, Value.category]; done) | rfl
theorem d_jdk_33_m22_0 : decode jdk_33_method_22_code 0 = .ok (.iload_n 0, 1) := by decide +kernel
theorem d_jdk_33_m22_1 : decode jdk_33_method_22_code 1 = .ok (.bipush (-128), 2) := by decide +kernel
theorem d_jdk_33_m22_3 : decode jdk_33_method_22_code 3 = .ok (.if_icmp .lt 20, 3) := by decide +kernel
theorem d_jdk_33_m22_23 : decode jdk_33_method_22_code 23 = .ok (.new 1, 3) := by decide +kernel
theorem d_jdk_33_m22_26 : decode jdk_33_method_22_code 26 = .ok (.dup, 1) := by decide +kernel
theorem d_jdk_33_m22_27 : decode jdk_33_method_22_code 27 = .ok (.iload_n 0, 1) := by decide +kernel
theorem d_jdk_33_m22_28 : decode jdk_33_method_22_code 28 = .ok (.invokespecial 199, 3) := by decide +kernel
theorem pd_1 : parseMethodDescriptor "(I)V" = some ⟨[.int], none⟩ := by decide +kernel
theorem d_jdk_33_m22_31 : decode jdk_33_method_22_code 31 = .ok (.areturn, 1) := by decide +kernel
theorem d_jdk_33_m22_6 : decode jdk_33_method_22_code 6 = .ok (.iload_n 0, 1) := by decide +kernel
theorem d_jdk_33_m22_7 : decode jdk_33_method_22_code 7 = .ok (.getstatic 191, 3) := by decide +kernel
theorem d_jdk_33_m22_10 : decode jdk_33_method_22_code 10 = .ok (.if_icmp .gt 13, 3) := by decide +kernel
theorem d_jdk_33_m22_13 : decode jdk_33_method_22_code 13 = .ok (.getstatic 195, 3) := by decide +kernel
theorem d_jdk_33_m22_16 : decode jdk_33_method_22_code 16 = .ok (.iload_n 0, 1) := by decide +kernel
theorem d_jdk_33_m22_17 : decode jdk_33_method_22_code 17 = .ok (.sipush 128, 3) := by decide +kernel
theorem d_jdk_33_m22_20 : decode jdk_33_method_22_code 20 = .ok (.iadd, 1) := by decide +kernel
theorem d_jdk_33_m22_21 : decode jdk_33_method_22_code 21 = .ok (.aaload, 1) := by decide +kernel
theorem d_jdk_33_m22_22 : decode jdk_33_method_22_code 22 = .ok (.areturn, 1) := by decide +kernel
set_option maxRecDepth 65536 in
set_option maxHeartbeats 40000000 in
theorem rmVO (l : Launch) (Z : State) (a0 : Array Value) (hw : ∀ d ∈ tables_1, d.before a0 Z = true) (ws : List Jvm.Cond) (p1 : Int32) (wC : Addr) (cC : Cell) (h0 : Heap) (n0 : Nat) (Z0 : n0 ≤ h0.size) (S2 : Sta Z Z.heap "java/lang/Integer$IntegerCache" "high" "I" (.int (127 : Int32))) (S3 : Sta Z Z.heap "java/lang/Integer$IntegerCache" "cache" "[Ljava/lang/Integer;" (.ref wC)) (O1 : Old Z n0 h0) (ArC : Arr Z Z.heap wC cC (.object "java/lang/Integer")) (hC : ∀ j : Int32, ¬ j < (-128 : Int32) → ¬ (127 : Int32) < j → ¬ (j + (128 : Int32) < 0 ∨ cC.slots.size ≤ (j + (128 : Int32)).toNatClampNeg) ∧ ∃ r : Addr, cC.slots[(j + (128 : Int32)).toNatClampNeg]? = some (.ref r) ∧ Exa Z Z.heap r "java/lang/Integer" ∧ Fld Z Z.heap r "java/lang/Integer" "value" "I" (.int j)) :
    MetFree l (⟨"java/lang/Integer", "valueOf", "(I)Ljava/lang/Integer;"⟩ : MethodName) (head1 (Jvm.Cond.code (⟨"java/lang/Integer", "valueOf", "(I)Ljava/lang/Integer;"⟩ : MethodName) jdk_33_method_22_code 1 (some (.object "java/lang/Integer")) :: ws) ({ frames := 3, cells := 1, slots := 1, locals := 38 } : Room)) (fun a U => a = #[(.int p1)] ∧ Z.Warmed39 U.vm ∧ U.heap = h0) (fun _ _ _ _ _ => True) (fun _ U o U' => ∃ v L, o = .returned v ∧ Q_rmVO Z p1 wC cC h0 n0 v U'.heap L ∧ FrameEnd U o U' L ({ frames := 3, cells := 1, slots := 1, locals := 38 } : Room).cells ({ frames := 3, cells := 1, slots := 1, locals := 38 } : Room).slots) := by
  refine MetFree.of_bodySF (plainFor_of_name pn_java_lang_Integer) hisR ?_
  intro p e s m args below meth c s₁ Bd hml0 hP hK
  obtain ⟨rfl, hZ, hh⟩ := hP
  have hx := Bd.exec
  have hby := Bd.bytes
  have hlk := BodyLoose.notSynchronized Bd
  have hml : c.maxLocals = 1 := hml0
  have hown : s.vm.findClass "java/lang/Integer" = some m.cls := findClass_of_methodNamed Bd.named
  have hnm := (name_of_methodNamed Bd.named Bd.method).1
  have X0 : Stand p l e ({ frames := 3, cells := 1, slots := 1, locals := 38 } : Room) s m #[(.int p1)] below meth c s₁ [] 0 0 := Stand.of_body Bd
  have e0 : s₁.heap = h0 := by rw [← hh, Bd.state]; rfl
  have N0 := Fr.nil n0
  have K0 := Keep.refl h0 []
  clear hh
  show Wk p e below s (Q_rmVO Z p1 wC cC h0 n0) ({ frames := 3, cells := 1, slots := 1, locals := 38 } : Room).cells ({ frames := 3, cells := 1, slots := 1, locals := 38 } : Room).slots s₁ (entryFrame m #[(.int p1)] 1)
  rw [ef_rmVO]
  refine Wk.iloadN X0 hx (hb hby d_jdk_33_m22_0) (n := 1) rfl rfl ?_
  refine Wk.bipush X0 hx (hb hby d_jdk_33_m22_1) (n := 3) rfl (z := (-128 : Int32)) rfl ?_
  by_cases hc3 : p1 < (-128 : Int32)
  ·
    refine Wk.icmpYes X0 hx (hb hby d_jdk_33_m22_3) (tlt hc3).1 (by decide) (n := 23) (by decide) ?_
    refine Wk.newO X0 hx hZ hown (hw _ (List.mem_of_getElem? (i := 141) rfl)) (hw _ (List.mem_of_getElem? (i := 142) rfl)) (hw _ (List.mem_of_getElem? (i := 32) rfl)) e0 (hb hby d_jdk_33_m22_23) (n := 26) rfl (by decide) (by decide) fun T1 H1 b1 gn1 X1 e1 Ex1 An1 Dn1 Yn1 => ?_
    have gn1 := nx gn1
    have sz1 := Ex1.1
    have lt1 := ny An1.lt
    have K1 := K0.ext Ex1
    have Fn1_value : Fld Z H1 b1 "java/lang/Integer" "value" "I" (.int (0 : Int32)) := Dn1 (Or.inr (hw _ (List.mem_of_getElem? (i := 140) rfl))) (ty := .int) (by decide)
    refine Wk.dup X1 hx (hb hby d_jdk_33_m22_26) (n := 27) rfl rfl ?_
    refine Wk.iloadN X1 hx (hb hby d_jdk_33_m22_27) (n := 28) rfl rfl ?_
    have cl2_ := fun (Ls : Array Slot) (hLs : Ls.size = c.maxLocals) => X1.specialBack hx (y := (⟨"java/lang/Integer", "<init>", "(I)V"⟩ : MethodName)) rfl hown (mvT hZ (hw _ (List.mem_of_getElem? (i := 143) rfl))) (mvT hZ (hw _ (List.mem_of_getElem? (i := 144) rfl))) (mvT hZ (hw _ (List.mem_of_getElem? (i := 145) rfl))) (by decide) (backOf (W := 1) (rmIIn l Z a0 hw [] b1 p1 (.int (0 : Int32)) H1 n0 (by omega) An1 Fn1_value (by omega)) hZ (hw _ (List.mem_of_getElem? (i := 145) rfl)) (hw _ (List.mem_of_getElem? (i := 32) rfl)) (by decide) (by decide)) (g := mkF m 28 Ls [(.int p1), (.ref b1), (.ref b1)]) rfl hLs (Steps.refl _) (a := b1) (argsL := [(.int p1)]) (rest := [(.ref b1)]) (lenOf pd_1 rfl) rfl (by show 2 * 0 + _ ≤ _; exact Nat.le_of_eq rfl) (hb hby d_jdk_33_m22_28) (fun _ _ => ⟨rfl, e1, (by decide : 0 + 1 + 0 ≤ _), (by decide : 0 + 1 + 0 ≤ _)⟩)
    refine Wk.back (n := 31) (rc := 0) (rs := 0) (Q := Q_rmIIn Z b1 p1 (.int (0 : Int32)) H1 n0) (cl2_ _ (by rw [hml]; rfl)) fun vn2 T2 L2 X2 hQ2 => ?_
    clear cl2_
    obtain ⟨rfl, M2, J2, p2_0, p2_1⟩ := hQ2
    have N2 := Fr.app N0 M2
    have sz2 := J2.1
    have K2 := K1.trans J2 (allS (Or.inr (by omega)) all0)
    have lt_p2_0 := ny p2_0.lt
    show Wk p e below s _ _ _ T2 (mkF m 31 _ [(.ref b1)])
    exact Wk.leave X2 (v := some (.ref b1)) (fun h => by rw [Bd.returns] at h; cases h) hlk rfl ⟨b1, rfl, N2, K2, p2_0, p2_1⟩ (by decide) (by decide) (fun fs hr => retA X2 hx rfl Bd.returns rfl (hb hby d_jdk_33_m22_31) hr)
  ·
    refine Wk.icmpNo X0 hx (hb hby d_jdk_33_m22_3) (n := 6) rfl (flt hc3).1 ?_
    refine Wk.iloadN X0 hx (hb hby d_jdk_33_m22_6) (n := 7) rfl rfl ?_
    refine Wk.getS X0 hx hZ hown (host := "") (Or.inl (hw _ (List.mem_of_getElem? (i := 34) rfl))) Via.refl e0 (Sta.ext O1.2 S2) (hb hby d_jdk_33_m22_7) (n := 10) rfl fun T3 X3 e3 => ?_
    by_cases hc10 : (127 : Int32) < p1
    ·
      refine Wk.icmpYes X3 hx (hb hby d_jdk_33_m22_10) (tlt hc10).2.2.1 (by decide) (n := 23) (by decide) ?_
      refine Wk.newO X3 hx hZ hown (hw _ (List.mem_of_getElem? (i := 141) rfl)) (hw _ (List.mem_of_getElem? (i := 142) rfl)) (hw _ (List.mem_of_getElem? (i := 32) rfl)) e3 (hb hby d_jdk_33_m22_23) (n := 26) rfl (by decide) (by decide) fun T4 H4 b4 gn4 X4 e4 Ex4 An4 Dn4 Yn4 => ?_
      have gn4 := nx gn4
      have sz4 := Ex4.1
      have lt4 := ny An4.lt
      have K4 := K0.ext Ex4
      have Fn4_value : Fld Z H4 b4 "java/lang/Integer" "value" "I" (.int (0 : Int32)) := Dn4 (Or.inr (hw _ (List.mem_of_getElem? (i := 140) rfl))) (ty := .int) (by decide)
      refine Wk.dup X4 hx (hb hby d_jdk_33_m22_26) (n := 27) rfl rfl ?_
      refine Wk.iloadN X4 hx (hb hby d_jdk_33_m22_27) (n := 28) rfl rfl ?_
      have cl5_ := fun (Ls : Array Slot) (hLs : Ls.size = c.maxLocals) => X4.specialBack hx (y := (⟨"java/lang/Integer", "<init>", "(I)V"⟩ : MethodName)) rfl hown (mvT hZ (hw _ (List.mem_of_getElem? (i := 143) rfl))) (mvT hZ (hw _ (List.mem_of_getElem? (i := 144) rfl))) (mvT hZ (hw _ (List.mem_of_getElem? (i := 145) rfl))) (by decide) (backOf (W := 1) (rmIIn l Z a0 hw [] b4 p1 (.int (0 : Int32)) H4 n0 (by omega) An4 Fn4_value (by omega)) hZ (hw _ (List.mem_of_getElem? (i := 145) rfl)) (hw _ (List.mem_of_getElem? (i := 32) rfl)) (by decide) (by decide)) (g := mkF m 28 Ls [(.int p1), (.ref b4), (.ref b4)]) rfl hLs (Steps.refl _) (a := b4) (argsL := [(.int p1)]) (rest := [(.ref b4)]) (lenOf pd_1 rfl) rfl (by show 2 * 0 + _ ≤ _; exact Nat.le_of_eq rfl) (hb hby d_jdk_33_m22_28) (fun _ _ => ⟨rfl, e4, (by decide : 0 + 1 + 0 ≤ _), (by decide : 0 + 1 + 0 ≤ _)⟩)
      refine Wk.back (n := 31) (rc := 0) (rs := 0) (Q := Q_rmIIn Z b4 p1 (.int (0 : Int32)) H4 n0) (cl5_ _ (by rw [hml]; rfl)) fun vn5 T5 L5 X5 hQ5 => ?_
      clear cl5_
      obtain ⟨rfl, M5, J5, p5_0, p5_1⟩ := hQ5
      have N5 := Fr.app N0 M5
      have sz5 := J5.1
      have K5 := K4.trans J5 (allS (Or.inr (by omega)) all0)
      have lt_p5_0 := ny p5_0.lt
      show Wk p e below s _ _ _ T5 (mkF m 31 _ [(.ref b4)])
      exact Wk.leave X5 (v := some (.ref b4)) (fun h => by rw [Bd.returns] at h; cases h) hlk rfl ⟨b4, rfl, N5, K5, p5_0, p5_1⟩ (by decide) (by decide) (fun fs hr => retA X5 hx rfl Bd.returns rfl (hb hby d_jdk_33_m22_31) hr)
    ·
      refine Wk.icmpNo X3 hx (hb hby d_jdk_33_m22_10) (n := 13) rfl (flt hc10).2.2.1 ?_
      refine Wk.getS X3 hx hZ hown (host := "") (Or.inl (hw _ (List.mem_of_getElem? (i := 36) rfl))) Via.refl e3 (Sta.ext O1.2 S3) (hb hby d_jdk_33_m22_13) (n := 16) rfl fun T6 X6 e6 => ?_
      refine Wk.iloadN X6 hx (hb hby d_jdk_33_m22_16) (n := 17) rfl rfl ?_
      refine Wk.sipush X6 hx (hb hby d_jdk_33_m22_17) (n := 20) rfl (z := (128 : Int32)) rfl ?_
      refine Wk.iadd X6 hx (hb hby d_jdk_33_m22_20) (n := 21) rfl ?_
      obtain ⟨hci, rC, hat, ECr, FCr⟩ := hC p1 hc3 hc10
      have ArD := ArC.ext O1.2
      refine Wk.aaload X6 hx hZ e6 ArD (v := (.ref rC)) rfl hci hat (hb hby d_jdk_33_m22_21) (n := 22) rfl ?_
      have f8 := ECr.ext O1.2
      have f9 := FCr.ext O1.2
      exact Wk.leave X6 (v := some (.ref rC)) (fun h => by rw [Bd.returns] at h; cases h) hlk e6 ⟨rC, rfl, N0, K0, f8, f9⟩ (by decide) (by decide) (fun fs hr => retA X6 hx rfl Bd.returns rfl (hb hby d_jdk_33_m22_22) hr)
def Q_rmGrI (Z : State) (a1 : Addr) (u1 : Value) (wE : Addr) (kE : ClassId) (h0 : Heap) (n0 : Nat) (v : Option Value) (h : Heap) (L : List Loc) : Prop := ∃ (t : Addr) (kt : ClassId), v = some (.ref t) ∧ Fr n0 L ∧ Keep h0 h [a1] ∧ Exa Z h a1 "java/util/ArrayList" ∧ Fld Z h a1 "java/util/AbstractList" "modCount" "I" u1 ∧ Fld Z h a1 "java/util/ArrayList" "elementData" "[Ljava/lang/Object;" (.ref t) ∧ Fld Z h a1 "java/util/ArrayList" "size" "I" (.int (0 : Int32)) ∧ Arv Z h t kt (.object "java/lang/Object") (10 : Int32) [.null, .null, .null, .null, .null, .null, .null, .null, .null, .null] .null ∧ (Ovr Z kt "java/lang/Object") ∧ (h0.size ≤ t)
theorem ef_rmGrI (m : MethodId) (x0 : Addr) : entryFrame m #[(.ref x0), (.int (1 : Int32))] 4 = mkF m 0 #[.val (.ref x0), .val (.int (1 : Int32)), .unset, .unset] [] := by first | (simp [entryFrame, mkF, argsToLocals, Value.category]; done) | rfl
theorem d_jdk_38_m6_0 : decode jdk_38_method_6_code 0 = .ok (.aload_n 0, 1) := by decide +kernel
theorem d_jdk_38_m6_1 : decode jdk_38_method_6_code 1 = .ok (.getfield 9, 3) := by decide +kernel
theorem d_jdk_38_m6_4 : decode jdk_38_method_6_code 4 = .ok (.arraylength, 1) := by decide +kernel
theorem d_jdk_38_m6_5 : decode jdk_38_method_6_code 5 = .ok (.istore_n 2, 1) := by decide +kernel
theorem d_jdk_38_m6_6 : decode jdk_38_method_6_code 6 = .ok (.iload_n 2, 1) := by decide +kernel
theorem d_jdk_38_m6_7 : decode jdk_38_method_6_code 7 = .ok (.ifCond .gt 13, 3) := by decide +kernel
theorem d_jdk_38_m6_10 : decode jdk_38_method_6_code 10 = .ok (.aload_n 0, 1) := by decide +kernel
theorem d_jdk_38_m6_11 : decode jdk_38_method_6_code 11 = .ok (.getfield 9, 3) := by decide +kernel
theorem d_jdk_38_m6_14 : decode jdk_38_method_6_code 14 = .ok (.getstatic 39, 3) := by decide +kernel
theorem d_jdk_38_m6_17 : decode jdk_38_method_6_code 17 = .ok (.if_acmp .eq 28, 3) := by decide +kernel
theorem d_jdk_38_m6_45 : decode jdk_38_method_6_code 45 = .ok (.aload_n 0, 1) := by decide +kernel
theorem d_jdk_38_m6_46 : decode jdk_38_method_6_code 46 = .ok (.bipush 10, 2) := by decide +kernel
theorem d_jdk_38_m6_48 : decode jdk_38_method_6_code 48 = .ok (.iload_n 1, 1) := by decide +kernel
theorem d_jdk_38_m6_49 : decode jdk_38_method_6_code 49 = .ok (.invokestatic 79, 3) := by decide +kernel
theorem pd_2 : parseMethodDescriptor "(II)I" = some ⟨[.int, .int], some .int⟩ := by decide +kernel
theorem d_jdk_38_m6_52 : decode jdk_38_method_6_code 52 = .ok (.anewarray 7, 3) := by decide +kernel
theorem d_jdk_38_m6_55 : decode jdk_38_method_6_code 55 = .ok (.dup_x1, 1) := by decide +kernel
theorem d_jdk_38_m6_56 : decode jdk_38_method_6_code 56 = .ok (.putfield 9, 3) := by decide +kernel
theorem d_jdk_38_m6_59 : decode jdk_38_method_6_code 59 = .ok (.areturn, 1) := by decide +kernel
set_option maxRecDepth 65536 in
set_option maxHeartbeats 40000000 in
theorem rmGrI (l : Launch) (Z : State) (a0 : Array Value) (hw : ∀ d ∈ tables_1, d.before a0 Z = true) (ws : List Jvm.Cond) (a1 : Addr) (u1 : Value) (wE : Addr) (kE : ClassId) (h0 : Heap) (n0 : Nat) (Z0 : n0 ≤ h0.size) (E1 : Exa Z h0 a1 "java/util/ArrayList") (F1 : Fld Z h0 a1 "java/util/AbstractList" "modCount" "I" u1) (F2 : Fld Z h0 a1 "java/util/ArrayList" "elementData" "[Ljava/lang/Object;" (.ref wE)) (F3 : Fld Z h0 a1 "java/util/ArrayList" "size" "I" (.int (0 : Int32))) (A0 : Arv Z Z.heap wE kE (.object "java/lang/Object") (0 : Int32) [] .null) (S1 : Sta Z Z.heap "java/util/ArrayList" "DEFAULTCAPACITY_EMPTY_ELEMENTDATA" "[Ljava/lang/Object;" (.ref wE)) (O1 : Old Z n0 h0) (g1 : n0 ≤ a1) :
    MetFree l (⟨"java/util/ArrayList", "grow", "(I)[Ljava/lang/Object;"⟩ : MethodName) (head1 (Jvm.Cond.code (⟨"java/util/ArrayList", "grow", "(I)[Ljava/lang/Object;"⟩ : MethodName) jdk_38_method_6_code 4 (some (.array (.object "java/lang/Object"))) :: ws) ({ frames := 1, cells := 1, slots := 10, locals := 14 } : Room)) (fun a U => a = #[(.ref a1), (.int (1 : Int32))] ∧ Z.Warmed39 U.vm ∧ U.heap = h0) (fun _ _ _ _ _ => True) (fun _ U o U' => ∃ v L, o = .returned v ∧ Q_rmGrI Z a1 u1 wE kE h0 n0 v U'.heap L ∧ FrameEnd U o U' L ({ frames := 1, cells := 1, slots := 10, locals := 14 } : Room).cells ({ frames := 1, cells := 1, slots := 10, locals := 14 } : Room).slots) := by
  refine MetFree.of_bodySF (plainFor_of_name pn_java_util_ArrayList) hisR ?_
  intro p e s m args below meth c s₁ Bd hml0 hP hK
  obtain ⟨rfl, hZ, hh⟩ := hP
  have hx := Bd.exec
  have hby := Bd.bytes
  have hlk := BodyLoose.notSynchronized Bd
  have hml : c.maxLocals = 4 := hml0
  have hown : s.vm.findClass "java/util/ArrayList" = some m.cls := findClass_of_methodNamed Bd.named
  have hnm := (name_of_methodNamed Bd.named Bd.method).1
  have X0 : Stand p l e ({ frames := 1, cells := 1, slots := 10, locals := 14 } : Room) s m #[(.ref a1), (.int (1 : Int32))] below meth c s₁ [] 0 0 := Stand.of_body Bd
  have e0 : s₁.heap = h0 := by rw [← hh, Bd.state]; rfl
  have N0 := Fr.nil n0
  have K0 := Keep.refl h0 [a1]
  clear hh
  show Wk p e below s (Q_rmGrI Z a1 u1 wE kE h0 n0) ({ frames := 1, cells := 1, slots := 10, locals := 14 } : Room).cells ({ frames := 1, cells := 1, slots := 10, locals := 14 } : Room).slots s₁ (entryFrame m #[(.ref a1), (.int (1 : Int32))] 4)
  rw [ef_rmGrI]
  have lt_E1 := ny E1.lt
  have lt_F1 := ny F1.lt
  have lt_F2 := ny F2.lt
  have lt_F3 := ny F3.lt
  refine Wk.aloadN X0 hx (hb hby d_jdk_38_m6_0) (n := 1) rfl rfl rfl ?_
  refine Wk.getF X0 hx hZ hown (host := "") (Or.inl (hw _ (List.mem_of_getElem? (i := 28) rfl))) Via.refl e0 F2 (hb hby d_jdk_38_m6_1) (n := 4) rfl fun T1 X1 e1 => ?_
  have f2 := A0.ext O1.2
  obtain ⟨cl3, Ar3, qn3, Sz3, N_3, H_3, Gn3⟩ := id f2
  refine Wk.arrlen X1 hx hZ e1 Ar3 Sz3 N_3 (hb hby d_jdk_38_m6_4) (n := 5) rfl ?_
  refine Wk.istoreN X1 hx (hb hby d_jdk_38_m6_5) (n := 6) rfl (L' := #[.val (.ref a1), .val (.int (1 : Int32)), .val (.int (0 : Int32)), .unset]) rfl ?_
  refine Wk.iloadN X1 hx (hb hby d_jdk_38_m6_6) (n := 7) rfl rfl ?_
  have hc7_4 : ¬ ((0 : Int32) < (0 : Int32)) := by decide
  refine Wk.ifNo X1 hx (hb hby d_jdk_38_m6_7) (n := 10) rfl ((if0 _ _).trans (flt hc7_4).2.2.1) ?_
  refine Wk.aloadN X1 hx (hb hby d_jdk_38_m6_10) (n := 11) rfl rfl rfl ?_
  refine Wk.getF X1 hx hZ hown (host := "") (Or.inl (hw _ (List.mem_of_getElem? (i := 28) rfl))) Via.refl e1 F2 (hb hby d_jdk_38_m6_11) (n := 14) rfl fun T5 X5 e5 => ?_
  refine Wk.getS X5 hx hZ hown (host := "") (Or.inl (hw _ (List.mem_of_getElem? (i := 27) rfl))) Via.refl e5 (Sta.ext O1.2 S1) (hb hby d_jdk_38_m6_14) (n := 17) rfl fun T6 X6 e6 => ?_
  refine Wk.acmp X6 hx rfl rfl (hb hby d_jdk_38_m6_17) (same := true) (decide_eq_true rfl) (by decide) (n := 45) (by decide) ?_
  refine Wk.aloadN X6 hx (hb hby d_jdk_38_m6_45) (n := 46) rfl rfl rfl ?_
  refine Wk.bipush X6 hx (hb hby d_jdk_38_m6_46) (n := 48) rfl (z := (10 : Int32)) rfl ?_
  refine Wk.iloadN X6 hx (hb hby d_jdk_38_m6_48) (n := 49) rfl rfl ?_
  have cl7_ := fun (Ls : Array Slot) (hLs : Ls.size = c.maxLocals) => Jvm.LawKit.callS X6 hx (y := (⟨"java/lang/Math", "max", "(II)I"⟩ : MethodName)) hown (mvT hZ (hw _ (List.mem_of_getElem? (i := 61) rfl))) (mvT hZ (hw _ (List.mem_of_getElem? (i := 1) rfl))) (mvT hZ (hw _ (List.mem_of_getElem? (i := 2) rfl))) (mvT hZ (hw _ (List.mem_of_getElem? (i := 3) rfl))) (by decide) (backOf (W := 1) (rmMx l Z a0 hw [] (10 : Int32) (1 : Int32) h0 n0 (by omega)) hZ (hw _ (List.mem_of_getElem? (i := 3) rfl)) (hw _ (List.mem_of_getElem? (i := 2) rfl)) (by decide) (by decide)) (g := mkF m 49 Ls [(.int (1 : Int32)), (.int (10 : Int32)), (.ref a1)]) rfl hLs (argsL := [(.int (10 : Int32)), (.int (1 : Int32))]) (rest := [(.ref a1)]) (lenOf pd_2 rfl) rfl (by show 2 * 0 + _ ≤ _; exact Nat.le_of_eq rfl) (hb hby d_jdk_38_m6_49) (fun _ _ => ⟨rfl, e6, (by decide : 0 + 0 ≤ _), (by decide : 0 + 0 ≤ _)⟩)
  refine Wk.backS (n := 52) (rc := 0) (rs := 0) (Q := Q_rmMx Z (10 : Int32) (1 : Int32) h0 n0) (cl7_ _ (by rw [hml]; rfl)) fun vn7 T7 L7 X7 hQ7 => ?_
  clear cl7_
  obtain ⟨z_7, rfl, M7, e7, hl_7, hg_7⟩ := hQ7
  have N7 := Fr.app N0 M7
  show Wk p e below s _ _ _ T7 (mkF m 52 _ [(.int z_7), (.ref a1)])
  obtain rfl : z_7 = (10 : Int32) := hg_7 (by decide)
  refine Wk.newR X7 hx hZ hown (hw _ (List.mem_of_getElem? (i := 62) rfl)) (hw _ (List.mem_of_getElem? (i := 63) rfl)) e7 (hb hby d_jdk_38_m6_52) (n := 55) rfl (by decide) (cap := 10) (by decide) (by decide) (by decide) (by decide) fun T8 H8 b8 k8 gn8 X8 e8 Ex8 An8 On8 => ?_
  have gn8 := nx gn8
  have sz8 := Ex8.1
  have K8 := K0.ext Ex8
  have Vn8 : Arv Z H8 b8 k8 (.object "java/lang/Object") (10 : Int32) [.null, .null, .null, .null, .null, .null, .null, .null, .null, .null] .null := (Arv.new An8 (by decide)).pad (pad_rep [] .null 10)
  have lt8 := ny Vn8.lt
  refine Wk.dupX1 X8 hx (hb hby d_jdk_38_m6_55) (n := 56) rfl rfl rfl ?_
  have f9 := (F2.ext Ex8)
  have f10 := (E1.ext Ex8)
  refine Wk.putF X8 hx hZ hown (host := "") (Or.inl (hw _ (List.mem_of_getElem? (i := 28) rfl))) Via.refl e8 f9 f10 (Or.inl (hw _ (List.mem_of_getElem? (i := 29) rfl))) (hw _ (List.mem_of_getElem? (i := 5) rfl)) (ty := (.array (.object "java/lang/Object"))) (by decide) rfl rfl (hb hby d_jdk_38_m6_56) (n := 59) rfl fun T11 H11 X11 e11 Wn11 => ?_
  have sz11 := Wn11.size
  have Fn11 := f9.same Wn11
  have K11 := K8.wr Wn11 (Or.inl (List.mem_of_getElem? (i := 0) rfl))
  have N11 := Fr.snoc X11 N7 (by omega)
  have f12 := (f10.wr Wn11)
  have f13 := ((F1.ext Ex8).other Wn11 (Or.inr (slot_ne (Or.inl (hw _ (List.mem_of_getElem? (i := 26) rfl))) (Or.inl (hw _ (List.mem_of_getElem? (i := 29) rfl))) (by decide) (t := .int) (t' := (.array (.object "java/lang/Object"))) (by decide) (by decide))))
  have f14 := ((F3.ext Ex8).other Wn11 (Or.inr (slot_ne (Or.inl (hw _ (List.mem_of_getElem? (i := 45) rfl))) (Or.inl (hw _ (List.mem_of_getElem? (i := 29) rfl))) (by decide) (t := .int) (t' := (.array (.object "java/lang/Object"))) (by decide) (by decide))))
  have f15 := (Vn8.other Wn11 (nz (by omega)))
  exact Wk.leave X11 (v := some (.ref b8)) (fun h => by rw [Bd.returns] at h; cases h) hlk e11 ⟨b8, k8, rfl, N11, K11, f12, f13, Fn11, f14, f15, On8, (by omega)⟩ (by decide) (by decide) (fun fs hr => retA X11 hx rfl Bd.returns rfl (hb hby d_jdk_38_m6_59) hr)
def Q_rmGr0 (Z : State) (a1 : Addr) (u1 : Value) (wE : Addr) (kE : ClassId) (h0 : Heap) (n0 : Nat) (v : Option Value) (h : Heap) (L : List Loc) : Prop := ∃ (t : Addr) (kt : ClassId), v = some (.ref t) ∧ Fr n0 L ∧ Keep h0 h [a1] ∧ Exa Z h a1 "java/util/ArrayList" ∧ Fld Z h a1 "java/util/AbstractList" "modCount" "I" u1 ∧ Fld Z h a1 "java/util/ArrayList" "elementData" "[Ljava/lang/Object;" (.ref t) ∧ Fld Z h a1 "java/util/ArrayList" "size" "I" (.int (0 : Int32)) ∧ Arv Z h t kt (.object "java/lang/Object") (10 : Int32) [.null, .null, .null, .null, .null, .null, .null, .null, .null, .null] .null ∧ (Ovr Z kt "java/lang/Object") ∧ (h0.size ≤ t)
theorem ef_rmGr0 (m : MethodId) (x0 : Addr) : entryFrame m #[(.ref x0)] 1 = mkF m 0 #[.val (.ref x0)] [] := by first | (simp [entryFrame, mkF, argsToLocals, Value.category]; done) | rfl
theorem d_jdk_38_m7_0 : decode jdk_38_method_7_code 0 = .ok (.aload_n 0, 1) := by decide +kernel
theorem d_jdk_38_m7_1 : decode jdk_38_method_7_code 1 = .ok (.aload_n 0, 1) := by decide +kernel
theorem d_jdk_38_m7_2 : decode jdk_38_method_7_code 2 = .ok (.getfield 48, 3) := by decide +kernel
theorem d_jdk_38_m7_5 : decode jdk_38_method_7_code 5 = .ok (.iconst 1, 1) := by decide +kernel
theorem d_jdk_38_m7_6 : decode jdk_38_method_7_code 6 = .ok (.iadd, 1) := by decide +kernel
theorem d_jdk_38_m7_7 : decode jdk_38_method_7_code 7 = .ok (.invokevirtual 69, 3) := by decide +kernel
theorem pd_3 : parseMethodDescriptor "(I)[Ljava/lang/Object;" = some ⟨[.int], some (.array (.object "java/lang/Object"))⟩ := by decide +kernel
theorem d_jdk_38_m7_10 : decode jdk_38_method_7_code 10 = .ok (.areturn, 1) := by decide +kernel
set_option maxRecDepth 65536 in
set_option maxHeartbeats 40000000 in
theorem rmGr0 (l : Launch) (Z : State) (a0 : Array Value) (hw : ∀ d ∈ tables_1, d.before a0 Z = true) (ws : List Jvm.Cond) (a1 : Addr) (u1 : Value) (wE : Addr) (kE : ClassId) (h0 : Heap) (n0 : Nat) (Z0 : n0 ≤ h0.size) (E1 : Exa Z h0 a1 "java/util/ArrayList") (F1 : Fld Z h0 a1 "java/util/AbstractList" "modCount" "I" u1) (F2 : Fld Z h0 a1 "java/util/ArrayList" "elementData" "[Ljava/lang/Object;" (.ref wE)) (F3 : Fld Z h0 a1 "java/util/ArrayList" "size" "I" (.int (0 : Int32))) (A0 : Arv Z Z.heap wE kE (.object "java/lang/Object") (0 : Int32) [] .null) (S1 : Sta Z Z.heap "java/util/ArrayList" "DEFAULTCAPACITY_EMPTY_ELEMENTDATA" "[Ljava/lang/Object;" (.ref wE)) (O1 : Old Z n0 h0) (g1 : n0 ≤ a1) :
    MetFree l (⟨"java/util/ArrayList", "grow", "()[Ljava/lang/Object;"⟩ : MethodName) (head1 (Jvm.Cond.code (⟨"java/util/ArrayList", "grow", "()[Ljava/lang/Object;"⟩ : MethodName) jdk_38_method_7_code 1 (some (.array (.object "java/lang/Object"))) :: ws) ({ frames := 2, cells := 1, slots := 10, locals := 29 } : Room)) (fun a U => a = #[(.ref a1)] ∧ Z.Warmed39 U.vm ∧ U.heap = h0) (fun _ _ _ _ _ => True) (fun _ U o U' => ∃ v L, o = .returned v ∧ Q_rmGr0 Z a1 u1 wE kE h0 n0 v U'.heap L ∧ FrameEnd U o U' L ({ frames := 2, cells := 1, slots := 10, locals := 29 } : Room).cells ({ frames := 2, cells := 1, slots := 10, locals := 29 } : Room).slots) := by
  refine MetFree.of_bodySF (plainFor_of_name pn_java_util_ArrayList) hisR ?_
  intro p e s m args below meth c s₁ Bd hml0 hP hK
  obtain ⟨rfl, hZ, hh⟩ := hP
  have hx := Bd.exec
  have hby := Bd.bytes
  have hlk := BodyLoose.notSynchronized Bd
  have hml : c.maxLocals = 1 := hml0
  have hown : s.vm.findClass "java/util/ArrayList" = some m.cls := findClass_of_methodNamed Bd.named
  have hnm := (name_of_methodNamed Bd.named Bd.method).1
  have X0 : Stand p l e ({ frames := 2, cells := 1, slots := 10, locals := 29 } : Room) s m #[(.ref a1)] below meth c s₁ [] 0 0 := Stand.of_body Bd
  have e0 : s₁.heap = h0 := by rw [← hh, Bd.state]; rfl
  have N0 := Fr.nil n0
  have K0 := Keep.refl h0 [a1]
  clear hh
  show Wk p e below s (Q_rmGr0 Z a1 u1 wE kE h0 n0) ({ frames := 2, cells := 1, slots := 10, locals := 29 } : Room).cells ({ frames := 2, cells := 1, slots := 10, locals := 29 } : Room).slots s₁ (entryFrame m #[(.ref a1)] 1)
  rw [ef_rmGr0]
  have lt_E1 := ny E1.lt
  have lt_F1 := ny F1.lt
  have lt_F2 := ny F2.lt
  have lt_F3 := ny F3.lt
  refine Wk.aloadN X0 hx (hb hby d_jdk_38_m7_0) (n := 1) rfl rfl rfl ?_
  refine Wk.aloadN X0 hx (hb hby d_jdk_38_m7_1) (n := 2) rfl rfl rfl ?_
  refine Wk.getF X0 hx hZ hown (host := "") (Or.inl (hw _ (List.mem_of_getElem? (i := 44) rfl))) Via.refl e0 F3 (hb hby d_jdk_38_m7_2) (n := 5) rfl fun T1 X1 e1 => ?_
  refine Wk.iconst X1 hx (hb hby d_jdk_38_m7_5) (n := 6) rfl (z := (1 : Int32)) rfl ?_
  refine Wk.iadd X1 hx (hb hby d_jdk_38_m7_6) (n := 7) rfl ?_
  rw [show ((0 : Int32) + (1 : Int32)) = (1 : Int32) from rfl]
  obtain ⟨cq2, qn2, qn2'⟩ := E1.cell
  have cl2_ := fun (Ls : Array Slot) (hLs : Ls.size = c.maxLocals) => X1.privateBack hx (y := (⟨"java/util/ArrayList", "grow", "(I)[Ljava/lang/Object;"⟩ : MethodName)) hown (mvT hZ (hw _ (List.mem_of_getElem? (i := 56) rfl))) (mvT hZ (hw _ (List.mem_of_getElem? (i := 57) rfl))) (mvT hZ (hw _ (List.mem_of_getElem? (i := 59) rfl))) (Cond.privateMethod_at (mvP hZ (hw _ (List.mem_of_getElem? (i := 58) rfl)) (args := #[]))) (mvT hZ (hw _ (List.mem_of_getElem? (i := 60) rfl))) (by decide) (backOf (W := 0) (rmGrI l Z a0 hw [] a1 u1 wE kE h0 n0 (by omega) E1 F1 F2 F3 A0 S1 O1 (by omega)) hZ (hw _ (List.mem_of_getElem? (i := 60) rfl)) (hw _ (List.mem_of_getElem? (i := 6) rfl)) (by decide) (by decide)) (g := mkF m 7 Ls [(.int (1 : Int32)), (.ref a1)]) rfl hLs (Steps.refl _) (a := a1) (by rw [e1]; exact qn2) qn2' (argsL := [(.int (1 : Int32))]) (rest := []) (lenOf pd_3 rfl) rfl (by show 2 * 0 + _ ≤ _; exact Nat.le_of_eq rfl) (hb hby d_jdk_38_m7_7) (fun _ _ => ⟨rfl, e1, (by decide : 0 + 1 ≤ _), (by decide : 0 + 10 ≤ _)⟩)
  refine Wk.back (n := 10) (rc := 1) (rs := 10) (Q := Q_rmGrI Z a1 u1 wE kE h0 n0) (cl2_ _ (by rw [hml]; rfl)) fun vn2 T2 L2 X2 hQ2 => ?_
  clear cl2_
  obtain ⟨t_2, kt_2, rfl, M2, J2, p2_0, p2_1, p2_2, p2_3, p2_4, ov_2, gt_2⟩ := hQ2
  have N2 := Fr.app N0 M2
  have sz2 := J2.1
  have K2 := K0.trans J2 (allS (Or.inl (List.mem_of_getElem? (i := 0) rfl)) all0)
  have lt_p2_0 := ny p2_0.lt
  have lt_p2_4 := ny p2_4.lt
  show Wk p e below s _ _ _ T2 (mkF m 10 _ [(.ref t_2)])
  exact Wk.leave X2 (v := some (.ref t_2)) (fun h => by rw [Bd.returns] at h; cases h) hlk rfl ⟨t_2, kt_2, rfl, N2, K2, p2_0, p2_1, p2_2, p2_3, p2_4, ov_2, (by omega)⟩ (by decide) (by decide) (fun fs hr => retA X2 hx rfl Bd.returns rfl (hb hby d_jdk_38_m7_10) hr)
def Q_rmAdG (Z : State) (a1 : Addr) (y1 : Addr) (u1 : Value) (wE : Addr) (kE : ClassId) (h0 : Heap) (n0 : Nat) (v : Option Value) (h : Heap) (L : List Loc) : Prop := ∃ (t : Addr) (kt : ClassId), v = none ∧ Fr n0 L ∧ Keep h0 h [a1] ∧ Exa Z h a1 "java/util/ArrayList" ∧ Fld Z h a1 "java/util/AbstractList" "modCount" "I" u1 ∧ Fld Z h a1 "java/util/ArrayList" "elementData" "[Ljava/lang/Object;" (.ref t) ∧ Fld Z h a1 "java/util/ArrayList" "size" "I" (.int (1 : Int32)) ∧ Arv Z h t kt (.object "java/lang/Object") (10 : Int32) [(.ref y1), .null, .null, .null, .null, .null, .null, .null, .null, .null] .null ∧ (Ovr Z kt "java/lang/Object") ∧ (h0.size ≤ t)
theorem ef_rmAdG (m : MethodId) (x0 : Addr) (x1 : Addr) (x2 : Addr) : entryFrame m #[(.ref x0), (.ref x1), (.ref x2), (.int (0 : Int32))] 4 = mkF m 0 #[.val (.ref x0), .val (.ref x1), .val (.ref x2), .val (.int (0 : Int32))] [] := by first | (simp [entryFrame, mkF, argsToLocals, Value.category]; done) | rfl
theorem d_jdk_38_m24_0 : decode jdk_38_method_24_code 0 = .ok (.iload_n 3, 1) := by decide +kernel
theorem d_jdk_38_m24_1 : decode jdk_38_method_24_code 1 = .ok (.aload_n 2, 1) := by decide +kernel
theorem d_jdk_38_m24_2 : decode jdk_38_method_24_code 2 = .ok (.arraylength, 1) := by decide +kernel
theorem d_jdk_38_m24_3 : decode jdk_38_method_24_code 3 = .ok (.if_icmp .ne 8, 3) := by decide +kernel
theorem d_jdk_38_m24_6 : decode jdk_38_method_24_code 6 = .ok (.aload_n 0, 1) := by decide +kernel
theorem d_jdk_38_m24_7 : decode jdk_38_method_24_code 7 = .ok (.invokevirtual 129, 3) := by decide +kernel
theorem pd_4 : parseMethodDescriptor "()[Ljava/lang/Object;" = some ⟨[], some (.array (.object "java/lang/Object"))⟩ := by decide +kernel
theorem d_jdk_38_m24_10 : decode jdk_38_method_24_code 10 = .ok (.astore_n 2, 1) := by decide +kernel
theorem d_jdk_38_m24_11 : decode jdk_38_method_24_code 11 = .ok (.aload_n 2, 1) := by decide +kernel
theorem d_jdk_38_m24_12 : decode jdk_38_method_24_code 12 = .ok (.iload_n 3, 1) := by decide +kernel
theorem d_jdk_38_m24_13 : decode jdk_38_method_24_code 13 = .ok (.aload_n 1, 1) := by decide +kernel
theorem d_jdk_38_m24_14 : decode jdk_38_method_24_code 14 = .ok (.aastore, 1) := by decide +kernel
theorem d_jdk_38_m24_15 : decode jdk_38_method_24_code 15 = .ok (.aload_n 0, 1) := by decide +kernel
theorem d_jdk_38_m24_16 : decode jdk_38_method_24_code 16 = .ok (.iload_n 3, 1) := by decide +kernel
theorem d_jdk_38_m24_17 : decode jdk_38_method_24_code 17 = .ok (.iconst 1, 1) := by decide +kernel
theorem d_jdk_38_m24_18 : decode jdk_38_method_24_code 18 = .ok (.iadd, 1) := by decide +kernel
theorem d_jdk_38_m24_19 : decode jdk_38_method_24_code 19 = .ok (.putfield 48, 3) := by decide +kernel
theorem d_jdk_38_m24_22 : decode jdk_38_method_24_code 22 = .ok (.return_, 1) := by decide +kernel
set_option maxRecDepth 65536 in
set_option maxHeartbeats 40000000 in
theorem rmAdG (l : Launch) (Z : State) (a0 : Array Value) (hw : ∀ d ∈ tables_1, d.before a0 Z = true) (ws : List Jvm.Cond) (a1 : Addr) (y1 : Addr) (u1 : Value) (wE : Addr) (kE : ClassId) (h0 : Heap) (n0 : Nat) (Z0 : n0 ≤ h0.size) (E1 : Exa Z h0 a1 "java/util/ArrayList") (F1 : Fld Z h0 a1 "java/util/AbstractList" "modCount" "I" u1) (F2 : Fld Z h0 a1 "java/util/ArrayList" "elementData" "[Ljava/lang/Object;" (.ref wE)) (F3 : Fld Z h0 a1 "java/util/ArrayList" "size" "I" (.int (0 : Int32))) (A0 : Arv Z Z.heap wE kE (.object "java/lang/Object") (0 : Int32) [] .null) (S1 : Sta Z Z.heap "java/util/ArrayList" "DEFAULTCAPACITY_EMPTY_ELEMENTDATA" "[Ljava/lang/Object;" (.ref wE)) (O1 : Old Z n0 h0) (Ey : Exa Z h0 y1 "java/lang/Integer") (g1 : n0 ≤ a1) :
    MetFree l (⟨"java/util/ArrayList", "add", "(Ljava/lang/Object;[Ljava/lang/Object;I)V"⟩ : MethodName) (head1 (Jvm.Cond.code (⟨"java/util/ArrayList", "add", "(Ljava/lang/Object;[Ljava/lang/Object;I)V"⟩ : MethodName) jdk_38_method_24_code 4 none :: ws) ({ frames := 3, cells := 1, slots := 10, locals := 41 } : Room)) (fun a U => a = #[(.ref a1), (.ref y1), (.ref wE), (.int (0 : Int32))] ∧ Z.Warmed39 U.vm ∧ U.heap = h0) (fun _ _ _ _ _ => True) (fun _ U o U' => ∃ v L, o = .returned v ∧ Q_rmAdG Z a1 y1 u1 wE kE h0 n0 v U'.heap L ∧ FrameEnd U o U' L ({ frames := 3, cells := 1, slots := 10, locals := 41 } : Room).cells ({ frames := 3, cells := 1, slots := 10, locals := 41 } : Room).slots) := by
  refine MetFree.of_bodySF (plainFor_of_name pn_java_util_ArrayList) hisR ?_
  intro p e s m args below meth c s₁ Bd hml0 hP hK
  obtain ⟨rfl, hZ, hh⟩ := hP
  have hx := Bd.exec
  have hby := Bd.bytes
  have hlk := BodyLoose.notSynchronized Bd
  have hml : c.maxLocals = 4 := hml0
  have hown : s.vm.findClass "java/util/ArrayList" = some m.cls := findClass_of_methodNamed Bd.named
  have hnm := (name_of_methodNamed Bd.named Bd.method).1
  have X0 : Stand p l e ({ frames := 3, cells := 1, slots := 10, locals := 41 } : Room) s m #[(.ref a1), (.ref y1), (.ref wE), (.int (0 : Int32))] below meth c s₁ [] 0 0 := Stand.of_body Bd
  have e0 : s₁.heap = h0 := by rw [← hh, Bd.state]; rfl
  have N0 := Fr.nil n0
  have K0 := Keep.refl h0 [a1]
  clear hh
  show Wk p e below s (Q_rmAdG Z a1 y1 u1 wE kE h0 n0) ({ frames := 3, cells := 1, slots := 10, locals := 41 } : Room).cells ({ frames := 3, cells := 1, slots := 10, locals := 41 } : Room).slots s₁ (entryFrame m #[(.ref a1), (.ref y1), (.ref wE), (.int (0 : Int32))] 4)
  rw [ef_rmAdG]
  have lt_E1 := ny E1.lt
  have lt_F1 := ny F1.lt
  have lt_F2 := ny F2.lt
  have lt_F3 := ny F3.lt
  have lt_Ey := ny Ey.lt
  refine Wk.iloadN X0 hx (hb hby d_jdk_38_m24_0) (n := 1) rfl rfl ?_
  refine Wk.aloadN X0 hx (hb hby d_jdk_38_m24_1) (n := 2) rfl rfl rfl ?_
  have f1 := A0.ext O1.2
  obtain ⟨cl2, Ar2, qn2, Sz2, N_2, H_2, Gn2⟩ := id f1
  refine Wk.arrlen X0 hx hZ e0 Ar2 Sz2 N_2 (hb hby d_jdk_38_m24_2) (n := 3) rfl ?_
  have hc3_3 : (0 : Int32) = (0 : Int32) := rfl
  refine Wk.icmpNo X0 hx (hb hby d_jdk_38_m24_3) (n := 6) rfl (teq hc3_3).2 ?_
  refine Wk.aloadN X0 hx (hb hby d_jdk_38_m24_6) (n := 7) rfl rfl rfl ?_
  obtain ⟨cq4, qn4, qn4'⟩ := E1.cell
  have cl4_ := fun (Ls : Array Slot) (hLs : Ls.size = c.maxLocals) => X0.privateBack hx (y := (⟨"java/util/ArrayList", "grow", "()[Ljava/lang/Object;"⟩ : MethodName)) hown (mvT hZ (hw _ (List.mem_of_getElem? (i := 51) rfl))) (mvT hZ (hw _ (List.mem_of_getElem? (i := 52) rfl))) (mvT hZ (hw _ (List.mem_of_getElem? (i := 54) rfl))) (Cond.privateMethod_at (mvP hZ (hw _ (List.mem_of_getElem? (i := 53) rfl)) (args := #[]))) (mvT hZ (hw _ (List.mem_of_getElem? (i := 55) rfl))) (by decide) (backOf (W := 0) (rmGr0 l Z a0 hw [] a1 u1 wE kE h0 n0 (by omega) E1 F1 F2 F3 A0 S1 O1 (by omega)) hZ (hw _ (List.mem_of_getElem? (i := 55) rfl)) (hw _ (List.mem_of_getElem? (i := 6) rfl)) (by decide) (by decide)) (g := mkF m 7 Ls [(.ref a1)]) rfl hLs (Steps.refl _) (a := a1) (by rw [e0]; exact qn4) qn4' (argsL := []) (rest := []) (lenOf pd_4 rfl) rfl (by show 2 * 0 + _ ≤ _; exact Nat.le_of_eq rfl) (hb hby d_jdk_38_m24_7) (fun _ _ => ⟨rfl, e0, (by decide : 0 + 1 ≤ _), (by decide : 0 + 10 ≤ _)⟩)
  refine Wk.back (n := 10) (rc := 1) (rs := 10) (Q := Q_rmGr0 Z a1 u1 wE kE h0 n0) (cl4_ _ (by rw [hml]; rfl)) fun vn4 T4 L4 X4 hQ4 => ?_
  clear cl4_
  obtain ⟨t_4, kt_4, rfl, M4, J4, p4_0, p4_1, p4_2, p4_3, p4_4, ov_4, gt_4⟩ := hQ4
  have N4 := Fr.app N0 M4
  have sz4 := J4.1
  have K4 := K0.trans J4 (allS (Or.inl (List.mem_of_getElem? (i := 0) rfl)) all0)
  have lt_p4_0 := ny p4_0.lt
  have lt_p4_4 := ny p4_4.lt
  show Wk p e below s _ _ _ T4 (mkF m 10 _ [(.ref t_4)])
  refine Wk.astoreN X4 hx (hb hby d_jdk_38_m24_10) (n := 11) rfl rfl (L' := #[.val (.ref a1), .val (.ref y1), .val (.ref t_4), .val (.int (0 : Int32))]) rfl ?_
  refine Wk.aloadN X4 hx (hb hby d_jdk_38_m24_11) (n := 12) rfl rfl rfl ?_
  refine Wk.iloadN X4 hx (hb hby d_jdk_38_m24_12) (n := 13) rfl rfl ?_
  refine Wk.aloadN X4 hx (hb hby d_jdk_38_m24_13) (n := 14) rfl rfl rfl ?_
  have f6 := (Ey.keep J4)
  obtain ⟨cl5, Ar5, qn5, Sz5, N_5, H_5, Gn5⟩ := id p4_4
  have hin5 : ¬ ((0 : Int32) < 0 ∨ cl5.slots.size ≤ ((0 : Int32)).toNatClampNeg) := inb_of Sz5 ⟨by decide, by decide⟩
  refine Wk.stR X4 hx hZ rfl Ar5 hin5 rfl (Sto.ofV Ar5 qn5 ov_4 (Ins.of_exa f6 (hw _ (List.mem_of_getElem? (i := 64) rfl)))) (hb hby d_jdk_38_m24_14) (n := 15) rfl fun T5 H5 X5 e5 Wn5 => ?_
  have Vn5 := Arv.set Ar5 qn5 Sz5 N_5 H_5 Gn5 rfl Wn5 0 rfl (Nat.le_of_ble_eq_true rfl)
  have Un5 : Arv Z H5 t_4 kt_4 (.object "java/lang/Object") (10 : Int32) [(.ref y1), .null, .null, .null, .null, .null, .null, .null, .null, .null] .null := Vn5
  have sz5 := Wn5.size
  have K5 := K4.wr Wn5 (Or.inr (by omega))
  have N5 := Fr.snoc X5 N4 (by omega)
  refine Wk.aloadN X5 hx (hb hby d_jdk_38_m24_15) (n := 16) rfl rfl rfl ?_
  refine Wk.iloadN X5 hx (hb hby d_jdk_38_m24_16) (n := 17) rfl rfl ?_
  refine Wk.iconst X5 hx (hb hby d_jdk_38_m24_17) (n := 18) rfl (z := (1 : Int32)) rfl ?_
  refine Wk.iadd X5 hx (hb hby d_jdk_38_m24_18) (n := 19) rfl ?_
  rw [show ((0 : Int32) + (1 : Int32)) = (1 : Int32) from rfl]
  have f7 := (p4_3.other Wn5 (Or.inl (nz (by omega))))
  have f8 := (p4_0.wr Wn5)
  refine Wk.putF X5 hx hZ hown (host := "") (Or.inl (hw _ (List.mem_of_getElem? (i := 44) rfl))) Via.refl e5 f7 f8 (Or.inl (hw _ (List.mem_of_getElem? (i := 45) rfl))) (hw _ (List.mem_of_getElem? (i := 5) rfl)) (ty := .int) (by decide) rfl rfl (hb hby d_jdk_38_m24_19) (n := 22) rfl fun T9 H9 X9 e9 Wn9 => ?_
  have sz9 := Wn9.size
  have Fn9 := f7.same Wn9
  have K9 := K5.wr Wn9 (Or.inl (List.mem_of_getElem? (i := 0) rfl))
  have N9 := Fr.snoc X9 N5 (by omega)
  have f10 := (f8.wr Wn9)
  have f11 := ((p4_1.other Wn5 (Or.inl (nz (by omega)))).other Wn9 (Or.inr (slot_ne (Or.inl (hw _ (List.mem_of_getElem? (i := 26) rfl))) (Or.inl (hw _ (List.mem_of_getElem? (i := 45) rfl))) (by decide) (t := .int) (t' := .int) (by decide) (by decide))))
  have f12 := ((p4_2.other Wn5 (Or.inl (nz (by omega)))).other Wn9 (Or.inr (slot_ne (Or.inl (hw _ (List.mem_of_getElem? (i := 29) rfl))) (Or.inl (hw _ (List.mem_of_getElem? (i := 45) rfl))) (by decide) (t := (.array (.object "java/lang/Object"))) (t' := .int) (by decide) (by decide))))
  have f13 := (Un5.other Wn9 (nz (by omega)))
  exact Wk.leave X9 (v := none) (fun _ => rfl) hlk e9 ⟨t_4, kt_4, rfl, N9, K9, f10, f11, f12, Fn9, f13, ov_4, (by omega)⟩ (by decide) (by decide) (fun fs hr => X9.returnOut hx Bd.returns (hb hby d_jdk_38_m24_22) hr)
def Q_rmAdN (Z : State) (a1 : Addr) (y1 : Addr) (u1 : Value) (t : Addr) (kt : ClassId) (vs : List Value) (p1 : Int32) (i : Nat) (h0 : Heap) (n0 : Nat) (v : Option Value) (h : Heap) (L : List Loc) : Prop := v = none ∧ Fr n0 L ∧ Keep h0 h [a1, t] ∧ Exa Z h a1 "java/util/ArrayList" ∧ Fld Z h a1 "java/util/AbstractList" "modCount" "I" u1 ∧ Fld Z h a1 "java/util/ArrayList" "elementData" "[Ljava/lang/Object;" (.ref t) ∧ Fld Z h a1 "java/util/ArrayList" "size" "I" (.int (p1 + (1 : Int32))) ∧ Arv Z h t kt (.object "java/lang/Object") (10 : Int32) (vs.set i (.ref y1)) .null
theorem ef_rmAdN (m : MethodId) (x0 : Addr) (x1 : Addr) (x2 : Addr) (x3 : Int32) : entryFrame m #[(.ref x0), (.ref x1), (.ref x2), (.int x3)] 4 = mkF m 0 #[.val (.ref x0), .val (.ref x1), .val (.ref x2), .val (.int x3)] [] := by first | (simp [entryFrame, mkF, argsToLocals, Value.category]; done) | rfl
set_option maxRecDepth 65536 in
set_option maxHeartbeats 40000000 in
theorem rmAdN (l : Launch) (Z : State) (a0 : Array Value) (hw : ∀ d ∈ tables_1, d.before a0 Z = true) (ws : List Jvm.Cond) (a1 : Addr) (y1 : Addr) (u1 : Value) (t : Addr) (kt : ClassId) (vs : List Value) (p1 : Int32) (i : Nat) (h0 : Heap) (n0 : Nat) (Z0 : n0 ≤ h0.size) (E1 : Exa Z h0 a1 "java/util/ArrayList") (F1 : Fld Z h0 a1 "java/util/AbstractList" "modCount" "I" u1) (F2 : Fld Z h0 a1 "java/util/ArrayList" "elementData" "[Ljava/lang/Object;" (.ref t)) (F3 : Fld Z h0 a1 "java/util/ArrayList" "size" "I" (.int p1)) (A1 : Arv Z h0 t kt (.object "java/lang/Object") (10 : Int32) vs .null) (Ey : Exa Z h0 y1 "java/lang/Integer") (ovr : Ovr Z kt "java/lang/Object") (hbd : ¬ p1 < 0 ∧ p1 < (10 : Int32)) (hk : p1.toNatClampNeg = i) (hi : i < vs.length) (nta : ¬ t = a1) (g1 : n0 ≤ a1) (g2 : n0 ≤ t) :
    MetFree l (⟨"java/util/ArrayList", "add", "(Ljava/lang/Object;[Ljava/lang/Object;I)V"⟩ : MethodName) (head1 (Jvm.Cond.code (⟨"java/util/ArrayList", "add", "(Ljava/lang/Object;[Ljava/lang/Object;I)V"⟩ : MethodName) jdk_38_method_24_code 4 none :: ws) ({ frames := 0, cells := 0, slots := 0, locals := 0 } : Room)) (fun a U => a = #[(.ref a1), (.ref y1), (.ref t), (.int p1)] ∧ Z.Warmed39 U.vm ∧ U.heap = h0) (fun _ _ _ _ _ => True) (fun _ U o U' => ∃ v L, o = .returned v ∧ Q_rmAdN Z a1 y1 u1 t kt vs p1 i h0 n0 v U'.heap L ∧ FrameEnd U o U' L ({ frames := 0, cells := 0, slots := 0, locals := 0 } : Room).cells ({ frames := 0, cells := 0, slots := 0, locals := 0 } : Room).slots) := by
  refine MetFree.of_bodySF (plainFor_of_name pn_java_util_ArrayList) hisR ?_
  intro p e s m args below meth c s₁ Bd hml0 hP hK
  obtain ⟨rfl, hZ, hh⟩ := hP
  have hx := Bd.exec
  have hby := Bd.bytes
  have hlk := BodyLoose.notSynchronized Bd
  have hml : c.maxLocals = 4 := hml0
  have hown : s.vm.findClass "java/util/ArrayList" = some m.cls := findClass_of_methodNamed Bd.named
  have hnm := (name_of_methodNamed Bd.named Bd.method).1
  have X0 : Stand p l e ({ frames := 0, cells := 0, slots := 0, locals := 0 } : Room) s m #[(.ref a1), (.ref y1), (.ref t), (.int p1)] below meth c s₁ [] 0 0 := Stand.of_body Bd
  have e0 : s₁.heap = h0 := by rw [← hh, Bd.state]; rfl
  have N0 := Fr.nil n0
  have K0 := Keep.refl h0 [a1, t]
  clear hh
  show Wk p e below s (Q_rmAdN Z a1 y1 u1 t kt vs p1 i h0 n0) ({ frames := 0, cells := 0, slots := 0, locals := 0 } : Room).cells ({ frames := 0, cells := 0, slots := 0, locals := 0 } : Room).slots s₁ (entryFrame m #[(.ref a1), (.ref y1), (.ref t), (.int p1)] 4)
  rw [ef_rmAdN]
  have lt_E1 := ny E1.lt
  have lt_F1 := ny F1.lt
  have lt_F2 := ny F2.lt
  have lt_F3 := ny F3.lt
  have lt_A1 := ny A1.lt
  have lt_Ey := ny Ey.lt
  have nta := nw nta
  refine Wk.iloadN X0 hx (hb hby d_jdk_38_m24_0) (n := 1) rfl rfl ?_
  refine Wk.aloadN X0 hx (hb hby d_jdk_38_m24_1) (n := 2) rfl rfl rfl ?_
  obtain ⟨cl1, Ar1, qn1, Sz1, N_1, H_1, Gn1⟩ := id A1
  refine Wk.arrlen X0 hx hZ e0 Ar1 Sz1 N_1 (hb hby d_jdk_38_m24_2) (n := 3) rfl ?_
  have hc3_2 : ¬ (p1 = (10 : Int32)) := (fun q => absurd (q ▸ hbd.2) (by decide))
  refine Wk.icmpYes X0 hx (hb hby d_jdk_38_m24_3) (feq hc3_2).2 (by decide) (n := 11) (by decide) ?_
  refine Wk.aloadN X0 hx (hb hby d_jdk_38_m24_11) (n := 12) rfl rfl rfl ?_
  refine Wk.iloadN X0 hx (hb hby d_jdk_38_m24_12) (n := 13) rfl rfl ?_
  refine Wk.aloadN X0 hx (hb hby d_jdk_38_m24_13) (n := 14) rfl rfl rfl ?_
  obtain ⟨cl3, Ar3, qn3, Sz3, N_3, H_3, Gn3⟩ := id A1
  have hin3 : ¬ (p1 < 0 ∨ cl3.slots.size ≤ (p1).toNatClampNeg) := inb_of Sz3 hbd
  refine Wk.stR X0 hx hZ e0 Ar3 hin3 rfl (Sto.ofV Ar3 qn3 ovr (Ins.of_exa Ey (hw _ (List.mem_of_getElem? (i := 64) rfl)))) (hb hby d_jdk_38_m24_14) (n := 15) rfl fun T3 H3 X3 e3 Wn3 => ?_
  have Vn3 := Arv.set Ar3 qn3 Sz3 N_3 H_3 Gn3 rfl Wn3 i hk hi
  have Un3 : Arv Z H3 t kt (.object "java/lang/Object") (10 : Int32) (vs.set i (.ref y1)) .null := Vn3
  have sz3 := Wn3.size
  have K3 := K0.wr Wn3 (Or.inl (List.mem_of_getElem? (i := 1) rfl))
  have N3 := Fr.snoc X3 N0 (by omega)
  refine Wk.aloadN X3 hx (hb hby d_jdk_38_m24_15) (n := 16) rfl rfl rfl ?_
  refine Wk.iloadN X3 hx (hb hby d_jdk_38_m24_16) (n := 17) rfl rfl ?_
  refine Wk.iconst X3 hx (hb hby d_jdk_38_m24_17) (n := 18) rfl (z := (1 : Int32)) rfl ?_
  refine Wk.iadd X3 hx (hb hby d_jdk_38_m24_18) (n := 19) rfl ?_
  have f4 := (F3.other Wn3 (Or.inl (nz (by omega))))
  have f5 := (E1.wr Wn3)
  refine Wk.putF X3 hx hZ hown (host := "") (Or.inl (hw _ (List.mem_of_getElem? (i := 44) rfl))) Via.refl e3 f4 f5 (Or.inl (hw _ (List.mem_of_getElem? (i := 45) rfl))) (hw _ (List.mem_of_getElem? (i := 5) rfl)) (ty := .int) (by decide) rfl rfl (hb hby d_jdk_38_m24_19) (n := 22) rfl fun T6 H6 X6 e6 Wn6 => ?_
  have sz6 := Wn6.size
  have Fn6 := f4.same Wn6
  have K6 := K3.wr Wn6 (Or.inl (List.mem_of_getElem? (i := 0) rfl))
  have N6 := Fr.snoc X6 N3 (by omega)
  have f7 := (f5.wr Wn6)
  have f8 := ((F1.other Wn3 (Or.inl (nz (by omega)))).other Wn6 (Or.inr (slot_ne (Or.inl (hw _ (List.mem_of_getElem? (i := 26) rfl))) (Or.inl (hw _ (List.mem_of_getElem? (i := 45) rfl))) (by decide) (t := .int) (t' := .int) (by decide) (by decide))))
  have f9 := ((F2.other Wn3 (Or.inl (nz (by omega)))).other Wn6 (Or.inr (slot_ne (Or.inl (hw _ (List.mem_of_getElem? (i := 29) rfl))) (Or.inl (hw _ (List.mem_of_getElem? (i := 45) rfl))) (by decide) (t := (.array (.object "java/lang/Object"))) (t' := .int) (by decide) (by decide))))
  have f10 := (Un3.other Wn6 (nz (by omega)))
  exact Wk.leave X6 (v := none) (fun _ => rfl) hlk e6 ⟨rfl, N6, K6, f7, f8, f9, Fn6, f10⟩ (by decide) (by decide) (fun fs hr => X6.returnOut hx Bd.returns (hb hby d_jdk_38_m24_22) hr)
def Q_rmAG (Z : State) (a1 : Addr) (y1 : Addr) (m1 : Int32) (wE : Addr) (kE : ClassId) (h0 : Heap) (n0 : Nat) (v : Option Value) (h : Heap) (L : List Loc) : Prop := ∃ (t : Addr) (kt : ClassId), v = some (.int (1 : Int32)) ∧ Fr n0 L ∧ Keep h0 h [a1] ∧ Exa Z h a1 "java/util/ArrayList" ∧ Fld Z h a1 "java/util/AbstractList" "modCount" "I" (.int (m1 + (1 : Int32))) ∧ Fld Z h a1 "java/util/ArrayList" "elementData" "[Ljava/lang/Object;" (.ref t) ∧ Fld Z h a1 "java/util/ArrayList" "size" "I" (.int (1 : Int32)) ∧ Arv Z h t kt (.object "java/lang/Object") (10 : Int32) [(.ref y1), .null, .null, .null, .null, .null, .null, .null, .null, .null] .null ∧ (Ovr Z kt "java/lang/Object") ∧ (h0.size ≤ t)
theorem ef_rmAG (m : MethodId) (x0 : Addr) (x1 : Addr) : entryFrame m #[(.ref x0), (.ref x1)] 2 = mkF m 0 #[.val (.ref x0), .val (.ref x1)] [] := by first | (simp [entryFrame, mkF, argsToLocals, Value.category]; done) | rfl
theorem d_jdk_38_m25_0 : decode jdk_38_method_25_code 0 = .ok (.aload_n 0, 1) := by decide +kernel
theorem d_jdk_38_m25_1 : decode jdk_38_method_25_code 1 = .ok (.dup, 1) := by decide +kernel
theorem d_jdk_38_m25_2 : decode jdk_38_method_25_code 2 = .ok (.getfield 63, 3) := by decide +kernel
theorem d_jdk_38_m25_5 : decode jdk_38_method_25_code 5 = .ok (.iconst 1, 1) := by decide +kernel
theorem d_jdk_38_m25_6 : decode jdk_38_method_25_code 6 = .ok (.iadd, 1) := by decide +kernel
theorem d_jdk_38_m25_7 : decode jdk_38_method_25_code 7 = .ok (.putfield 63, 3) := by decide +kernel
theorem d_jdk_38_m25_10 : decode jdk_38_method_25_code 10 = .ok (.aload_n 0, 1) := by decide +kernel
theorem d_jdk_38_m25_11 : decode jdk_38_method_25_code 11 = .ok (.aload_n 1, 1) := by decide +kernel
theorem d_jdk_38_m25_12 : decode jdk_38_method_25_code 12 = .ok (.aload_n 0, 1) := by decide +kernel
theorem d_jdk_38_m25_13 : decode jdk_38_method_25_code 13 = .ok (.getfield 9, 3) := by decide +kernel
theorem d_jdk_38_m25_16 : decode jdk_38_method_25_code 16 = .ok (.aload_n 0, 1) := by decide +kernel
theorem d_jdk_38_m25_17 : decode jdk_38_method_25_code 17 = .ok (.getfield 48, 3) := by decide +kernel
theorem d_jdk_38_m25_20 : decode jdk_38_method_25_code 20 = .ok (.invokevirtual 131, 3) := by decide +kernel
theorem pd_5 : parseMethodDescriptor "(Ljava/lang/Object;[Ljava/lang/Object;I)V" = some ⟨[(.object "java/lang/Object"), (.array (.object "java/lang/Object")), .int], none⟩ := by decide +kernel
theorem d_jdk_38_m25_23 : decode jdk_38_method_25_code 23 = .ok (.iconst 1, 1) := by decide +kernel
theorem d_jdk_38_m25_24 : decode jdk_38_method_25_code 24 = .ok (.ireturn, 1) := by decide +kernel
set_option maxRecDepth 65536 in
set_option maxHeartbeats 40000000 in
theorem rmAG (l : Launch) (Z : State) (a0 : Array Value) (hw : ∀ d ∈ tables_1, d.before a0 Z = true) (ws : List Jvm.Cond) (a1 : Addr) (y1 : Addr) (m1 : Int32) (wE : Addr) (kE : ClassId) (h0 : Heap) (n0 : Nat) (Z0 : n0 ≤ h0.size) (E1 : Exa Z h0 a1 "java/util/ArrayList") (F1 : Fld Z h0 a1 "java/util/AbstractList" "modCount" "I" (.int m1)) (F2 : Fld Z h0 a1 "java/util/ArrayList" "elementData" "[Ljava/lang/Object;" (.ref wE)) (F3 : Fld Z h0 a1 "java/util/ArrayList" "size" "I" (.int (0 : Int32))) (A0 : Arv Z Z.heap wE kE (.object "java/lang/Object") (0 : Int32) [] .null) (S1 : Sta Z Z.heap "java/util/ArrayList" "DEFAULTCAPACITY_EMPTY_ELEMENTDATA" "[Ljava/lang/Object;" (.ref wE)) (O1 : Old Z n0 h0) (Ey : Exa Z h0 y1 "java/lang/Integer") (g1 : n0 ≤ a1) :
    MetFree l (⟨"java/util/ArrayList", "add", "(Ljava/lang/Object;)Z"⟩ : MethodName) (head1 (Jvm.Cond.code (⟨"java/util/ArrayList", "add", "(Ljava/lang/Object;)Z"⟩ : MethodName) jdk_38_method_25_code 2 (some .boolean) :: ws) ({ frames := 4, cells := 1, slots := 10, locals := 56 } : Room)) (fun a U => a = #[(.ref a1), (.ref y1)] ∧ Z.Warmed39 U.vm ∧ U.heap = h0) (fun _ _ _ _ _ => True) (fun _ U o U' => ∃ v L, o = .returned v ∧ Q_rmAG Z a1 y1 m1 wE kE h0 n0 v U'.heap L ∧ FrameEnd U o U' L ({ frames := 4, cells := 1, slots := 10, locals := 56 } : Room).cells ({ frames := 4, cells := 1, slots := 10, locals := 56 } : Room).slots) := by
  refine MetFree.of_bodySF (plainFor_of_name pn_java_util_ArrayList) hisR ?_
  intro p e s m args below meth c s₁ Bd hml0 hP hK
  obtain ⟨rfl, hZ, hh⟩ := hP
  have hx := Bd.exec
  have hby := Bd.bytes
  have hlk := BodyLoose.notSynchronized Bd
  have hml : c.maxLocals = 2 := hml0
  have hown : s.vm.findClass "java/util/ArrayList" = some m.cls := findClass_of_methodNamed Bd.named
  have hnm := (name_of_methodNamed Bd.named Bd.method).1
  have X0 : Stand p l e ({ frames := 4, cells := 1, slots := 10, locals := 56 } : Room) s m #[(.ref a1), (.ref y1)] below meth c s₁ [] 0 0 := Stand.of_body Bd
  have e0 : s₁.heap = h0 := by rw [← hh, Bd.state]; rfl
  have N0 := Fr.nil n0
  have K0 := Keep.refl h0 [a1]
  clear hh
  show Wk p e below s (Q_rmAG Z a1 y1 m1 wE kE h0 n0) ({ frames := 4, cells := 1, slots := 10, locals := 56 } : Room).cells ({ frames := 4, cells := 1, slots := 10, locals := 56 } : Room).slots s₁ (entryFrame m #[(.ref a1), (.ref y1)] 2)
  rw [ef_rmAG]
  have lt_E1 := ny E1.lt
  have lt_F1 := ny F1.lt
  have lt_F2 := ny F2.lt
  have lt_F3 := ny F3.lt
  have lt_Ey := ny Ey.lt
  refine Wk.aloadN X0 hx (hb hby d_jdk_38_m25_0) (n := 1) rfl rfl rfl ?_
  refine Wk.dup X0 hx (hb hby d_jdk_38_m25_1) (n := 2) rfl rfl ?_
  refine Wk.getF X0 hx hZ hown (host := "") (Or.inl (hw _ (List.mem_of_getElem? (i := 42) rfl))) (Via.of (hw _ (List.mem_of_getElem? (i := 43) rfl))) e0 F1 (hb hby d_jdk_38_m25_2) (n := 5) rfl fun T1 X1 e1 => ?_
  refine Wk.iconst X1 hx (hb hby d_jdk_38_m25_5) (n := 6) rfl (z := (1 : Int32)) rfl ?_
  refine Wk.iadd X1 hx (hb hby d_jdk_38_m25_6) (n := 7) rfl ?_
  refine Wk.putF X1 hx hZ hown (host := "") (Or.inl (hw _ (List.mem_of_getElem? (i := 42) rfl))) (Via.of (hw _ (List.mem_of_getElem? (i := 43) rfl))) e1 F1 E1 (Or.inl (hw _ (List.mem_of_getElem? (i := 26) rfl))) (hw _ (List.mem_of_getElem? (i := 5) rfl)) (ty := .int) (by decide) rfl rfl (hb hby d_jdk_38_m25_7) (n := 10) rfl fun T2 H2 X2 e2 Wn2 => ?_
  have sz2 := Wn2.size
  have Fn2 := F1.same Wn2
  have K2 := K0.wr Wn2 (Or.inl (List.mem_of_getElem? (i := 0) rfl))
  have N2 := Fr.snoc X2 N0 (by omega)
  refine Wk.aloadN X2 hx (hb hby d_jdk_38_m25_10) (n := 11) rfl rfl rfl ?_
  refine Wk.aloadN X2 hx (hb hby d_jdk_38_m25_11) (n := 12) rfl rfl rfl ?_
  refine Wk.aloadN X2 hx (hb hby d_jdk_38_m25_12) (n := 13) rfl rfl rfl ?_
  have f3 := (F2.other Wn2 (Or.inr (slot_ne (Or.inl (hw _ (List.mem_of_getElem? (i := 29) rfl))) (Or.inl (hw _ (List.mem_of_getElem? (i := 26) rfl))) (by decide) (t := (.array (.object "java/lang/Object"))) (t' := .int) (by decide) (by decide))))
  refine Wk.getF X2 hx hZ hown (host := "") (Or.inl (hw _ (List.mem_of_getElem? (i := 28) rfl))) Via.refl e2 f3 (hb hby d_jdk_38_m25_13) (n := 16) rfl fun T4 X4 e4 => ?_
  refine Wk.aloadN X4 hx (hb hby d_jdk_38_m25_16) (n := 17) rfl rfl rfl ?_
  have f5 := (F3.other Wn2 (Or.inr (slot_ne (Or.inl (hw _ (List.mem_of_getElem? (i := 45) rfl))) (Or.inl (hw _ (List.mem_of_getElem? (i := 26) rfl))) (by decide) (t := .int) (t' := .int) (by decide) (by decide))))
  refine Wk.getF X4 hx hZ hown (host := "") (Or.inl (hw _ (List.mem_of_getElem? (i := 44) rfl))) Via.refl e4 f5 (hb hby d_jdk_38_m25_17) (n := 20) rfl fun T6 X6 e6 => ?_
  have f7 := (E1.wr Wn2)
  have f8 := (O1.wr Wn2 (by omega))
  have f9 := (Ey.wr Wn2)
  obtain ⟨cq10, qn10, qn10'⟩ := f7.cell
  have cl10_ := fun (Ls : Array Slot) (hLs : Ls.size = c.maxLocals) => X6.privateBack hx (y := (⟨"java/util/ArrayList", "add", "(Ljava/lang/Object;[Ljava/lang/Object;I)V"⟩ : MethodName)) hown (mvT hZ (hw _ (List.mem_of_getElem? (i := 46) rfl))) (mvT hZ (hw _ (List.mem_of_getElem? (i := 47) rfl))) (mvT hZ (hw _ (List.mem_of_getElem? (i := 49) rfl))) (Cond.privateMethod_at (mvP hZ (hw _ (List.mem_of_getElem? (i := 48) rfl)) (args := #[]))) (mvT hZ (hw _ (List.mem_of_getElem? (i := 50) rfl))) (by decide) (backOf (W := 0) (rmAdG l Z a0 hw [] a1 y1 (.int (m1 + (1 : Int32))) wE kE H2 n0 (by omega) f7 Fn2 f3 f5 A0 S1 f8 f9 (by omega)) hZ (hw _ (List.mem_of_getElem? (i := 50) rfl)) (hw _ (List.mem_of_getElem? (i := 6) rfl)) (by decide) (by decide)) (g := mkF m 20 Ls [(.int (0 : Int32)), (.ref wE), (.ref y1), (.ref a1)]) rfl hLs (Steps.refl _) (a := a1) (by rw [e6]; exact qn10) qn10' (argsL := [(.ref y1), (.ref wE), (.int (0 : Int32))]) (rest := []) (lenOf pd_5 rfl) rfl (by show 2 * 0 + _ ≤ _; exact Nat.le_of_eq rfl) (hb hby d_jdk_38_m25_20) (fun _ _ => ⟨rfl, e6, (by decide : 0 + 1 ≤ _), (by decide : 0 + 10 ≤ _)⟩)
  refine Wk.back (n := 23) (rc := 1) (rs := 10) (Q := Q_rmAdG Z a1 y1 (.int (m1 + (1 : Int32))) wE kE H2 n0) (cl10_ _ (by rw [hml]; rfl)) fun vn10 T10 L10 X10 hQ10 => ?_
  clear cl10_
  obtain ⟨t_10, kt_10, rfl, M10, J10, p10_0, p10_1, p10_2, p10_3, p10_4, ov_10, gt_10⟩ := hQ10
  have N10 := Fr.app N2 M10
  have sz10 := J10.1
  have K10 := K2.trans J10 (allS (Or.inl (List.mem_of_getElem? (i := 0) rfl)) all0)
  have lt_p10_0 := ny p10_0.lt
  have lt_p10_4 := ny p10_4.lt
  show Wk p e below s _ _ _ T10 (mkF m 23 _ [])
  refine Wk.iconst X10 hx (hb hby d_jdk_38_m25_23) (n := 24) rfl (z := (1 : Int32)) rfl ?_
  exact Wk.leave X10 (v := some (.int (1 : Int32))) (fun h => by rw [Bd.returns] at h; cases h) hlk rfl ⟨t_10, kt_10, rfl, N10, K10, p10_0, p10_1, p10_2, p10_3, p10_4, ov_10, (by omega)⟩ (by decide) (by decide) (fun fs hr => retNz X10 hx (t := .boolean) rfl Bd.returns (by simp) (hb hby d_jdk_38_m25_24) hr)
def Q_rmAN (Z : State) (a1 : Addr) (y1 : Addr) (m1 : Int32) (t : Addr) (kt : ClassId) (vs : List Value) (p1 : Int32) (i : Nat) (h0 : Heap) (n0 : Nat) (v : Option Value) (h : Heap) (L : List Loc) : Prop := v = some (.int (1 : Int32)) ∧ Fr n0 L ∧ Keep h0 h [a1, t] ∧ Exa Z h a1 "java/util/ArrayList" ∧ Fld Z h a1 "java/util/AbstractList" "modCount" "I" (.int (m1 + (1 : Int32))) ∧ Fld Z h a1 "java/util/ArrayList" "elementData" "[Ljava/lang/Object;" (.ref t) ∧ Fld Z h a1 "java/util/ArrayList" "size" "I" (.int (p1 + (1 : Int32))) ∧ Arv Z h t kt (.object "java/lang/Object") (10 : Int32) (vs.set i (.ref y1)) .null
theorem ef_rmAN (m : MethodId) (x0 : Addr) (x1 : Addr) : entryFrame m #[(.ref x0), (.ref x1)] 2 = mkF m 0 #[.val (.ref x0), .val (.ref x1)] [] := by first | (simp [entryFrame, mkF, argsToLocals, Value.category]; done) | rfl
set_option maxRecDepth 65536 in
set_option maxHeartbeats 40000000 in
theorem rmAN (l : Launch) (Z : State) (a0 : Array Value) (hw : ∀ d ∈ tables_1, d.before a0 Z = true) (ws : List Jvm.Cond) (a1 : Addr) (y1 : Addr) (m1 : Int32) (t : Addr) (kt : ClassId) (vs : List Value) (p1 : Int32) (i : Nat) (h0 : Heap) (n0 : Nat) (Z0 : n0 ≤ h0.size) (E1 : Exa Z h0 a1 "java/util/ArrayList") (F1 : Fld Z h0 a1 "java/util/AbstractList" "modCount" "I" (.int m1)) (F2 : Fld Z h0 a1 "java/util/ArrayList" "elementData" "[Ljava/lang/Object;" (.ref t)) (F3 : Fld Z h0 a1 "java/util/ArrayList" "size" "I" (.int p1)) (A1 : Arv Z h0 t kt (.object "java/lang/Object") (10 : Int32) vs .null) (Ey : Exa Z h0 y1 "java/lang/Integer") (ovr : Ovr Z kt "java/lang/Object") (hbd : ¬ p1 < 0 ∧ p1 < (10 : Int32)) (hk : p1.toNatClampNeg = i) (hi : i < vs.length) (nta : ¬ t = a1) (g1 : n0 ≤ a1) (g2 : n0 ≤ t) :
    MetFree l (⟨"java/util/ArrayList", "add", "(Ljava/lang/Object;)Z"⟩ : MethodName) (head1 (Jvm.Cond.code (⟨"java/util/ArrayList", "add", "(Ljava/lang/Object;)Z"⟩ : MethodName) jdk_38_method_25_code 2 (some .boolean) :: ws) ({ frames := 1, cells := 0, slots := 0, locals := 15 } : Room)) (fun a U => a = #[(.ref a1), (.ref y1)] ∧ Z.Warmed39 U.vm ∧ U.heap = h0) (fun _ _ _ _ _ => True) (fun _ U o U' => ∃ v L, o = .returned v ∧ Q_rmAN Z a1 y1 m1 t kt vs p1 i h0 n0 v U'.heap L ∧ FrameEnd U o U' L ({ frames := 1, cells := 0, slots := 0, locals := 15 } : Room).cells ({ frames := 1, cells := 0, slots := 0, locals := 15 } : Room).slots) := by
  refine MetFree.of_bodySF (plainFor_of_name pn_java_util_ArrayList) hisR ?_
  intro p e s m args below meth c s₁ Bd hml0 hP hK
  obtain ⟨rfl, hZ, hh⟩ := hP
  have hx := Bd.exec
  have hby := Bd.bytes
  have hlk := BodyLoose.notSynchronized Bd
  have hml : c.maxLocals = 2 := hml0
  have hown : s.vm.findClass "java/util/ArrayList" = some m.cls := findClass_of_methodNamed Bd.named
  have hnm := (name_of_methodNamed Bd.named Bd.method).1
  have X0 : Stand p l e ({ frames := 1, cells := 0, slots := 0, locals := 15 } : Room) s m #[(.ref a1), (.ref y1)] below meth c s₁ [] 0 0 := Stand.of_body Bd
  have e0 : s₁.heap = h0 := by rw [← hh, Bd.state]; rfl
  have N0 := Fr.nil n0
  have K0 := Keep.refl h0 [a1, t]
  clear hh
  show Wk p e below s (Q_rmAN Z a1 y1 m1 t kt vs p1 i h0 n0) ({ frames := 1, cells := 0, slots := 0, locals := 15 } : Room).cells ({ frames := 1, cells := 0, slots := 0, locals := 15 } : Room).slots s₁ (entryFrame m #[(.ref a1), (.ref y1)] 2)
  rw [ef_rmAN]
  have lt_E1 := ny E1.lt
  have lt_F1 := ny F1.lt
  have lt_F2 := ny F2.lt
  have lt_F3 := ny F3.lt
  have lt_A1 := ny A1.lt
  have lt_Ey := ny Ey.lt
  have nta := nw nta
  refine Wk.aloadN X0 hx (hb hby d_jdk_38_m25_0) (n := 1) rfl rfl rfl ?_
  refine Wk.dup X0 hx (hb hby d_jdk_38_m25_1) (n := 2) rfl rfl ?_
  refine Wk.getF X0 hx hZ hown (host := "") (Or.inl (hw _ (List.mem_of_getElem? (i := 42) rfl))) (Via.of (hw _ (List.mem_of_getElem? (i := 43) rfl))) e0 F1 (hb hby d_jdk_38_m25_2) (n := 5) rfl fun T1 X1 e1 => ?_
  refine Wk.iconst X1 hx (hb hby d_jdk_38_m25_5) (n := 6) rfl (z := (1 : Int32)) rfl ?_
  refine Wk.iadd X1 hx (hb hby d_jdk_38_m25_6) (n := 7) rfl ?_
  refine Wk.putF X1 hx hZ hown (host := "") (Or.inl (hw _ (List.mem_of_getElem? (i := 42) rfl))) (Via.of (hw _ (List.mem_of_getElem? (i := 43) rfl))) e1 F1 E1 (Or.inl (hw _ (List.mem_of_getElem? (i := 26) rfl))) (hw _ (List.mem_of_getElem? (i := 5) rfl)) (ty := .int) (by decide) rfl rfl (hb hby d_jdk_38_m25_7) (n := 10) rfl fun T2 H2 X2 e2 Wn2 => ?_
  have sz2 := Wn2.size
  have Fn2 := F1.same Wn2
  have K2 := K0.wr Wn2 (Or.inl (List.mem_of_getElem? (i := 0) rfl))
  have N2 := Fr.snoc X2 N0 (by omega)
  refine Wk.aloadN X2 hx (hb hby d_jdk_38_m25_10) (n := 11) rfl rfl rfl ?_
  refine Wk.aloadN X2 hx (hb hby d_jdk_38_m25_11) (n := 12) rfl rfl rfl ?_
  refine Wk.aloadN X2 hx (hb hby d_jdk_38_m25_12) (n := 13) rfl rfl rfl ?_
  have f3 := (F2.other Wn2 (Or.inr (slot_ne (Or.inl (hw _ (List.mem_of_getElem? (i := 29) rfl))) (Or.inl (hw _ (List.mem_of_getElem? (i := 26) rfl))) (by decide) (t := (.array (.object "java/lang/Object"))) (t' := .int) (by decide) (by decide))))
  refine Wk.getF X2 hx hZ hown (host := "") (Or.inl (hw _ (List.mem_of_getElem? (i := 28) rfl))) Via.refl e2 f3 (hb hby d_jdk_38_m25_13) (n := 16) rfl fun T4 X4 e4 => ?_
  refine Wk.aloadN X4 hx (hb hby d_jdk_38_m25_16) (n := 17) rfl rfl rfl ?_
  have f5 := (F3.other Wn2 (Or.inr (slot_ne (Or.inl (hw _ (List.mem_of_getElem? (i := 45) rfl))) (Or.inl (hw _ (List.mem_of_getElem? (i := 26) rfl))) (by decide) (t := .int) (t' := .int) (by decide) (by decide))))
  refine Wk.getF X4 hx hZ hown (host := "") (Or.inl (hw _ (List.mem_of_getElem? (i := 44) rfl))) Via.refl e4 f5 (hb hby d_jdk_38_m25_17) (n := 20) rfl fun T6 X6 e6 => ?_
  have f7 := (E1.wr Wn2)
  have f8 := (A1.other Wn2 (nz (by omega)))
  have f9 := (Ey.wr Wn2)
  obtain ⟨cq10, qn10, qn10'⟩ := f7.cell
  have cl10_ := fun (Ls : Array Slot) (hLs : Ls.size = c.maxLocals) => X6.privateBack hx (y := (⟨"java/util/ArrayList", "add", "(Ljava/lang/Object;[Ljava/lang/Object;I)V"⟩ : MethodName)) hown (mvT hZ (hw _ (List.mem_of_getElem? (i := 46) rfl))) (mvT hZ (hw _ (List.mem_of_getElem? (i := 47) rfl))) (mvT hZ (hw _ (List.mem_of_getElem? (i := 49) rfl))) (Cond.privateMethod_at (mvP hZ (hw _ (List.mem_of_getElem? (i := 48) rfl)) (args := #[]))) (mvT hZ (hw _ (List.mem_of_getElem? (i := 50) rfl))) (by decide) (backOf (W := 0) (rmAdN l Z a0 hw [] a1 y1 (.int (m1 + (1 : Int32))) t kt vs p1 i H2 n0 (by omega) f7 Fn2 f3 f5 f8 f9 ovr hbd hk hi (nz (by omega)) (by omega) (by omega)) hZ (hw _ (List.mem_of_getElem? (i := 50) rfl)) (hw _ (List.mem_of_getElem? (i := 6) rfl)) (by decide) (by decide)) (g := mkF m 20 Ls [(.int p1), (.ref t), (.ref y1), (.ref a1)]) rfl hLs (Steps.refl _) (a := a1) (by rw [e6]; exact qn10) qn10' (argsL := [(.ref y1), (.ref t), (.int p1)]) (rest := []) (lenOf pd_5 rfl) rfl (by show 2 * 0 + _ ≤ _; exact Nat.le_of_eq rfl) (hb hby d_jdk_38_m25_20) (fun _ _ => ⟨rfl, e6, (by decide : 0 + 0 ≤ _), (by decide : 0 + 0 ≤ _)⟩)
  refine Wk.back (n := 23) (rc := 0) (rs := 0) (Q := Q_rmAdN Z a1 y1 (.int (m1 + (1 : Int32))) t kt vs p1 i H2 n0) (cl10_ _ (by rw [hml]; rfl)) fun vn10 T10 L10 X10 hQ10 => ?_
  clear cl10_
  obtain ⟨rfl, M10, J10, p10_0, p10_1, p10_2, p10_3, p10_4⟩ := hQ10
  have N10 := Fr.app N2 M10
  have sz10 := J10.1
  have K10 := K2.trans J10 (allS (Or.inl (List.mem_of_getElem? (i := 0) rfl)) (allS (Or.inl (List.mem_of_getElem? (i := 1) rfl)) all0))
  have lt_p10_0 := ny p10_0.lt
  have lt_p10_4 := ny p10_4.lt
  show Wk p e below s _ _ _ T10 (mkF m 23 _ [])
  refine Wk.iconst X10 hx (hb hby d_jdk_38_m25_23) (n := 24) rfl (z := (1 : Int32)) rfl ?_
  exact Wk.leave X10 (v := some (.int (1 : Int32))) (fun h => by rw [Bd.returns] at h; cases h) hlk rfl ⟨rfl, N10, K10, p10_0, p10_1, p10_2, p10_3, p10_4⟩ (by decide) (by decide) (fun fs hr => retNz X10 hx (t := .boolean) rfl Bd.returns (by simp) (hb hby d_jdk_38_m25_24) hr)
def Q_rmCE (Z : State) (p1 : Int32) (h0 : Heap) (n0 : Nat) (v : Option Value) (h : Heap) (L : List Loc) : Prop := v = some (.int (1 : Int32)) ∧ Fr n0 L ∧ h = h0
theorem ef_rmCE (m : MethodId) (x0 : Int32) : entryFrame m #[(.int x0)] 1 = mkF m 0 #[.val (.int x0)] [] := by first | (simp [entryFrame, mkF, argsToLocals, Value.category]; done) | rfl
theorem pn_java_lang_StringLatin1 : plainName "java/lang/StringLatin1" = true := by first | (simp [plainName, overriddenIn]; done) | decide +kernel
theorem d_jdk_43_m3_0 : decode jdk_43_method_3_code 0 = .ok (.iload_n 0, 1) := by decide +kernel
theorem d_jdk_43_m3_1 : decode jdk_43_method_3_code 1 = .ok (.sipush 255, 3) := by decide +kernel
theorem d_jdk_43_m3_4 : decode jdk_43_method_3_code 4 = .ok (.if_icmp .gt 7, 3) := by decide +kernel
theorem d_jdk_43_m3_7 : decode jdk_43_method_3_code 7 = .ok (.iconst 1, 1) := by decide +kernel
theorem d_jdk_43_m3_8 : decode jdk_43_method_3_code 8 = .ok (.goto 4, 3) := by decide +kernel
theorem d_jdk_43_m3_12 : decode jdk_43_method_3_code 12 = .ok (.ireturn, 1) := by decide +kernel
set_option maxRecDepth 65536 in
set_option maxHeartbeats 40000000 in
theorem rmCE (l : Launch) (Z : State) (a0 : Array Value) (hw : ∀ d ∈ tables_1, d.before a0 Z = true) (ws : List Jvm.Cond) (p1 : Int32) (h0 : Heap) (n0 : Nat) (Z0 : n0 ≤ h0.size) (h1 : ¬ (255 : Int32) < p1) :
    MetFree l (⟨"java/lang/StringLatin1", "canEncode", "(C)Z"⟩ : MethodName) (head1 (Jvm.Cond.code (⟨"java/lang/StringLatin1", "canEncode", "(C)Z"⟩ : MethodName) jdk_43_method_3_code 1 (some .boolean) :: ws) ({ frames := 0, cells := 0, slots := 0, locals := 0 } : Room)) (fun a U => a = #[(.int p1)] ∧ Z.Warmed39 U.vm ∧ U.heap = h0) (fun _ _ _ _ _ => True) (fun _ U o U' => ∃ v L, o = .returned v ∧ Q_rmCE Z p1 h0 n0 v U'.heap L ∧ FrameEnd U o U' L ({ frames := 0, cells := 0, slots := 0, locals := 0 } : Room).cells ({ frames := 0, cells := 0, slots := 0, locals := 0 } : Room).slots) := by
  refine MetFree.of_bodySF (plainFor_of_name pn_java_lang_StringLatin1) hisR ?_
  intro p e s m args below meth c s₁ Bd hml0 hP hK
  obtain ⟨rfl, hZ, hh⟩ := hP
  have hx := Bd.exec
  have hby := Bd.bytes
  have hlk := BodyLoose.notSynchronized Bd
  have hml : c.maxLocals = 1 := hml0
  have hown : s.vm.findClass "java/lang/StringLatin1" = some m.cls := findClass_of_methodNamed Bd.named
  have hnm := (name_of_methodNamed Bd.named Bd.method).1
  have X0 : Stand p l e ({ frames := 0, cells := 0, slots := 0, locals := 0 } : Room) s m #[(.int p1)] below meth c s₁ [] 0 0 := Stand.of_body Bd
  have e0 : s₁.heap = h0 := by rw [← hh, Bd.state]; rfl
  have N0 := Fr.nil n0
  have K0 := Keep.refl h0 []
  clear hh
  show Wk p e below s (Q_rmCE Z p1 h0 n0) ({ frames := 0, cells := 0, slots := 0, locals := 0 } : Room).cells ({ frames := 0, cells := 0, slots := 0, locals := 0 } : Room).slots s₁ (entryFrame m #[(.int p1)] 1)
  rw [ef_rmCE]
  refine Wk.iloadN X0 hx (hb hby d_jdk_43_m3_0) (n := 1) rfl rfl ?_
  refine Wk.sipush X0 hx (hb hby d_jdk_43_m3_1) (n := 4) rfl (z := (255 : Int32)) rfl ?_
  have hc4_1 : ¬ ((255 : Int32) < p1) := h1
  refine Wk.icmpNo X0 hx (hb hby d_jdk_43_m3_4) (n := 7) rfl (flt hc4_1).2.2.1 ?_
  refine Wk.iconst X0 hx (hb hby d_jdk_43_m3_7) (n := 8) rfl (z := (1 : Int32)) rfl ?_
  refine Wk.goto X0 hx (hb hby d_jdk_43_m3_8) (by decide) (n := 12) (by decide) ?_
  exact Wk.leave X0 (v := some (.int (1 : Int32))) (fun h => by rw [Bd.returns] at h; cases h) hlk e0 ⟨rfl, N0, rfl⟩ (by decide) (by decide) (fun fs hr => retNz X0 hx (t := .boolean) rfl Bd.returns (by simp) (hb hby d_jdk_43_m3_12) hr)
def Q_rmTB (Z : State) (p1 : Int32) (h0 : Heap) (n0 : Nat) (v : Option Value) (h : Heap) (L : List Loc) : Prop := ∃ (t : Addr) (kb : ClassId), v = some (.ref t) ∧ Fr n0 L ∧ Keep h0 h [] ∧ Arv Z h t kb .byte (1 : Int32) [(.int p1.toInt8.toInt32)] (.int (0 : Int32)) ∧ (h0.size ≤ t)
theorem ef_rmTB (m : MethodId) (x0 : Int32) : entryFrame m #[(.int x0)] 1 = mkF m 0 #[.val (.int x0)] [] := by first | (simp [entryFrame, mkF, argsToLocals, Value.category]; done) | rfl
theorem d_jdk_43_m46_0 : decode jdk_43_method_46_code 0 = .ok (.iconst 1, 1) := by decide +kernel
theorem d_jdk_43_m46_1 : decode jdk_43_method_46_code 1 = .ok (.newarray .byte, 2) := by decide +kernel
theorem d_jdk_43_m46_3 : decode jdk_43_method_46_code 3 = .ok (.dup, 1) := by decide +kernel
theorem d_jdk_43_m46_4 : decode jdk_43_method_46_code 4 = .ok (.iconst 0, 1) := by decide +kernel
theorem d_jdk_43_m46_5 : decode jdk_43_method_46_code 5 = .ok (.iload_n 0, 1) := by decide +kernel
theorem d_jdk_43_m46_6 : decode jdk_43_method_46_code 6 = .ok (.i2b, 1) := by decide +kernel
theorem d_jdk_43_m46_7 : decode jdk_43_method_46_code 7 = .ok (.bastore, 1) := by decide +kernel
theorem d_jdk_43_m46_8 : decode jdk_43_method_46_code 8 = .ok (.areturn, 1) := by decide +kernel
set_option maxRecDepth 65536 in
set_option maxHeartbeats 40000000 in
theorem rmTB (l : Launch) (Z : State) (a0 : Array Value) (hw : ∀ d ∈ tables_1, d.before a0 Z = true) (ws : List Jvm.Cond) (p1 : Int32) (h0 : Heap) (n0 : Nat) (Z0 : n0 ≤ h0.size) :
    MetFree l (⟨"java/lang/StringLatin1", "toBytes", "(C)[B"⟩ : MethodName) (head1 (Jvm.Cond.code (⟨"java/lang/StringLatin1", "toBytes", "(C)[B"⟩ : MethodName) jdk_43_method_46_code 1 (some (.array .byte)) :: ws) ({ frames := 0, cells := 1, slots := 1, locals := 0 } : Room)) (fun a U => a = #[(.int p1)] ∧ Z.Warmed39 U.vm ∧ U.heap = h0) (fun _ _ _ _ _ => True) (fun _ U o U' => ∃ v L, o = .returned v ∧ Q_rmTB Z p1 h0 n0 v U'.heap L ∧ FrameEnd U o U' L ({ frames := 0, cells := 1, slots := 1, locals := 0 } : Room).cells ({ frames := 0, cells := 1, slots := 1, locals := 0 } : Room).slots) := by
  refine MetFree.of_bodySF (plainFor_of_name pn_java_lang_StringLatin1) hisR ?_
  intro p e s m args below meth c s₁ Bd hml0 hP hK
  obtain ⟨rfl, hZ, hh⟩ := hP
  have hx := Bd.exec
  have hby := Bd.bytes
  have hlk := BodyLoose.notSynchronized Bd
  have hml : c.maxLocals = 1 := hml0
  have hown : s.vm.findClass "java/lang/StringLatin1" = some m.cls := findClass_of_methodNamed Bd.named
  have hnm := (name_of_methodNamed Bd.named Bd.method).1
  have X0 : Stand p l e ({ frames := 0, cells := 1, slots := 1, locals := 0 } : Room) s m #[(.int p1)] below meth c s₁ [] 0 0 := Stand.of_body Bd
  have e0 : s₁.heap = h0 := by rw [← hh, Bd.state]; rfl
  have N0 := Fr.nil n0
  have K0 := Keep.refl h0 []
  clear hh
  show Wk p e below s (Q_rmTB Z p1 h0 n0) ({ frames := 0, cells := 1, slots := 1, locals := 0 } : Room).cells ({ frames := 0, cells := 1, slots := 1, locals := 0 } : Room).slots s₁ (entryFrame m #[(.int p1)] 1)
  rw [ef_rmTB]
  refine Wk.iconst X0 hx (hb hby d_jdk_43_m46_0) (n := 1) rfl (z := (1 : Int32)) rfl ?_
  refine Wk.newP X0 hx hZ (hw _ (List.mem_of_getElem? (i := 79) rfl)) e0 (hb hby d_jdk_43_m46_1) (n := 3) rfl (by decide) (cap := 1) (by decide) (by decide) (by decide) (by decide) fun T1 H1 b1 k1 gn1 X1 e1 Ex1 An1 => ?_
  have gn1 := nx gn1
  have sz1 := Ex1.1
  have K1 := K0.ext Ex1
  have Vn1 : Arv Z H1 b1 k1 .byte (1 : Int32) [(.int (0 : Int32))] (.int (0 : Int32)) := (Arv.new An1 (by decide)).pad (pad_rep [] (.int (0 : Int32)) 1)
  have lt1 := ny Vn1.lt
  refine Wk.dup X1 hx (hb hby d_jdk_43_m46_3) (n := 4) rfl rfl ?_
  refine Wk.iconst X1 hx (hb hby d_jdk_43_m46_4) (n := 5) rfl (z := (0 : Int32)) rfl ?_
  refine Wk.iloadN X1 hx (hb hby d_jdk_43_m46_5) (n := 6) rfl rfl ?_
  refine Wk.i2b X1 hx (hb hby d_jdk_43_m46_6) (n := 7) rfl ?_
  obtain ⟨cl2, Ar2, qn2, Sz2, N_2, H_2, Gn2⟩ := id Vn1
  have hin2 : ¬ ((0 : Int32) < 0 ∨ cl2.slots.size ≤ ((0 : Int32)).toNatClampNeg) := inb_of Sz2 ⟨by decide, by decide⟩
  refine Wk.stB X1 hx hZ e1 Ar2 hin2 (hb hby d_jdk_43_m46_7) (n := 8) rfl fun T2 H2 X2 e2 Wn2 => ?_
  have Vn2 := Arv.set Ar2 qn2 Sz2 N_2 H_2 Gn2 (fits_nar_byte _) Wn2 0 rfl (Nat.le_of_ble_eq_true rfl)
  have Un2 : Arv Z H2 b1 k1 .byte (1 : Int32) [(.int p1.toInt8.toInt32)] (.int (0 : Int32)) := (by have q := Vn2; rw [show p1.toInt8.toInt32.toInt8.toInt32 = p1.toInt8.toInt32 from own_narb p1] at q; exact q)
  have sz2 := Wn2.size
  have K2 := K1.wr Wn2 (Or.inr (by omega))
  have N2 := Fr.snoc X2 N0 (by omega)
  exact Wk.leave X2 (v := some (.ref b1)) (fun h => by rw [Bd.returns] at h; cases h) hlk e2 ⟨b1, k1, rfl, N2, K2, Un2, (by omega)⟩ (by decide) (by decide) (fun fs hr => retA X2 hx rfl Bd.returns rfl (hb hby d_jdk_43_m46_8) hr)
def Q_rmSI (Z : State) (a1 : Addr) (a2 : Addr) (p1 : Int32) (u1 : Value) (u2 : Value) (h0 : Heap) (n0 : Nat) (v : Option Value) (h : Heap) (L : List Loc) : Prop := v = none ∧ Fr n0 L ∧ Keep h0 h [a1] ∧ Exa Z h a1 "java/lang/String" ∧ Fld Z h a1 "java/lang/String" "value" "[B" (.ref a2) ∧ Fld Z h a1 "java/lang/String" "coder" "B" (.int p1)
theorem ef_rmSI (m : MethodId) (x0 : Addr) (x1 : Addr) (x2 : Int32) : entryFrame m #[(.ref x0), (.ref x1), (.int x2)] 3 = mkF m 0 #[.val (.ref x0), .val (.ref x1), .val (.int x2)] [] := by first | (simp [entryFrame, mkF, argsToLocals, Value.category]; done) | rfl
theorem pn_java_lang_String : plainName "java/lang/String" = true := by first | (simp [plainName, overriddenIn]; done) | decide +kernel
theorem d_jdk_42_m151_0 : decode jdk_42_method_151_code 0 = .ok (.aload_n 0, 1) := by decide +kernel
theorem d_jdk_42_m151_1 : decode jdk_42_method_151_code 1 = .ok (.invokespecial 1, 3) := by decide +kernel
theorem d_jdk_42_m151_4 : decode jdk_42_method_151_code 4 = .ok (.aload_n 0, 1) := by decide +kernel
theorem d_jdk_42_m151_5 : decode jdk_42_method_151_code 5 = .ok (.aload_n 1, 1) := by decide +kernel
theorem d_jdk_42_m151_6 : decode jdk_42_method_151_code 6 = .ok (.putfield 9, 3) := by decide +kernel
theorem d_jdk_42_m151_9 : decode jdk_42_method_151_code 9 = .ok (.aload_n 0, 1) := by decide +kernel
theorem d_jdk_42_m151_10 : decode jdk_42_method_151_code 10 = .ok (.iload_n 2, 1) := by decide +kernel
theorem d_jdk_42_m151_11 : decode jdk_42_method_151_code 11 = .ok (.putfield 15, 3) := by decide +kernel
theorem d_jdk_42_m151_14 : decode jdk_42_method_151_code 14 = .ok (.return_, 1) := by decide +kernel
set_option maxRecDepth 65536 in
set_option maxHeartbeats 40000000 in
theorem rmSI (l : Launch) (Z : State) (a0 : Array Value) (hw : ∀ d ∈ tables_1, d.before a0 Z = true) (ws : List Jvm.Cond) (a1 : Addr) (a2 : Addr) (p1 : Int32) (u1 : Value) (u2 : Value) (h0 : Heap) (n0 : Nat) (Z0 : n0 ≤ h0.size) (E1 : Exa Z h0 a1 "java/lang/String") (F1 : Fld Z h0 a1 "java/lang/String" "value" "[B" u1) (F2 : Fld Z h0 a1 "java/lang/String" "coder" "B" u2) (g1 : n0 ≤ a1) (hb1 : nar .byte p1 = p1) :
    MetFree l (⟨"java/lang/String", "<init>", "([BB)V"⟩ : MethodName) (head1 (Jvm.Cond.code (⟨"java/lang/String", "<init>", "([BB)V"⟩ : MethodName) jdk_42_method_151_code 3 none :: ws) ({ frames := 1, cells := 0, slots := 0, locals := 12 } : Room)) (fun a U => a = #[(.ref a1), (.ref a2), (.int p1)] ∧ Z.Warmed39 U.vm ∧ U.heap = h0) (fun _ _ _ _ _ => True) (fun _ U o U' => ∃ v L, o = .returned v ∧ Q_rmSI Z a1 a2 p1 u1 u2 h0 n0 v U'.heap L ∧ FrameEnd U o U' L ({ frames := 1, cells := 0, slots := 0, locals := 12 } : Room).cells ({ frames := 1, cells := 0, slots := 0, locals := 12 } : Room).slots) := by
  refine MetFree.of_bodySF (plainFor_of_name pn_java_lang_String) hisR ?_
  intro p e s m args below meth c s₁ Bd hml0 hP hK
  obtain ⟨rfl, hZ, hh⟩ := hP
  have hx := Bd.exec
  have hby := Bd.bytes
  have hlk := BodyLoose.notSynchronized Bd
  have hml : c.maxLocals = 3 := hml0
  have hown : s.vm.findClass "java/lang/String" = some m.cls := findClass_of_methodNamed Bd.named
  have hnm := (name_of_methodNamed Bd.named Bd.method).1
  have X0 : Stand p l e ({ frames := 1, cells := 0, slots := 0, locals := 12 } : Room) s m #[(.ref a1), (.ref a2), (.int p1)] below meth c s₁ [] 0 0 := Stand.of_body Bd
  have e0 : s₁.heap = h0 := by rw [← hh, Bd.state]; rfl
  have N0 := Fr.nil n0
  have K0 := Keep.refl h0 [a1]
  clear hh
  show Wk p e below s (Q_rmSI Z a1 a2 p1 u1 u2 h0 n0) ({ frames := 1, cells := 0, slots := 0, locals := 12 } : Room).cells ({ frames := 1, cells := 0, slots := 0, locals := 12 } : Room).slots s₁ (entryFrame m #[(.ref a1), (.ref a2), (.int p1)] 3)
  rw [ef_rmSI]
  have lt_E1 := ny E1.lt
  have lt_F1 := ny F1.lt
  have lt_F2 := ny F2.lt
  refine Wk.aloadN X0 hx (hb hby d_jdk_42_m151_0) (n := 1) rfl rfl rfl ?_
  refine Wk.initO X0 hx hZ hown (hw _ (List.mem_of_getElem? (i := 84) rfl)) (hw _ (List.mem_of_getElem? (i := 23) rfl)) (hw _ (List.mem_of_getElem? (i := 24) rfl)) e0 (by rw [hml]; rfl) (hb hby d_jdk_42_m151_1) (n := 4) rfl (by decide) (w := 0) (Nat.le_of_eq rfl) (by decide) fun T1 X1 e1 => ?_
  refine Wk.aloadN X1 hx (hb hby d_jdk_42_m151_4) (n := 5) rfl rfl rfl ?_
  refine Wk.aloadN X1 hx (hb hby d_jdk_42_m151_5) (n := 6) rfl rfl rfl ?_
  refine Wk.putF X1 hx hZ hown (host := "") (Or.inl (hw _ (List.mem_of_getElem? (i := 85) rfl))) Via.refl e1 F1 E1 (Or.inr ⟨(hw _ (List.mem_of_getElem? (i := 86) rfl)), rfl, hnm⟩) (hw _ (List.mem_of_getElem? (i := 75) rfl)) (ty := (.array .byte)) (by decide) rfl rfl (hb hby d_jdk_42_m151_6) (n := 9) rfl fun T2 H2 X2 e2 Wn2 => ?_
  have sz2 := Wn2.size
  have Fn2 := F1.same Wn2
  have K2 := K0.wr Wn2 (Or.inl (List.mem_of_getElem? (i := 0) rfl))
  have N2 := Fr.snoc X2 N0 (by omega)
  refine Wk.aloadN X2 hx (hb hby d_jdk_42_m151_9) (n := 10) rfl rfl rfl ?_
  refine Wk.iloadN X2 hx (hb hby d_jdk_42_m151_10) (n := 11) rfl rfl ?_
  have f3 := (F2.other Wn2 (Or.inr (slot_ne (Or.inr (hw _ (List.mem_of_getElem? (i := 88) rfl))) (Or.inr (hw _ (List.mem_of_getElem? (i := 86) rfl))) (by decide) (t := .byte) (t' := (.array .byte)) (by decide) (by decide))))
  have f4 := (E1.wr Wn2)
  refine Wk.putFN X2 hx hZ hown (hw _ (List.mem_of_getElem? (i := 87) rfl)) Via.refl e2 f3 f4 (Or.inr ⟨(hw _ (List.mem_of_getElem? (i := 88) rfl)), rfl, hnm⟩) (hw _ (List.mem_of_getElem? (i := 75) rfl)) (ty := .byte) (by decide) (v' := (.int p1)) (congrArg Value.int hb1) (own_fitb hb1) (hb hby d_jdk_42_m151_11) (n := 14) rfl fun T5 H5 X5 e5 Wn5 => ?_
  have sz5 := Wn5.size
  have Fn5 := f3.same Wn5
  have K5 := K2.wr Wn5 (Or.inl (List.mem_of_getElem? (i := 0) rfl))
  have N5 := Fr.snoc X5 N2 (by omega)
  have f6 := (f4.wr Wn5)
  have f7 := (Fn2.other Wn5 (Or.inr (slot_ne (Or.inr (hw _ (List.mem_of_getElem? (i := 86) rfl))) (Or.inr (hw _ (List.mem_of_getElem? (i := 88) rfl))) (by decide) (t := (.array .byte)) (t' := .byte) (by decide) (by decide))))
  exact Wk.leave X5 (v := none) (fun _ => rfl) hlk e5 ⟨rfl, N5, K5, f6, f7, Fn5⟩ (by decide) (by decide) (fun fs hr => X5.returnOut hx Bd.returns (hb hby d_jdk_42_m151_14) hr)
def Q_rmSVO (Z : State) (p1 : Int32) (zc : Int32) (h0 : Heap) (n0 : Nat) (v : Option Value) (h : Heap) (L : List Loc) : Prop := ∃ (r : Addr) (t : Addr) (kb : ClassId), v = some (.ref r) ∧ Fr n0 L ∧ Keep h0 h [] ∧ Exa Z h r "java/lang/String" ∧ Fld Z h r "java/lang/String" "value" "[B" (.ref t) ∧ Fld Z h r "java/lang/String" "coder" "B" (.int (0 : Int32)) ∧ Arv Z h t kb .byte (1 : Int32) [(.int p1.toInt8.toInt32)] (.int (0 : Int32)) ∧ (h0.size ≤ r) ∧ (h0.size ≤ t)
theorem ef_rmSVO (m : MethodId) (x0 : Int32) : entryFrame m #[(.int x0)] 1 = mkF m 0 #[.val (.int x0)] [] := by first | (simp [entryFrame, mkF, argsToLocals, Value.category]; done) | rfl
theorem d_jdk_42_m139_0 : decode jdk_42_method_139_code 0 = .ok (.getstatic 38, 3) := by decide +kernel
theorem d_jdk_42_m139_3 : decode jdk_42_method_139_code 3 = .ok (.ifCond .eq 23, 3) := by decide +kernel
theorem d_jdk_42_m139_6 : decode jdk_42_method_139_code 6 = .ok (.iload_n 0, 1) := by decide +kernel
theorem d_jdk_42_m139_7 : decode jdk_42_method_139_code 7 = .ok (.invokestatic 1015, 3) := by decide +kernel
theorem pd_6 : parseMethodDescriptor "(C)Z" = some ⟨[.char], some .boolean⟩ := by decide +kernel
theorem d_jdk_42_m139_10 : decode jdk_42_method_139_code 10 = .ok (.ifCond .eq 16, 3) := by decide +kernel
theorem d_jdk_42_m139_13 : decode jdk_42_method_139_code 13 = .ok (.new 10, 3) := by decide +kernel
theorem d_jdk_42_m139_16 : decode jdk_42_method_139_code 16 = .ok (.dup, 1) := by decide +kernel
theorem d_jdk_42_m139_17 : decode jdk_42_method_139_code 17 = .ok (.iload_n 0, 1) := by decide +kernel
theorem d_jdk_42_m139_18 : decode jdk_42_method_139_code 18 = .ok (.invokestatic 1018, 3) := by decide +kernel
theorem pd_7 : parseMethodDescriptor "(C)[B" = some ⟨[.char], some (.array .byte)⟩ := by decide +kernel
theorem d_jdk_42_m139_21 : decode jdk_42_method_139_code 21 = .ok (.iconst 0, 1) := by decide +kernel
theorem d_jdk_42_m139_22 : decode jdk_42_method_139_code 22 = .ok (.invokespecial 209, 3) := by decide +kernel
theorem pd_8 : parseMethodDescriptor "([BB)V" = some ⟨[(.array .byte), .byte], none⟩ := by decide +kernel
theorem d_jdk_42_m139_25 : decode jdk_42_method_139_code 25 = .ok (.areturn, 1) := by decide +kernel
set_option maxRecDepth 65536 in
set_option maxHeartbeats 40000000 in
theorem rmSVO (l : Launch) (Z : State) (a0 : Array Value) (hw : ∀ d ∈ tables_1, d.before a0 Z = true) (ws : List Jvm.Cond) (p1 : Int32) (zc : Int32) (h0 : Heap) (n0 : Nat) (Z0 : n0 ≤ h0.size) (S4 : Sta Z Z.heap "java/lang/String" "COMPACT_STRINGS" "Z" (.int zc)) (O1 : Old Z n0 h0) (hCS : ¬ zc = 0) (h1 : ¬ (255 : Int32) < p1) :
    MetFree l (⟨"java/lang/String", "valueOf", "(C)Ljava/lang/String;"⟩ : MethodName) (head1 (Jvm.Cond.code (⟨"java/lang/String", "valueOf", "(C)Ljava/lang/String;"⟩ : MethodName) jdk_42_method_139_code 1 (some (.object "java/lang/String")) :: ws) ({ frames := 2, cells := 2, slots := 5, locals := 27 } : Room)) (fun a U => a = #[(.int p1)] ∧ Z.Warmed39 U.vm ∧ U.heap = h0) (fun _ _ _ _ _ => True) (fun _ U o U' => ∃ v L, o = .returned v ∧ Q_rmSVO Z p1 zc h0 n0 v U'.heap L ∧ FrameEnd U o U' L ({ frames := 2, cells := 2, slots := 5, locals := 27 } : Room).cells ({ frames := 2, cells := 2, slots := 5, locals := 27 } : Room).slots) := by
  refine MetFree.of_bodySF (plainFor_of_name pn_java_lang_String) hisR ?_
  intro p e s m args below meth c s₁ Bd hml0 hP hK
  obtain ⟨rfl, hZ, hh⟩ := hP
  have hx := Bd.exec
  have hby := Bd.bytes
  have hlk := BodyLoose.notSynchronized Bd
  have hml : c.maxLocals = 1 := hml0
  have hown : s.vm.findClass "java/lang/String" = some m.cls := findClass_of_methodNamed Bd.named
  have hnm := (name_of_methodNamed Bd.named Bd.method).1
  have X0 : Stand p l e ({ frames := 2, cells := 2, slots := 5, locals := 27 } : Room) s m #[(.int p1)] below meth c s₁ [] 0 0 := Stand.of_body Bd
  have e0 : s₁.heap = h0 := by rw [← hh, Bd.state]; rfl
  have N0 := Fr.nil n0
  have K0 := Keep.refl h0 []
  clear hh
  show Wk p e below s (Q_rmSVO Z p1 zc h0 n0) ({ frames := 2, cells := 2, slots := 5, locals := 27 } : Room).cells ({ frames := 2, cells := 2, slots := 5, locals := 27 } : Room).slots s₁ (entryFrame m #[(.int p1)] 1)
  rw [ef_rmSVO]
  refine Wk.getS X0 hx hZ hown (host := "") (Or.inl (hw _ (List.mem_of_getElem? (i := 69) rfl))) Via.refl e0 (Sta.ext O1.2 S4) (hb hby d_jdk_42_m139_0) (n := 3) rfl fun T1 X1 e1 => ?_
  have hc3_2 : ¬ (zc = (0 : Int32)) := hCS
  refine Wk.ifNo X1 hx (hb hby d_jdk_42_m139_3) (n := 6) rfl ((if0 _ _).trans (feq hc3_2).1) ?_
  refine Wk.iloadN X1 hx (hb hby d_jdk_42_m139_6) (n := 7) rfl rfl ?_
  have cl3_ := fun (Ls : Array Slot) (hLs : Ls.size = c.maxLocals) => Jvm.LawKit.callS X1 hx (y := (⟨"java/lang/StringLatin1", "canEncode", "(C)Z"⟩ : MethodName)) hown (mvT hZ (hw _ (List.mem_of_getElem? (i := 70) rfl))) (mvT hZ (hw _ (List.mem_of_getElem? (i := 71) rfl))) (mvT hZ (hw _ (List.mem_of_getElem? (i := 72) rfl))) (mvT hZ (hw _ (List.mem_of_getElem? (i := 73) rfl))) (by decide) (backOf (W := 0) (rmCE l Z a0 hw [] p1 h0 n0 (by omega) h1) hZ (hw _ (List.mem_of_getElem? (i := 73) rfl)) (hw _ (List.mem_of_getElem? (i := 72) rfl)) (by decide) (by decide)) (g := mkF m 7 Ls [(.int p1)]) rfl hLs (argsL := [(.int p1)]) (rest := []) (lenOf pd_6 rfl) rfl (by show 2 * 0 + _ ≤ _; exact Nat.le_of_eq rfl) (hb hby d_jdk_42_m139_7) (fun _ _ => ⟨rfl, e1, (by decide : 0 + 0 ≤ _), (by decide : 0 + 0 ≤ _)⟩)
  refine Wk.backS (n := 10) (rc := 0) (rs := 0) (Q := Q_rmCE Z p1 h0 n0) (cl3_ _ (by rw [hml]; rfl)) fun vn3 T3 L3 X3 hQ3 => ?_
  clear cl3_
  obtain ⟨rfl, M3, e3⟩ := hQ3
  have N3 := Fr.app N0 M3
  show Wk p e below s _ _ _ T3 (mkF m 10 _ [(.int (1 : Int32))])
  have hc10_4 : ¬ ((1 : Int32) = (0 : Int32)) := by decide
  refine Wk.ifNo X3 hx (hb hby d_jdk_42_m139_10) (n := 13) rfl ((if0 _ _).trans (feq hc10_4).1) ?_
  refine Wk.newO X3 hx hZ hown (hw _ (List.mem_of_getElem? (i := 74) rfl)) (hw _ (List.mem_of_getElem? (i := 75) rfl)) (hw _ (List.mem_of_getElem? (i := 67) rfl)) e3 (hb hby d_jdk_42_m139_13) (n := 16) rfl (by decide) (by decide) fun T5 H5 b5 gn5 X5 e5 Ex5 An5 Dn5 Yn5 => ?_
  have gn5 := nx gn5
  have sz5 := Ex5.1
  have lt5 := ny An5.lt
  have K5 := K0.ext Ex5
  have Fn5_value : Fld Z H5 b5 "java/lang/String" "value" "[B" .null := Dn5 (Or.inr (hw _ (List.mem_of_getElem? (i := 86) rfl))) (ty := (.array .byte)) (by decide)
  have Fn5_coder : Fld Z H5 b5 "java/lang/String" "coder" "B" (.int (0 : Int32)) := Dn5 (Or.inr (hw _ (List.mem_of_getElem? (i := 88) rfl))) (ty := .byte) (by decide)
  refine Wk.dup X5 hx (hb hby d_jdk_42_m139_16) (n := 17) rfl rfl ?_
  refine Wk.iloadN X5 hx (hb hby d_jdk_42_m139_17) (n := 18) rfl rfl ?_
  have cl6_ := fun (Ls : Array Slot) (hLs : Ls.size = c.maxLocals) => Jvm.LawKit.callS X5 hx (y := (⟨"java/lang/StringLatin1", "toBytes", "(C)[B"⟩ : MethodName)) hown (mvT hZ (hw _ (List.mem_of_getElem? (i := 76) rfl))) (mvT hZ (hw _ (List.mem_of_getElem? (i := 77) rfl))) (mvT hZ (hw _ (List.mem_of_getElem? (i := 72) rfl))) (mvT hZ (hw _ (List.mem_of_getElem? (i := 78) rfl))) (by decide) (backOf (W := 2) (rmTB l Z a0 hw [] p1 H5 n0 (by omega)) hZ (hw _ (List.mem_of_getElem? (i := 78) rfl)) (hw _ (List.mem_of_getElem? (i := 72) rfl)) (by decide) (by decide)) (g := mkF m 18 Ls [(.int p1), (.ref b5), (.ref b5)]) rfl hLs (argsL := [(.int p1)]) (rest := [(.ref b5), (.ref b5)]) (lenOf pd_7 rfl) rfl (by show 2 * 0 + _ ≤ _; exact Nat.le_of_eq rfl) (hb hby d_jdk_42_m139_18) (fun _ _ => ⟨rfl, e5, (by decide : 0 + 0 + 1 + 1 ≤ _), (by decide : 0 + 0 + 4 + 1 ≤ _)⟩)
  refine Wk.backS (n := 21) (rc := 1) (rs := 1) (Q := Q_rmTB Z p1 H5 n0) (cl6_ _ (by rw [hml]; rfl)) fun vn6 T6 L6 X6 hQ6 => ?_
  clear cl6_
  obtain ⟨t_6, kb_6, rfl, M6, J6, p6_0, gt_6⟩ := hQ6
  have N6 := Fr.app N3 M6
  have sz6 := J6.1
  have K6 := K5.trans J6 (fun x hx => nomatch hx)
  have lt_p6_0 := ny p6_0.lt
  show Wk p e below s _ _ _ T6 (mkF m 21 _ [(.ref t_6), (.ref b5), (.ref b5)])
  refine Wk.iconst X6 hx (hb hby d_jdk_42_m139_21) (n := 22) rfl (z := (0 : Int32)) rfl ?_
  have f7 := (An5.keep J6)
  have f8 := (Fn5_value.keep J6 nin0)
  have f9 := (Fn5_coder.keep J6 nin0)
  have cl10_ := fun (Ls : Array Slot) (hLs : Ls.size = c.maxLocals) => X6.specialBack hx (y := (⟨"java/lang/String", "<init>", "([BB)V"⟩ : MethodName)) rfl hown (mvT hZ (hw _ (List.mem_of_getElem? (i := 80) rfl))) (mvT hZ (hw _ (List.mem_of_getElem? (i := 81) rfl))) (mvT hZ (hw _ (List.mem_of_getElem? (i := 83) rfl))) (by decide) (backOf (W := 1) (rmSI l Z a0 hw [] b5 t_6 (0 : Int32) .null (.int (0 : Int32)) T6.heap n0 (by omega) f7 f8 f9 (by omega) rfl) hZ (hw _ (List.mem_of_getElem? (i := 83) rfl)) (hw _ (List.mem_of_getElem? (i := 67) rfl)) (by decide) (by decide)) (g := mkF m 22 Ls [(.int (0 : Int32)), (.ref t_6), (.ref b5), (.ref b5)]) rfl hLs (Steps.refl _) (a := b5) (argsL := [(.ref t_6), (.int (0 : Int32))]) (rest := [(.ref b5)]) (lenOf pd_8 rfl) rfl (by show 2 * 0 + _ ≤ _; exact Nat.le_of_eq rfl) (hb hby d_jdk_42_m139_22) (fun _ _ => ⟨rfl, rfl, (by decide : 0 + 0 + 1 + 1 + 0 ≤ _), (by decide : 0 + 0 + 4 + 1 + 0 ≤ _)⟩)
  refine Wk.back (n := 25) (rc := 0) (rs := 0) (Q := Q_rmSI Z b5 t_6 (0 : Int32) .null (.int (0 : Int32)) T6.heap n0) (cl10_ _ (by rw [hml]; rfl)) fun vn10 T10 L10 X10 hQ10 => ?_
  clear cl10_
  obtain ⟨rfl, M10, J10, p10_0, p10_1, p10_2⟩ := hQ10
  have N10 := Fr.app N6 M10
  have sz10 := J10.1
  have K10 := K6.trans J10 (allS (Or.inr (by omega)) all0)
  have lt_p10_0 := ny p10_0.lt
  show Wk p e below s _ _ _ T10 (mkF m 25 _ [(.ref b5)])
  have f11 := (p6_0.keep J10 (ninS (nz (by omega)) nin0))
  exact Wk.leave X10 (v := some (.ref b5)) (fun h => by rw [Bd.returns] at h; cases h) hlk rfl ⟨b5, t_6, kb_6, rfl, N10, K10, p10_0, p10_1, p10_2, f11, (by omega), (by omega)⟩ (by decide) (by decide) (fun fs hr => retA X10 hx rfl Bd.returns rfl (hb hby d_jdk_42_m139_25) hr)
def Q_rmIE (Z : State) (a1 : Addr) (p1 : Int32) (h0 : Heap) (n0 : Nat) (v : Option Value) (h : Heap) (L : List Loc) : Prop := v = some (.int (0 : Int32)) ∧ Fr n0 L ∧ h = h0
theorem ef_rmIE (m : MethodId) (x0 : Addr) : entryFrame m #[(.ref x0)] 1 = mkF m 0 #[.val (.ref x0)] [] := by first | (simp [entryFrame, mkF, argsToLocals, Value.category]; done) | rfl
theorem d_jdk_38_m9_0 : decode jdk_38_method_9_code 0 = .ok (.aload_n 0, 1) := by decide +kernel
theorem d_jdk_38_m9_1 : decode jdk_38_method_9_code 1 = .ok (.getfield 48, 3) := by decide +kernel
theorem d_jdk_38_m9_4 : decode jdk_38_method_9_code 4 = .ok (.ifCond .ne 7, 3) := by decide +kernel
theorem d_jdk_38_m9_11 : decode jdk_38_method_9_code 11 = .ok (.iconst 0, 1) := by decide +kernel
theorem d_jdk_38_m9_12 : decode jdk_38_method_9_code 12 = .ok (.ireturn, 1) := by decide +kernel
set_option maxRecDepth 65536 in
set_option maxHeartbeats 40000000 in
theorem rmIE (l : Launch) (Z : State) (a0 : Array Value) (hw : ∀ d ∈ tables_1, d.before a0 Z = true) (ws : List Jvm.Cond) (a1 : Addr) (p1 : Int32) (h0 : Heap) (n0 : Nat) (Z0 : n0 ≤ h0.size) (F3 : Fld Z h0 a1 "java/util/ArrayList" "size" "I" (.int p1)) (h1 : ¬ p1 = (0 : Int32)) :
    MetFree l (⟨"java/util/ArrayList", "isEmpty", "()Z"⟩ : MethodName) (head1 (Jvm.Cond.code (⟨"java/util/ArrayList", "isEmpty", "()Z"⟩ : MethodName) jdk_38_method_9_code 1 (some .boolean) :: ws) ({ frames := 0, cells := 0, slots := 0, locals := 0 } : Room)) (fun a U => a = #[(.ref a1)] ∧ Z.Warmed39 U.vm ∧ U.heap = h0) (fun _ _ _ _ _ => True) (fun _ U o U' => ∃ v L, o = .returned v ∧ Q_rmIE Z a1 p1 h0 n0 v U'.heap L ∧ FrameEnd U o U' L ({ frames := 0, cells := 0, slots := 0, locals := 0 } : Room).cells ({ frames := 0, cells := 0, slots := 0, locals := 0 } : Room).slots) := by
  refine MetFree.of_bodySF (plainFor_of_name pn_java_util_ArrayList) hisR ?_
  intro p e s m args below meth c s₁ Bd hml0 hP hK
  obtain ⟨rfl, hZ, hh⟩ := hP
  have hx := Bd.exec
  have hby := Bd.bytes
  have hlk := BodyLoose.notSynchronized Bd
  have hml : c.maxLocals = 1 := hml0
  have hown : s.vm.findClass "java/util/ArrayList" = some m.cls := findClass_of_methodNamed Bd.named
  have hnm := (name_of_methodNamed Bd.named Bd.method).1
  have X0 : Stand p l e ({ frames := 0, cells := 0, slots := 0, locals := 0 } : Room) s m #[(.ref a1)] below meth c s₁ [] 0 0 := Stand.of_body Bd
  have e0 : s₁.heap = h0 := by rw [← hh, Bd.state]; rfl
  have N0 := Fr.nil n0
  have K0 := Keep.refl h0 []
  clear hh
  show Wk p e below s (Q_rmIE Z a1 p1 h0 n0) ({ frames := 0, cells := 0, slots := 0, locals := 0 } : Room).cells ({ frames := 0, cells := 0, slots := 0, locals := 0 } : Room).slots s₁ (entryFrame m #[(.ref a1)] 1)
  rw [ef_rmIE]
  have lt_F3 := ny F3.lt
  refine Wk.aloadN X0 hx (hb hby d_jdk_38_m9_0) (n := 1) rfl rfl rfl ?_
  refine Wk.getF X0 hx hZ hown (host := "") (Or.inl (hw _ (List.mem_of_getElem? (i := 44) rfl))) Via.refl e0 F3 (hb hby d_jdk_38_m9_1) (n := 4) rfl fun T1 X1 e1 => ?_
  have hc4_2 : ¬ (p1 = (0 : Int32)) := h1
  refine Wk.ifYes X1 hx (hb hby d_jdk_38_m9_4) ((if0 _ _).trans (feq hc4_2).2) (by decide) (n := 11) (by decide) ?_
  refine Wk.iconst X1 hx (hb hby d_jdk_38_m9_11) (n := 12) rfl (z := (0 : Int32)) rfl ?_
  exact Wk.leave X1 (v := some (.int (0 : Int32))) (fun h => by rw [Bd.returns] at h; cases h) hlk e1 ⟨rfl, N0, rfl⟩ (by decide) (by decide) (fun fs hr => retNz X1 hx (t := .boolean) rfl Bd.returns (by simp) (hb hby d_jdk_38_m9_12) hr)
def Q_rmSz (Z : State) (a1 : Addr) (p1 : Int32) (h0 : Heap) (n0 : Nat) (v : Option Value) (h : Heap) (L : List Loc) : Prop := v = some (.int p1) ∧ Fr n0 L ∧ h = h0
theorem ef_rmSz (m : MethodId) (x0 : Addr) : entryFrame m #[(.ref x0)] 1 = mkF m 0 #[.val (.ref x0)] [] := by first | (simp [entryFrame, mkF, argsToLocals, Value.category]; done) | rfl
theorem d_jdk_38_m8_0 : decode jdk_38_method_8_code 0 = .ok (.aload_n 0, 1) := by decide +kernel
theorem d_jdk_38_m8_1 : decode jdk_38_method_8_code 1 = .ok (.getfield 48, 3) := by decide +kernel
theorem d_jdk_38_m8_4 : decode jdk_38_method_8_code 4 = .ok (.ireturn, 1) := by decide +kernel
set_option maxRecDepth 65536 in
set_option maxHeartbeats 40000000 in
theorem rmSz (l : Launch) (Z : State) (a0 : Array Value) (hw : ∀ d ∈ tables_1, d.before a0 Z = true) (ws : List Jvm.Cond) (a1 : Addr) (p1 : Int32) (h0 : Heap) (n0 : Nat) (Z0 : n0 ≤ h0.size) (F3 : Fld Z h0 a1 "java/util/ArrayList" "size" "I" (.int p1)) :
    MetFree l (⟨"java/util/ArrayList", "size", "()I"⟩ : MethodName) (head1 (Jvm.Cond.code (⟨"java/util/ArrayList", "size", "()I"⟩ : MethodName) jdk_38_method_8_code 1 (some .int) :: ws) ({ frames := 0, cells := 0, slots := 0, locals := 0 } : Room)) (fun a U => a = #[(.ref a1)] ∧ Z.Warmed39 U.vm ∧ U.heap = h0) (fun _ _ _ _ _ => True) (fun _ U o U' => ∃ v L, o = .returned v ∧ Q_rmSz Z a1 p1 h0 n0 v U'.heap L ∧ FrameEnd U o U' L ({ frames := 0, cells := 0, slots := 0, locals := 0 } : Room).cells ({ frames := 0, cells := 0, slots := 0, locals := 0 } : Room).slots) := by
  refine MetFree.of_bodySF (plainFor_of_name pn_java_util_ArrayList) hisR ?_
  intro p e s m args below meth c s₁ Bd hml0 hP hK
  obtain ⟨rfl, hZ, hh⟩ := hP
  have hx := Bd.exec
  have hby := Bd.bytes
  have hlk := BodyLoose.notSynchronized Bd
  have hml : c.maxLocals = 1 := hml0
  have hown : s.vm.findClass "java/util/ArrayList" = some m.cls := findClass_of_methodNamed Bd.named
  have hnm := (name_of_methodNamed Bd.named Bd.method).1
  have X0 : Stand p l e ({ frames := 0, cells := 0, slots := 0, locals := 0 } : Room) s m #[(.ref a1)] below meth c s₁ [] 0 0 := Stand.of_body Bd
  have e0 : s₁.heap = h0 := by rw [← hh, Bd.state]; rfl
  have N0 := Fr.nil n0
  have K0 := Keep.refl h0 []
  clear hh
  show Wk p e below s (Q_rmSz Z a1 p1 h0 n0) ({ frames := 0, cells := 0, slots := 0, locals := 0 } : Room).cells ({ frames := 0, cells := 0, slots := 0, locals := 0 } : Room).slots s₁ (entryFrame m #[(.ref a1)] 1)
  rw [ef_rmSz]
  have lt_F3 := ny F3.lt
  refine Wk.aloadN X0 hx (hb hby d_jdk_38_m8_0) (n := 1) rfl rfl rfl ?_
  refine Wk.getF X0 hx hZ hown (host := "") (Or.inl (hw _ (List.mem_of_getElem? (i := 44) rfl))) Via.refl e0 F3 (hb hby d_jdk_38_m8_1) (n := 4) rfl fun T1 X1 e1 => ?_
  exact Wk.leave X1 (v := some (.int p1)) (fun h => by rw [Bd.returns] at h; cases h) hlk e1 ⟨rfl, N0, rfl⟩ (by decide) (by decide) (fun fs hr => retI X1 hx Bd.returns (hb hby d_jdk_38_m8_4) hr)
def Q_rmNL (Z : State) (a0s : Addr) (a1 : Addr) (p2 : Int32) (p1 : Int32) (h0 : Heap) (n0 : Nat) (v : Option Value) (h : Heap) (L : List Loc) : Prop := v = some (.ref a1) ∧ Fr n0 L ∧ h = h0
theorem ef_rmNL (m : MethodId) (x0 : Addr) (x1 : Addr) (x2 : Int32) : entryFrame m #[(.ref x0), (.ref x1), (.int x2)] 3 = mkF m 0 #[.val (.ref x0), .val (.ref x1), .val (.int x2)] [] := by first | (simp [entryFrame, mkF, argsToLocals, Value.category]; done) | rfl
theorem pn_com_example_strict_stock_strictstock_Names : plainName "com/example/strict_stock/strictstock/Names" = true := by first | (simp [plainName, overriddenIn]; done) | decide +kernel
theorem d_prog_12_m7_0 : decode prog_12_method_7_code 0 = .ok (.aload_n 1, 1) := by decide +kernel
theorem d_prog_12_m7_1 : decode prog_12_method_7_code 1 = .ok (.ifnonnull 8, 3) := by decide +kernel
theorem d_prog_12_m7_9 : decode prog_12_method_7_code 9 = .ok (.aload_n 1, 1) := by decide +kernel
theorem d_prog_12_m7_10 : decode prog_12_method_7_code 10 = .ok (.invokeinterface 48 1, 5) := by decide +kernel
theorem pd_9 : parseMethodDescriptor "()Z" = some ⟨[], some .boolean⟩ := by decide +kernel
theorem d_prog_12_m7_15 : decode prog_12_method_7_code 15 = .ok (.ifCond .ne 13, 3) := by decide +kernel
theorem d_prog_12_m7_18 : decode prog_12_method_7_code 18 = .ok (.aload_n 1, 1) := by decide +kernel
theorem d_prog_12_m7_19 : decode prog_12_method_7_code 19 = .ok (.invokeinterface 54 1, 5) := by decide +kernel
theorem pd_10 : parseMethodDescriptor "()I" = some ⟨[], some .int⟩ := by decide +kernel
theorem d_prog_12_m7_24 : decode prog_12_method_7_code 24 = .ok (.iload_n 2, 1) := by decide +kernel
theorem d_prog_12_m7_25 : decode prog_12_method_7_code 25 = .ok (.if_icmp .le 24, 3) := by decide +kernel
theorem d_prog_12_m7_49 : decode prog_12_method_7_code 49 = .ok (.aload_n 1, 1) := by decide +kernel
theorem d_prog_12_m7_50 : decode prog_12_method_7_code 50 = .ok (.areturn, 1) := by decide +kernel
set_option maxRecDepth 65536 in
set_option maxHeartbeats 40000000 in
theorem rmNL (l : Launch) (Z : State) (a0 : Array Value) (hw : ∀ d ∈ tables_1, d.before a0 Z = true) (ws : List Jvm.Cond) (a0s : Addr) (a1 : Addr) (p2 : Int32) (p1 : Int32) (h0 : Heap) (n0 : Nat) (Z0 : n0 ≤ h0.size) (E1 : Exa Z h0 a1 "java/util/ArrayList") (F3 : Fld Z h0 a1 "java/util/ArrayList" "size" "I" (.int p1)) (h1 : ¬ p1 = (0 : Int32)) (h2 : ¬ p2 < p1) :
    MetFree l (⟨"com/example/strict_stock/strictstock/Names", "list", "(Ljava/lang/String;Ljava/util/List;I)Ljava/util/List;"⟩ : MethodName) (head1 (Jvm.Cond.code (⟨"com/example/strict_stock/strictstock/Names", "list", "(Ljava/lang/String;Ljava/util/List;I)Ljava/util/List;"⟩ : MethodName) prog_12_method_7_code 3 (some (.object "java/util/List")) :: ws) ({ frames := 1, cells := 0, slots := 0, locals := 12 } : Room)) (fun a U => a = #[(.ref a0s), (.ref a1), (.int p2)] ∧ Z.Warmed39 U.vm ∧ U.heap = h0) (fun _ _ _ _ _ => True) (fun _ U o U' => ∃ v L, o = .returned v ∧ Q_rmNL Z a0s a1 p2 p1 h0 n0 v U'.heap L ∧ FrameEnd U o U' L ({ frames := 1, cells := 0, slots := 0, locals := 12 } : Room).cells ({ frames := 1, cells := 0, slots := 0, locals := 12 } : Room).slots) := by
  refine MetFree.of_bodySF (plainFor_of_name pn_com_example_strict_stock_strictstock_Names) hisR ?_
  intro p e s m args below meth c s₁ Bd hml0 hP hK
  obtain ⟨rfl, hZ, hh⟩ := hP
  have hx := Bd.exec
  have hby := Bd.bytes
  have hlk := BodyLoose.notSynchronized Bd
  have hml : c.maxLocals = 3 := hml0
  have hown : s.vm.findClass "com/example/strict_stock/strictstock/Names" = some m.cls := findClass_of_methodNamed Bd.named
  have hnm := (name_of_methodNamed Bd.named Bd.method).1
  have X0 : Stand p l e ({ frames := 1, cells := 0, slots := 0, locals := 12 } : Room) s m #[(.ref a0s), (.ref a1), (.int p2)] below meth c s₁ [] 0 0 := Stand.of_body Bd
  have e0 : s₁.heap = h0 := by rw [← hh, Bd.state]; rfl
  have N0 := Fr.nil n0
  have K0 := Keep.refl h0 []
  clear hh
  show Wk p e below s (Q_rmNL Z a0s a1 p2 p1 h0 n0) ({ frames := 1, cells := 0, slots := 0, locals := 12 } : Room).cells ({ frames := 1, cells := 0, slots := 0, locals := 12 } : Room).slots s₁ (entryFrame m #[(.ref a0s), (.ref a1), (.int p2)] 3)
  rw [ef_rmNL]
  have lt_E1 := ny E1.lt
  have lt_F3 := ny F3.lt
  refine Wk.aloadN X0 hx (hb hby d_prog_12_m7_0) (n := 1) rfl rfl rfl ?_
  refine Wk.ifnonnullYes X0 hx (hb hby d_prog_12_m7_1) (by decide) (n := 9) (by decide) ?_
  refine Wk.aloadN X0 hx (hb hby d_prog_12_m7_9) (n := 10) rfl rfl rfl ?_
  obtain ⟨cq1, kq1, qn1a, qn1b, qn1c⟩ := isOf hZ e0 E1
  have cl1_ := fun (Ls : Array Slot) (hLs : Ls.size = c.maxLocals) => X0.interfaceBack hx (xi := (⟨"java/util/List", "isEmpty", "()Z"⟩ : MethodName)) (y := (⟨"java/util/ArrayList", "isEmpty", "()Z"⟩ : MethodName)) hown (mvT hZ (hw _ (List.mem_of_getElem? (i := 93) rfl))) (mvT hZ (hw _ (List.mem_of_getElem? (i := 94) rfl))) (mvT hZ (hw _ (List.mem_of_getElem? (i := 95) rfl))) (mvT hZ (hw _ (List.mem_of_getElem? (i := 96) rfl))) (mvT hZ (hw _ (List.mem_of_getElem? (i := 97) rfl))) (mvT hZ (hw _ (List.mem_of_getElem? (i := 98) rfl))) (mvT hZ (hw _ (List.mem_of_getElem? (i := 99) rfl))) (mvT hZ (hw _ (List.mem_of_getElem? (i := 100) rfl))) (by decide) (backOf (W := 0) (rmIE l Z a0 hw [] a1 p1 h0 n0 (by omega) F3 h1) hZ (hw _ (List.mem_of_getElem? (i := 101) rfl)) (hw _ (List.mem_of_getElem? (i := 6) rfl)) (by decide) (by decide)) qn1a qn1b qn1c (g := mkF m 10 Ls [(.ref a1)]) rfl hLs (Steps.refl _) (argsL := []) (rest := []) (lenOf pd_9 rfl) rfl (by show 2 * 0 + _ ≤ _; exact Nat.le_of_eq rfl) (hb hby d_prog_12_m7_10) (fun _ _ => ⟨rfl, e0, (by decide : 0 + 0 ≤ _), (by decide : 0 + 0 ≤ _)⟩)
  refine Wk.back (n := 15) (rc := 0) (rs := 0) (Q := Q_rmIE Z a1 p1 h0 n0) (cl1_ _ (by rw [hml]; rfl)) fun vn1 T1 L1 X1 hQ1 => ?_
  clear cl1_
  obtain ⟨rfl, M1, e1⟩ := hQ1
  have N1 := Fr.app N0 M1
  show Wk p e below s _ _ _ T1 (mkF m 15 _ [(.int (0 : Int32))])
  have hc15_2 : (0 : Int32) = (0 : Int32) := rfl
  refine Wk.ifNo X1 hx (hb hby d_prog_12_m7_15) (n := 18) rfl ((if0 _ _).trans (teq hc15_2).2) ?_
  refine Wk.aloadN X1 hx (hb hby d_prog_12_m7_18) (n := 19) rfl rfl rfl ?_
  obtain ⟨cq3, kq3, qn3a, qn3b, qn3c⟩ := isOf hZ e1 E1
  have cl3_ := fun (Ls : Array Slot) (hLs : Ls.size = c.maxLocals) => X1.interfaceBack hx (xi := (⟨"java/util/List", "size", "()I"⟩ : MethodName)) (y := (⟨"java/util/ArrayList", "size", "()I"⟩ : MethodName)) hown (mvT hZ (hw _ (List.mem_of_getElem? (i := 102) rfl))) (mvT hZ (hw _ (List.mem_of_getElem? (i := 103) rfl))) (mvT hZ (hw _ (List.mem_of_getElem? (i := 104) rfl))) (mvT hZ (hw _ (List.mem_of_getElem? (i := 105) rfl))) (mvT hZ (hw _ (List.mem_of_getElem? (i := 106) rfl))) (mvT hZ (hw _ (List.mem_of_getElem? (i := 107) rfl))) (mvT hZ (hw _ (List.mem_of_getElem? (i := 108) rfl))) (mvT hZ (hw _ (List.mem_of_getElem? (i := 100) rfl))) (by decide) (backOf (W := 0) (rmSz l Z a0 hw [] a1 p1 h0 n0 (by omega) F3) hZ (hw _ (List.mem_of_getElem? (i := 109) rfl)) (hw _ (List.mem_of_getElem? (i := 6) rfl)) (by decide) (by decide)) qn3a qn3b qn3c (g := mkF m 19 Ls [(.ref a1)]) rfl hLs (Steps.refl _) (argsL := []) (rest := []) (lenOf pd_10 rfl) rfl (by show 2 * 0 + _ ≤ _; exact Nat.le_of_eq rfl) (hb hby d_prog_12_m7_19) (fun _ _ => ⟨rfl, e1, (by decide : 0 + 0 + 0 ≤ _), (by decide : 0 + 0 + 0 ≤ _)⟩)
  refine Wk.back (n := 24) (rc := 0) (rs := 0) (Q := Q_rmSz Z a1 p1 h0 n0) (cl3_ _ (by rw [hml]; rfl)) fun vn3 T3 L3 X3 hQ3 => ?_
  clear cl3_
  obtain ⟨rfl, M3, e3⟩ := hQ3
  have N3 := Fr.app N1 M3
  show Wk p e below s _ _ _ T3 (mkF m 24 _ [(.int p1)])
  refine Wk.iloadN X3 hx (hb hby d_prog_12_m7_24) (n := 25) rfl rfl ?_
  have hc25_4 : ¬ (p2 < p1) := h2
  refine Wk.icmpYes X3 hx (hb hby d_prog_12_m7_25) (flt hc25_4).2.2.2 (by decide) (n := 49) (by decide) ?_
  refine Wk.aloadN X3 hx (hb hby d_prog_12_m7_49) (n := 50) rfl rfl rfl ?_
  exact Wk.leave X3 (v := some (.ref a1)) (fun h => by rw [Bd.returns] at h; cases h) hlk e3 ⟨rfl, N3, rfl⟩ (by decide) (by decide) (fun fs hr => retA X3 hx rfl Bd.returns rfl (hb hby d_prog_12_m7_50) hr)
def Q_rmPC (Z : State) (p1 : Int32) (p2 : Int32) (h0 : Heap) (n0 : Nat) (v : Option Value) (h : Heap) (L : List Loc) : Prop := v = some (.int p1) ∧ Fr n0 L ∧ h = h0
theorem ef_rmPC (m : MethodId) (x0 : Int32) (x1 : Int32) : entryFrame m #[(.int x0), (.int x1), .null] 3 = mkF m 0 #[.val (.int x0), .val (.int x1), .val .null] [] := by first | (simp [entryFrame, mkF, argsToLocals, Value.category]; done) | rfl
theorem pn_jdk_internal_util_Preconditions : plainName "jdk/internal/util/Preconditions" = true := by first | (simp [plainName, overriddenIn]; done) | decide +kernel
theorem d_jdk_41_m11_0 : decode jdk_41_method_11_code 0 = .ok (.iload_n 0, 1) := by decide +kernel
theorem d_jdk_41_m11_1 : decode jdk_41_method_11_code 1 = .ok (.ifCond .lt 8, 3) := by decide +kernel
theorem d_jdk_41_m11_4 : decode jdk_41_method_11_code 4 = .ok (.iload_n 0, 1) := by decide +kernel
theorem d_jdk_41_m11_5 : decode jdk_41_method_11_code 5 = .ok (.iload_n 1, 1) := by decide +kernel
theorem d_jdk_41_m11_6 : decode jdk_41_method_11_code 6 = .ok (.if_icmp .lt 10, 3) := by decide +kernel
theorem d_jdk_41_m11_16 : decode jdk_41_method_11_code 16 = .ok (.iload_n 0, 1) := by decide +kernel
theorem d_jdk_41_m11_17 : decode jdk_41_method_11_code 17 = .ok (.ireturn, 1) := by decide +kernel
set_option maxRecDepth 65536 in
set_option maxHeartbeats 40000000 in
theorem rmPC (l : Launch) (Z : State) (a0 : Array Value) (hw : ∀ d ∈ tables_1, d.before a0 Z = true) (ws : List Jvm.Cond) (p1 : Int32) (p2 : Int32) (h0 : Heap) (n0 : Nat) (Z0 : n0 ≤ h0.size) (h1 : ¬ p1 < (0 : Int32)) (h2 : p1 < p2) :
    MetFree l (⟨"jdk/internal/util/Preconditions", "checkIndex", "(IILjava/util/function/BiFunction;)I"⟩ : MethodName) (head1 (Jvm.Cond.code (⟨"jdk/internal/util/Preconditions", "checkIndex", "(IILjava/util/function/BiFunction;)I"⟩ : MethodName) jdk_41_method_11_code 3 (some .int) :: ws) ({ frames := 0, cells := 0, slots := 0, locals := 0 } : Room)) (fun a U => a = #[(.int p1), (.int p2), .null] ∧ Z.Warmed39 U.vm ∧ U.heap = h0) (fun _ _ _ _ _ => True) (fun _ U o U' => ∃ v L, o = .returned v ∧ Q_rmPC Z p1 p2 h0 n0 v U'.heap L ∧ FrameEnd U o U' L ({ frames := 0, cells := 0, slots := 0, locals := 0 } : Room).cells ({ frames := 0, cells := 0, slots := 0, locals := 0 } : Room).slots) := by
  refine MetFree.of_bodySF (plainFor_of_name pn_jdk_internal_util_Preconditions) hisR ?_
  intro p e s m args below meth c s₁ Bd hml0 hP hK
  obtain ⟨rfl, hZ, hh⟩ := hP
  have hx := Bd.exec
  have hby := Bd.bytes
  have hlk := BodyLoose.notSynchronized Bd
  have hml : c.maxLocals = 3 := hml0
  have hown : s.vm.findClass "jdk/internal/util/Preconditions" = some m.cls := findClass_of_methodNamed Bd.named
  have hnm := (name_of_methodNamed Bd.named Bd.method).1
  have X0 : Stand p l e ({ frames := 0, cells := 0, slots := 0, locals := 0 } : Room) s m #[(.int p1), (.int p2), .null] below meth c s₁ [] 0 0 := Stand.of_body Bd
  have e0 : s₁.heap = h0 := by rw [← hh, Bd.state]; rfl
  have N0 := Fr.nil n0
  have K0 := Keep.refl h0 []
  clear hh
  show Wk p e below s (Q_rmPC Z p1 p2 h0 n0) ({ frames := 0, cells := 0, slots := 0, locals := 0 } : Room).cells ({ frames := 0, cells := 0, slots := 0, locals := 0 } : Room).slots s₁ (entryFrame m #[(.int p1), (.int p2), .null] 3)
  rw [ef_rmPC]
  refine Wk.iloadN X0 hx (hb hby d_jdk_41_m11_0) (n := 1) rfl rfl ?_
  have hc1_1 : ¬ (p1 < (0 : Int32)) := h1
  refine Wk.ifNo X0 hx (hb hby d_jdk_41_m11_1) (n := 4) rfl ((if0 _ _).trans (flt hc1_1).1) ?_
  refine Wk.iloadN X0 hx (hb hby d_jdk_41_m11_4) (n := 5) rfl rfl ?_
  refine Wk.iloadN X0 hx (hb hby d_jdk_41_m11_5) (n := 6) rfl rfl ?_
  have hc6_2 : p1 < p2 := h2
  refine Wk.icmpYes X0 hx (hb hby d_jdk_41_m11_6) (tlt hc6_2).1 (by decide) (n := 16) (by decide) ?_
  refine Wk.iloadN X0 hx (hb hby d_jdk_41_m11_16) (n := 17) rfl rfl ?_
  exact Wk.leave X0 (v := some (.int p1)) (fun h => by rw [Bd.returns] at h; cases h) hlk e0 ⟨rfl, N0, rfl⟩ (by decide) (by decide) (fun fs hr => retI X0 hx Bd.returns (hb hby d_jdk_41_m11_17) hr)
def Q_rmOC (Z : State) (p1 : Int32) (p2 : Int32) (h0 : Heap) (n0 : Nat) (v : Option Value) (h : Heap) (L : List Loc) : Prop := v = some (.int p1) ∧ Fr n0 L ∧ h = h0
theorem ef_rmOC (m : MethodId) (x0 : Int32) (x1 : Int32) : entryFrame m #[(.int x0), (.int x1)] 2 = mkF m 0 #[.val (.int x0), .val (.int x1)] [] := by first | (simp [entryFrame, mkF, argsToLocals, Value.category]; done) | rfl
theorem pn_java_util_Objects : plainName "java/util/Objects" = true := by first | (simp [plainName, overriddenIn]; done) | decide +kernel
theorem d_jdk_31_m17_0 : decode jdk_31_method_17_code 0 = .ok (.iload_n 0, 1) := by decide +kernel
theorem d_jdk_31_m17_1 : decode jdk_31_method_17_code 1 = .ok (.iload_n 1, 1) := by decide +kernel
theorem d_jdk_31_m17_2 : decode jdk_31_method_17_code 2 = .ok (.aconst_null, 1) := by decide +kernel
theorem d_jdk_31_m17_3 : decode jdk_31_method_17_code 3 = .ok (.invokestatic 105, 3) := by decide +kernel
theorem pd_11 : parseMethodDescriptor "(IILjava/util/function/BiFunction;)I" = some ⟨[.int, .int, (.object "java/util/function/BiFunction")], some .int⟩ := by decide +kernel
theorem d_jdk_31_m17_6 : decode jdk_31_method_17_code 6 = .ok (.ireturn, 1) := by decide +kernel
set_option maxRecDepth 65536 in
set_option maxHeartbeats 40000000 in
theorem rmOC (l : Launch) (Z : State) (a0 : Array Value) (hw : ∀ d ∈ tables_1, d.before a0 Z = true) (ws : List Jvm.Cond) (p1 : Int32) (p2 : Int32) (h0 : Heap) (n0 : Nat) (Z0 : n0 ≤ h0.size) (h1 : ¬ p1 < (0 : Int32)) (h2 : p1 < p2) :
    MetFree l (⟨"java/util/Objects", "checkIndex", "(II)I"⟩ : MethodName) (head1 (Jvm.Cond.code (⟨"java/util/Objects", "checkIndex", "(II)I"⟩ : MethodName) jdk_31_method_17_code 2 (some .int) :: ws) ({ frames := 1, cells := 0, slots := 0, locals := 14 } : Room)) (fun a U => a = #[(.int p1), (.int p2)] ∧ Z.Warmed39 U.vm ∧ U.heap = h0) (fun _ _ _ _ _ => True) (fun _ U o U' => ∃ v L, o = .returned v ∧ Q_rmOC Z p1 p2 h0 n0 v U'.heap L ∧ FrameEnd U o U' L ({ frames := 1, cells := 0, slots := 0, locals := 14 } : Room).cells ({ frames := 1, cells := 0, slots := 0, locals := 14 } : Room).slots) := by
  refine MetFree.of_bodySF (plainFor_of_name pn_java_util_Objects) hisR ?_
  intro p e s m args below meth c s₁ Bd hml0 hP hK
  obtain ⟨rfl, hZ, hh⟩ := hP
  have hx := Bd.exec
  have hby := Bd.bytes
  have hlk := BodyLoose.notSynchronized Bd
  have hml : c.maxLocals = 2 := hml0
  have hown : s.vm.findClass "java/util/Objects" = some m.cls := findClass_of_methodNamed Bd.named
  have hnm := (name_of_methodNamed Bd.named Bd.method).1
  have X0 : Stand p l e ({ frames := 1, cells := 0, slots := 0, locals := 14 } : Room) s m #[(.int p1), (.int p2)] below meth c s₁ [] 0 0 := Stand.of_body Bd
  have e0 : s₁.heap = h0 := by rw [← hh, Bd.state]; rfl
  have N0 := Fr.nil n0
  have K0 := Keep.refl h0 []
  clear hh
  show Wk p e below s (Q_rmOC Z p1 p2 h0 n0) ({ frames := 1, cells := 0, slots := 0, locals := 14 } : Room).cells ({ frames := 1, cells := 0, slots := 0, locals := 14 } : Room).slots s₁ (entryFrame m #[(.int p1), (.int p2)] 2)
  rw [ef_rmOC]
  refine Wk.iloadN X0 hx (hb hby d_jdk_31_m17_0) (n := 1) rfl rfl ?_
  refine Wk.iloadN X0 hx (hb hby d_jdk_31_m17_1) (n := 2) rfl rfl ?_
  refine Wk.aconstNull X0 hx (hb hby d_jdk_31_m17_2) (n := 3) rfl ?_
  have cl1_ := fun (Ls : Array Slot) (hLs : Ls.size = c.maxLocals) => Jvm.LawKit.callS X0 hx (y := (⟨"jdk/internal/util/Preconditions", "checkIndex", "(IILjava/util/function/BiFunction;)I"⟩ : MethodName)) hown (mvT hZ (hw _ (List.mem_of_getElem? (i := 123) rfl))) (mvT hZ (hw _ (List.mem_of_getElem? (i := 124) rfl))) (mvT hZ (hw _ (List.mem_of_getElem? (i := 125) rfl))) (mvT hZ (hw _ (List.mem_of_getElem? (i := 126) rfl))) (by decide) (backOf (W := 0) (rmPC l Z a0 hw [] p1 p2 h0 n0 (by omega) h1 h2) hZ (hw _ (List.mem_of_getElem? (i := 126) rfl)) (hw _ (List.mem_of_getElem? (i := 125) rfl)) (by decide) (by decide)) (g := mkF m 3 Ls [.null, (.int p2), (.int p1)]) rfl hLs (argsL := [(.int p1), (.int p2), .null]) (rest := []) (lenOf pd_11 rfl) rfl (by show 2 * 0 + _ ≤ _; exact Nat.le_of_eq rfl) (hb hby d_jdk_31_m17_3) (fun _ _ => ⟨rfl, e0, (by decide : 0 + 0 ≤ _), (by decide : 0 + 0 ≤ _)⟩)
  refine Wk.backS (n := 6) (rc := 0) (rs := 0) (Q := Q_rmPC Z p1 p2 h0 n0) (cl1_ _ (by rw [hml]; rfl)) fun vn1 T1 L1 X1 hQ1 => ?_
  clear cl1_
  obtain ⟨rfl, M1, e1⟩ := hQ1
  have N1 := Fr.app N0 M1
  show Wk p e below s _ _ _ T1 (mkF m 6 _ [(.int p1)])
  exact Wk.leave X1 (v := some (.int p1)) (fun h => by rw [Bd.returns] at h; cases h) hlk e1 ⟨rfl, N1, rfl⟩ (by decide) (by decide) (fun fs hr => retI X1 hx Bd.returns (hb hby d_jdk_31_m17_6) hr)
def Q_rmEl (Z : State) (a1 : Addr) (q1 : Int32) (t : Addr) (kt : ClassId) (vs : List Value) (r : Addr) (h0 : Heap) (n0 : Nat) (v : Option Value) (h : Heap) (L : List Loc) : Prop := v = some (.ref r) ∧ Fr n0 L ∧ h = h0
theorem ef_rmEl (m : MethodId) (x0 : Addr) (x1 : Int32) : entryFrame m #[(.ref x0), (.int x1)] 2 = mkF m 0 #[.val (.ref x0), .val (.int x1)] [] := by first | (simp [entryFrame, mkF, argsToLocals, Value.category]; done) | rfl
theorem d_jdk_38_m18_0 : decode jdk_38_method_18_code 0 = .ok (.aload_n 0, 1) := by decide +kernel
theorem d_jdk_38_m18_1 : decode jdk_38_method_18_code 1 = .ok (.getfield 9, 3) := by decide +kernel
theorem d_jdk_38_m18_4 : decode jdk_38_method_18_code 4 = .ok (.iload_n 1, 1) := by decide +kernel
theorem d_jdk_38_m18_5 : decode jdk_38_method_18_code 5 = .ok (.aaload, 1) := by decide +kernel
theorem d_jdk_38_m18_6 : decode jdk_38_method_18_code 6 = .ok (.areturn, 1) := by decide +kernel
set_option maxRecDepth 65536 in
set_option maxHeartbeats 40000000 in
theorem rmEl (l : Launch) (Z : State) (a0 : Array Value) (hw : ∀ d ∈ tables_1, d.before a0 Z = true) (ws : List Jvm.Cond) (a1 : Addr) (q1 : Int32) (t : Addr) (kt : ClassId) (vs : List Value) (r : Addr) (h0 : Heap) (n0 : Nat) (Z0 : n0 ≤ h0.size) (F2 : Fld Z h0 a1 "java/util/ArrayList" "elementData" "[Ljava/lang/Object;" (.ref t)) (A1 : Arv Z h0 t kt (.object "java/lang/Object") (10 : Int32) vs .null) (hbd : ¬ q1 < 0 ∧ q1 < (10 : Int32)) (ha : vs.getD q1.toNatClampNeg .null = .ref r) :
    MetFree l (⟨"java/util/ArrayList", "elementData", "(I)Ljava/lang/Object;"⟩ : MethodName) (head1 (Jvm.Cond.code (⟨"java/util/ArrayList", "elementData", "(I)Ljava/lang/Object;"⟩ : MethodName) jdk_38_method_18_code 2 (some (.object "java/lang/Object")) :: ws) ({ frames := 0, cells := 0, slots := 0, locals := 0 } : Room)) (fun a U => a = #[(.ref a1), (.int q1)] ∧ Z.Warmed39 U.vm ∧ U.heap = h0) (fun _ _ _ _ _ => True) (fun _ U o U' => ∃ v L, o = .returned v ∧ Q_rmEl Z a1 q1 t kt vs r h0 n0 v U'.heap L ∧ FrameEnd U o U' L ({ frames := 0, cells := 0, slots := 0, locals := 0 } : Room).cells ({ frames := 0, cells := 0, slots := 0, locals := 0 } : Room).slots) := by
  refine MetFree.of_bodySF (plainFor_of_name pn_java_util_ArrayList) hisR ?_
  intro p e s m args below meth c s₁ Bd hml0 hP hK
  obtain ⟨rfl, hZ, hh⟩ := hP
  have hx := Bd.exec
  have hby := Bd.bytes
  have hlk := BodyLoose.notSynchronized Bd
  have hml : c.maxLocals = 2 := hml0
  have hown : s.vm.findClass "java/util/ArrayList" = some m.cls := findClass_of_methodNamed Bd.named
  have hnm := (name_of_methodNamed Bd.named Bd.method).1
  have X0 : Stand p l e ({ frames := 0, cells := 0, slots := 0, locals := 0 } : Room) s m #[(.ref a1), (.int q1)] below meth c s₁ [] 0 0 := Stand.of_body Bd
  have e0 : s₁.heap = h0 := by rw [← hh, Bd.state]; rfl
  have N0 := Fr.nil n0
  have K0 := Keep.refl h0 []
  clear hh
  show Wk p e below s (Q_rmEl Z a1 q1 t kt vs r h0 n0) ({ frames := 0, cells := 0, slots := 0, locals := 0 } : Room).cells ({ frames := 0, cells := 0, slots := 0, locals := 0 } : Room).slots s₁ (entryFrame m #[(.ref a1), (.int q1)] 2)
  rw [ef_rmEl]
  have lt_F2 := ny F2.lt
  have lt_A1 := ny A1.lt
  refine Wk.aloadN X0 hx (hb hby d_jdk_38_m18_0) (n := 1) rfl rfl rfl ?_
  refine Wk.getF X0 hx hZ hown (host := "") (Or.inl (hw _ (List.mem_of_getElem? (i := 28) rfl))) Via.refl e0 F2 (hb hby d_jdk_38_m18_1) (n := 4) rfl fun T1 X1 e1 => ?_
  refine Wk.iloadN X1 hx (hb hby d_jdk_38_m18_4) (n := 5) rfl rfl ?_
  obtain ⟨cl2, Ar2, qn2, Sz2, N_2, H_2, Gn2⟩ := id A1
  have hin2 : ¬ (q1 < 0 ∨ cl2.slots.size ≤ (q1).toNatClampNeg) := inb_of Sz2 hbd
  refine Wk.aaload X1 hx hZ e1 Ar2 (v := (.ref r)) rfl hin2 (H_2.at hin2 ha) (hb hby d_jdk_38_m18_5) (n := 6) rfl ?_
  exact Wk.leave X1 (v := some (.ref r)) (fun h => by rw [Bd.returns] at h; cases h) hlk e1 ⟨rfl, N0, rfl⟩ (by decide) (by decide) (fun fs hr => retA X1 hx rfl Bd.returns rfl (hb hby d_jdk_38_m18_6) hr)
def Q_rmGe (Z : State) (a1 : Addr) (q1 : Int32) (t : Addr) (kt : ClassId) (vs : List Value) (r : Addr) (p1 : Int32) (h0 : Heap) (n0 : Nat) (v : Option Value) (h : Heap) (L : List Loc) : Prop := v = some (.ref r) ∧ Fr n0 L ∧ h = h0
theorem ef_rmGe (m : MethodId) (x0 : Addr) (x1 : Int32) : entryFrame m #[(.ref x0), (.int x1)] 2 = mkF m 0 #[.val (.ref x0), .val (.int x1)] [] := by first | (simp [entryFrame, mkF, argsToLocals, Value.category]; done) | rfl
theorem d_jdk_38_m20_0 : decode jdk_38_method_20_code 0 = .ok (.iload_n 1, 1) := by decide +kernel
theorem d_jdk_38_m20_1 : decode jdk_38_method_20_code 1 = .ok (.aload_n 0, 1) := by decide +kernel
theorem d_jdk_38_m20_2 : decode jdk_38_method_20_code 2 = .ok (.getfield 48, 3) := by decide +kernel
theorem d_jdk_38_m20_5 : decode jdk_38_method_20_code 5 = .ok (.invokestatic 118, 3) := by decide +kernel
theorem d_jdk_38_m20_8 : decode jdk_38_method_20_code 8 = .ok (.pop, 1) := by decide +kernel
theorem d_jdk_38_m20_9 : decode jdk_38_method_20_code 9 = .ok (.aload_n 0, 1) := by decide +kernel
theorem d_jdk_38_m20_10 : decode jdk_38_method_20_code 10 = .ok (.iload_n 1, 1) := by decide +kernel
theorem d_jdk_38_m20_11 : decode jdk_38_method_20_code 11 = .ok (.invokevirtual 123, 3) := by decide +kernel
theorem pd_12 : parseMethodDescriptor "(I)Ljava/lang/Object;" = some ⟨[.int], some (.object "java/lang/Object")⟩ := by decide +kernel
theorem d_jdk_38_m20_14 : decode jdk_38_method_20_code 14 = .ok (.areturn, 1) := by decide +kernel
set_option maxRecDepth 65536 in
set_option maxHeartbeats 40000000 in
theorem rmGe (l : Launch) (Z : State) (a0 : Array Value) (hw : ∀ d ∈ tables_1, d.before a0 Z = true) (ws : List Jvm.Cond) (a1 : Addr) (q1 : Int32) (t : Addr) (kt : ClassId) (vs : List Value) (r : Addr) (p1 : Int32) (h0 : Heap) (n0 : Nat) (Z0 : n0 ≤ h0.size) (E1 : Exa Z h0 a1 "java/util/ArrayList") (F3 : Fld Z h0 a1 "java/util/ArrayList" "size" "I" (.int p1)) (F2 : Fld Z h0 a1 "java/util/ArrayList" "elementData" "[Ljava/lang/Object;" (.ref t)) (A1 : Arv Z h0 t kt (.object "java/lang/Object") (10 : Int32) vs .null) (hbd : ¬ q1 < 0 ∧ q1 < (10 : Int32)) (ha : vs.getD q1.toNatClampNeg .null = .ref r) (h2 : q1 < p1) :
    MetFree l (⟨"java/util/ArrayList", "get", "(I)Ljava/lang/Object;"⟩ : MethodName) (head1 (Jvm.Cond.code (⟨"java/util/ArrayList", "get", "(I)Ljava/lang/Object;"⟩ : MethodName) jdk_38_method_20_code 2 (some (.object "java/lang/Object")) :: ws) ({ frames := 2, cells := 0, slots := 0, locals := 27 } : Room)) (fun a U => a = #[(.ref a1), (.int q1)] ∧ Z.Warmed39 U.vm ∧ U.heap = h0) (fun _ _ _ _ _ => True) (fun _ U o U' => ∃ v L, o = .returned v ∧ Q_rmGe Z a1 q1 t kt vs r p1 h0 n0 v U'.heap L ∧ FrameEnd U o U' L ({ frames := 2, cells := 0, slots := 0, locals := 27 } : Room).cells ({ frames := 2, cells := 0, slots := 0, locals := 27 } : Room).slots) := by
  refine MetFree.of_bodySF (plainFor_of_name pn_java_util_ArrayList) hisR ?_
  intro p e s m args below meth c s₁ Bd hml0 hP hK
  obtain ⟨rfl, hZ, hh⟩ := hP
  have hx := Bd.exec
  have hby := Bd.bytes
  have hlk := BodyLoose.notSynchronized Bd
  have hml : c.maxLocals = 2 := hml0
  have hown : s.vm.findClass "java/util/ArrayList" = some m.cls := findClass_of_methodNamed Bd.named
  have hnm := (name_of_methodNamed Bd.named Bd.method).1
  have X0 : Stand p l e ({ frames := 2, cells := 0, slots := 0, locals := 27 } : Room) s m #[(.ref a1), (.int q1)] below meth c s₁ [] 0 0 := Stand.of_body Bd
  have e0 : s₁.heap = h0 := by rw [← hh, Bd.state]; rfl
  have N0 := Fr.nil n0
  have K0 := Keep.refl h0 []
  clear hh
  show Wk p e below s (Q_rmGe Z a1 q1 t kt vs r p1 h0 n0) ({ frames := 2, cells := 0, slots := 0, locals := 27 } : Room).cells ({ frames := 2, cells := 0, slots := 0, locals := 27 } : Room).slots s₁ (entryFrame m #[(.ref a1), (.int q1)] 2)
  rw [ef_rmGe]
  have lt_E1 := ny E1.lt
  have lt_F3 := ny F3.lt
  have lt_F2 := ny F2.lt
  have lt_A1 := ny A1.lt
  refine Wk.iloadN X0 hx (hb hby d_jdk_38_m20_0) (n := 1) rfl rfl ?_
  refine Wk.aloadN X0 hx (hb hby d_jdk_38_m20_1) (n := 2) rfl rfl rfl ?_
  refine Wk.getF X0 hx hZ hown (host := "") (Or.inl (hw _ (List.mem_of_getElem? (i := 44) rfl))) Via.refl e0 F3 (hb hby d_jdk_38_m20_2) (n := 5) rfl fun T1 X1 e1 => ?_
  have cl2_ := fun (Ls : Array Slot) (hLs : Ls.size = c.maxLocals) => Jvm.LawKit.callS X1 hx (y := (⟨"java/util/Objects", "checkIndex", "(II)I"⟩ : MethodName)) hown (mvT hZ (hw _ (List.mem_of_getElem? (i := 119) rfl))) (mvT hZ (hw _ (List.mem_of_getElem? (i := 120) rfl))) (mvT hZ (hw _ (List.mem_of_getElem? (i := 121) rfl))) (mvT hZ (hw _ (List.mem_of_getElem? (i := 122) rfl))) (by decide) (backOf (W := 0) (rmOC l Z a0 hw [] q1 p1 h0 n0 (by omega) hbd.1 h2) hZ (hw _ (List.mem_of_getElem? (i := 122) rfl)) (hw _ (List.mem_of_getElem? (i := 121) rfl)) (by decide) (by decide)) (g := mkF m 5 Ls [(.int p1), (.int q1)]) rfl hLs (argsL := [(.int q1), (.int p1)]) (rest := []) (lenOf pd_2 rfl) rfl (by show 2 * 0 + _ ≤ _; exact Nat.le_of_eq rfl) (hb hby d_jdk_38_m20_5) (fun _ _ => ⟨rfl, e1, (by decide : 0 + 0 ≤ _), (by decide : 0 + 0 ≤ _)⟩)
  refine Wk.backS (n := 8) (rc := 0) (rs := 0) (Q := Q_rmOC Z q1 p1 h0 n0) (cl2_ _ (by rw [hml]; rfl)) fun vn2 T2 L2 X2 hQ2 => ?_
  clear cl2_
  obtain ⟨rfl, M2, e2⟩ := hQ2
  have N2 := Fr.app N0 M2
  show Wk p e below s _ _ _ T2 (mkF m 8 _ [(.int q1)])
  refine Wk.pop X2 hx (hb hby d_jdk_38_m20_8) (n := 9) rfl rfl ?_
  refine Wk.aloadN X2 hx (hb hby d_jdk_38_m20_9) (n := 10) rfl rfl rfl ?_
  refine Wk.iloadN X2 hx (hb hby d_jdk_38_m20_10) (n := 11) rfl rfl ?_
  obtain ⟨cq3, kq3, qn3a, qn3b, qn3c⟩ := isOf hZ e2 E1
  have cl3_ := fun (Ls : Array Slot) (hLs : Ls.size = c.maxLocals) => X2.virtualBack hx (y := (⟨"java/util/ArrayList", "elementData", "(I)Ljava/lang/Object;"⟩ : MethodName)) (z := (⟨"java/util/ArrayList", "elementData", "(I)Ljava/lang/Object;"⟩ : MethodName)) hown (mvT hZ (hw _ (List.mem_of_getElem? (i := 127) rfl))) (mvT hZ (hw _ (List.mem_of_getElem? (i := 128) rfl))) (notFace_of_selects (args := #[]) (mvT hZ (hw _ (List.mem_of_getElem? (i := 130) rfl)))) (mvT hZ (hw _ (List.mem_of_getElem? (i := 130) rfl))) (mvT hZ (hw _ (List.mem_of_getElem? (i := 129) rfl))) (by decide) (backOf (W := 0) (rmEl l Z a0 hw [] a1 q1 t kt vs r h0 n0 (by omega) F2 A1 hbd ha) hZ (hw _ (List.mem_of_getElem? (i := 131) rfl)) (hw _ (List.mem_of_getElem? (i := 6) rfl)) (by decide) (by decide)) qn3a qn3c (g := mkF m 11 Ls [(.int q1), (.ref a1)]) rfl hLs (Steps.refl _) (argsL := [(.int q1)]) (rest := []) (lenOf pd_12 rfl) rfl (by show 2 * 0 + _ ≤ _; exact Nat.le_of_eq rfl) (hb hby d_jdk_38_m20_11) (fun _ _ => ⟨rfl, e2, (by decide : 0 + 0 + 0 ≤ _), (by decide : 0 + 0 + 0 ≤ _)⟩)
  refine Wk.back (n := 14) (rc := 0) (rs := 0) (Q := Q_rmEl Z a1 q1 t kt vs r h0 n0) (cl3_ _ (by rw [hml]; rfl)) fun vn3 T3 L3 X3 hQ3 => ?_
  clear cl3_
  obtain ⟨rfl, M3, e3⟩ := hQ3
  have N3 := Fr.app N2 M3
  show Wk p e below s _ _ _ T3 (mkF m 14 _ [(.ref r)])
  exact Wk.leave X3 (v := some (.ref r)) (fun h => by rw [Bd.returns] at h; cases h) hlk e3 ⟨rfl, N3, rfl⟩ (by decide) (by decide) (fun fs hr => retA X3 hx rfl Bd.returns rfl (hb hby d_jdk_38_m20_14) hr)
def Q_rmIV (Z : State) (a1 : Addr) (p1 : Int32) (h0 : Heap) (n0 : Nat) (v : Option Value) (h : Heap) (L : List Loc) : Prop := v = some (.int p1) ∧ Fr n0 L ∧ h = h0
theorem ef_rmIV (m : MethodId) (x0 : Addr) : entryFrame m #[(.ref x0)] 1 = mkF m 0 #[.val (.ref x0)] [] := by first | (simp [entryFrame, mkF, argsToLocals, Value.category]; done) | rfl
theorem d_jdk_33_m27_0 : decode jdk_33_method_27_code 0 = .ok (.aload_n 0, 1) := by decide +kernel
theorem d_jdk_33_m27_1 : decode jdk_33_method_27_code 1 = .ok (.getfield 205, 3) := by decide +kernel
theorem d_jdk_33_m27_4 : decode jdk_33_method_27_code 4 = .ok (.ireturn, 1) := by decide +kernel
set_option maxRecDepth 65536 in
set_option maxHeartbeats 40000000 in
theorem rmIV (l : Launch) (Z : State) (a0 : Array Value) (hw : ∀ d ∈ tables_1, d.before a0 Z = true) (ws : List Jvm.Cond) (a1 : Addr) (p1 : Int32) (h0 : Heap) (n0 : Nat) (Z0 : n0 ≤ h0.size) (F1 : Fld Z h0 a1 "java/lang/Integer" "value" "I" (.int p1)) :
    MetFree l (⟨"java/lang/Integer", "intValue", "()I"⟩ : MethodName) (head1 (Jvm.Cond.code (⟨"java/lang/Integer", "intValue", "()I"⟩ : MethodName) jdk_33_method_27_code 1 (some .int) :: ws) ({ frames := 0, cells := 0, slots := 0, locals := 0 } : Room)) (fun a U => a = #[(.ref a1)] ∧ Z.Warmed39 U.vm ∧ U.heap = h0) (fun _ _ _ _ _ => True) (fun _ U o U' => ∃ v L, o = .returned v ∧ Q_rmIV Z a1 p1 h0 n0 v U'.heap L ∧ FrameEnd U o U' L ({ frames := 0, cells := 0, slots := 0, locals := 0 } : Room).cells ({ frames := 0, cells := 0, slots := 0, locals := 0 } : Room).slots) := by
  refine MetFree.of_bodySF (plainFor_of_name pn_java_lang_Integer) hisR ?_
  intro p e s m args below meth c s₁ Bd hml0 hP hK
  obtain ⟨rfl, hZ, hh⟩ := hP
  have hx := Bd.exec
  have hby := Bd.bytes
  have hlk := BodyLoose.notSynchronized Bd
  have hml : c.maxLocals = 1 := hml0
  have hown : s.vm.findClass "java/lang/Integer" = some m.cls := findClass_of_methodNamed Bd.named
  have hnm := (name_of_methodNamed Bd.named Bd.method).1
  have X0 : Stand p l e ({ frames := 0, cells := 0, slots := 0, locals := 0 } : Room) s m #[(.ref a1)] below meth c s₁ [] 0 0 := Stand.of_body Bd
  have e0 : s₁.heap = h0 := by rw [← hh, Bd.state]; rfl
  have N0 := Fr.nil n0
  have K0 := Keep.refl h0 []
  clear hh
  show Wk p e below s (Q_rmIV Z a1 p1 h0 n0) ({ frames := 0, cells := 0, slots := 0, locals := 0 } : Room).cells ({ frames := 0, cells := 0, slots := 0, locals := 0 } : Room).slots s₁ (entryFrame m #[(.ref a1)] 1)
  rw [ef_rmIV]
  have lt_F1 := ny F1.lt
  refine Wk.aloadN X0 hx (hb hby d_jdk_33_m27_0) (n := 1) rfl rfl rfl ?_
  refine Wk.getF X0 hx hZ hown (host := "") (Or.inl (hw _ (List.mem_of_getElem? (i := 139) rfl))) Via.refl e0 F1 (hb hby d_jdk_33_m27_1) (n := 4) rfl fun T1 X1 e1 => ?_
  exact Wk.leave X1 (v := some (.int p1)) (fun h => by rw [Bd.returns] at h; cases h) hlk e1 ⟨rfl, N0, rfl⟩ (by decide) (by decide) (fun fs hr => retI X1 hx Bd.returns (hb hby d_jdk_33_m27_4) hr)
def Q_rm0 (Z : State) (p1 : Int32) (p2 : Int32) (p3 : Int32) (p4 : Int32) (p5 : Int32) (wE : Addr) (kE : ClassId) (wC : Addr) (cC : Cell) (zc : Int32) (h0 : Heap) (n0 : Nat) (v : Option Value) (h : Heap) (L : List Loc) : Prop := v = some (.int (1 : Int32)) ∧ Fr n0 L ∧ Keep h0 h []
theorem ef_rm0 (m : MethodId) (x0 : Int32) (x1 : Int32) (x2 : Int32) (x3 : Int32) (x4 : Int32) : entryFrame m #[(.int x0), (.int x1), (.int x2), (.int x3), (.int x4)] maxLocals = mkF m 0 #[.val (.int x0), .val (.int x1), .val (.int x2), .val (.int x3), .val (.int x4), .unset, .unset, .unset, .unset, .unset] [] := by first | (simp [entryFrame, mkF, argsToLocals, Value.category, maxLocals]; done) | rfl
theorem pn_com_example_strict_stock_strictstock_NamesListPinLaw : plainName "com/example/strict_stock/strictstock/NamesListPinLaw" = true := by first | (simp [plainName, overriddenIn]; done) | decide +kernel
theorem pd_13 : parseMethodDescriptor "(I)Ljava/lang/Integer;" = some ⟨[.int], some (.object "java/lang/Integer")⟩ := by decide +kernel
theorem pd_14 : parseMethodDescriptor "(Ljava/lang/Object;)Z" = some ⟨[(.object "java/lang/Object")], some .boolean⟩ := by decide +kernel
theorem pd_15 : parseMethodDescriptor "(C)Ljava/lang/String;" = some ⟨[.char], some (.object "java/lang/String")⟩ := by decide +kernel
theorem pd_16 : parseMethodDescriptor "(Ljava/lang/String;Ljava/util/List;I)Ljava/util/List;" = some ⟨[(.object "java/lang/String"), (.object "java/util/List"), .int], some (.object "java/util/List")⟩ := by decide +kernel
set_option maxRecDepth 65536 in
set_option maxHeartbeats 40000000 in
theorem rm0 (l : Launch) (Z : State) (a0 : Array Value) (hw : ∀ d ∈ tables_1, d.before a0 Z = true) (ws : List Jvm.Cond) (p1 : Int32) (p2 : Int32) (p3 : Int32) (p4 : Int32) (p5 : Int32) (wE : Addr) (kE : ClassId) (wC : Addr) (cC : Cell) (zc : Int32) (h0 : Heap) (n0 : Nat) (Z0 : n0 ≤ h0.size) (S1 : Sta Z Z.heap "java/util/ArrayList" "DEFAULTCAPACITY_EMPTY_ELEMENTDATA" "[Ljava/lang/Object;" (.ref wE)) (O1 : Old Z n0 h0) (A0 : Arv Z Z.heap wE kE (.object "java/lang/Object") (0 : Int32) [] .null) (S2 : Sta Z Z.heap "java/lang/Integer$IntegerCache" "high" "I" (.int (127 : Int32))) (S3 : Sta Z Z.heap "java/lang/Integer$IntegerCache" "cache" "[Ljava/lang/Integer;" (.ref wC)) (S4 : Sta Z Z.heap "java/lang/String" "COMPACT_STRINGS" "Z" (.int zc)) (ArC : Arr Z Z.heap wC cC (.object "java/lang/Integer")) (hC : ∀ j : Int32, ¬ j < (-128 : Int32) → ¬ (127 : Int32) < j → ¬ (j + (128 : Int32) < 0 ∨ cC.slots.size ≤ (j + (128 : Int32)).toNatClampNeg) ∧ ∃ r : Addr, cC.slots[(j + (128 : Int32)).toNatClampNeg]? = some (.ref r) ∧ Exa Z Z.heap r "java/lang/Integer" ∧ Fld Z Z.heap r "java/lang/Integer" "value" "I" (.int j)) (hCS : ¬ zc = 0) :
    MetFree l x (head1 (Jvm.Cond.code x code maxLocals ret :: ws) room_1) (fun a U => a = #[(.int p1), (.int p2), (.int p3), (.int p4), (.int p5)] ∧ Z.Warmed39 U.vm ∧ U.heap = h0) (fun _ _ _ _ _ => True) (fun _ U o U' => ∃ v L, o = .returned v ∧ Q_rm0 Z p1 p2 p3 p4 p5 wE kE wC cC zc h0 n0 v U'.heap L ∧ FrameEnd U o U' L room_1.cells room_1.slots) := by
  refine MetFree.of_bodySF (plainFor_of_name pn_com_example_strict_stock_strictstock_NamesListPinLaw) hisR ?_
  intro p e s m args below meth c s₁ Bd hml0 hP hK
  obtain ⟨rfl, hZ, hh⟩ := hP
  have hx := Bd.exec
  have hby := Bd.bytes
  have hlk := BodyLoose.notSynchronized Bd
  have hml : c.maxLocals = 10 := hml0
  have hown : s.vm.findClass "com/example/strict_stock/strictstock/NamesListPinLaw" = some m.cls := findClass_of_methodNamed Bd.named
  have hnm := (name_of_methodNamed Bd.named Bd.method).1
  have X0 : Stand p l e room_1 s m #[(.int p1), (.int p2), (.int p3), (.int p4), (.int p5)] below meth c s₁ [] 0 0 := Stand.of_body Bd
  have e0 : s₁.heap = h0 := by rw [← hh, Bd.state]; rfl
  have N0 := Fr.nil n0
  have K0 := Keep.refl h0 []
  clear hh
  show Wk p e below s (Q_rm0 Z p1 p2 p3 p4 p5 wE kE wC cC zc h0 n0) room_1.cells room_1.slots s₁ (entryFrame m #[(.int p1), (.int p2), (.int p3), (.int p4), (.int p5)] maxLocals)
  rw [ef_rm0]
  refine Wk.iloadN X0 hx (hb hby at_0) (n := 1) rfl rfl ?_
  refine Wk.iconst X0 hx (hb hby at_1) (n := 2) rfl (z := (3 : Int32)) rfl ?_
  refine Wk.iand X0 hx (hb hby at_2) (n := 3) rfl ?_
  refine Wk.iconst X0 hx (hb hby at_3) (n := 4) rfl (z := (1 : Int32)) rfl ?_
  refine Wk.iadd X0 hx (hb hby at_4) (n := 5) rfl ?_
  rcases own_n4 p1 with hn | hn | hn | hn
  ·
    rw [hn]
    refine Wk.istore X0 hx (hb hby at_5) (n := 7) rfl (L' := #[.val (.int p1), .val (.int p2), .val (.int p3), .val (.int p4), .val (.int p5), .val (.int (1 : Int32)), .unset, .unset, .unset, .unset]) rfl ?_
    refine Wk.iload X0 hx (hb hby at_7) (n := 9) rfl rfl ?_
    refine Wk.iloadN X0 hx (hb hby at_9) (n := 10) rfl rfl ?_
    have cl1_ := fun (Ls : Array Slot) (hLs : Ls.size = c.maxLocals) => Jvm.LawKit.callS X0 hx (y := (⟨"java/lang/Math", "max", "(II)I"⟩ : MethodName)) hown (mvT hZ (hw _ (List.mem_of_getElem? (i := 0) rfl))) (mvT hZ (hw _ (List.mem_of_getElem? (i := 1) rfl))) (mvT hZ (hw _ (List.mem_of_getElem? (i := 2) rfl))) (mvT hZ (hw _ (List.mem_of_getElem? (i := 3) rfl))) (by decide) (backOf (W := 0) (rmMx l Z a0 hw [] (1 : Int32) p2 h0 n0 (by omega)) hZ (hw _ (List.mem_of_getElem? (i := 3) rfl)) (hw _ (List.mem_of_getElem? (i := 2) rfl)) (by decide) (by decide)) (g := mkF m 10 Ls [(.int p2), (.int (1 : Int32))]) rfl hLs (argsL := [(.int (1 : Int32)), (.int p2)]) (rest := []) (lenOf pd_2 rfl) rfl (by show 2 * 0 + _ ≤ _; exact Nat.le_of_eq rfl) (hb hby at_10) (fun _ _ => ⟨rfl, e0, (by decide : 0 + 0 ≤ _), (by decide : 0 + 0 ≤ _)⟩)
    refine Wk.backS (n := 13) (rc := 0) (rs := 0) (Q := Q_rmMx Z (1 : Int32) p2 h0 n0) (cl1_ _ (by rw [hml]; rfl)) fun vn1 T1 L1 X1 hQ1 => ?_
    clear cl1_
    obtain ⟨z_1, rfl, M1, e1, hl_1, hg_1⟩ := hQ1
    have N1 := Fr.app N0 M1
    show Wk p e below s _ _ _ T1 (mkF m 13 _ [(.int z_1)])
    have hmx : ¬ z_1 < (1 : Int32) := own_max hl_1 hg_1
    refine Wk.istore X1 hx (hb hby at_13) (n := 15) rfl (L' := #[.val (.int p1), .val (.int p2), .val (.int p3), .val (.int p4), .val (.int p5), .val (.int (1 : Int32)), .val (.int z_1), .unset, .unset, .unset]) rfl ?_
    refine Wk.newO X1 hx hZ hown (hw _ (List.mem_of_getElem? (i := 4) rfl)) (hw _ (List.mem_of_getElem? (i := 5) rfl)) (hw _ (List.mem_of_getElem? (i := 6) rfl)) e1 (hb hby at_15) (n := 18) rfl (by decide) (by decide) fun T2 H2 b2 gn2 X2 e2 Ex2 An2 Dn2 Yn2 => ?_
    have gn2 := nx gn2
    have sz2 := Ex2.1
    have lt2 := ny An2.lt
    have K2 := K0.ext Ex2
    have Fn2_modCount : Fld Z H2 b2 "java/util/AbstractList" "modCount" "I" (.int (0 : Int32)) := Dn2 (Or.inl (hw _ (List.mem_of_getElem? (i := 26) rfl))) (ty := .int) (by decide)
    have Fn2_elementData : Fld Z H2 b2 "java/util/ArrayList" "elementData" "[Ljava/lang/Object;" .null := Dn2 (Or.inl (hw _ (List.mem_of_getElem? (i := 29) rfl))) (ty := (.array (.object "java/lang/Object"))) (by decide)
    have Fn2_size : Fld Z H2 b2 "java/util/ArrayList" "size" "I" (.int (0 : Int32)) := Dn2 (Or.inl (hw _ (List.mem_of_getElem? (i := 45) rfl))) (ty := .int) (by decide)
    refine Wk.dup X2 hx (hb hby at_18) (n := 19) rfl rfl ?_
    have f3 := (O1.ext Ex2)
    have cl4_ := fun (Ls : Array Slot) (hLs : Ls.size = c.maxLocals) => X2.specialBack hx (y := (⟨"java/util/ArrayList", "<init>", "()V"⟩ : MethodName)) rfl hown (mvT hZ (hw _ (List.mem_of_getElem? (i := 7) rfl))) (mvT hZ (hw _ (List.mem_of_getElem? (i := 8) rfl))) (mvT hZ (hw _ (List.mem_of_getElem? (i := 9) rfl))) (by decide) (backOf (W := 1) (rmIni l Z a0 hw [] b2 (.int (0 : Int32)) .null (.int (0 : Int32)) wE H2 n0 (by omega) An2 Fn2_modCount Fn2_elementData Fn2_size S1 f3 (by omega)) hZ (hw _ (List.mem_of_getElem? (i := 9) rfl)) (hw _ (List.mem_of_getElem? (i := 6) rfl)) (by decide) (by decide)) (g := mkF m 19 Ls [(.ref b2), (.ref b2)]) rfl hLs (Steps.refl _) (a := b2) (argsL := []) (rest := [(.ref b2)]) (lenOf pd_0 rfl) rfl (by show 2 * 0 + _ ≤ _; exact Nat.le_of_eq rfl) (hb hby at_19) (fun _ _ => ⟨rfl, e2, (by decide : 0 + 0 + 1 + 0 ≤ _), (by decide : 0 + 0 + 3 + 0 ≤ _)⟩)
    refine Wk.back (n := 22) (rc := 0) (rs := 0) (Q := Q_rmIni Z b2 (.int (0 : Int32)) .null (.int (0 : Int32)) wE H2 n0) (cl4_ _ (by rw [hml]; rfl)) fun vn4 T4 L4 X4 hQ4 => ?_
    clear cl4_
    obtain ⟨rfl, M4, J4, p4_0, p4_1, p4_2, p4_3⟩ := hQ4
    have N4 := Fr.app N1 M4
    have sz4 := J4.1
    have K4 := K2.trans J4 (allS (Or.inr (by omega)) all0)
    have lt_p4_0 := ny p4_0.lt
    show Wk p e below s _ _ _ T4 (mkF m 22 _ [(.ref b2)])
    refine Wk.astore X4 hx (hb hby at_22) (n := 24) rfl rfl (L' := #[.val (.int p1), .val (.int p2), .val (.int p3), .val (.int p4), .val (.int p5), .val (.int (1 : Int32)), .val (.int z_1), .val (.ref b2), .unset, .unset]) rfl ?_
    refine Wk.aload X4 hx (hb hby at_24) (n := 26) rfl rfl rfl ?_
    refine Wk.iloadN X4 hx (hb hby at_26) (n := 27) rfl rfl ?_
    have f5 := (f3.keep J4 (allS (by omega) all0))
    have cl6_ := fun (Ls : Array Slot) (hLs : Ls.size = c.maxLocals) => Jvm.LawKit.callS X4 hx (y := (⟨"java/lang/Integer", "valueOf", "(I)Ljava/lang/Integer;"⟩ : MethodName)) hown (mvT hZ (hw _ (List.mem_of_getElem? (i := 30) rfl))) (mvT hZ (hw _ (List.mem_of_getElem? (i := 31) rfl))) (mvT hZ (hw _ (List.mem_of_getElem? (i := 32) rfl))) (mvT hZ (hw _ (List.mem_of_getElem? (i := 33) rfl))) (by decide) (backOf (W := 1) (rmVO l Z a0 hw [] p3 wC cC T4.heap n0 (by omega) S2 S3 f5 ArC hC) hZ (hw _ (List.mem_of_getElem? (i := 33) rfl)) (hw _ (List.mem_of_getElem? (i := 32) rfl)) (by decide) (by decide)) (g := mkF m 27 Ls [(.int p3), (.ref b2)]) rfl hLs (argsL := [(.int p3)]) (rest := [(.ref b2)]) (lenOf pd_13 rfl) rfl (by show 2 * 0 + _ ≤ _; exact Nat.le_of_eq rfl) (hb hby at_27) (fun _ _ => ⟨rfl, rfl, (by decide : 0 + 0 + 1 + 0 + 1 ≤ _), (by decide : 0 + 0 + 3 + 0 + 1 ≤ _)⟩)
    refine Wk.backS (n := 30) (rc := 1) (rs := 1) (Q := Q_rmVO Z p3 wC cC T4.heap n0) (cl6_ _ (by rw [hml]; rfl)) fun vn6 T6 L6 X6 hQ6 => ?_
    clear cl6_
    obtain ⟨r_6, rfl, M6, J6, p6_0, p6_1⟩ := hQ6
    have N6 := Fr.app N4 M6
    have sz6 := J6.1
    have K6 := K4.trans J6 (fun x hx => nomatch hx)
    have lt_p6_0 := ny p6_0.lt
    show Wk p e below s _ _ _ T6 (mkF m 30 _ [(.ref r_6), (.ref b2)])
    have f7 := (p4_0.keep J6)
    have na6 := nw (ne_exa p6_0 f7 (by decide))
    have f8 := (p4_1.keep J6 nin0)
    have f9 := (p4_2.keep J6 nin0)
    have f10 := (p4_3.keep J6 nin0)
    have f11 := (f5.keep J6 all0)
    obtain ⟨cq12, kq12, qn12a, qn12b, qn12c⟩ := isOf hZ rfl f7
    have cl12_ := fun (Ls : Array Slot) (hLs : Ls.size = c.maxLocals) => X6.virtualBack hx (y := (⟨"java/util/ArrayList", "add", "(Ljava/lang/Object;)Z"⟩ : MethodName)) (z := (⟨"java/util/ArrayList", "add", "(Ljava/lang/Object;)Z"⟩ : MethodName)) hown (mvT hZ (hw _ (List.mem_of_getElem? (i := 37) rfl))) (mvT hZ (hw _ (List.mem_of_getElem? (i := 38) rfl))) (notFace_of_selects (args := #[]) (mvT hZ (hw _ (List.mem_of_getElem? (i := 40) rfl)))) (mvT hZ (hw _ (List.mem_of_getElem? (i := 40) rfl))) (mvT hZ (hw _ (List.mem_of_getElem? (i := 39) rfl))) (by decide) (backOf (W := 0) (rmAG l Z a0 hw [] b2 r_6 (0 : Int32) wE kE T6.heap n0 (by omega) f7 f8 f9 f10 A0 S1 f11 p6_0 (by omega)) hZ (hw _ (List.mem_of_getElem? (i := 41) rfl)) (hw _ (List.mem_of_getElem? (i := 6) rfl)) (by decide) (by decide)) qn12a qn12c (g := mkF m 30 Ls [(.ref r_6), (.ref b2)]) rfl hLs (Steps.refl _) (argsL := [(.ref r_6)]) (rest := []) (lenOf pd_14 rfl) rfl (by show 2 * 0 + _ ≤ _; exact Nat.le_of_eq rfl) (hb hby at_30) (fun _ _ => ⟨rfl, rfl, (by decide : 0 + 0 + 1 + 0 + 1 + 1 ≤ _), (by decide : 0 + 0 + 3 + 0 + 1 + 10 ≤ _)⟩)
    refine Wk.back (n := 33) (rc := 1) (rs := 10) (Q := Q_rmAG Z b2 r_6 (0 : Int32) wE kE T6.heap n0) (cl12_ _ (by rw [hml]; rfl)) fun vn12 T12 L12 X12 hQ12 => ?_
    clear cl12_
    obtain ⟨t_12, kt_12, rfl, M12, J12, p12_0, p12_1, p12_2, p12_3, p12_4, ov_12, gt_12⟩ := hQ12
    have N12 := Fr.app N6 M12
    have sz12 := J12.1
    have K12 := K6.trans J12 (allS (Or.inr (by omega)) all0)
    have lt_p12_0 := ny p12_0.lt
    have lt_p12_4 := ny p12_4.lt
    show Wk p e below s _ _ _ T12 (mkF m 33 _ [(.int (1 : Int32))])
    refine Wk.pop X12 hx (hb hby at_33) (n := 34) rfl rfl ?_
    refine Wk.iload X12 hx (hb hby at_34) (n := 36) rfl rfl ?_
    refine Wk.iconst X12 hx (hb hby at_36) (n := 37) rfl (z := (2 : Int32)) rfl ?_
    have hc37_13 : (1 : Int32) < (2 : Int32) := by decide
    refine Wk.icmpYes X12 hx (hb hby at_37) (tlt hc37_13).1 (by decide) (n := 50) (by decide) ?_
    refine Wk.iload X12 hx (hb hby at_50) (n := 52) rfl rfl ?_
    refine Wk.iconst X12 hx (hb hby at_52) (n := 53) rfl (z := (3 : Int32)) rfl ?_
    have hc53_14 : (1 : Int32) < (3 : Int32) := by decide
    refine Wk.icmpYes X12 hx (hb hby at_53) (tlt hc53_14).1 (by decide) (n := 68) (by decide) ?_
    refine Wk.iload X12 hx (hb hby at_68) (n := 70) rfl rfl ?_
    refine Wk.iconst X12 hx (hb hby at_70) (n := 71) rfl (z := (4 : Int32)) rfl ?_
    have hc71_15 : (1 : Int32) < (4 : Int32) := by decide
    refine Wk.icmpYes X12 hx (hb hby at_71) (tlt hc71_15).1 (by decide) (n := 86) (by decide) ?_
    refine Wk.iload X12 hx (hb hby at_86) (n := 88) rfl rfl ?_
    refine Wk.sipush X12 hx (hb hby at_88) (n := 91) rfl (z := (255 : Int32)) rfl ?_
    refine Wk.iand X12 hx (hb hby at_91) (n := 92) rfl ?_
    obtain ⟨cf, q_cf⟩ : ∃ z : Int32, z = ((p5 &&& (255 : Int32)).toUInt32.toUInt16.toUInt32.toInt32) := ⟨_, rfl⟩
    have n_cf : nar .char cf = cf := by rw [q_cf]; exact own_c255 _
    have r_cf : ¬ cf < 0 ∧ ¬ (255 : Int32) < cf := by rw [q_cf]; exact own_r255 _
    refine Wk.i2c X12 hx (hb hby at_92) (n := 93) rfl q_cf.symm ?_
    have f16 := (f11.keep J12 (allS (by omega) all0))
    have cl17_ := fun (Ls : Array Slot) (hLs : Ls.size = c.maxLocals) => Jvm.LawKit.callS X12 hx (y := (⟨"java/lang/String", "valueOf", "(C)Ljava/lang/String;"⟩ : MethodName)) hown (mvT hZ (hw _ (List.mem_of_getElem? (i := 65) rfl))) (mvT hZ (hw _ (List.mem_of_getElem? (i := 66) rfl))) (mvT hZ (hw _ (List.mem_of_getElem? (i := 67) rfl))) (mvT hZ (hw _ (List.mem_of_getElem? (i := 68) rfl))) (by decide) (backOf (W := 0) (rmSVO l Z a0 hw [] cf zc T12.heap n0 (by omega) S4 f16 hCS r_cf.2) hZ (hw _ (List.mem_of_getElem? (i := 68) rfl)) (hw _ (List.mem_of_getElem? (i := 67) rfl)) (by decide) (by decide)) (g := mkF m 93 Ls [(.int cf)]) rfl hLs (argsL := [(.int cf)]) (rest := []) (lenOf pd_15 rfl) rfl (by show 2 * 0 + _ ≤ _; exact Nat.le_of_eq rfl) (hb hby at_93) (fun _ _ => ⟨rfl, rfl, (by decide : 0 + 0 + 1 + 0 + 1 + 1 + 2 ≤ _), (by decide : 0 + 0 + 3 + 0 + 1 + 10 + 5 ≤ _)⟩)
    refine Wk.backS (n := 96) (rc := 2) (rs := 5) (Q := Q_rmSVO Z cf zc T12.heap n0) (cl17_ _ (by rw [hml]; rfl)) fun vn17 T17 L17 X17 hQ17 => ?_
    clear cl17_
    obtain ⟨r_17, t_17, kb_17, rfl, M17, J17, p17_0, p17_1, p17_2, p17_3, gr_17, gt_17⟩ := hQ17
    have N17 := Fr.app N12 M17
    have sz17 := J17.1
    have K17 := K12.trans J17 (fun x hx => nomatch hx)
    have lt_p17_0 := ny p17_0.lt
    have lt_p17_3 := ny p17_3.lt
    show Wk p e below s _ _ _ T17 (mkF m 96 _ [(.ref r_17)])
    refine Wk.astore X17 hx (hb hby at_96) (n := 98) rfl rfl (L' := #[.val (.int p1), .val (.int p2), .val (.int p3), .val (.int p4), .val (.int p5), .val (.int (1 : Int32)), .val (.int z_1), .val (.ref b2), .val (.ref r_17), .unset]) rfl ?_
    refine Wk.aload X17 hx (hb hby at_98) (n := 100) rfl rfl rfl ?_
    refine Wk.aload X17 hx (hb hby at_100) (n := 102) rfl rfl rfl ?_
    refine Wk.iload X17 hx (hb hby at_102) (n := 104) rfl rfl ?_
    have f18 := (p12_0.keep J17)
    have f19 := (p12_3.keep J17 nin0)
    have cl20_ := fun (Ls : Array Slot) (hLs : Ls.size = c.maxLocals) => Jvm.LawKit.callS X17 hx (y := (⟨"com/example/strict_stock/strictstock/Names", "list", "(Ljava/lang/String;Ljava/util/List;I)Ljava/util/List;"⟩ : MethodName)) hown (mvT hZ (hw _ (List.mem_of_getElem? (i := 89) rfl))) (mvT hZ (hw _ (List.mem_of_getElem? (i := 90) rfl))) (mvT hZ (hw _ (List.mem_of_getElem? (i := 91) rfl))) (mvT hZ (hw _ (List.mem_of_getElem? (i := 92) rfl))) (by decide) (backOf (W := 0) (rmNL l Z a0 hw [] r_17 b2 z_1 (1 : Int32) T17.heap n0 (by omega) f18 f19 (by decide) hmx) hZ (hw _ (List.mem_of_getElem? (i := 92) rfl)) (hw _ (List.mem_of_getElem? (i := 91) rfl)) (by decide) (by decide)) (g := mkF m 104 Ls [(.int z_1), (.ref b2), (.ref r_17)]) rfl hLs (argsL := [(.ref r_17), (.ref b2), (.int z_1)]) (rest := []) (lenOf pd_16 rfl) rfl (by show 2 * 0 + _ ≤ _; exact Nat.le_of_eq rfl) (hb hby at_104) (fun _ _ => ⟨rfl, rfl, (by decide : 0 + 0 + 1 + 0 + 1 + 1 + 2 + 0 ≤ _), (by decide : 0 + 0 + 3 + 0 + 1 + 10 + 5 + 0 ≤ _)⟩)
    refine Wk.backS (n := 107) (rc := 0) (rs := 0) (Q := Q_rmNL Z r_17 b2 z_1 (1 : Int32) T17.heap n0) (cl20_ _ (by rw [hml]; rfl)) fun vn20 T20 L20 X20 hQ20 => ?_
    clear cl20_
    obtain ⟨rfl, M20, e20⟩ := hQ20
    have N20 := Fr.app N17 M20
    show Wk p e below s _ _ _ T20 (mkF m 107 _ [(.ref b2)])
    refine Wk.astore X20 hx (hb hby at_107) (n := 109) rfl rfl (L' := #[.val (.int p1), .val (.int p2), .val (.int p3), .val (.int p4), .val (.int p5), .val (.int (1 : Int32)), .val (.int z_1), .val (.ref b2), .val (.ref r_17), .val (.ref b2)]) rfl ?_
    refine Wk.aload X20 hx (hb hby at_109) (n := 111) rfl rfl rfl ?_
    refine Wk.aload X20 hx (hb hby at_111) (n := 113) rfl rfl rfl ?_
    refine Wk.acmp X20 hx rfl rfl (hb hby at_113) (same := true) (decide_eq_true rfl) (by decide) (n := 118) (by decide) ?_
    refine Wk.aload X20 hx (hb hby at_118) (n := 120) rfl rfl rfl ?_
    obtain ⟨cq21, kq21, qn21a, qn21b, qn21c⟩ := isOf hZ e20 f18
    have cl21_ := fun (Ls : Array Slot) (hLs : Ls.size = c.maxLocals) => X20.interfaceBack hx (xi := (⟨"java/util/List", "size", "()I"⟩ : MethodName)) (y := (⟨"java/util/ArrayList", "size", "()I"⟩ : MethodName)) hown (mvT hZ (hw _ (List.mem_of_getElem? (i := 110) rfl))) (mvT hZ (hw _ (List.mem_of_getElem? (i := 103) rfl))) (mvT hZ (hw _ (List.mem_of_getElem? (i := 104) rfl))) (mvT hZ (hw _ (List.mem_of_getElem? (i := 105) rfl))) (mvT hZ (hw _ (List.mem_of_getElem? (i := 106) rfl))) (mvT hZ (hw _ (List.mem_of_getElem? (i := 107) rfl))) (mvT hZ (hw _ (List.mem_of_getElem? (i := 108) rfl))) (mvT hZ (hw _ (List.mem_of_getElem? (i := 100) rfl))) (by decide) (backOf (W := 0) (rmSz l Z a0 hw [] b2 (1 : Int32) T17.heap n0 (by omega) f19) hZ (hw _ (List.mem_of_getElem? (i := 109) rfl)) (hw _ (List.mem_of_getElem? (i := 6) rfl)) (by decide) (by decide)) qn21a qn21b qn21c (g := mkF m 120 Ls [(.ref b2)]) rfl hLs (Steps.refl _) (argsL := []) (rest := []) (lenOf pd_10 rfl) rfl (by show 2 * 0 + _ ≤ _; exact Nat.le_of_eq rfl) (hb hby at_120) (fun _ _ => ⟨rfl, e20, (by decide : 0 + 0 + 1 + 0 + 1 + 1 + 2 + 0 + 0 ≤ _), (by decide : 0 + 0 + 3 + 0 + 1 + 10 + 5 + 0 + 0 ≤ _)⟩)
    refine Wk.back (n := 125) (rc := 0) (rs := 0) (Q := Q_rmSz Z b2 (1 : Int32) T17.heap n0) (cl21_ _ (by rw [hml]; rfl)) fun vn21 T21 L21 X21 hQ21 => ?_
    clear cl21_
    obtain ⟨rfl, M21, e21⟩ := hQ21
    have N21 := Fr.app N20 M21
    show Wk p e below s _ _ _ T21 (mkF m 125 _ [(.int (1 : Int32))])
    refine Wk.iload X21 hx (hb hby at_125) (n := 127) rfl rfl ?_
    have hc127_22 : (1 : Int32) = (1 : Int32) := rfl
    refine Wk.icmpYes X21 hx (hb hby at_127) (teq hc127_22).1 (by decide) (n := 132) (by decide) ?_
    refine Wk.aload X21 hx (hb hby at_132) (n := 134) rfl rfl rfl ?_
    refine Wk.iconst X21 hx (hb hby at_134) (n := 135) rfl (z := (0 : Int32)) rfl ?_
    have f23 := (p12_2.keep J17 nin0)
    have f24 := (p12_4.keep J17 nin0)
    obtain ⟨cq25, kq25, qn25a, qn25b, qn25c⟩ := isOf hZ e21 f18
    have cl25_ := fun (Ls : Array Slot) (hLs : Ls.size = c.maxLocals) => X21.interfaceBack hx (xi := (⟨"java/util/List", "get", "(I)Ljava/lang/Object;"⟩ : MethodName)) (y := (⟨"java/util/ArrayList", "get", "(I)Ljava/lang/Object;"⟩ : MethodName)) hown (mvT hZ (hw _ (List.mem_of_getElem? (i := 111) rfl))) (mvT hZ (hw _ (List.mem_of_getElem? (i := 112) rfl))) (mvT hZ (hw _ (List.mem_of_getElem? (i := 113) rfl))) (mvT hZ (hw _ (List.mem_of_getElem? (i := 114) rfl))) (mvT hZ (hw _ (List.mem_of_getElem? (i := 115) rfl))) (mvT hZ (hw _ (List.mem_of_getElem? (i := 116) rfl))) (mvT hZ (hw _ (List.mem_of_getElem? (i := 117) rfl))) (mvT hZ (hw _ (List.mem_of_getElem? (i := 100) rfl))) (by decide) (backOf (W := 0) (rmGe l Z a0 hw [] b2 (0 : Int32) t_12 kt_12 ([(.ref r_6), .null, .null, .null, .null, .null, .null, .null, .null, .null]) r_6 (1 : Int32) T17.heap n0 (by omega) f18 f19 f23 f24 ⟨by decide, by decide⟩ rfl (by decide)) hZ (hw _ (List.mem_of_getElem? (i := 118) rfl)) (hw _ (List.mem_of_getElem? (i := 6) rfl)) (by decide) (by decide)) qn25a qn25b qn25c (g := mkF m 135 Ls [(.int (0 : Int32)), (.ref b2)]) rfl hLs (Steps.refl _) (argsL := [(.int (0 : Int32))]) (rest := []) (lenOf pd_12 rfl) rfl (by show 2 * 0 + _ ≤ _; exact Nat.le_of_eq rfl) (hb hby at_135) (fun _ _ => ⟨rfl, e21, (by decide : 0 + 0 + 1 + 0 + 1 + 1 + 2 + 0 + 0 + 0 ≤ _), (by decide : 0 + 0 + 3 + 0 + 1 + 10 + 5 + 0 + 0 + 0 ≤ _)⟩)
    refine Wk.back (n := 140) (rc := 0) (rs := 0) (Q := Q_rmGe Z b2 (0 : Int32) t_12 kt_12 ([(.ref r_6), .null, .null, .null, .null, .null, .null, .null, .null, .null]) r_6 (1 : Int32) T17.heap n0) (cl25_ _ (by rw [hml]; rfl)) fun vn25 T25 L25 X25 hQ25 => ?_
    clear cl25_
    obtain ⟨rfl, M25, e25⟩ := hQ25
    have N25 := Fr.app N21 M25
    show Wk p e below s _ _ _ T25 (mkF m 140 _ [(.ref r_6)])
    have f27 := ((p6_0.keep J12).keep J17)
    refine Wk.castY X25 hx hZ hown (hw _ (List.mem_of_getElem? (i := 132) rfl)) e25 (Ins.self f27) (hb hby at_140) (n := 143) rfl fun T26 X26 e26 => ?_
    have f28 := ((p6_1.keep J12 (ninS (nz (by omega)) nin0)).keep J17 nin0)
    obtain ⟨cq29, kq29, qn29a, qn29b, qn29c⟩ := isOf hZ e26 f27
    have cl29_ := fun (Ls : Array Slot) (hLs : Ls.size = c.maxLocals) => X26.virtualBack hx (y := (⟨"java/lang/Integer", "intValue", "()I"⟩ : MethodName)) (z := (⟨"java/lang/Integer", "intValue", "()I"⟩ : MethodName)) hown (mvT hZ (hw _ (List.mem_of_getElem? (i := 134) rfl))) (mvT hZ (hw _ (List.mem_of_getElem? (i := 135) rfl))) (notFace_of_selects (args := #[]) (mvT hZ (hw _ (List.mem_of_getElem? (i := 137) rfl)))) (mvT hZ (hw _ (List.mem_of_getElem? (i := 137) rfl))) (mvT hZ (hw _ (List.mem_of_getElem? (i := 136) rfl))) (by decide) (backOf (W := 0) (rmIV l Z a0 hw [] r_6 p3 T17.heap n0 (by omega) f28) hZ (hw _ (List.mem_of_getElem? (i := 138) rfl)) (hw _ (List.mem_of_getElem? (i := 32) rfl)) (by decide) (by decide)) qn29a qn29c (g := mkF m 143 Ls [(.ref r_6)]) rfl hLs (Steps.refl _) (argsL := []) (rest := []) (lenOf pd_10 rfl) rfl (by show 2 * 0 + _ ≤ _; exact Nat.le_of_eq rfl) (hb hby at_143) (fun _ _ => ⟨rfl, e26, (by decide : 0 + 0 + 1 + 0 + 1 + 1 + 2 + 0 + 0 + 0 + 0 ≤ _), (by decide : 0 + 0 + 3 + 0 + 1 + 10 + 5 + 0 + 0 + 0 + 0 ≤ _)⟩)
    refine Wk.back (n := 146) (rc := 0) (rs := 0) (Q := Q_rmIV Z r_6 p3 T17.heap n0) (cl29_ _ (by rw [hml]; rfl)) fun vn29 T29 L29 X29 hQ29 => ?_
    clear cl29_
    obtain ⟨rfl, M29, e29⟩ := hQ29
    have N29 := Fr.app N25 M29
    show Wk p e below s _ _ _ T29 (mkF m 146 _ [(.int p3)])
    refine Wk.iloadN X29 hx (hb hby at_146) (n := 147) rfl rfl ?_
    have hc147_30 : p3 = p3 := rfl
    refine Wk.icmpYes X29 hx (hb hby at_147) (teq hc147_30).1 (by decide) (n := 152) (by decide) ?_
    refine Wk.iload X29 hx (hb hby at_152) (n := 154) rfl rfl ?_
    refine Wk.iconst X29 hx (hb hby at_154) (n := 155) rfl (z := (2 : Int32)) rfl ?_
    have hc155_31 : (1 : Int32) < (2 : Int32) := by decide
    refine Wk.icmpYes X29 hx (hb hby at_155) (tlt hc155_31).1 (by decide) (n := 178) (by decide) ?_
    refine Wk.iconst X29 hx (hb hby at_178) (n := 179) rfl (z := (1 : Int32)) rfl ?_
    exact Wk.leave X29 (v := some (.int (1 : Int32))) (fun h => by rw [Bd.returns] at h; cases h) hlk e29 ⟨rfl, N29, K17⟩ (by decide) (by decide) (fun fs hr => retNz X29 hx (t := .boolean) rfl Bd.returns (by simp) (hb hby at_179) hr)
  ·
    rw [hn]
    refine Wk.istore X0 hx (hb hby at_5) (n := 7) rfl (L' := #[.val (.int p1), .val (.int p2), .val (.int p3), .val (.int p4), .val (.int p5), .val (.int (2 : Int32)), .unset, .unset, .unset, .unset]) rfl ?_
    refine Wk.iload X0 hx (hb hby at_7) (n := 9) rfl rfl ?_
    refine Wk.iloadN X0 hx (hb hby at_9) (n := 10) rfl rfl ?_
    have cl32_ := fun (Ls : Array Slot) (hLs : Ls.size = c.maxLocals) => Jvm.LawKit.callS X0 hx (y := (⟨"java/lang/Math", "max", "(II)I"⟩ : MethodName)) hown (mvT hZ (hw _ (List.mem_of_getElem? (i := 0) rfl))) (mvT hZ (hw _ (List.mem_of_getElem? (i := 1) rfl))) (mvT hZ (hw _ (List.mem_of_getElem? (i := 2) rfl))) (mvT hZ (hw _ (List.mem_of_getElem? (i := 3) rfl))) (by decide) (backOf (W := 0) (rmMx l Z a0 hw [] (2 : Int32) p2 h0 n0 (by omega)) hZ (hw _ (List.mem_of_getElem? (i := 3) rfl)) (hw _ (List.mem_of_getElem? (i := 2) rfl)) (by decide) (by decide)) (g := mkF m 10 Ls [(.int p2), (.int (2 : Int32))]) rfl hLs (argsL := [(.int (2 : Int32)), (.int p2)]) (rest := []) (lenOf pd_2 rfl) rfl (by show 2 * 0 + _ ≤ _; exact Nat.le_of_eq rfl) (hb hby at_10) (fun _ _ => ⟨rfl, e0, (by decide : 0 + 0 ≤ _), (by decide : 0 + 0 ≤ _)⟩)
    refine Wk.backS (n := 13) (rc := 0) (rs := 0) (Q := Q_rmMx Z (2 : Int32) p2 h0 n0) (cl32_ _ (by rw [hml]; rfl)) fun vn32 T32 L32 X32 hQ32 => ?_
    clear cl32_
    obtain ⟨z_32, rfl, M32, e32, hl_32, hg_32⟩ := hQ32
    have N32 := Fr.app N0 M32
    show Wk p e below s _ _ _ T32 (mkF m 13 _ [(.int z_32)])
    have hmx : ¬ z_32 < (2 : Int32) := own_max hl_32 hg_32
    refine Wk.istore X32 hx (hb hby at_13) (n := 15) rfl (L' := #[.val (.int p1), .val (.int p2), .val (.int p3), .val (.int p4), .val (.int p5), .val (.int (2 : Int32)), .val (.int z_32), .unset, .unset, .unset]) rfl ?_
    refine Wk.newO X32 hx hZ hown (hw _ (List.mem_of_getElem? (i := 4) rfl)) (hw _ (List.mem_of_getElem? (i := 5) rfl)) (hw _ (List.mem_of_getElem? (i := 6) rfl)) e32 (hb hby at_15) (n := 18) rfl (by decide) (by decide) fun T33 H33 b33 gn33 X33 e33 Ex33 An33 Dn33 Yn33 => ?_
    have gn33 := nx gn33
    have sz33 := Ex33.1
    have lt33 := ny An33.lt
    have K33 := K0.ext Ex33
    have Fn33_modCount : Fld Z H33 b33 "java/util/AbstractList" "modCount" "I" (.int (0 : Int32)) := Dn33 (Or.inl (hw _ (List.mem_of_getElem? (i := 26) rfl))) (ty := .int) (by decide)
    have Fn33_elementData : Fld Z H33 b33 "java/util/ArrayList" "elementData" "[Ljava/lang/Object;" .null := Dn33 (Or.inl (hw _ (List.mem_of_getElem? (i := 29) rfl))) (ty := (.array (.object "java/lang/Object"))) (by decide)
    have Fn33_size : Fld Z H33 b33 "java/util/ArrayList" "size" "I" (.int (0 : Int32)) := Dn33 (Or.inl (hw _ (List.mem_of_getElem? (i := 45) rfl))) (ty := .int) (by decide)
    refine Wk.dup X33 hx (hb hby at_18) (n := 19) rfl rfl ?_
    have f34 := (O1.ext Ex33)
    have cl35_ := fun (Ls : Array Slot) (hLs : Ls.size = c.maxLocals) => X33.specialBack hx (y := (⟨"java/util/ArrayList", "<init>", "()V"⟩ : MethodName)) rfl hown (mvT hZ (hw _ (List.mem_of_getElem? (i := 7) rfl))) (mvT hZ (hw _ (List.mem_of_getElem? (i := 8) rfl))) (mvT hZ (hw _ (List.mem_of_getElem? (i := 9) rfl))) (by decide) (backOf (W := 1) (rmIni l Z a0 hw [] b33 (.int (0 : Int32)) .null (.int (0 : Int32)) wE H33 n0 (by omega) An33 Fn33_modCount Fn33_elementData Fn33_size S1 f34 (by omega)) hZ (hw _ (List.mem_of_getElem? (i := 9) rfl)) (hw _ (List.mem_of_getElem? (i := 6) rfl)) (by decide) (by decide)) (g := mkF m 19 Ls [(.ref b33), (.ref b33)]) rfl hLs (Steps.refl _) (a := b33) (argsL := []) (rest := [(.ref b33)]) (lenOf pd_0 rfl) rfl (by show 2 * 0 + _ ≤ _; exact Nat.le_of_eq rfl) (hb hby at_19) (fun _ _ => ⟨rfl, e33, (by decide : 0 + 0 + 1 + 0 ≤ _), (by decide : 0 + 0 + 3 + 0 ≤ _)⟩)
    refine Wk.back (n := 22) (rc := 0) (rs := 0) (Q := Q_rmIni Z b33 (.int (0 : Int32)) .null (.int (0 : Int32)) wE H33 n0) (cl35_ _ (by rw [hml]; rfl)) fun vn35 T35 L35 X35 hQ35 => ?_
    clear cl35_
    obtain ⟨rfl, M35, J35, p35_0, p35_1, p35_2, p35_3⟩ := hQ35
    have N35 := Fr.app N32 M35
    have sz35 := J35.1
    have K35 := K33.trans J35 (allS (Or.inr (by omega)) all0)
    have lt_p35_0 := ny p35_0.lt
    show Wk p e below s _ _ _ T35 (mkF m 22 _ [(.ref b33)])
    refine Wk.astore X35 hx (hb hby at_22) (n := 24) rfl rfl (L' := #[.val (.int p1), .val (.int p2), .val (.int p3), .val (.int p4), .val (.int p5), .val (.int (2 : Int32)), .val (.int z_32), .val (.ref b33), .unset, .unset]) rfl ?_
    refine Wk.aload X35 hx (hb hby at_24) (n := 26) rfl rfl rfl ?_
    refine Wk.iloadN X35 hx (hb hby at_26) (n := 27) rfl rfl ?_
    have f36 := (f34.keep J35 (allS (by omega) all0))
    have cl37_ := fun (Ls : Array Slot) (hLs : Ls.size = c.maxLocals) => Jvm.LawKit.callS X35 hx (y := (⟨"java/lang/Integer", "valueOf", "(I)Ljava/lang/Integer;"⟩ : MethodName)) hown (mvT hZ (hw _ (List.mem_of_getElem? (i := 30) rfl))) (mvT hZ (hw _ (List.mem_of_getElem? (i := 31) rfl))) (mvT hZ (hw _ (List.mem_of_getElem? (i := 32) rfl))) (mvT hZ (hw _ (List.mem_of_getElem? (i := 33) rfl))) (by decide) (backOf (W := 1) (rmVO l Z a0 hw [] p3 wC cC T35.heap n0 (by omega) S2 S3 f36 ArC hC) hZ (hw _ (List.mem_of_getElem? (i := 33) rfl)) (hw _ (List.mem_of_getElem? (i := 32) rfl)) (by decide) (by decide)) (g := mkF m 27 Ls [(.int p3), (.ref b33)]) rfl hLs (argsL := [(.int p3)]) (rest := [(.ref b33)]) (lenOf pd_13 rfl) rfl (by show 2 * 0 + _ ≤ _; exact Nat.le_of_eq rfl) (hb hby at_27) (fun _ _ => ⟨rfl, rfl, (by decide : 0 + 0 + 1 + 0 + 1 ≤ _), (by decide : 0 + 0 + 3 + 0 + 1 ≤ _)⟩)
    refine Wk.backS (n := 30) (rc := 1) (rs := 1) (Q := Q_rmVO Z p3 wC cC T35.heap n0) (cl37_ _ (by rw [hml]; rfl)) fun vn37 T37 L37 X37 hQ37 => ?_
    clear cl37_
    obtain ⟨r_37, rfl, M37, J37, p37_0, p37_1⟩ := hQ37
    have N37 := Fr.app N35 M37
    have sz37 := J37.1
    have K37 := K35.trans J37 (fun x hx => nomatch hx)
    have lt_p37_0 := ny p37_0.lt
    show Wk p e below s _ _ _ T37 (mkF m 30 _ [(.ref r_37), (.ref b33)])
    have f38 := (p35_0.keep J37)
    have na37 := nw (ne_exa p37_0 f38 (by decide))
    have f39 := (p35_1.keep J37 nin0)
    have f40 := (p35_2.keep J37 nin0)
    have f41 := (p35_3.keep J37 nin0)
    have f42 := (f36.keep J37 all0)
    obtain ⟨cq43, kq43, qn43a, qn43b, qn43c⟩ := isOf hZ rfl f38
    have cl43_ := fun (Ls : Array Slot) (hLs : Ls.size = c.maxLocals) => X37.virtualBack hx (y := (⟨"java/util/ArrayList", "add", "(Ljava/lang/Object;)Z"⟩ : MethodName)) (z := (⟨"java/util/ArrayList", "add", "(Ljava/lang/Object;)Z"⟩ : MethodName)) hown (mvT hZ (hw _ (List.mem_of_getElem? (i := 37) rfl))) (mvT hZ (hw _ (List.mem_of_getElem? (i := 38) rfl))) (notFace_of_selects (args := #[]) (mvT hZ (hw _ (List.mem_of_getElem? (i := 40) rfl)))) (mvT hZ (hw _ (List.mem_of_getElem? (i := 40) rfl))) (mvT hZ (hw _ (List.mem_of_getElem? (i := 39) rfl))) (by decide) (backOf (W := 0) (rmAG l Z a0 hw [] b33 r_37 (0 : Int32) wE kE T37.heap n0 (by omega) f38 f39 f40 f41 A0 S1 f42 p37_0 (by omega)) hZ (hw _ (List.mem_of_getElem? (i := 41) rfl)) (hw _ (List.mem_of_getElem? (i := 6) rfl)) (by decide) (by decide)) qn43a qn43c (g := mkF m 30 Ls [(.ref r_37), (.ref b33)]) rfl hLs (Steps.refl _) (argsL := [(.ref r_37)]) (rest := []) (lenOf pd_14 rfl) rfl (by show 2 * 0 + _ ≤ _; exact Nat.le_of_eq rfl) (hb hby at_30) (fun _ _ => ⟨rfl, rfl, (by decide : 0 + 0 + 1 + 0 + 1 + 1 ≤ _), (by decide : 0 + 0 + 3 + 0 + 1 + 10 ≤ _)⟩)
    refine Wk.back (n := 33) (rc := 1) (rs := 10) (Q := Q_rmAG Z b33 r_37 (0 : Int32) wE kE T37.heap n0) (cl43_ _ (by rw [hml]; rfl)) fun vn43 T43 L43 X43 hQ43 => ?_
    clear cl43_
    obtain ⟨t_43, kt_43, rfl, M43, J43, p43_0, p43_1, p43_2, p43_3, p43_4, ov_43, gt_43⟩ := hQ43
    have N43 := Fr.app N37 M43
    have sz43 := J43.1
    have K43 := K37.trans J43 (allS (Or.inr (by omega)) all0)
    have lt_p43_0 := ny p43_0.lt
    have lt_p43_4 := ny p43_4.lt
    show Wk p e below s _ _ _ T43 (mkF m 33 _ [(.int (1 : Int32))])
    refine Wk.pop X43 hx (hb hby at_33) (n := 34) rfl rfl ?_
    refine Wk.iload X43 hx (hb hby at_34) (n := 36) rfl rfl ?_
    refine Wk.iconst X43 hx (hb hby at_36) (n := 37) rfl (z := (2 : Int32)) rfl ?_
    have hc37_44 : ¬ ((2 : Int32) < (2 : Int32)) := by decide
    refine Wk.icmpNo X43 hx (hb hby at_37) (n := 40) rfl (flt hc37_44).1 ?_
    refine Wk.aload X43 hx (hb hby at_40) (n := 42) rfl rfl rfl ?_
    refine Wk.iloadN X43 hx (hb hby at_42) (n := 43) rfl rfl ?_
    have f45 := (f42.keep J43 (allS (by omega) all0))
    have cl46_ := fun (Ls : Array Slot) (hLs : Ls.size = c.maxLocals) => Jvm.LawKit.callS X43 hx (y := (⟨"java/lang/Integer", "valueOf", "(I)Ljava/lang/Integer;"⟩ : MethodName)) hown (mvT hZ (hw _ (List.mem_of_getElem? (i := 30) rfl))) (mvT hZ (hw _ (List.mem_of_getElem? (i := 31) rfl))) (mvT hZ (hw _ (List.mem_of_getElem? (i := 32) rfl))) (mvT hZ (hw _ (List.mem_of_getElem? (i := 33) rfl))) (by decide) (backOf (W := 1) (rmVO l Z a0 hw [] p4 wC cC T43.heap n0 (by omega) S2 S3 f45 ArC hC) hZ (hw _ (List.mem_of_getElem? (i := 33) rfl)) (hw _ (List.mem_of_getElem? (i := 32) rfl)) (by decide) (by decide)) (g := mkF m 43 Ls [(.int p4), (.ref b33)]) rfl hLs (argsL := [(.int p4)]) (rest := [(.ref b33)]) (lenOf pd_13 rfl) rfl (by show 2 * 0 + _ ≤ _; exact Nat.le_of_eq rfl) (hb hby at_43) (fun _ _ => ⟨rfl, rfl, (by decide : 0 + 0 + 1 + 0 + 1 + 1 + 1 ≤ _), (by decide : 0 + 0 + 3 + 0 + 1 + 10 + 1 ≤ _)⟩)
    refine Wk.backS (n := 46) (rc := 1) (rs := 1) (Q := Q_rmVO Z p4 wC cC T43.heap n0) (cl46_ _ (by rw [hml]; rfl)) fun vn46 T46 L46 X46 hQ46 => ?_
    clear cl46_
    obtain ⟨r_46, rfl, M46, J46, p46_0, p46_1⟩ := hQ46
    have N46 := Fr.app N43 M46
    have sz46 := J46.1
    have K46 := K43.trans J46 (fun x hx => nomatch hx)
    have lt_p46_0 := ny p46_0.lt
    show Wk p e below s _ _ _ T46 (mkF m 46 _ [(.ref r_46), (.ref b33)])
    have f47 := (p43_0.keep J46)
    have na46 := nw (ne_exa p46_0 f47 (by decide))
    have f48 := (p43_4.keep J46 nin0)
    obtain ⟨cx46, Ax46, -⟩ := id f48
    have nb46 := nw (ne_arr p46_0 (hw _ (List.mem_of_getElem? (i := 142) rfl)) Ax46)
    have f49 := (p43_1.keep J46 nin0)
    have f50 := (p43_2.keep J46 nin0)
    have f51 := (p43_3.keep J46 nin0)
    obtain ⟨cq52, kq52, qn52a, qn52b, qn52c⟩ := isOf hZ rfl f47
    have cl52_ := fun (Ls : Array Slot) (hLs : Ls.size = c.maxLocals) => X46.virtualBack hx (y := (⟨"java/util/ArrayList", "add", "(Ljava/lang/Object;)Z"⟩ : MethodName)) (z := (⟨"java/util/ArrayList", "add", "(Ljava/lang/Object;)Z"⟩ : MethodName)) hown (mvT hZ (hw _ (List.mem_of_getElem? (i := 37) rfl))) (mvT hZ (hw _ (List.mem_of_getElem? (i := 38) rfl))) (notFace_of_selects (args := #[]) (mvT hZ (hw _ (List.mem_of_getElem? (i := 40) rfl)))) (mvT hZ (hw _ (List.mem_of_getElem? (i := 40) rfl))) (mvT hZ (hw _ (List.mem_of_getElem? (i := 39) rfl))) (by decide) (backOf (W := 0) (rmAN l Z a0 hw [] b33 r_46 ((0 : Int32) + (1 : Int32)) t_43 kt_43 ([(.ref r_37), .null, .null, .null, .null, .null, .null, .null, .null, .null]) (1 : Int32) 1 T46.heap n0 (by omega) f47 f49 f50 f51 f48 p46_0 ov_43 ⟨by decide, by decide⟩ rfl (Nat.le_of_ble_eq_true rfl) (nz (by omega)) (by omega) (by omega)) hZ (hw _ (List.mem_of_getElem? (i := 41) rfl)) (hw _ (List.mem_of_getElem? (i := 6) rfl)) (by decide) (by decide)) qn52a qn52c (g := mkF m 46 Ls [(.ref r_46), (.ref b33)]) rfl hLs (Steps.refl _) (argsL := [(.ref r_46)]) (rest := []) (lenOf pd_14 rfl) rfl (by show 2 * 0 + _ ≤ _; exact Nat.le_of_eq rfl) (hb hby at_46) (fun _ _ => ⟨rfl, rfl, (by decide : 0 + 0 + 1 + 0 + 1 + 1 + 1 + 0 ≤ _), (by decide : 0 + 0 + 3 + 0 + 1 + 10 + 1 + 0 ≤ _)⟩)
    refine Wk.back (n := 49) (rc := 0) (rs := 0) (Q := Q_rmAN Z b33 r_46 ((0 : Int32) + (1 : Int32)) t_43 kt_43 ([(.ref r_37), .null, .null, .null, .null, .null, .null, .null, .null, .null]) (1 : Int32) 1 T46.heap n0) (cl52_ _ (by rw [hml]; rfl)) fun vn52 T52 L52 X52 hQ52 => ?_
    clear cl52_
    obtain ⟨rfl, M52, J52, p52_0, p52_1, p52_2, p52_3, p52_4⟩ := hQ52
    have N52 := Fr.app N46 M52
    have sz52 := J52.1
    have K52 := K46.trans J52 (allS (Or.inr (by omega)) (allS (Or.inr (by omega)) all0))
    have lt_p52_0 := ny p52_0.lt
    have lt_p52_4 := ny p52_4.lt
    show Wk p e below s _ _ _ T52 (mkF m 49 _ [(.int (1 : Int32))])
    have V52_ : Arv Z T52.heap t_43 kt_43 (.object "java/lang/Object") (10 : Int32) [(.ref r_37), (.ref r_46), .null, .null, .null, .null, .null, .null, .null, .null] .null := p52_4
    have Z52_ : Fld Z T52.heap b33 "java/util/ArrayList" "size" "I" (.int (2 : Int32)) := p52_3
    refine Wk.pop X52 hx (hb hby at_49) (n := 50) rfl rfl ?_
    refine Wk.iload X52 hx (hb hby at_50) (n := 52) rfl rfl ?_
    refine Wk.iconst X52 hx (hb hby at_52) (n := 53) rfl (z := (3 : Int32)) rfl ?_
    have hc53_53 : (2 : Int32) < (3 : Int32) := by decide
    refine Wk.icmpYes X52 hx (hb hby at_53) (tlt hc53_53).1 (by decide) (n := 68) (by decide) ?_
    refine Wk.iload X52 hx (hb hby at_68) (n := 70) rfl rfl ?_
    refine Wk.iconst X52 hx (hb hby at_70) (n := 71) rfl (z := (4 : Int32)) rfl ?_
    have hc71_54 : (2 : Int32) < (4 : Int32) := by decide
    refine Wk.icmpYes X52 hx (hb hby at_71) (tlt hc71_54).1 (by decide) (n := 86) (by decide) ?_
    refine Wk.iload X52 hx (hb hby at_86) (n := 88) rfl rfl ?_
    refine Wk.sipush X52 hx (hb hby at_88) (n := 91) rfl (z := (255 : Int32)) rfl ?_
    refine Wk.iand X52 hx (hb hby at_91) (n := 92) rfl ?_
    obtain ⟨cf, q_cf⟩ : ∃ z : Int32, z = ((p5 &&& (255 : Int32)).toUInt32.toUInt16.toUInt32.toInt32) := ⟨_, rfl⟩
    have n_cf : nar .char cf = cf := by rw [q_cf]; exact own_c255 _
    have r_cf : ¬ cf < 0 ∧ ¬ (255 : Int32) < cf := by rw [q_cf]; exact own_r255 _
    refine Wk.i2c X52 hx (hb hby at_92) (n := 93) rfl q_cf.symm ?_
    have f55 := ((f45.keep J46 all0).keep J52 (allS (by omega) (allS (by omega) all0)))
    have cl56_ := fun (Ls : Array Slot) (hLs : Ls.size = c.maxLocals) => Jvm.LawKit.callS X52 hx (y := (⟨"java/lang/String", "valueOf", "(C)Ljava/lang/String;"⟩ : MethodName)) hown (mvT hZ (hw _ (List.mem_of_getElem? (i := 65) rfl))) (mvT hZ (hw _ (List.mem_of_getElem? (i := 66) rfl))) (mvT hZ (hw _ (List.mem_of_getElem? (i := 67) rfl))) (mvT hZ (hw _ (List.mem_of_getElem? (i := 68) rfl))) (by decide) (backOf (W := 0) (rmSVO l Z a0 hw [] cf zc T52.heap n0 (by omega) S4 f55 hCS r_cf.2) hZ (hw _ (List.mem_of_getElem? (i := 68) rfl)) (hw _ (List.mem_of_getElem? (i := 67) rfl)) (by decide) (by decide)) (g := mkF m 93 Ls [(.int cf)]) rfl hLs (argsL := [(.int cf)]) (rest := []) (lenOf pd_15 rfl) rfl (by show 2 * 0 + _ ≤ _; exact Nat.le_of_eq rfl) (hb hby at_93) (fun _ _ => ⟨rfl, rfl, (by decide : 0 + 0 + 1 + 0 + 1 + 1 + 1 + 0 + 2 ≤ _), (by decide : 0 + 0 + 3 + 0 + 1 + 10 + 1 + 0 + 5 ≤ _)⟩)
    refine Wk.backS (n := 96) (rc := 2) (rs := 5) (Q := Q_rmSVO Z cf zc T52.heap n0) (cl56_ _ (by rw [hml]; rfl)) fun vn56 T56 L56 X56 hQ56 => ?_
    clear cl56_
    obtain ⟨r_56, t_56, kb_56, rfl, M56, J56, p56_0, p56_1, p56_2, p56_3, gr_56, gt_56⟩ := hQ56
    have N56 := Fr.app N52 M56
    have sz56 := J56.1
    have K56 := K52.trans J56 (fun x hx => nomatch hx)
    have lt_p56_0 := ny p56_0.lt
    have lt_p56_3 := ny p56_3.lt
    show Wk p e below s _ _ _ T56 (mkF m 96 _ [(.ref r_56)])
    refine Wk.astore X56 hx (hb hby at_96) (n := 98) rfl rfl (L' := #[.val (.int p1), .val (.int p2), .val (.int p3), .val (.int p4), .val (.int p5), .val (.int (2 : Int32)), .val (.int z_32), .val (.ref b33), .val (.ref r_56), .unset]) rfl ?_
    refine Wk.aload X56 hx (hb hby at_98) (n := 100) rfl rfl rfl ?_
    refine Wk.aload X56 hx (hb hby at_100) (n := 102) rfl rfl rfl ?_
    refine Wk.iload X56 hx (hb hby at_102) (n := 104) rfl rfl ?_
    have f57 := (p52_0.keep J56)
    have f58 := (Z52_.keep J56 nin0)
    have cl59_ := fun (Ls : Array Slot) (hLs : Ls.size = c.maxLocals) => Jvm.LawKit.callS X56 hx (y := (⟨"com/example/strict_stock/strictstock/Names", "list", "(Ljava/lang/String;Ljava/util/List;I)Ljava/util/List;"⟩ : MethodName)) hown (mvT hZ (hw _ (List.mem_of_getElem? (i := 89) rfl))) (mvT hZ (hw _ (List.mem_of_getElem? (i := 90) rfl))) (mvT hZ (hw _ (List.mem_of_getElem? (i := 91) rfl))) (mvT hZ (hw _ (List.mem_of_getElem? (i := 92) rfl))) (by decide) (backOf (W := 0) (rmNL l Z a0 hw [] r_56 b33 z_32 (2 : Int32) T56.heap n0 (by omega) f57 f58 (by decide) hmx) hZ (hw _ (List.mem_of_getElem? (i := 92) rfl)) (hw _ (List.mem_of_getElem? (i := 91) rfl)) (by decide) (by decide)) (g := mkF m 104 Ls [(.int z_32), (.ref b33), (.ref r_56)]) rfl hLs (argsL := [(.ref r_56), (.ref b33), (.int z_32)]) (rest := []) (lenOf pd_16 rfl) rfl (by show 2 * 0 + _ ≤ _; exact Nat.le_of_eq rfl) (hb hby at_104) (fun _ _ => ⟨rfl, rfl, (by decide : 0 + 0 + 1 + 0 + 1 + 1 + 1 + 0 + 2 + 0 ≤ _), (by decide : 0 + 0 + 3 + 0 + 1 + 10 + 1 + 0 + 5 + 0 ≤ _)⟩)
    refine Wk.backS (n := 107) (rc := 0) (rs := 0) (Q := Q_rmNL Z r_56 b33 z_32 (2 : Int32) T56.heap n0) (cl59_ _ (by rw [hml]; rfl)) fun vn59 T59 L59 X59 hQ59 => ?_
    clear cl59_
    obtain ⟨rfl, M59, e59⟩ := hQ59
    have N59 := Fr.app N56 M59
    show Wk p e below s _ _ _ T59 (mkF m 107 _ [(.ref b33)])
    refine Wk.astore X59 hx (hb hby at_107) (n := 109) rfl rfl (L' := #[.val (.int p1), .val (.int p2), .val (.int p3), .val (.int p4), .val (.int p5), .val (.int (2 : Int32)), .val (.int z_32), .val (.ref b33), .val (.ref r_56), .val (.ref b33)]) rfl ?_
    refine Wk.aload X59 hx (hb hby at_109) (n := 111) rfl rfl rfl ?_
    refine Wk.aload X59 hx (hb hby at_111) (n := 113) rfl rfl rfl ?_
    refine Wk.acmp X59 hx rfl rfl (hb hby at_113) (same := true) (decide_eq_true rfl) (by decide) (n := 118) (by decide) ?_
    refine Wk.aload X59 hx (hb hby at_118) (n := 120) rfl rfl rfl ?_
    obtain ⟨cq60, kq60, qn60a, qn60b, qn60c⟩ := isOf hZ e59 f57
    have cl60_ := fun (Ls : Array Slot) (hLs : Ls.size = c.maxLocals) => X59.interfaceBack hx (xi := (⟨"java/util/List", "size", "()I"⟩ : MethodName)) (y := (⟨"java/util/ArrayList", "size", "()I"⟩ : MethodName)) hown (mvT hZ (hw _ (List.mem_of_getElem? (i := 110) rfl))) (mvT hZ (hw _ (List.mem_of_getElem? (i := 103) rfl))) (mvT hZ (hw _ (List.mem_of_getElem? (i := 104) rfl))) (mvT hZ (hw _ (List.mem_of_getElem? (i := 105) rfl))) (mvT hZ (hw _ (List.mem_of_getElem? (i := 106) rfl))) (mvT hZ (hw _ (List.mem_of_getElem? (i := 107) rfl))) (mvT hZ (hw _ (List.mem_of_getElem? (i := 108) rfl))) (mvT hZ (hw _ (List.mem_of_getElem? (i := 100) rfl))) (by decide) (backOf (W := 0) (rmSz l Z a0 hw [] b33 (2 : Int32) T56.heap n0 (by omega) f58) hZ (hw _ (List.mem_of_getElem? (i := 109) rfl)) (hw _ (List.mem_of_getElem? (i := 6) rfl)) (by decide) (by decide)) qn60a qn60b qn60c (g := mkF m 120 Ls [(.ref b33)]) rfl hLs (Steps.refl _) (argsL := []) (rest := []) (lenOf pd_10 rfl) rfl (by show 2 * 0 + _ ≤ _; exact Nat.le_of_eq rfl) (hb hby at_120) (fun _ _ => ⟨rfl, e59, (by decide : 0 + 0 + 1 + 0 + 1 + 1 + 1 + 0 + 2 + 0 + 0 ≤ _), (by decide : 0 + 0 + 3 + 0 + 1 + 10 + 1 + 0 + 5 + 0 + 0 ≤ _)⟩)
    refine Wk.back (n := 125) (rc := 0) (rs := 0) (Q := Q_rmSz Z b33 (2 : Int32) T56.heap n0) (cl60_ _ (by rw [hml]; rfl)) fun vn60 T60 L60 X60 hQ60 => ?_
    clear cl60_
    obtain ⟨rfl, M60, e60⟩ := hQ60
    have N60 := Fr.app N59 M60
    show Wk p e below s _ _ _ T60 (mkF m 125 _ [(.int (2 : Int32))])
    refine Wk.iload X60 hx (hb hby at_125) (n := 127) rfl rfl ?_
    have hc127_61 : (2 : Int32) = (2 : Int32) := rfl
    refine Wk.icmpYes X60 hx (hb hby at_127) (teq hc127_61).1 (by decide) (n := 132) (by decide) ?_
    refine Wk.aload X60 hx (hb hby at_132) (n := 134) rfl rfl rfl ?_
    refine Wk.iconst X60 hx (hb hby at_134) (n := 135) rfl (z := (0 : Int32)) rfl ?_
    have f62 := (p52_2.keep J56 nin0)
    have f63 := (V52_.keep J56 nin0)
    obtain ⟨cq64, kq64, qn64a, qn64b, qn64c⟩ := isOf hZ e60 f57
    have cl64_ := fun (Ls : Array Slot) (hLs : Ls.size = c.maxLocals) => X60.interfaceBack hx (xi := (⟨"java/util/List", "get", "(I)Ljava/lang/Object;"⟩ : MethodName)) (y := (⟨"java/util/ArrayList", "get", "(I)Ljava/lang/Object;"⟩ : MethodName)) hown (mvT hZ (hw _ (List.mem_of_getElem? (i := 111) rfl))) (mvT hZ (hw _ (List.mem_of_getElem? (i := 112) rfl))) (mvT hZ (hw _ (List.mem_of_getElem? (i := 113) rfl))) (mvT hZ (hw _ (List.mem_of_getElem? (i := 114) rfl))) (mvT hZ (hw _ (List.mem_of_getElem? (i := 115) rfl))) (mvT hZ (hw _ (List.mem_of_getElem? (i := 116) rfl))) (mvT hZ (hw _ (List.mem_of_getElem? (i := 117) rfl))) (mvT hZ (hw _ (List.mem_of_getElem? (i := 100) rfl))) (by decide) (backOf (W := 0) (rmGe l Z a0 hw [] b33 (0 : Int32) t_43 kt_43 ([(.ref r_37), (.ref r_46), .null, .null, .null, .null, .null, .null, .null, .null]) r_37 (2 : Int32) T56.heap n0 (by omega) f57 f58 f62 f63 ⟨by decide, by decide⟩ rfl (by decide)) hZ (hw _ (List.mem_of_getElem? (i := 118) rfl)) (hw _ (List.mem_of_getElem? (i := 6) rfl)) (by decide) (by decide)) qn64a qn64b qn64c (g := mkF m 135 Ls [(.int (0 : Int32)), (.ref b33)]) rfl hLs (Steps.refl _) (argsL := [(.int (0 : Int32))]) (rest := []) (lenOf pd_12 rfl) rfl (by show 2 * 0 + _ ≤ _; exact Nat.le_of_eq rfl) (hb hby at_135) (fun _ _ => ⟨rfl, e60, (by decide : 0 + 0 + 1 + 0 + 1 + 1 + 1 + 0 + 2 + 0 + 0 + 0 ≤ _), (by decide : 0 + 0 + 3 + 0 + 1 + 10 + 1 + 0 + 5 + 0 + 0 + 0 ≤ _)⟩)
    refine Wk.back (n := 140) (rc := 0) (rs := 0) (Q := Q_rmGe Z b33 (0 : Int32) t_43 kt_43 ([(.ref r_37), (.ref r_46), .null, .null, .null, .null, .null, .null, .null, .null]) r_37 (2 : Int32) T56.heap n0) (cl64_ _ (by rw [hml]; rfl)) fun vn64 T64 L64 X64 hQ64 => ?_
    clear cl64_
    obtain ⟨rfl, M64, e64⟩ := hQ64
    have N64 := Fr.app N60 M64
    show Wk p e below s _ _ _ T64 (mkF m 140 _ [(.ref r_37)])
    have f66 := ((((p37_0.keep J43).keep J46).keep J52).keep J56)
    refine Wk.castY X64 hx hZ hown (hw _ (List.mem_of_getElem? (i := 132) rfl)) e64 (Ins.self f66) (hb hby at_140) (n := 143) rfl fun T65 X65 e65 => ?_
    have f67 := ((((p37_1.keep J43 (ninS (nz (by omega)) nin0)).keep J46 nin0).keep J52 (ninS (nz (by omega)) (ninS (nz (by omega)) nin0))).keep J56 nin0)
    obtain ⟨cq68, kq68, qn68a, qn68b, qn68c⟩ := isOf hZ e65 f66
    have cl68_ := fun (Ls : Array Slot) (hLs : Ls.size = c.maxLocals) => X65.virtualBack hx (y := (⟨"java/lang/Integer", "intValue", "()I"⟩ : MethodName)) (z := (⟨"java/lang/Integer", "intValue", "()I"⟩ : MethodName)) hown (mvT hZ (hw _ (List.mem_of_getElem? (i := 134) rfl))) (mvT hZ (hw _ (List.mem_of_getElem? (i := 135) rfl))) (notFace_of_selects (args := #[]) (mvT hZ (hw _ (List.mem_of_getElem? (i := 137) rfl)))) (mvT hZ (hw _ (List.mem_of_getElem? (i := 137) rfl))) (mvT hZ (hw _ (List.mem_of_getElem? (i := 136) rfl))) (by decide) (backOf (W := 0) (rmIV l Z a0 hw [] r_37 p3 T56.heap n0 (by omega) f67) hZ (hw _ (List.mem_of_getElem? (i := 138) rfl)) (hw _ (List.mem_of_getElem? (i := 32) rfl)) (by decide) (by decide)) qn68a qn68c (g := mkF m 143 Ls [(.ref r_37)]) rfl hLs (Steps.refl _) (argsL := []) (rest := []) (lenOf pd_10 rfl) rfl (by show 2 * 0 + _ ≤ _; exact Nat.le_of_eq rfl) (hb hby at_143) (fun _ _ => ⟨rfl, e65, (by decide : 0 + 0 + 1 + 0 + 1 + 1 + 1 + 0 + 2 + 0 + 0 + 0 + 0 ≤ _), (by decide : 0 + 0 + 3 + 0 + 1 + 10 + 1 + 0 + 5 + 0 + 0 + 0 + 0 ≤ _)⟩)
    refine Wk.back (n := 146) (rc := 0) (rs := 0) (Q := Q_rmIV Z r_37 p3 T56.heap n0) (cl68_ _ (by rw [hml]; rfl)) fun vn68 T68 L68 X68 hQ68 => ?_
    clear cl68_
    obtain ⟨rfl, M68, e68⟩ := hQ68
    have N68 := Fr.app N64 M68
    show Wk p e below s _ _ _ T68 (mkF m 146 _ [(.int p3)])
    refine Wk.iloadN X68 hx (hb hby at_146) (n := 147) rfl rfl ?_
    have hc147_69 : p3 = p3 := rfl
    refine Wk.icmpYes X68 hx (hb hby at_147) (teq hc147_69).1 (by decide) (n := 152) (by decide) ?_
    refine Wk.iload X68 hx (hb hby at_152) (n := 154) rfl rfl ?_
    refine Wk.iconst X68 hx (hb hby at_154) (n := 155) rfl (z := (2 : Int32)) rfl ?_
    have hc155_70 : ¬ ((2 : Int32) < (2 : Int32)) := by decide
    refine Wk.icmpNo X68 hx (hb hby at_155) (n := 158) rfl (flt hc155_70).1 ?_
    refine Wk.aload X68 hx (hb hby at_158) (n := 160) rfl rfl rfl ?_
    refine Wk.iconst X68 hx (hb hby at_160) (n := 161) rfl (z := (1 : Int32)) rfl ?_
    obtain ⟨cq71, kq71, qn71a, qn71b, qn71c⟩ := isOf hZ e68 f57
    have cl71_ := fun (Ls : Array Slot) (hLs : Ls.size = c.maxLocals) => X68.interfaceBack hx (xi := (⟨"java/util/List", "get", "(I)Ljava/lang/Object;"⟩ : MethodName)) (y := (⟨"java/util/ArrayList", "get", "(I)Ljava/lang/Object;"⟩ : MethodName)) hown (mvT hZ (hw _ (List.mem_of_getElem? (i := 111) rfl))) (mvT hZ (hw _ (List.mem_of_getElem? (i := 112) rfl))) (mvT hZ (hw _ (List.mem_of_getElem? (i := 113) rfl))) (mvT hZ (hw _ (List.mem_of_getElem? (i := 114) rfl))) (mvT hZ (hw _ (List.mem_of_getElem? (i := 115) rfl))) (mvT hZ (hw _ (List.mem_of_getElem? (i := 116) rfl))) (mvT hZ (hw _ (List.mem_of_getElem? (i := 117) rfl))) (mvT hZ (hw _ (List.mem_of_getElem? (i := 100) rfl))) (by decide) (backOf (W := 0) (rmGe l Z a0 hw [] b33 (1 : Int32) t_43 kt_43 ([(.ref r_37), (.ref r_46), .null, .null, .null, .null, .null, .null, .null, .null]) r_46 (2 : Int32) T56.heap n0 (by omega) f57 f58 f62 f63 ⟨by decide, by decide⟩ rfl (by decide)) hZ (hw _ (List.mem_of_getElem? (i := 118) rfl)) (hw _ (List.mem_of_getElem? (i := 6) rfl)) (by decide) (by decide)) qn71a qn71b qn71c (g := mkF m 161 Ls [(.int (1 : Int32)), (.ref b33)]) rfl hLs (Steps.refl _) (argsL := [(.int (1 : Int32))]) (rest := []) (lenOf pd_12 rfl) rfl (by show 2 * 0 + _ ≤ _; exact Nat.le_of_eq rfl) (hb hby at_161) (fun _ _ => ⟨rfl, e68, (by decide : 0 + 0 + 1 + 0 + 1 + 1 + 1 + 0 + 2 + 0 + 0 + 0 + 0 + 0 ≤ _), (by decide : 0 + 0 + 3 + 0 + 1 + 10 + 1 + 0 + 5 + 0 + 0 + 0 + 0 + 0 ≤ _)⟩)
    refine Wk.back (n := 166) (rc := 0) (rs := 0) (Q := Q_rmGe Z b33 (1 : Int32) t_43 kt_43 ([(.ref r_37), (.ref r_46), .null, .null, .null, .null, .null, .null, .null, .null]) r_46 (2 : Int32) T56.heap n0) (cl71_ _ (by rw [hml]; rfl)) fun vn71 T71 L71 X71 hQ71 => ?_
    clear cl71_
    obtain ⟨rfl, M71, e71⟩ := hQ71
    have N71 := Fr.app N68 M71
    show Wk p e below s _ _ _ T71 (mkF m 166 _ [(.ref r_46)])
    have f73 := ((p46_0.keep J52).keep J56)
    refine Wk.castY X71 hx hZ hown (hw _ (List.mem_of_getElem? (i := 132) rfl)) e71 (Ins.self f73) (hb hby at_166) (n := 169) rfl fun T72 X72 e72 => ?_
    have f74 := ((p46_1.keep J52 (ninS (nz (by omega)) (ninS (nz (by omega)) nin0))).keep J56 nin0)
    obtain ⟨cq75, kq75, qn75a, qn75b, qn75c⟩ := isOf hZ e72 f73
    have cl75_ := fun (Ls : Array Slot) (hLs : Ls.size = c.maxLocals) => X72.virtualBack hx (y := (⟨"java/lang/Integer", "intValue", "()I"⟩ : MethodName)) (z := (⟨"java/lang/Integer", "intValue", "()I"⟩ : MethodName)) hown (mvT hZ (hw _ (List.mem_of_getElem? (i := 134) rfl))) (mvT hZ (hw _ (List.mem_of_getElem? (i := 135) rfl))) (notFace_of_selects (args := #[]) (mvT hZ (hw _ (List.mem_of_getElem? (i := 137) rfl)))) (mvT hZ (hw _ (List.mem_of_getElem? (i := 137) rfl))) (mvT hZ (hw _ (List.mem_of_getElem? (i := 136) rfl))) (by decide) (backOf (W := 0) (rmIV l Z a0 hw [] r_46 p4 T56.heap n0 (by omega) f74) hZ (hw _ (List.mem_of_getElem? (i := 138) rfl)) (hw _ (List.mem_of_getElem? (i := 32) rfl)) (by decide) (by decide)) qn75a qn75c (g := mkF m 169 Ls [(.ref r_46)]) rfl hLs (Steps.refl _) (argsL := []) (rest := []) (lenOf pd_10 rfl) rfl (by show 2 * 0 + _ ≤ _; exact Nat.le_of_eq rfl) (hb hby at_169) (fun _ _ => ⟨rfl, e72, (by decide : 0 + 0 + 1 + 0 + 1 + 1 + 1 + 0 + 2 + 0 + 0 + 0 + 0 + 0 + 0 ≤ _), (by decide : 0 + 0 + 3 + 0 + 1 + 10 + 1 + 0 + 5 + 0 + 0 + 0 + 0 + 0 + 0 ≤ _)⟩)
    refine Wk.back (n := 172) (rc := 0) (rs := 0) (Q := Q_rmIV Z r_46 p4 T56.heap n0) (cl75_ _ (by rw [hml]; rfl)) fun vn75 T75 L75 X75 hQ75 => ?_
    clear cl75_
    obtain ⟨rfl, M75, e75⟩ := hQ75
    have N75 := Fr.app N71 M75
    show Wk p e below s _ _ _ T75 (mkF m 172 _ [(.int p4)])
    refine Wk.iloadN X75 hx (hb hby at_172) (n := 173) rfl rfl ?_
    have hc173_76 : p4 = p4 := rfl
    refine Wk.icmpYes X75 hx (hb hby at_173) (teq hc173_76).1 (by decide) (n := 178) (by decide) ?_
    refine Wk.iconst X75 hx (hb hby at_178) (n := 179) rfl (z := (1 : Int32)) rfl ?_
    exact Wk.leave X75 (v := some (.int (1 : Int32))) (fun h => by rw [Bd.returns] at h; cases h) hlk e75 ⟨rfl, N75, K56⟩ (by decide) (by decide) (fun fs hr => retNz X75 hx (t := .boolean) rfl Bd.returns (by simp) (hb hby at_179) hr)
  ·
    rw [hn]
    refine Wk.istore X0 hx (hb hby at_5) (n := 7) rfl (L' := #[.val (.int p1), .val (.int p2), .val (.int p3), .val (.int p4), .val (.int p5), .val (.int (3 : Int32)), .unset, .unset, .unset, .unset]) rfl ?_
    refine Wk.iload X0 hx (hb hby at_7) (n := 9) rfl rfl ?_
    refine Wk.iloadN X0 hx (hb hby at_9) (n := 10) rfl rfl ?_
    have cl77_ := fun (Ls : Array Slot) (hLs : Ls.size = c.maxLocals) => Jvm.LawKit.callS X0 hx (y := (⟨"java/lang/Math", "max", "(II)I"⟩ : MethodName)) hown (mvT hZ (hw _ (List.mem_of_getElem? (i := 0) rfl))) (mvT hZ (hw _ (List.mem_of_getElem? (i := 1) rfl))) (mvT hZ (hw _ (List.mem_of_getElem? (i := 2) rfl))) (mvT hZ (hw _ (List.mem_of_getElem? (i := 3) rfl))) (by decide) (backOf (W := 0) (rmMx l Z a0 hw [] (3 : Int32) p2 h0 n0 (by omega)) hZ (hw _ (List.mem_of_getElem? (i := 3) rfl)) (hw _ (List.mem_of_getElem? (i := 2) rfl)) (by decide) (by decide)) (g := mkF m 10 Ls [(.int p2), (.int (3 : Int32))]) rfl hLs (argsL := [(.int (3 : Int32)), (.int p2)]) (rest := []) (lenOf pd_2 rfl) rfl (by show 2 * 0 + _ ≤ _; exact Nat.le_of_eq rfl) (hb hby at_10) (fun _ _ => ⟨rfl, e0, (by decide : 0 + 0 ≤ _), (by decide : 0 + 0 ≤ _)⟩)
    refine Wk.backS (n := 13) (rc := 0) (rs := 0) (Q := Q_rmMx Z (3 : Int32) p2 h0 n0) (cl77_ _ (by rw [hml]; rfl)) fun vn77 T77 L77 X77 hQ77 => ?_
    clear cl77_
    obtain ⟨z_77, rfl, M77, e77, hl_77, hg_77⟩ := hQ77
    have N77 := Fr.app N0 M77
    show Wk p e below s _ _ _ T77 (mkF m 13 _ [(.int z_77)])
    have hmx : ¬ z_77 < (3 : Int32) := own_max hl_77 hg_77
    refine Wk.istore X77 hx (hb hby at_13) (n := 15) rfl (L' := #[.val (.int p1), .val (.int p2), .val (.int p3), .val (.int p4), .val (.int p5), .val (.int (3 : Int32)), .val (.int z_77), .unset, .unset, .unset]) rfl ?_
    refine Wk.newO X77 hx hZ hown (hw _ (List.mem_of_getElem? (i := 4) rfl)) (hw _ (List.mem_of_getElem? (i := 5) rfl)) (hw _ (List.mem_of_getElem? (i := 6) rfl)) e77 (hb hby at_15) (n := 18) rfl (by decide) (by decide) fun T78 H78 b78 gn78 X78 e78 Ex78 An78 Dn78 Yn78 => ?_
    have gn78 := nx gn78
    have sz78 := Ex78.1
    have lt78 := ny An78.lt
    have K78 := K0.ext Ex78
    have Fn78_modCount : Fld Z H78 b78 "java/util/AbstractList" "modCount" "I" (.int (0 : Int32)) := Dn78 (Or.inl (hw _ (List.mem_of_getElem? (i := 26) rfl))) (ty := .int) (by decide)
    have Fn78_elementData : Fld Z H78 b78 "java/util/ArrayList" "elementData" "[Ljava/lang/Object;" .null := Dn78 (Or.inl (hw _ (List.mem_of_getElem? (i := 29) rfl))) (ty := (.array (.object "java/lang/Object"))) (by decide)
    have Fn78_size : Fld Z H78 b78 "java/util/ArrayList" "size" "I" (.int (0 : Int32)) := Dn78 (Or.inl (hw _ (List.mem_of_getElem? (i := 45) rfl))) (ty := .int) (by decide)
    refine Wk.dup X78 hx (hb hby at_18) (n := 19) rfl rfl ?_
    have f79 := (O1.ext Ex78)
    have cl80_ := fun (Ls : Array Slot) (hLs : Ls.size = c.maxLocals) => X78.specialBack hx (y := (⟨"java/util/ArrayList", "<init>", "()V"⟩ : MethodName)) rfl hown (mvT hZ (hw _ (List.mem_of_getElem? (i := 7) rfl))) (mvT hZ (hw _ (List.mem_of_getElem? (i := 8) rfl))) (mvT hZ (hw _ (List.mem_of_getElem? (i := 9) rfl))) (by decide) (backOf (W := 1) (rmIni l Z a0 hw [] b78 (.int (0 : Int32)) .null (.int (0 : Int32)) wE H78 n0 (by omega) An78 Fn78_modCount Fn78_elementData Fn78_size S1 f79 (by omega)) hZ (hw _ (List.mem_of_getElem? (i := 9) rfl)) (hw _ (List.mem_of_getElem? (i := 6) rfl)) (by decide) (by decide)) (g := mkF m 19 Ls [(.ref b78), (.ref b78)]) rfl hLs (Steps.refl _) (a := b78) (argsL := []) (rest := [(.ref b78)]) (lenOf pd_0 rfl) rfl (by show 2 * 0 + _ ≤ _; exact Nat.le_of_eq rfl) (hb hby at_19) (fun _ _ => ⟨rfl, e78, (by decide : 0 + 0 + 1 + 0 ≤ _), (by decide : 0 + 0 + 3 + 0 ≤ _)⟩)
    refine Wk.back (n := 22) (rc := 0) (rs := 0) (Q := Q_rmIni Z b78 (.int (0 : Int32)) .null (.int (0 : Int32)) wE H78 n0) (cl80_ _ (by rw [hml]; rfl)) fun vn80 T80 L80 X80 hQ80 => ?_
    clear cl80_
    obtain ⟨rfl, M80, J80, p80_0, p80_1, p80_2, p80_3⟩ := hQ80
    have N80 := Fr.app N77 M80
    have sz80 := J80.1
    have K80 := K78.trans J80 (allS (Or.inr (by omega)) all0)
    have lt_p80_0 := ny p80_0.lt
    show Wk p e below s _ _ _ T80 (mkF m 22 _ [(.ref b78)])
    refine Wk.astore X80 hx (hb hby at_22) (n := 24) rfl rfl (L' := #[.val (.int p1), .val (.int p2), .val (.int p3), .val (.int p4), .val (.int p5), .val (.int (3 : Int32)), .val (.int z_77), .val (.ref b78), .unset, .unset]) rfl ?_
    refine Wk.aload X80 hx (hb hby at_24) (n := 26) rfl rfl rfl ?_
    refine Wk.iloadN X80 hx (hb hby at_26) (n := 27) rfl rfl ?_
    have f81 := (f79.keep J80 (allS (by omega) all0))
    have cl82_ := fun (Ls : Array Slot) (hLs : Ls.size = c.maxLocals) => Jvm.LawKit.callS X80 hx (y := (⟨"java/lang/Integer", "valueOf", "(I)Ljava/lang/Integer;"⟩ : MethodName)) hown (mvT hZ (hw _ (List.mem_of_getElem? (i := 30) rfl))) (mvT hZ (hw _ (List.mem_of_getElem? (i := 31) rfl))) (mvT hZ (hw _ (List.mem_of_getElem? (i := 32) rfl))) (mvT hZ (hw _ (List.mem_of_getElem? (i := 33) rfl))) (by decide) (backOf (W := 1) (rmVO l Z a0 hw [] p3 wC cC T80.heap n0 (by omega) S2 S3 f81 ArC hC) hZ (hw _ (List.mem_of_getElem? (i := 33) rfl)) (hw _ (List.mem_of_getElem? (i := 32) rfl)) (by decide) (by decide)) (g := mkF m 27 Ls [(.int p3), (.ref b78)]) rfl hLs (argsL := [(.int p3)]) (rest := [(.ref b78)]) (lenOf pd_13 rfl) rfl (by show 2 * 0 + _ ≤ _; exact Nat.le_of_eq rfl) (hb hby at_27) (fun _ _ => ⟨rfl, rfl, (by decide : 0 + 0 + 1 + 0 + 1 ≤ _), (by decide : 0 + 0 + 3 + 0 + 1 ≤ _)⟩)
    refine Wk.backS (n := 30) (rc := 1) (rs := 1) (Q := Q_rmVO Z p3 wC cC T80.heap n0) (cl82_ _ (by rw [hml]; rfl)) fun vn82 T82 L82 X82 hQ82 => ?_
    clear cl82_
    obtain ⟨r_82, rfl, M82, J82, p82_0, p82_1⟩ := hQ82
    have N82 := Fr.app N80 M82
    have sz82 := J82.1
    have K82 := K80.trans J82 (fun x hx => nomatch hx)
    have lt_p82_0 := ny p82_0.lt
    show Wk p e below s _ _ _ T82 (mkF m 30 _ [(.ref r_82), (.ref b78)])
    have f83 := (p80_0.keep J82)
    have na82 := nw (ne_exa p82_0 f83 (by decide))
    have f84 := (p80_1.keep J82 nin0)
    have f85 := (p80_2.keep J82 nin0)
    have f86 := (p80_3.keep J82 nin0)
    have f87 := (f81.keep J82 all0)
    obtain ⟨cq88, kq88, qn88a, qn88b, qn88c⟩ := isOf hZ rfl f83
    have cl88_ := fun (Ls : Array Slot) (hLs : Ls.size = c.maxLocals) => X82.virtualBack hx (y := (⟨"java/util/ArrayList", "add", "(Ljava/lang/Object;)Z"⟩ : MethodName)) (z := (⟨"java/util/ArrayList", "add", "(Ljava/lang/Object;)Z"⟩ : MethodName)) hown (mvT hZ (hw _ (List.mem_of_getElem? (i := 37) rfl))) (mvT hZ (hw _ (List.mem_of_getElem? (i := 38) rfl))) (notFace_of_selects (args := #[]) (mvT hZ (hw _ (List.mem_of_getElem? (i := 40) rfl)))) (mvT hZ (hw _ (List.mem_of_getElem? (i := 40) rfl))) (mvT hZ (hw _ (List.mem_of_getElem? (i := 39) rfl))) (by decide) (backOf (W := 0) (rmAG l Z a0 hw [] b78 r_82 (0 : Int32) wE kE T82.heap n0 (by omega) f83 f84 f85 f86 A0 S1 f87 p82_0 (by omega)) hZ (hw _ (List.mem_of_getElem? (i := 41) rfl)) (hw _ (List.mem_of_getElem? (i := 6) rfl)) (by decide) (by decide)) qn88a qn88c (g := mkF m 30 Ls [(.ref r_82), (.ref b78)]) rfl hLs (Steps.refl _) (argsL := [(.ref r_82)]) (rest := []) (lenOf pd_14 rfl) rfl (by show 2 * 0 + _ ≤ _; exact Nat.le_of_eq rfl) (hb hby at_30) (fun _ _ => ⟨rfl, rfl, (by decide : 0 + 0 + 1 + 0 + 1 + 1 ≤ _), (by decide : 0 + 0 + 3 + 0 + 1 + 10 ≤ _)⟩)
    refine Wk.back (n := 33) (rc := 1) (rs := 10) (Q := Q_rmAG Z b78 r_82 (0 : Int32) wE kE T82.heap n0) (cl88_ _ (by rw [hml]; rfl)) fun vn88 T88 L88 X88 hQ88 => ?_
    clear cl88_
    obtain ⟨t_88, kt_88, rfl, M88, J88, p88_0, p88_1, p88_2, p88_3, p88_4, ov_88, gt_88⟩ := hQ88
    have N88 := Fr.app N82 M88
    have sz88 := J88.1
    have K88 := K82.trans J88 (allS (Or.inr (by omega)) all0)
    have lt_p88_0 := ny p88_0.lt
    have lt_p88_4 := ny p88_4.lt
    show Wk p e below s _ _ _ T88 (mkF m 33 _ [(.int (1 : Int32))])
    refine Wk.pop X88 hx (hb hby at_33) (n := 34) rfl rfl ?_
    refine Wk.iload X88 hx (hb hby at_34) (n := 36) rfl rfl ?_
    refine Wk.iconst X88 hx (hb hby at_36) (n := 37) rfl (z := (2 : Int32)) rfl ?_
    have hc37_89 : ¬ ((3 : Int32) < (2 : Int32)) := by decide
    refine Wk.icmpNo X88 hx (hb hby at_37) (n := 40) rfl (flt hc37_89).1 ?_
    refine Wk.aload X88 hx (hb hby at_40) (n := 42) rfl rfl rfl ?_
    refine Wk.iloadN X88 hx (hb hby at_42) (n := 43) rfl rfl ?_
    have f90 := (f87.keep J88 (allS (by omega) all0))
    have cl91_ := fun (Ls : Array Slot) (hLs : Ls.size = c.maxLocals) => Jvm.LawKit.callS X88 hx (y := (⟨"java/lang/Integer", "valueOf", "(I)Ljava/lang/Integer;"⟩ : MethodName)) hown (mvT hZ (hw _ (List.mem_of_getElem? (i := 30) rfl))) (mvT hZ (hw _ (List.mem_of_getElem? (i := 31) rfl))) (mvT hZ (hw _ (List.mem_of_getElem? (i := 32) rfl))) (mvT hZ (hw _ (List.mem_of_getElem? (i := 33) rfl))) (by decide) (backOf (W := 1) (rmVO l Z a0 hw [] p4 wC cC T88.heap n0 (by omega) S2 S3 f90 ArC hC) hZ (hw _ (List.mem_of_getElem? (i := 33) rfl)) (hw _ (List.mem_of_getElem? (i := 32) rfl)) (by decide) (by decide)) (g := mkF m 43 Ls [(.int p4), (.ref b78)]) rfl hLs (argsL := [(.int p4)]) (rest := [(.ref b78)]) (lenOf pd_13 rfl) rfl (by show 2 * 0 + _ ≤ _; exact Nat.le_of_eq rfl) (hb hby at_43) (fun _ _ => ⟨rfl, rfl, (by decide : 0 + 0 + 1 + 0 + 1 + 1 + 1 ≤ _), (by decide : 0 + 0 + 3 + 0 + 1 + 10 + 1 ≤ _)⟩)
    refine Wk.backS (n := 46) (rc := 1) (rs := 1) (Q := Q_rmVO Z p4 wC cC T88.heap n0) (cl91_ _ (by rw [hml]; rfl)) fun vn91 T91 L91 X91 hQ91 => ?_
    clear cl91_
    obtain ⟨r_91, rfl, M91, J91, p91_0, p91_1⟩ := hQ91
    have N91 := Fr.app N88 M91
    have sz91 := J91.1
    have K91 := K88.trans J91 (fun x hx => nomatch hx)
    have lt_p91_0 := ny p91_0.lt
    show Wk p e below s _ _ _ T91 (mkF m 46 _ [(.ref r_91), (.ref b78)])
    have f92 := (p88_0.keep J91)
    have na91 := nw (ne_exa p91_0 f92 (by decide))
    have f93 := (p88_4.keep J91 nin0)
    obtain ⟨cx91, Ax91, -⟩ := id f93
    have nb91 := nw (ne_arr p91_0 (hw _ (List.mem_of_getElem? (i := 142) rfl)) Ax91)
    have f94 := (p88_1.keep J91 nin0)
    have f95 := (p88_2.keep J91 nin0)
    have f96 := (p88_3.keep J91 nin0)
    obtain ⟨cq97, kq97, qn97a, qn97b, qn97c⟩ := isOf hZ rfl f92
    have cl97_ := fun (Ls : Array Slot) (hLs : Ls.size = c.maxLocals) => X91.virtualBack hx (y := (⟨"java/util/ArrayList", "add", "(Ljava/lang/Object;)Z"⟩ : MethodName)) (z := (⟨"java/util/ArrayList", "add", "(Ljava/lang/Object;)Z"⟩ : MethodName)) hown (mvT hZ (hw _ (List.mem_of_getElem? (i := 37) rfl))) (mvT hZ (hw _ (List.mem_of_getElem? (i := 38) rfl))) (notFace_of_selects (args := #[]) (mvT hZ (hw _ (List.mem_of_getElem? (i := 40) rfl)))) (mvT hZ (hw _ (List.mem_of_getElem? (i := 40) rfl))) (mvT hZ (hw _ (List.mem_of_getElem? (i := 39) rfl))) (by decide) (backOf (W := 0) (rmAN l Z a0 hw [] b78 r_91 ((0 : Int32) + (1 : Int32)) t_88 kt_88 ([(.ref r_82), .null, .null, .null, .null, .null, .null, .null, .null, .null]) (1 : Int32) 1 T91.heap n0 (by omega) f92 f94 f95 f96 f93 p91_0 ov_88 ⟨by decide, by decide⟩ rfl (Nat.le_of_ble_eq_true rfl) (nz (by omega)) (by omega) (by omega)) hZ (hw _ (List.mem_of_getElem? (i := 41) rfl)) (hw _ (List.mem_of_getElem? (i := 6) rfl)) (by decide) (by decide)) qn97a qn97c (g := mkF m 46 Ls [(.ref r_91), (.ref b78)]) rfl hLs (Steps.refl _) (argsL := [(.ref r_91)]) (rest := []) (lenOf pd_14 rfl) rfl (by show 2 * 0 + _ ≤ _; exact Nat.le_of_eq rfl) (hb hby at_46) (fun _ _ => ⟨rfl, rfl, (by decide : 0 + 0 + 1 + 0 + 1 + 1 + 1 + 0 ≤ _), (by decide : 0 + 0 + 3 + 0 + 1 + 10 + 1 + 0 ≤ _)⟩)
    refine Wk.back (n := 49) (rc := 0) (rs := 0) (Q := Q_rmAN Z b78 r_91 ((0 : Int32) + (1 : Int32)) t_88 kt_88 ([(.ref r_82), .null, .null, .null, .null, .null, .null, .null, .null, .null]) (1 : Int32) 1 T91.heap n0) (cl97_ _ (by rw [hml]; rfl)) fun vn97 T97 L97 X97 hQ97 => ?_
    clear cl97_
    obtain ⟨rfl, M97, J97, p97_0, p97_1, p97_2, p97_3, p97_4⟩ := hQ97
    have N97 := Fr.app N91 M97
    have sz97 := J97.1
    have K97 := K91.trans J97 (allS (Or.inr (by omega)) (allS (Or.inr (by omega)) all0))
    have lt_p97_0 := ny p97_0.lt
    have lt_p97_4 := ny p97_4.lt
    show Wk p e below s _ _ _ T97 (mkF m 49 _ [(.int (1 : Int32))])
    have V97_ : Arv Z T97.heap t_88 kt_88 (.object "java/lang/Object") (10 : Int32) [(.ref r_82), (.ref r_91), .null, .null, .null, .null, .null, .null, .null, .null] .null := p97_4
    have Z97_ : Fld Z T97.heap b78 "java/util/ArrayList" "size" "I" (.int (2 : Int32)) := p97_3
    refine Wk.pop X97 hx (hb hby at_49) (n := 50) rfl rfl ?_
    refine Wk.iload X97 hx (hb hby at_50) (n := 52) rfl rfl ?_
    refine Wk.iconst X97 hx (hb hby at_52) (n := 53) rfl (z := (3 : Int32)) rfl ?_
    have hc53_98 : ¬ ((3 : Int32) < (3 : Int32)) := by decide
    refine Wk.icmpNo X97 hx (hb hby at_53) (n := 56) rfl (flt hc53_98).1 ?_
    refine Wk.aload X97 hx (hb hby at_56) (n := 58) rfl rfl rfl ?_
    refine Wk.iloadN X97 hx (hb hby at_58) (n := 59) rfl rfl ?_
    refine Wk.iloadN X97 hx (hb hby at_59) (n := 60) rfl rfl ?_
    refine Wk.ixor X97 hx (hb hby at_60) (n := 61) rfl ?_
    have f99 := ((f90.keep J91 all0).keep J97 (allS (by omega) (allS (by omega) all0)))
    have cl100_ := fun (Ls : Array Slot) (hLs : Ls.size = c.maxLocals) => Jvm.LawKit.callS X97 hx (y := (⟨"java/lang/Integer", "valueOf", "(I)Ljava/lang/Integer;"⟩ : MethodName)) hown (mvT hZ (hw _ (List.mem_of_getElem? (i := 30) rfl))) (mvT hZ (hw _ (List.mem_of_getElem? (i := 31) rfl))) (mvT hZ (hw _ (List.mem_of_getElem? (i := 32) rfl))) (mvT hZ (hw _ (List.mem_of_getElem? (i := 33) rfl))) (by decide) (backOf (W := 1) (rmVO l Z a0 hw [] (p3 ^^^ p4) wC cC T97.heap n0 (by omega) S2 S3 f99 ArC hC) hZ (hw _ (List.mem_of_getElem? (i := 33) rfl)) (hw _ (List.mem_of_getElem? (i := 32) rfl)) (by decide) (by decide)) (g := mkF m 61 Ls [(.int (p3 ^^^ p4)), (.ref b78)]) rfl hLs (argsL := [(.int (p3 ^^^ p4))]) (rest := [(.ref b78)]) (lenOf pd_13 rfl) rfl (by show 2 * 0 + _ ≤ _; exact Nat.le_of_eq rfl) (hb hby at_61) (fun _ _ => ⟨rfl, rfl, (by decide : 0 + 0 + 1 + 0 + 1 + 1 + 1 + 0 + 1 ≤ _), (by decide : 0 + 0 + 3 + 0 + 1 + 10 + 1 + 0 + 1 ≤ _)⟩)
    refine Wk.backS (n := 64) (rc := 1) (rs := 1) (Q := Q_rmVO Z (p3 ^^^ p4) wC cC T97.heap n0) (cl100_ _ (by rw [hml]; rfl)) fun vn100 T100 L100 X100 hQ100 => ?_
    clear cl100_
    obtain ⟨r_100, rfl, M100, J100, p100_0, p100_1⟩ := hQ100
    have N100 := Fr.app N97 M100
    have sz100 := J100.1
    have K100 := K97.trans J100 (fun x hx => nomatch hx)
    have lt_p100_0 := ny p100_0.lt
    show Wk p e below s _ _ _ T100 (mkF m 64 _ [(.ref r_100), (.ref b78)])
    have f101 := (p97_0.keep J100)
    have na100 := nw (ne_exa p100_0 f101 (by decide))
    have f102 := (V97_.keep J100 nin0)
    obtain ⟨cx100, Ax100, -⟩ := id f102
    have nb100 := nw (ne_arr p100_0 (hw _ (List.mem_of_getElem? (i := 142) rfl)) Ax100)
    have f103 := (p97_1.keep J100 nin0)
    have f104 := (p97_2.keep J100 nin0)
    have f105 := (Z97_.keep J100 nin0)
    obtain ⟨cq106, kq106, qn106a, qn106b, qn106c⟩ := isOf hZ rfl f101
    have cl106_ := fun (Ls : Array Slot) (hLs : Ls.size = c.maxLocals) => X100.virtualBack hx (y := (⟨"java/util/ArrayList", "add", "(Ljava/lang/Object;)Z"⟩ : MethodName)) (z := (⟨"java/util/ArrayList", "add", "(Ljava/lang/Object;)Z"⟩ : MethodName)) hown (mvT hZ (hw _ (List.mem_of_getElem? (i := 37) rfl))) (mvT hZ (hw _ (List.mem_of_getElem? (i := 38) rfl))) (notFace_of_selects (args := #[]) (mvT hZ (hw _ (List.mem_of_getElem? (i := 40) rfl)))) (mvT hZ (hw _ (List.mem_of_getElem? (i := 40) rfl))) (mvT hZ (hw _ (List.mem_of_getElem? (i := 39) rfl))) (by decide) (backOf (W := 0) (rmAN l Z a0 hw [] b78 r_100 (((0 : Int32) + (1 : Int32)) + (1 : Int32)) t_88 kt_88 ([(.ref r_82), (.ref r_91), .null, .null, .null, .null, .null, .null, .null, .null]) (2 : Int32) 2 T100.heap n0 (by omega) f101 f103 f104 f105 f102 p100_0 ov_88 ⟨by decide, by decide⟩ rfl (Nat.le_of_ble_eq_true rfl) (nz (by omega)) (by omega) (by omega)) hZ (hw _ (List.mem_of_getElem? (i := 41) rfl)) (hw _ (List.mem_of_getElem? (i := 6) rfl)) (by decide) (by decide)) qn106a qn106c (g := mkF m 64 Ls [(.ref r_100), (.ref b78)]) rfl hLs (Steps.refl _) (argsL := [(.ref r_100)]) (rest := []) (lenOf pd_14 rfl) rfl (by show 2 * 0 + _ ≤ _; exact Nat.le_of_eq rfl) (hb hby at_64) (fun _ _ => ⟨rfl, rfl, (by decide : 0 + 0 + 1 + 0 + 1 + 1 + 1 + 0 + 1 + 0 ≤ _), (by decide : 0 + 0 + 3 + 0 + 1 + 10 + 1 + 0 + 1 + 0 ≤ _)⟩)
    refine Wk.back (n := 67) (rc := 0) (rs := 0) (Q := Q_rmAN Z b78 r_100 (((0 : Int32) + (1 : Int32)) + (1 : Int32)) t_88 kt_88 ([(.ref r_82), (.ref r_91), .null, .null, .null, .null, .null, .null, .null, .null]) (2 : Int32) 2 T100.heap n0) (cl106_ _ (by rw [hml]; rfl)) fun vn106 T106 L106 X106 hQ106 => ?_
    clear cl106_
    obtain ⟨rfl, M106, J106, p106_0, p106_1, p106_2, p106_3, p106_4⟩ := hQ106
    have N106 := Fr.app N100 M106
    have sz106 := J106.1
    have K106 := K100.trans J106 (allS (Or.inr (by omega)) (allS (Or.inr (by omega)) all0))
    have lt_p106_0 := ny p106_0.lt
    have lt_p106_4 := ny p106_4.lt
    show Wk p e below s _ _ _ T106 (mkF m 67 _ [(.int (1 : Int32))])
    have V106_ : Arv Z T106.heap t_88 kt_88 (.object "java/lang/Object") (10 : Int32) [(.ref r_82), (.ref r_91), (.ref r_100), .null, .null, .null, .null, .null, .null, .null] .null := p106_4
    have Z106_ : Fld Z T106.heap b78 "java/util/ArrayList" "size" "I" (.int (3 : Int32)) := p106_3
    refine Wk.pop X106 hx (hb hby at_67) (n := 68) rfl rfl ?_
    refine Wk.iload X106 hx (hb hby at_68) (n := 70) rfl rfl ?_
    refine Wk.iconst X106 hx (hb hby at_70) (n := 71) rfl (z := (4 : Int32)) rfl ?_
    have hc71_107 : (3 : Int32) < (4 : Int32) := by decide
    refine Wk.icmpYes X106 hx (hb hby at_71) (tlt hc71_107).1 (by decide) (n := 86) (by decide) ?_
    refine Wk.iload X106 hx (hb hby at_86) (n := 88) rfl rfl ?_
    refine Wk.sipush X106 hx (hb hby at_88) (n := 91) rfl (z := (255 : Int32)) rfl ?_
    refine Wk.iand X106 hx (hb hby at_91) (n := 92) rfl ?_
    obtain ⟨cf, q_cf⟩ : ∃ z : Int32, z = ((p5 &&& (255 : Int32)).toUInt32.toUInt16.toUInt32.toInt32) := ⟨_, rfl⟩
    have n_cf : nar .char cf = cf := by rw [q_cf]; exact own_c255 _
    have r_cf : ¬ cf < 0 ∧ ¬ (255 : Int32) < cf := by rw [q_cf]; exact own_r255 _
    refine Wk.i2c X106 hx (hb hby at_92) (n := 93) rfl q_cf.symm ?_
    have f108 := ((f99.keep J100 all0).keep J106 (allS (by omega) (allS (by omega) all0)))
    have cl109_ := fun (Ls : Array Slot) (hLs : Ls.size = c.maxLocals) => Jvm.LawKit.callS X106 hx (y := (⟨"java/lang/String", "valueOf", "(C)Ljava/lang/String;"⟩ : MethodName)) hown (mvT hZ (hw _ (List.mem_of_getElem? (i := 65) rfl))) (mvT hZ (hw _ (List.mem_of_getElem? (i := 66) rfl))) (mvT hZ (hw _ (List.mem_of_getElem? (i := 67) rfl))) (mvT hZ (hw _ (List.mem_of_getElem? (i := 68) rfl))) (by decide) (backOf (W := 0) (rmSVO l Z a0 hw [] cf zc T106.heap n0 (by omega) S4 f108 hCS r_cf.2) hZ (hw _ (List.mem_of_getElem? (i := 68) rfl)) (hw _ (List.mem_of_getElem? (i := 67) rfl)) (by decide) (by decide)) (g := mkF m 93 Ls [(.int cf)]) rfl hLs (argsL := [(.int cf)]) (rest := []) (lenOf pd_15 rfl) rfl (by show 2 * 0 + _ ≤ _; exact Nat.le_of_eq rfl) (hb hby at_93) (fun _ _ => ⟨rfl, rfl, (by decide : 0 + 0 + 1 + 0 + 1 + 1 + 1 + 0 + 1 + 0 + 2 ≤ _), (by decide : 0 + 0 + 3 + 0 + 1 + 10 + 1 + 0 + 1 + 0 + 5 ≤ _)⟩)
    refine Wk.backS (n := 96) (rc := 2) (rs := 5) (Q := Q_rmSVO Z cf zc T106.heap n0) (cl109_ _ (by rw [hml]; rfl)) fun vn109 T109 L109 X109 hQ109 => ?_
    clear cl109_
    obtain ⟨r_109, t_109, kb_109, rfl, M109, J109, p109_0, p109_1, p109_2, p109_3, gr_109, gt_109⟩ := hQ109
    have N109 := Fr.app N106 M109
    have sz109 := J109.1
    have K109 := K106.trans J109 (fun x hx => nomatch hx)
    have lt_p109_0 := ny p109_0.lt
    have lt_p109_3 := ny p109_3.lt
    show Wk p e below s _ _ _ T109 (mkF m 96 _ [(.ref r_109)])
    refine Wk.astore X109 hx (hb hby at_96) (n := 98) rfl rfl (L' := #[.val (.int p1), .val (.int p2), .val (.int p3), .val (.int p4), .val (.int p5), .val (.int (3 : Int32)), .val (.int z_77), .val (.ref b78), .val (.ref r_109), .unset]) rfl ?_
    refine Wk.aload X109 hx (hb hby at_98) (n := 100) rfl rfl rfl ?_
    refine Wk.aload X109 hx (hb hby at_100) (n := 102) rfl rfl rfl ?_
    refine Wk.iload X109 hx (hb hby at_102) (n := 104) rfl rfl ?_
    have f110 := (p106_0.keep J109)
    have f111 := (Z106_.keep J109 nin0)
    have cl112_ := fun (Ls : Array Slot) (hLs : Ls.size = c.maxLocals) => Jvm.LawKit.callS X109 hx (y := (⟨"com/example/strict_stock/strictstock/Names", "list", "(Ljava/lang/String;Ljava/util/List;I)Ljava/util/List;"⟩ : MethodName)) hown (mvT hZ (hw _ (List.mem_of_getElem? (i := 89) rfl))) (mvT hZ (hw _ (List.mem_of_getElem? (i := 90) rfl))) (mvT hZ (hw _ (List.mem_of_getElem? (i := 91) rfl))) (mvT hZ (hw _ (List.mem_of_getElem? (i := 92) rfl))) (by decide) (backOf (W := 0) (rmNL l Z a0 hw [] r_109 b78 z_77 (3 : Int32) T109.heap n0 (by omega) f110 f111 (by decide) hmx) hZ (hw _ (List.mem_of_getElem? (i := 92) rfl)) (hw _ (List.mem_of_getElem? (i := 91) rfl)) (by decide) (by decide)) (g := mkF m 104 Ls [(.int z_77), (.ref b78), (.ref r_109)]) rfl hLs (argsL := [(.ref r_109), (.ref b78), (.int z_77)]) (rest := []) (lenOf pd_16 rfl) rfl (by show 2 * 0 + _ ≤ _; exact Nat.le_of_eq rfl) (hb hby at_104) (fun _ _ => ⟨rfl, rfl, (by decide : 0 + 0 + 1 + 0 + 1 + 1 + 1 + 0 + 1 + 0 + 2 + 0 ≤ _), (by decide : 0 + 0 + 3 + 0 + 1 + 10 + 1 + 0 + 1 + 0 + 5 + 0 ≤ _)⟩)
    refine Wk.backS (n := 107) (rc := 0) (rs := 0) (Q := Q_rmNL Z r_109 b78 z_77 (3 : Int32) T109.heap n0) (cl112_ _ (by rw [hml]; rfl)) fun vn112 T112 L112 X112 hQ112 => ?_
    clear cl112_
    obtain ⟨rfl, M112, e112⟩ := hQ112
    have N112 := Fr.app N109 M112
    show Wk p e below s _ _ _ T112 (mkF m 107 _ [(.ref b78)])
    refine Wk.astore X112 hx (hb hby at_107) (n := 109) rfl rfl (L' := #[.val (.int p1), .val (.int p2), .val (.int p3), .val (.int p4), .val (.int p5), .val (.int (3 : Int32)), .val (.int z_77), .val (.ref b78), .val (.ref r_109), .val (.ref b78)]) rfl ?_
    refine Wk.aload X112 hx (hb hby at_109) (n := 111) rfl rfl rfl ?_
    refine Wk.aload X112 hx (hb hby at_111) (n := 113) rfl rfl rfl ?_
    refine Wk.acmp X112 hx rfl rfl (hb hby at_113) (same := true) (decide_eq_true rfl) (by decide) (n := 118) (by decide) ?_
    refine Wk.aload X112 hx (hb hby at_118) (n := 120) rfl rfl rfl ?_
    obtain ⟨cq113, kq113, qn113a, qn113b, qn113c⟩ := isOf hZ e112 f110
    have cl113_ := fun (Ls : Array Slot) (hLs : Ls.size = c.maxLocals) => X112.interfaceBack hx (xi := (⟨"java/util/List", "size", "()I"⟩ : MethodName)) (y := (⟨"java/util/ArrayList", "size", "()I"⟩ : MethodName)) hown (mvT hZ (hw _ (List.mem_of_getElem? (i := 110) rfl))) (mvT hZ (hw _ (List.mem_of_getElem? (i := 103) rfl))) (mvT hZ (hw _ (List.mem_of_getElem? (i := 104) rfl))) (mvT hZ (hw _ (List.mem_of_getElem? (i := 105) rfl))) (mvT hZ (hw _ (List.mem_of_getElem? (i := 106) rfl))) (mvT hZ (hw _ (List.mem_of_getElem? (i := 107) rfl))) (mvT hZ (hw _ (List.mem_of_getElem? (i := 108) rfl))) (mvT hZ (hw _ (List.mem_of_getElem? (i := 100) rfl))) (by decide) (backOf (W := 0) (rmSz l Z a0 hw [] b78 (3 : Int32) T109.heap n0 (by omega) f111) hZ (hw _ (List.mem_of_getElem? (i := 109) rfl)) (hw _ (List.mem_of_getElem? (i := 6) rfl)) (by decide) (by decide)) qn113a qn113b qn113c (g := mkF m 120 Ls [(.ref b78)]) rfl hLs (Steps.refl _) (argsL := []) (rest := []) (lenOf pd_10 rfl) rfl (by show 2 * 0 + _ ≤ _; exact Nat.le_of_eq rfl) (hb hby at_120) (fun _ _ => ⟨rfl, e112, (by decide : 0 + 0 + 1 + 0 + 1 + 1 + 1 + 0 + 1 + 0 + 2 + 0 + 0 ≤ _), (by decide : 0 + 0 + 3 + 0 + 1 + 10 + 1 + 0 + 1 + 0 + 5 + 0 + 0 ≤ _)⟩)
    refine Wk.back (n := 125) (rc := 0) (rs := 0) (Q := Q_rmSz Z b78 (3 : Int32) T109.heap n0) (cl113_ _ (by rw [hml]; rfl)) fun vn113 T113 L113 X113 hQ113 => ?_
    clear cl113_
    obtain ⟨rfl, M113, e113⟩ := hQ113
    have N113 := Fr.app N112 M113
    show Wk p e below s _ _ _ T113 (mkF m 125 _ [(.int (3 : Int32))])
    refine Wk.iload X113 hx (hb hby at_125) (n := 127) rfl rfl ?_
    have hc127_114 : (3 : Int32) = (3 : Int32) := rfl
    refine Wk.icmpYes X113 hx (hb hby at_127) (teq hc127_114).1 (by decide) (n := 132) (by decide) ?_
    refine Wk.aload X113 hx (hb hby at_132) (n := 134) rfl rfl rfl ?_
    refine Wk.iconst X113 hx (hb hby at_134) (n := 135) rfl (z := (0 : Int32)) rfl ?_
    have f115 := (p106_2.keep J109 nin0)
    have f116 := (V106_.keep J109 nin0)
    obtain ⟨cq117, kq117, qn117a, qn117b, qn117c⟩ := isOf hZ e113 f110
    have cl117_ := fun (Ls : Array Slot) (hLs : Ls.size = c.maxLocals) => X113.interfaceBack hx (xi := (⟨"java/util/List", "get", "(I)Ljava/lang/Object;"⟩ : MethodName)) (y := (⟨"java/util/ArrayList", "get", "(I)Ljava/lang/Object;"⟩ : MethodName)) hown (mvT hZ (hw _ (List.mem_of_getElem? (i := 111) rfl))) (mvT hZ (hw _ (List.mem_of_getElem? (i := 112) rfl))) (mvT hZ (hw _ (List.mem_of_getElem? (i := 113) rfl))) (mvT hZ (hw _ (List.mem_of_getElem? (i := 114) rfl))) (mvT hZ (hw _ (List.mem_of_getElem? (i := 115) rfl))) (mvT hZ (hw _ (List.mem_of_getElem? (i := 116) rfl))) (mvT hZ (hw _ (List.mem_of_getElem? (i := 117) rfl))) (mvT hZ (hw _ (List.mem_of_getElem? (i := 100) rfl))) (by decide) (backOf (W := 0) (rmGe l Z a0 hw [] b78 (0 : Int32) t_88 kt_88 ([(.ref r_82), (.ref r_91), (.ref r_100), .null, .null, .null, .null, .null, .null, .null]) r_82 (3 : Int32) T109.heap n0 (by omega) f110 f111 f115 f116 ⟨by decide, by decide⟩ rfl (by decide)) hZ (hw _ (List.mem_of_getElem? (i := 118) rfl)) (hw _ (List.mem_of_getElem? (i := 6) rfl)) (by decide) (by decide)) qn117a qn117b qn117c (g := mkF m 135 Ls [(.int (0 : Int32)), (.ref b78)]) rfl hLs (Steps.refl _) (argsL := [(.int (0 : Int32))]) (rest := []) (lenOf pd_12 rfl) rfl (by show 2 * 0 + _ ≤ _; exact Nat.le_of_eq rfl) (hb hby at_135) (fun _ _ => ⟨rfl, e113, (by decide : 0 + 0 + 1 + 0 + 1 + 1 + 1 + 0 + 1 + 0 + 2 + 0 + 0 + 0 ≤ _), (by decide : 0 + 0 + 3 + 0 + 1 + 10 + 1 + 0 + 1 + 0 + 5 + 0 + 0 + 0 ≤ _)⟩)
    refine Wk.back (n := 140) (rc := 0) (rs := 0) (Q := Q_rmGe Z b78 (0 : Int32) t_88 kt_88 ([(.ref r_82), (.ref r_91), (.ref r_100), .null, .null, .null, .null, .null, .null, .null]) r_82 (3 : Int32) T109.heap n0) (cl117_ _ (by rw [hml]; rfl)) fun vn117 T117 L117 X117 hQ117 => ?_
    clear cl117_
    obtain ⟨rfl, M117, e117⟩ := hQ117
    have N117 := Fr.app N113 M117
    show Wk p e below s _ _ _ T117 (mkF m 140 _ [(.ref r_82)])
    have f119 := ((((((p82_0.keep J88).keep J91).keep J97).keep J100).keep J106).keep J109)
    refine Wk.castY X117 hx hZ hown (hw _ (List.mem_of_getElem? (i := 132) rfl)) e117 (Ins.self f119) (hb hby at_140) (n := 143) rfl fun T118 X118 e118 => ?_
    have f120 := ((((((p82_1.keep J88 (ninS (nz (by omega)) nin0)).keep J91 nin0).keep J97 (ninS (nz (by omega)) (ninS (nz (by omega)) nin0))).keep J100 nin0).keep J106 (ninS (nz (by omega)) (ninS (nz (by omega)) nin0))).keep J109 nin0)
    obtain ⟨cq121, kq121, qn121a, qn121b, qn121c⟩ := isOf hZ e118 f119
    have cl121_ := fun (Ls : Array Slot) (hLs : Ls.size = c.maxLocals) => X118.virtualBack hx (y := (⟨"java/lang/Integer", "intValue", "()I"⟩ : MethodName)) (z := (⟨"java/lang/Integer", "intValue", "()I"⟩ : MethodName)) hown (mvT hZ (hw _ (List.mem_of_getElem? (i := 134) rfl))) (mvT hZ (hw _ (List.mem_of_getElem? (i := 135) rfl))) (notFace_of_selects (args := #[]) (mvT hZ (hw _ (List.mem_of_getElem? (i := 137) rfl)))) (mvT hZ (hw _ (List.mem_of_getElem? (i := 137) rfl))) (mvT hZ (hw _ (List.mem_of_getElem? (i := 136) rfl))) (by decide) (backOf (W := 0) (rmIV l Z a0 hw [] r_82 p3 T109.heap n0 (by omega) f120) hZ (hw _ (List.mem_of_getElem? (i := 138) rfl)) (hw _ (List.mem_of_getElem? (i := 32) rfl)) (by decide) (by decide)) qn121a qn121c (g := mkF m 143 Ls [(.ref r_82)]) rfl hLs (Steps.refl _) (argsL := []) (rest := []) (lenOf pd_10 rfl) rfl (by show 2 * 0 + _ ≤ _; exact Nat.le_of_eq rfl) (hb hby at_143) (fun _ _ => ⟨rfl, e118, (by decide : 0 + 0 + 1 + 0 + 1 + 1 + 1 + 0 + 1 + 0 + 2 + 0 + 0 + 0 + 0 ≤ _), (by decide : 0 + 0 + 3 + 0 + 1 + 10 + 1 + 0 + 1 + 0 + 5 + 0 + 0 + 0 + 0 ≤ _)⟩)
    refine Wk.back (n := 146) (rc := 0) (rs := 0) (Q := Q_rmIV Z r_82 p3 T109.heap n0) (cl121_ _ (by rw [hml]; rfl)) fun vn121 T121 L121 X121 hQ121 => ?_
    clear cl121_
    obtain ⟨rfl, M121, e121⟩ := hQ121
    have N121 := Fr.app N117 M121
    show Wk p e below s _ _ _ T121 (mkF m 146 _ [(.int p3)])
    refine Wk.iloadN X121 hx (hb hby at_146) (n := 147) rfl rfl ?_
    have hc147_122 : p3 = p3 := rfl
    refine Wk.icmpYes X121 hx (hb hby at_147) (teq hc147_122).1 (by decide) (n := 152) (by decide) ?_
    refine Wk.iload X121 hx (hb hby at_152) (n := 154) rfl rfl ?_
    refine Wk.iconst X121 hx (hb hby at_154) (n := 155) rfl (z := (2 : Int32)) rfl ?_
    have hc155_123 : ¬ ((3 : Int32) < (2 : Int32)) := by decide
    refine Wk.icmpNo X121 hx (hb hby at_155) (n := 158) rfl (flt hc155_123).1 ?_
    refine Wk.aload X121 hx (hb hby at_158) (n := 160) rfl rfl rfl ?_
    refine Wk.iconst X121 hx (hb hby at_160) (n := 161) rfl (z := (1 : Int32)) rfl ?_
    obtain ⟨cq124, kq124, qn124a, qn124b, qn124c⟩ := isOf hZ e121 f110
    have cl124_ := fun (Ls : Array Slot) (hLs : Ls.size = c.maxLocals) => X121.interfaceBack hx (xi := (⟨"java/util/List", "get", "(I)Ljava/lang/Object;"⟩ : MethodName)) (y := (⟨"java/util/ArrayList", "get", "(I)Ljava/lang/Object;"⟩ : MethodName)) hown (mvT hZ (hw _ (List.mem_of_getElem? (i := 111) rfl))) (mvT hZ (hw _ (List.mem_of_getElem? (i := 112) rfl))) (mvT hZ (hw _ (List.mem_of_getElem? (i := 113) rfl))) (mvT hZ (hw _ (List.mem_of_getElem? (i := 114) rfl))) (mvT hZ (hw _ (List.mem_of_getElem? (i := 115) rfl))) (mvT hZ (hw _ (List.mem_of_getElem? (i := 116) rfl))) (mvT hZ (hw _ (List.mem_of_getElem? (i := 117) rfl))) (mvT hZ (hw _ (List.mem_of_getElem? (i := 100) rfl))) (by decide) (backOf (W := 0) (rmGe l Z a0 hw [] b78 (1 : Int32) t_88 kt_88 ([(.ref r_82), (.ref r_91), (.ref r_100), .null, .null, .null, .null, .null, .null, .null]) r_91 (3 : Int32) T109.heap n0 (by omega) f110 f111 f115 f116 ⟨by decide, by decide⟩ rfl (by decide)) hZ (hw _ (List.mem_of_getElem? (i := 118) rfl)) (hw _ (List.mem_of_getElem? (i := 6) rfl)) (by decide) (by decide)) qn124a qn124b qn124c (g := mkF m 161 Ls [(.int (1 : Int32)), (.ref b78)]) rfl hLs (Steps.refl _) (argsL := [(.int (1 : Int32))]) (rest := []) (lenOf pd_12 rfl) rfl (by show 2 * 0 + _ ≤ _; exact Nat.le_of_eq rfl) (hb hby at_161) (fun _ _ => ⟨rfl, e121, (by decide : 0 + 0 + 1 + 0 + 1 + 1 + 1 + 0 + 1 + 0 + 2 + 0 + 0 + 0 + 0 + 0 ≤ _), (by decide : 0 + 0 + 3 + 0 + 1 + 10 + 1 + 0 + 1 + 0 + 5 + 0 + 0 + 0 + 0 + 0 ≤ _)⟩)
    refine Wk.back (n := 166) (rc := 0) (rs := 0) (Q := Q_rmGe Z b78 (1 : Int32) t_88 kt_88 ([(.ref r_82), (.ref r_91), (.ref r_100), .null, .null, .null, .null, .null, .null, .null]) r_91 (3 : Int32) T109.heap n0) (cl124_ _ (by rw [hml]; rfl)) fun vn124 T124 L124 X124 hQ124 => ?_
    clear cl124_
    obtain ⟨rfl, M124, e124⟩ := hQ124
    have N124 := Fr.app N121 M124
    show Wk p e below s _ _ _ T124 (mkF m 166 _ [(.ref r_91)])
    have f126 := ((((p91_0.keep J97).keep J100).keep J106).keep J109)
    refine Wk.castY X124 hx hZ hown (hw _ (List.mem_of_getElem? (i := 132) rfl)) e124 (Ins.self f126) (hb hby at_166) (n := 169) rfl fun T125 X125 e125 => ?_
    have f127 := ((((p91_1.keep J97 (ninS (nz (by omega)) (ninS (nz (by omega)) nin0))).keep J100 nin0).keep J106 (ninS (nz (by omega)) (ninS (nz (by omega)) nin0))).keep J109 nin0)
    obtain ⟨cq128, kq128, qn128a, qn128b, qn128c⟩ := isOf hZ e125 f126
    have cl128_ := fun (Ls : Array Slot) (hLs : Ls.size = c.maxLocals) => X125.virtualBack hx (y := (⟨"java/lang/Integer", "intValue", "()I"⟩ : MethodName)) (z := (⟨"java/lang/Integer", "intValue", "()I"⟩ : MethodName)) hown (mvT hZ (hw _ (List.mem_of_getElem? (i := 134) rfl))) (mvT hZ (hw _ (List.mem_of_getElem? (i := 135) rfl))) (notFace_of_selects (args := #[]) (mvT hZ (hw _ (List.mem_of_getElem? (i := 137) rfl)))) (mvT hZ (hw _ (List.mem_of_getElem? (i := 137) rfl))) (mvT hZ (hw _ (List.mem_of_getElem? (i := 136) rfl))) (by decide) (backOf (W := 0) (rmIV l Z a0 hw [] r_91 p4 T109.heap n0 (by omega) f127) hZ (hw _ (List.mem_of_getElem? (i := 138) rfl)) (hw _ (List.mem_of_getElem? (i := 32) rfl)) (by decide) (by decide)) qn128a qn128c (g := mkF m 169 Ls [(.ref r_91)]) rfl hLs (Steps.refl _) (argsL := []) (rest := []) (lenOf pd_10 rfl) rfl (by show 2 * 0 + _ ≤ _; exact Nat.le_of_eq rfl) (hb hby at_169) (fun _ _ => ⟨rfl, e125, (by decide : 0 + 0 + 1 + 0 + 1 + 1 + 1 + 0 + 1 + 0 + 2 + 0 + 0 + 0 + 0 + 0 + 0 ≤ _), (by decide : 0 + 0 + 3 + 0 + 1 + 10 + 1 + 0 + 1 + 0 + 5 + 0 + 0 + 0 + 0 + 0 + 0 ≤ _)⟩)
    refine Wk.back (n := 172) (rc := 0) (rs := 0) (Q := Q_rmIV Z r_91 p4 T109.heap n0) (cl128_ _ (by rw [hml]; rfl)) fun vn128 T128 L128 X128 hQ128 => ?_
    clear cl128_
    obtain ⟨rfl, M128, e128⟩ := hQ128
    have N128 := Fr.app N124 M128
    show Wk p e below s _ _ _ T128 (mkF m 172 _ [(.int p4)])
    refine Wk.iloadN X128 hx (hb hby at_172) (n := 173) rfl rfl ?_
    have hc173_129 : p4 = p4 := rfl
    refine Wk.icmpYes X128 hx (hb hby at_173) (teq hc173_129).1 (by decide) (n := 178) (by decide) ?_
    refine Wk.iconst X128 hx (hb hby at_178) (n := 179) rfl (z := (1 : Int32)) rfl ?_
    exact Wk.leave X128 (v := some (.int (1 : Int32))) (fun h => by rw [Bd.returns] at h; cases h) hlk e128 ⟨rfl, N128, K109⟩ (by decide) (by decide) (fun fs hr => retNz X128 hx (t := .boolean) rfl Bd.returns (by simp) (hb hby at_179) hr)
  ·
    rw [hn]
    refine Wk.istore X0 hx (hb hby at_5) (n := 7) rfl (L' := #[.val (.int p1), .val (.int p2), .val (.int p3), .val (.int p4), .val (.int p5), .val (.int (4 : Int32)), .unset, .unset, .unset, .unset]) rfl ?_
    refine Wk.iload X0 hx (hb hby at_7) (n := 9) rfl rfl ?_
    refine Wk.iloadN X0 hx (hb hby at_9) (n := 10) rfl rfl ?_
    have cl130_ := fun (Ls : Array Slot) (hLs : Ls.size = c.maxLocals) => Jvm.LawKit.callS X0 hx (y := (⟨"java/lang/Math", "max", "(II)I"⟩ : MethodName)) hown (mvT hZ (hw _ (List.mem_of_getElem? (i := 0) rfl))) (mvT hZ (hw _ (List.mem_of_getElem? (i := 1) rfl))) (mvT hZ (hw _ (List.mem_of_getElem? (i := 2) rfl))) (mvT hZ (hw _ (List.mem_of_getElem? (i := 3) rfl))) (by decide) (backOf (W := 0) (rmMx l Z a0 hw [] (4 : Int32) p2 h0 n0 (by omega)) hZ (hw _ (List.mem_of_getElem? (i := 3) rfl)) (hw _ (List.mem_of_getElem? (i := 2) rfl)) (by decide) (by decide)) (g := mkF m 10 Ls [(.int p2), (.int (4 : Int32))]) rfl hLs (argsL := [(.int (4 : Int32)), (.int p2)]) (rest := []) (lenOf pd_2 rfl) rfl (by show 2 * 0 + _ ≤ _; exact Nat.le_of_eq rfl) (hb hby at_10) (fun _ _ => ⟨rfl, e0, (by decide : 0 + 0 ≤ _), (by decide : 0 + 0 ≤ _)⟩)
    refine Wk.backS (n := 13) (rc := 0) (rs := 0) (Q := Q_rmMx Z (4 : Int32) p2 h0 n0) (cl130_ _ (by rw [hml]; rfl)) fun vn130 T130 L130 X130 hQ130 => ?_
    clear cl130_
    obtain ⟨z_130, rfl, M130, e130, hl_130, hg_130⟩ := hQ130
    have N130 := Fr.app N0 M130
    show Wk p e below s _ _ _ T130 (mkF m 13 _ [(.int z_130)])
    have hmx : ¬ z_130 < (4 : Int32) := own_max hl_130 hg_130
    refine Wk.istore X130 hx (hb hby at_13) (n := 15) rfl (L' := #[.val (.int p1), .val (.int p2), .val (.int p3), .val (.int p4), .val (.int p5), .val (.int (4 : Int32)), .val (.int z_130), .unset, .unset, .unset]) rfl ?_
    refine Wk.newO X130 hx hZ hown (hw _ (List.mem_of_getElem? (i := 4) rfl)) (hw _ (List.mem_of_getElem? (i := 5) rfl)) (hw _ (List.mem_of_getElem? (i := 6) rfl)) e130 (hb hby at_15) (n := 18) rfl (by decide) (by decide) fun T131 H131 b131 gn131 X131 e131 Ex131 An131 Dn131 Yn131 => ?_
    have gn131 := nx gn131
    have sz131 := Ex131.1
    have lt131 := ny An131.lt
    have K131 := K0.ext Ex131
    have Fn131_modCount : Fld Z H131 b131 "java/util/AbstractList" "modCount" "I" (.int (0 : Int32)) := Dn131 (Or.inl (hw _ (List.mem_of_getElem? (i := 26) rfl))) (ty := .int) (by decide)
    have Fn131_elementData : Fld Z H131 b131 "java/util/ArrayList" "elementData" "[Ljava/lang/Object;" .null := Dn131 (Or.inl (hw _ (List.mem_of_getElem? (i := 29) rfl))) (ty := (.array (.object "java/lang/Object"))) (by decide)
    have Fn131_size : Fld Z H131 b131 "java/util/ArrayList" "size" "I" (.int (0 : Int32)) := Dn131 (Or.inl (hw _ (List.mem_of_getElem? (i := 45) rfl))) (ty := .int) (by decide)
    refine Wk.dup X131 hx (hb hby at_18) (n := 19) rfl rfl ?_
    have f132 := (O1.ext Ex131)
    have cl133_ := fun (Ls : Array Slot) (hLs : Ls.size = c.maxLocals) => X131.specialBack hx (y := (⟨"java/util/ArrayList", "<init>", "()V"⟩ : MethodName)) rfl hown (mvT hZ (hw _ (List.mem_of_getElem? (i := 7) rfl))) (mvT hZ (hw _ (List.mem_of_getElem? (i := 8) rfl))) (mvT hZ (hw _ (List.mem_of_getElem? (i := 9) rfl))) (by decide) (backOf (W := 1) (rmIni l Z a0 hw [] b131 (.int (0 : Int32)) .null (.int (0 : Int32)) wE H131 n0 (by omega) An131 Fn131_modCount Fn131_elementData Fn131_size S1 f132 (by omega)) hZ (hw _ (List.mem_of_getElem? (i := 9) rfl)) (hw _ (List.mem_of_getElem? (i := 6) rfl)) (by decide) (by decide)) (g := mkF m 19 Ls [(.ref b131), (.ref b131)]) rfl hLs (Steps.refl _) (a := b131) (argsL := []) (rest := [(.ref b131)]) (lenOf pd_0 rfl) rfl (by show 2 * 0 + _ ≤ _; exact Nat.le_of_eq rfl) (hb hby at_19) (fun _ _ => ⟨rfl, e131, (by decide : 0 + 0 + 1 + 0 ≤ _), (by decide : 0 + 0 + 3 + 0 ≤ _)⟩)
    refine Wk.back (n := 22) (rc := 0) (rs := 0) (Q := Q_rmIni Z b131 (.int (0 : Int32)) .null (.int (0 : Int32)) wE H131 n0) (cl133_ _ (by rw [hml]; rfl)) fun vn133 T133 L133 X133 hQ133 => ?_
    clear cl133_
    obtain ⟨rfl, M133, J133, p133_0, p133_1, p133_2, p133_3⟩ := hQ133
    have N133 := Fr.app N130 M133
    have sz133 := J133.1
    have K133 := K131.trans J133 (allS (Or.inr (by omega)) all0)
    have lt_p133_0 := ny p133_0.lt
    show Wk p e below s _ _ _ T133 (mkF m 22 _ [(.ref b131)])
    refine Wk.astore X133 hx (hb hby at_22) (n := 24) rfl rfl (L' := #[.val (.int p1), .val (.int p2), .val (.int p3), .val (.int p4), .val (.int p5), .val (.int (4 : Int32)), .val (.int z_130), .val (.ref b131), .unset, .unset]) rfl ?_
    refine Wk.aload X133 hx (hb hby at_24) (n := 26) rfl rfl rfl ?_
    refine Wk.iloadN X133 hx (hb hby at_26) (n := 27) rfl rfl ?_
    have f134 := (f132.keep J133 (allS (by omega) all0))
    have cl135_ := fun (Ls : Array Slot) (hLs : Ls.size = c.maxLocals) => Jvm.LawKit.callS X133 hx (y := (⟨"java/lang/Integer", "valueOf", "(I)Ljava/lang/Integer;"⟩ : MethodName)) hown (mvT hZ (hw _ (List.mem_of_getElem? (i := 30) rfl))) (mvT hZ (hw _ (List.mem_of_getElem? (i := 31) rfl))) (mvT hZ (hw _ (List.mem_of_getElem? (i := 32) rfl))) (mvT hZ (hw _ (List.mem_of_getElem? (i := 33) rfl))) (by decide) (backOf (W := 1) (rmVO l Z a0 hw [] p3 wC cC T133.heap n0 (by omega) S2 S3 f134 ArC hC) hZ (hw _ (List.mem_of_getElem? (i := 33) rfl)) (hw _ (List.mem_of_getElem? (i := 32) rfl)) (by decide) (by decide)) (g := mkF m 27 Ls [(.int p3), (.ref b131)]) rfl hLs (argsL := [(.int p3)]) (rest := [(.ref b131)]) (lenOf pd_13 rfl) rfl (by show 2 * 0 + _ ≤ _; exact Nat.le_of_eq rfl) (hb hby at_27) (fun _ _ => ⟨rfl, rfl, (by decide : 0 + 0 + 1 + 0 + 1 ≤ _), (by decide : 0 + 0 + 3 + 0 + 1 ≤ _)⟩)
    refine Wk.backS (n := 30) (rc := 1) (rs := 1) (Q := Q_rmVO Z p3 wC cC T133.heap n0) (cl135_ _ (by rw [hml]; rfl)) fun vn135 T135 L135 X135 hQ135 => ?_
    clear cl135_
    obtain ⟨r_135, rfl, M135, J135, p135_0, p135_1⟩ := hQ135
    have N135 := Fr.app N133 M135
    have sz135 := J135.1
    have K135 := K133.trans J135 (fun x hx => nomatch hx)
    have lt_p135_0 := ny p135_0.lt
    show Wk p e below s _ _ _ T135 (mkF m 30 _ [(.ref r_135), (.ref b131)])
    have f136 := (p133_0.keep J135)
    have na135 := nw (ne_exa p135_0 f136 (by decide))
    have f137 := (p133_1.keep J135 nin0)
    have f138 := (p133_2.keep J135 nin0)
    have f139 := (p133_3.keep J135 nin0)
    have f140 := (f134.keep J135 all0)
    obtain ⟨cq141, kq141, qn141a, qn141b, qn141c⟩ := isOf hZ rfl f136
    have cl141_ := fun (Ls : Array Slot) (hLs : Ls.size = c.maxLocals) => X135.virtualBack hx (y := (⟨"java/util/ArrayList", "add", "(Ljava/lang/Object;)Z"⟩ : MethodName)) (z := (⟨"java/util/ArrayList", "add", "(Ljava/lang/Object;)Z"⟩ : MethodName)) hown (mvT hZ (hw _ (List.mem_of_getElem? (i := 37) rfl))) (mvT hZ (hw _ (List.mem_of_getElem? (i := 38) rfl))) (notFace_of_selects (args := #[]) (mvT hZ (hw _ (List.mem_of_getElem? (i := 40) rfl)))) (mvT hZ (hw _ (List.mem_of_getElem? (i := 40) rfl))) (mvT hZ (hw _ (List.mem_of_getElem? (i := 39) rfl))) (by decide) (backOf (W := 0) (rmAG l Z a0 hw [] b131 r_135 (0 : Int32) wE kE T135.heap n0 (by omega) f136 f137 f138 f139 A0 S1 f140 p135_0 (by omega)) hZ (hw _ (List.mem_of_getElem? (i := 41) rfl)) (hw _ (List.mem_of_getElem? (i := 6) rfl)) (by decide) (by decide)) qn141a qn141c (g := mkF m 30 Ls [(.ref r_135), (.ref b131)]) rfl hLs (Steps.refl _) (argsL := [(.ref r_135)]) (rest := []) (lenOf pd_14 rfl) rfl (by show 2 * 0 + _ ≤ _; exact Nat.le_of_eq rfl) (hb hby at_30) (fun _ _ => ⟨rfl, rfl, (by decide : 0 + 0 + 1 + 0 + 1 + 1 ≤ _), (by decide : 0 + 0 + 3 + 0 + 1 + 10 ≤ _)⟩)
    refine Wk.back (n := 33) (rc := 1) (rs := 10) (Q := Q_rmAG Z b131 r_135 (0 : Int32) wE kE T135.heap n0) (cl141_ _ (by rw [hml]; rfl)) fun vn141 T141 L141 X141 hQ141 => ?_
    clear cl141_
    obtain ⟨t_141, kt_141, rfl, M141, J141, p141_0, p141_1, p141_2, p141_3, p141_4, ov_141, gt_141⟩ := hQ141
    have N141 := Fr.app N135 M141
    have sz141 := J141.1
    have K141 := K135.trans J141 (allS (Or.inr (by omega)) all0)
    have lt_p141_0 := ny p141_0.lt
    have lt_p141_4 := ny p141_4.lt
    show Wk p e below s _ _ _ T141 (mkF m 33 _ [(.int (1 : Int32))])
    refine Wk.pop X141 hx (hb hby at_33) (n := 34) rfl rfl ?_
    refine Wk.iload X141 hx (hb hby at_34) (n := 36) rfl rfl ?_
    refine Wk.iconst X141 hx (hb hby at_36) (n := 37) rfl (z := (2 : Int32)) rfl ?_
    have hc37_142 : ¬ ((4 : Int32) < (2 : Int32)) := by decide
    refine Wk.icmpNo X141 hx (hb hby at_37) (n := 40) rfl (flt hc37_142).1 ?_
    refine Wk.aload X141 hx (hb hby at_40) (n := 42) rfl rfl rfl ?_
    refine Wk.iloadN X141 hx (hb hby at_42) (n := 43) rfl rfl ?_
    have f143 := (f140.keep J141 (allS (by omega) all0))
    have cl144_ := fun (Ls : Array Slot) (hLs : Ls.size = c.maxLocals) => Jvm.LawKit.callS X141 hx (y := (⟨"java/lang/Integer", "valueOf", "(I)Ljava/lang/Integer;"⟩ : MethodName)) hown (mvT hZ (hw _ (List.mem_of_getElem? (i := 30) rfl))) (mvT hZ (hw _ (List.mem_of_getElem? (i := 31) rfl))) (mvT hZ (hw _ (List.mem_of_getElem? (i := 32) rfl))) (mvT hZ (hw _ (List.mem_of_getElem? (i := 33) rfl))) (by decide) (backOf (W := 1) (rmVO l Z a0 hw [] p4 wC cC T141.heap n0 (by omega) S2 S3 f143 ArC hC) hZ (hw _ (List.mem_of_getElem? (i := 33) rfl)) (hw _ (List.mem_of_getElem? (i := 32) rfl)) (by decide) (by decide)) (g := mkF m 43 Ls [(.int p4), (.ref b131)]) rfl hLs (argsL := [(.int p4)]) (rest := [(.ref b131)]) (lenOf pd_13 rfl) rfl (by show 2 * 0 + _ ≤ _; exact Nat.le_of_eq rfl) (hb hby at_43) (fun _ _ => ⟨rfl, rfl, (by decide : 0 + 0 + 1 + 0 + 1 + 1 + 1 ≤ _), (by decide : 0 + 0 + 3 + 0 + 1 + 10 + 1 ≤ _)⟩)
    refine Wk.backS (n := 46) (rc := 1) (rs := 1) (Q := Q_rmVO Z p4 wC cC T141.heap n0) (cl144_ _ (by rw [hml]; rfl)) fun vn144 T144 L144 X144 hQ144 => ?_
    clear cl144_
    obtain ⟨r_144, rfl, M144, J144, p144_0, p144_1⟩ := hQ144
    have N144 := Fr.app N141 M144
    have sz144 := J144.1
    have K144 := K141.trans J144 (fun x hx => nomatch hx)
    have lt_p144_0 := ny p144_0.lt
    show Wk p e below s _ _ _ T144 (mkF m 46 _ [(.ref r_144), (.ref b131)])
    have f145 := (p141_0.keep J144)
    have na144 := nw (ne_exa p144_0 f145 (by decide))
    have f146 := (p141_4.keep J144 nin0)
    obtain ⟨cx144, Ax144, -⟩ := id f146
    have nb144 := nw (ne_arr p144_0 (hw _ (List.mem_of_getElem? (i := 142) rfl)) Ax144)
    have f147 := (p141_1.keep J144 nin0)
    have f148 := (p141_2.keep J144 nin0)
    have f149 := (p141_3.keep J144 nin0)
    obtain ⟨cq150, kq150, qn150a, qn150b, qn150c⟩ := isOf hZ rfl f145
    have cl150_ := fun (Ls : Array Slot) (hLs : Ls.size = c.maxLocals) => X144.virtualBack hx (y := (⟨"java/util/ArrayList", "add", "(Ljava/lang/Object;)Z"⟩ : MethodName)) (z := (⟨"java/util/ArrayList", "add", "(Ljava/lang/Object;)Z"⟩ : MethodName)) hown (mvT hZ (hw _ (List.mem_of_getElem? (i := 37) rfl))) (mvT hZ (hw _ (List.mem_of_getElem? (i := 38) rfl))) (notFace_of_selects (args := #[]) (mvT hZ (hw _ (List.mem_of_getElem? (i := 40) rfl)))) (mvT hZ (hw _ (List.mem_of_getElem? (i := 40) rfl))) (mvT hZ (hw _ (List.mem_of_getElem? (i := 39) rfl))) (by decide) (backOf (W := 0) (rmAN l Z a0 hw [] b131 r_144 ((0 : Int32) + (1 : Int32)) t_141 kt_141 ([(.ref r_135), .null, .null, .null, .null, .null, .null, .null, .null, .null]) (1 : Int32) 1 T144.heap n0 (by omega) f145 f147 f148 f149 f146 p144_0 ov_141 ⟨by decide, by decide⟩ rfl (Nat.le_of_ble_eq_true rfl) (nz (by omega)) (by omega) (by omega)) hZ (hw _ (List.mem_of_getElem? (i := 41) rfl)) (hw _ (List.mem_of_getElem? (i := 6) rfl)) (by decide) (by decide)) qn150a qn150c (g := mkF m 46 Ls [(.ref r_144), (.ref b131)]) rfl hLs (Steps.refl _) (argsL := [(.ref r_144)]) (rest := []) (lenOf pd_14 rfl) rfl (by show 2 * 0 + _ ≤ _; exact Nat.le_of_eq rfl) (hb hby at_46) (fun _ _ => ⟨rfl, rfl, (by decide : 0 + 0 + 1 + 0 + 1 + 1 + 1 + 0 ≤ _), (by decide : 0 + 0 + 3 + 0 + 1 + 10 + 1 + 0 ≤ _)⟩)
    refine Wk.back (n := 49) (rc := 0) (rs := 0) (Q := Q_rmAN Z b131 r_144 ((0 : Int32) + (1 : Int32)) t_141 kt_141 ([(.ref r_135), .null, .null, .null, .null, .null, .null, .null, .null, .null]) (1 : Int32) 1 T144.heap n0) (cl150_ _ (by rw [hml]; rfl)) fun vn150 T150 L150 X150 hQ150 => ?_
    clear cl150_
    obtain ⟨rfl, M150, J150, p150_0, p150_1, p150_2, p150_3, p150_4⟩ := hQ150
    have N150 := Fr.app N144 M150
    have sz150 := J150.1
    have K150 := K144.trans J150 (allS (Or.inr (by omega)) (allS (Or.inr (by omega)) all0))
    have lt_p150_0 := ny p150_0.lt
    have lt_p150_4 := ny p150_4.lt
    show Wk p e below s _ _ _ T150 (mkF m 49 _ [(.int (1 : Int32))])
    have V150_ : Arv Z T150.heap t_141 kt_141 (.object "java/lang/Object") (10 : Int32) [(.ref r_135), (.ref r_144), .null, .null, .null, .null, .null, .null, .null, .null] .null := p150_4
    have Z150_ : Fld Z T150.heap b131 "java/util/ArrayList" "size" "I" (.int (2 : Int32)) := p150_3
    refine Wk.pop X150 hx (hb hby at_49) (n := 50) rfl rfl ?_
    refine Wk.iload X150 hx (hb hby at_50) (n := 52) rfl rfl ?_
    refine Wk.iconst X150 hx (hb hby at_52) (n := 53) rfl (z := (3 : Int32)) rfl ?_
    have hc53_151 : ¬ ((4 : Int32) < (3 : Int32)) := by decide
    refine Wk.icmpNo X150 hx (hb hby at_53) (n := 56) rfl (flt hc53_151).1 ?_
    refine Wk.aload X150 hx (hb hby at_56) (n := 58) rfl rfl rfl ?_
    refine Wk.iloadN X150 hx (hb hby at_58) (n := 59) rfl rfl ?_
    refine Wk.iloadN X150 hx (hb hby at_59) (n := 60) rfl rfl ?_
    refine Wk.ixor X150 hx (hb hby at_60) (n := 61) rfl ?_
    have f152 := ((f143.keep J144 all0).keep J150 (allS (by omega) (allS (by omega) all0)))
    have cl153_ := fun (Ls : Array Slot) (hLs : Ls.size = c.maxLocals) => Jvm.LawKit.callS X150 hx (y := (⟨"java/lang/Integer", "valueOf", "(I)Ljava/lang/Integer;"⟩ : MethodName)) hown (mvT hZ (hw _ (List.mem_of_getElem? (i := 30) rfl))) (mvT hZ (hw _ (List.mem_of_getElem? (i := 31) rfl))) (mvT hZ (hw _ (List.mem_of_getElem? (i := 32) rfl))) (mvT hZ (hw _ (List.mem_of_getElem? (i := 33) rfl))) (by decide) (backOf (W := 1) (rmVO l Z a0 hw [] (p3 ^^^ p4) wC cC T150.heap n0 (by omega) S2 S3 f152 ArC hC) hZ (hw _ (List.mem_of_getElem? (i := 33) rfl)) (hw _ (List.mem_of_getElem? (i := 32) rfl)) (by decide) (by decide)) (g := mkF m 61 Ls [(.int (p3 ^^^ p4)), (.ref b131)]) rfl hLs (argsL := [(.int (p3 ^^^ p4))]) (rest := [(.ref b131)]) (lenOf pd_13 rfl) rfl (by show 2 * 0 + _ ≤ _; exact Nat.le_of_eq rfl) (hb hby at_61) (fun _ _ => ⟨rfl, rfl, (by decide : 0 + 0 + 1 + 0 + 1 + 1 + 1 + 0 + 1 ≤ _), (by decide : 0 + 0 + 3 + 0 + 1 + 10 + 1 + 0 + 1 ≤ _)⟩)
    refine Wk.backS (n := 64) (rc := 1) (rs := 1) (Q := Q_rmVO Z (p3 ^^^ p4) wC cC T150.heap n0) (cl153_ _ (by rw [hml]; rfl)) fun vn153 T153 L153 X153 hQ153 => ?_
    clear cl153_
    obtain ⟨r_153, rfl, M153, J153, p153_0, p153_1⟩ := hQ153
    have N153 := Fr.app N150 M153
    have sz153 := J153.1
    have K153 := K150.trans J153 (fun x hx => nomatch hx)
    have lt_p153_0 := ny p153_0.lt
    show Wk p e below s _ _ _ T153 (mkF m 64 _ [(.ref r_153), (.ref b131)])
    have f154 := (p150_0.keep J153)
    have na153 := nw (ne_exa p153_0 f154 (by decide))
    have f155 := (V150_.keep J153 nin0)
    obtain ⟨cx153, Ax153, -⟩ := id f155
    have nb153 := nw (ne_arr p153_0 (hw _ (List.mem_of_getElem? (i := 142) rfl)) Ax153)
    have f156 := (p150_1.keep J153 nin0)
    have f157 := (p150_2.keep J153 nin0)
    have f158 := (Z150_.keep J153 nin0)
    obtain ⟨cq159, kq159, qn159a, qn159b, qn159c⟩ := isOf hZ rfl f154
    have cl159_ := fun (Ls : Array Slot) (hLs : Ls.size = c.maxLocals) => X153.virtualBack hx (y := (⟨"java/util/ArrayList", "add", "(Ljava/lang/Object;)Z"⟩ : MethodName)) (z := (⟨"java/util/ArrayList", "add", "(Ljava/lang/Object;)Z"⟩ : MethodName)) hown (mvT hZ (hw _ (List.mem_of_getElem? (i := 37) rfl))) (mvT hZ (hw _ (List.mem_of_getElem? (i := 38) rfl))) (notFace_of_selects (args := #[]) (mvT hZ (hw _ (List.mem_of_getElem? (i := 40) rfl)))) (mvT hZ (hw _ (List.mem_of_getElem? (i := 40) rfl))) (mvT hZ (hw _ (List.mem_of_getElem? (i := 39) rfl))) (by decide) (backOf (W := 0) (rmAN l Z a0 hw [] b131 r_153 (((0 : Int32) + (1 : Int32)) + (1 : Int32)) t_141 kt_141 ([(.ref r_135), (.ref r_144), .null, .null, .null, .null, .null, .null, .null, .null]) (2 : Int32) 2 T153.heap n0 (by omega) f154 f156 f157 f158 f155 p153_0 ov_141 ⟨by decide, by decide⟩ rfl (Nat.le_of_ble_eq_true rfl) (nz (by omega)) (by omega) (by omega)) hZ (hw _ (List.mem_of_getElem? (i := 41) rfl)) (hw _ (List.mem_of_getElem? (i := 6) rfl)) (by decide) (by decide)) qn159a qn159c (g := mkF m 64 Ls [(.ref r_153), (.ref b131)]) rfl hLs (Steps.refl _) (argsL := [(.ref r_153)]) (rest := []) (lenOf pd_14 rfl) rfl (by show 2 * 0 + _ ≤ _; exact Nat.le_of_eq rfl) (hb hby at_64) (fun _ _ => ⟨rfl, rfl, (by decide : 0 + 0 + 1 + 0 + 1 + 1 + 1 + 0 + 1 + 0 ≤ _), (by decide : 0 + 0 + 3 + 0 + 1 + 10 + 1 + 0 + 1 + 0 ≤ _)⟩)
    refine Wk.back (n := 67) (rc := 0) (rs := 0) (Q := Q_rmAN Z b131 r_153 (((0 : Int32) + (1 : Int32)) + (1 : Int32)) t_141 kt_141 ([(.ref r_135), (.ref r_144), .null, .null, .null, .null, .null, .null, .null, .null]) (2 : Int32) 2 T153.heap n0) (cl159_ _ (by rw [hml]; rfl)) fun vn159 T159 L159 X159 hQ159 => ?_
    clear cl159_
    obtain ⟨rfl, M159, J159, p159_0, p159_1, p159_2, p159_3, p159_4⟩ := hQ159
    have N159 := Fr.app N153 M159
    have sz159 := J159.1
    have K159 := K153.trans J159 (allS (Or.inr (by omega)) (allS (Or.inr (by omega)) all0))
    have lt_p159_0 := ny p159_0.lt
    have lt_p159_4 := ny p159_4.lt
    show Wk p e below s _ _ _ T159 (mkF m 67 _ [(.int (1 : Int32))])
    have V159_ : Arv Z T159.heap t_141 kt_141 (.object "java/lang/Object") (10 : Int32) [(.ref r_135), (.ref r_144), (.ref r_153), .null, .null, .null, .null, .null, .null, .null] .null := p159_4
    have Z159_ : Fld Z T159.heap b131 "java/util/ArrayList" "size" "I" (.int (3 : Int32)) := p159_3
    refine Wk.pop X159 hx (hb hby at_67) (n := 68) rfl rfl ?_
    refine Wk.iload X159 hx (hb hby at_68) (n := 70) rfl rfl ?_
    refine Wk.iconst X159 hx (hb hby at_70) (n := 71) rfl (z := (4 : Int32)) rfl ?_
    have hc71_160 : ¬ ((4 : Int32) < (4 : Int32)) := by decide
    refine Wk.icmpNo X159 hx (hb hby at_71) (n := 74) rfl (flt hc71_160).1 ?_
    refine Wk.aload X159 hx (hb hby at_74) (n := 76) rfl rfl rfl ?_
    refine Wk.iloadN X159 hx (hb hby at_76) (n := 77) rfl rfl ?_
    refine Wk.iloadN X159 hx (hb hby at_77) (n := 78) rfl rfl ?_
    refine Wk.iadd X159 hx (hb hby at_78) (n := 79) rfl ?_
    have f161 := ((f152.keep J153 all0).keep J159 (allS (by omega) (allS (by omega) all0)))
    have cl162_ := fun (Ls : Array Slot) (hLs : Ls.size = c.maxLocals) => Jvm.LawKit.callS X159 hx (y := (⟨"java/lang/Integer", "valueOf", "(I)Ljava/lang/Integer;"⟩ : MethodName)) hown (mvT hZ (hw _ (List.mem_of_getElem? (i := 30) rfl))) (mvT hZ (hw _ (List.mem_of_getElem? (i := 31) rfl))) (mvT hZ (hw _ (List.mem_of_getElem? (i := 32) rfl))) (mvT hZ (hw _ (List.mem_of_getElem? (i := 33) rfl))) (by decide) (backOf (W := 1) (rmVO l Z a0 hw [] (p3 + p4) wC cC T159.heap n0 (by omega) S2 S3 f161 ArC hC) hZ (hw _ (List.mem_of_getElem? (i := 33) rfl)) (hw _ (List.mem_of_getElem? (i := 32) rfl)) (by decide) (by decide)) (g := mkF m 79 Ls [(.int (p3 + p4)), (.ref b131)]) rfl hLs (argsL := [(.int (p3 + p4))]) (rest := [(.ref b131)]) (lenOf pd_13 rfl) rfl (by show 2 * 0 + _ ≤ _; exact Nat.le_of_eq rfl) (hb hby at_79) (fun _ _ => ⟨rfl, rfl, (by decide : 0 + 0 + 1 + 0 + 1 + 1 + 1 + 0 + 1 + 0 + 1 ≤ _), (by decide : 0 + 0 + 3 + 0 + 1 + 10 + 1 + 0 + 1 + 0 + 1 ≤ _)⟩)
    refine Wk.backS (n := 82) (rc := 1) (rs := 1) (Q := Q_rmVO Z (p3 + p4) wC cC T159.heap n0) (cl162_ _ (by rw [hml]; rfl)) fun vn162 T162 L162 X162 hQ162 => ?_
    clear cl162_
    obtain ⟨r_162, rfl, M162, J162, p162_0, p162_1⟩ := hQ162
    have N162 := Fr.app N159 M162
    have sz162 := J162.1
    have K162 := K159.trans J162 (fun x hx => nomatch hx)
    have lt_p162_0 := ny p162_0.lt
    show Wk p e below s _ _ _ T162 (mkF m 82 _ [(.ref r_162), (.ref b131)])
    have f163 := (p159_0.keep J162)
    have na162 := nw (ne_exa p162_0 f163 (by decide))
    have f164 := (V159_.keep J162 nin0)
    obtain ⟨cx162, Ax162, -⟩ := id f164
    have nb162 := nw (ne_arr p162_0 (hw _ (List.mem_of_getElem? (i := 142) rfl)) Ax162)
    have f165 := (p159_1.keep J162 nin0)
    have f166 := (p159_2.keep J162 nin0)
    have f167 := (Z159_.keep J162 nin0)
    obtain ⟨cq168, kq168, qn168a, qn168b, qn168c⟩ := isOf hZ rfl f163
    have cl168_ := fun (Ls : Array Slot) (hLs : Ls.size = c.maxLocals) => X162.virtualBack hx (y := (⟨"java/util/ArrayList", "add", "(Ljava/lang/Object;)Z"⟩ : MethodName)) (z := (⟨"java/util/ArrayList", "add", "(Ljava/lang/Object;)Z"⟩ : MethodName)) hown (mvT hZ (hw _ (List.mem_of_getElem? (i := 37) rfl))) (mvT hZ (hw _ (List.mem_of_getElem? (i := 38) rfl))) (notFace_of_selects (args := #[]) (mvT hZ (hw _ (List.mem_of_getElem? (i := 40) rfl)))) (mvT hZ (hw _ (List.mem_of_getElem? (i := 40) rfl))) (mvT hZ (hw _ (List.mem_of_getElem? (i := 39) rfl))) (by decide) (backOf (W := 0) (rmAN l Z a0 hw [] b131 r_162 ((((0 : Int32) + (1 : Int32)) + (1 : Int32)) + (1 : Int32)) t_141 kt_141 ([(.ref r_135), (.ref r_144), (.ref r_153), .null, .null, .null, .null, .null, .null, .null]) (3 : Int32) 3 T162.heap n0 (by omega) f163 f165 f166 f167 f164 p162_0 ov_141 ⟨by decide, by decide⟩ rfl (Nat.le_of_ble_eq_true rfl) (nz (by omega)) (by omega) (by omega)) hZ (hw _ (List.mem_of_getElem? (i := 41) rfl)) (hw _ (List.mem_of_getElem? (i := 6) rfl)) (by decide) (by decide)) qn168a qn168c (g := mkF m 82 Ls [(.ref r_162), (.ref b131)]) rfl hLs (Steps.refl _) (argsL := [(.ref r_162)]) (rest := []) (lenOf pd_14 rfl) rfl (by show 2 * 0 + _ ≤ _; exact Nat.le_of_eq rfl) (hb hby at_82) (fun _ _ => ⟨rfl, rfl, (by decide : 0 + 0 + 1 + 0 + 1 + 1 + 1 + 0 + 1 + 0 + 1 + 0 ≤ _), (by decide : 0 + 0 + 3 + 0 + 1 + 10 + 1 + 0 + 1 + 0 + 1 + 0 ≤ _)⟩)
    refine Wk.back (n := 85) (rc := 0) (rs := 0) (Q := Q_rmAN Z b131 r_162 ((((0 : Int32) + (1 : Int32)) + (1 : Int32)) + (1 : Int32)) t_141 kt_141 ([(.ref r_135), (.ref r_144), (.ref r_153), .null, .null, .null, .null, .null, .null, .null]) (3 : Int32) 3 T162.heap n0) (cl168_ _ (by rw [hml]; rfl)) fun vn168 T168 L168 X168 hQ168 => ?_
    clear cl168_
    obtain ⟨rfl, M168, J168, p168_0, p168_1, p168_2, p168_3, p168_4⟩ := hQ168
    have N168 := Fr.app N162 M168
    have sz168 := J168.1
    have K168 := K162.trans J168 (allS (Or.inr (by omega)) (allS (Or.inr (by omega)) all0))
    have lt_p168_0 := ny p168_0.lt
    have lt_p168_4 := ny p168_4.lt
    show Wk p e below s _ _ _ T168 (mkF m 85 _ [(.int (1 : Int32))])
    have V168_ : Arv Z T168.heap t_141 kt_141 (.object "java/lang/Object") (10 : Int32) [(.ref r_135), (.ref r_144), (.ref r_153), (.ref r_162), .null, .null, .null, .null, .null, .null] .null := p168_4
    have Z168_ : Fld Z T168.heap b131 "java/util/ArrayList" "size" "I" (.int (4 : Int32)) := p168_3
    refine Wk.pop X168 hx (hb hby at_85) (n := 86) rfl rfl ?_
    refine Wk.iload X168 hx (hb hby at_86) (n := 88) rfl rfl ?_
    refine Wk.sipush X168 hx (hb hby at_88) (n := 91) rfl (z := (255 : Int32)) rfl ?_
    refine Wk.iand X168 hx (hb hby at_91) (n := 92) rfl ?_
    obtain ⟨cf, q_cf⟩ : ∃ z : Int32, z = ((p5 &&& (255 : Int32)).toUInt32.toUInt16.toUInt32.toInt32) := ⟨_, rfl⟩
    have n_cf : nar .char cf = cf := by rw [q_cf]; exact own_c255 _
    have r_cf : ¬ cf < 0 ∧ ¬ (255 : Int32) < cf := by rw [q_cf]; exact own_r255 _
    refine Wk.i2c X168 hx (hb hby at_92) (n := 93) rfl q_cf.symm ?_
    have f169 := ((f161.keep J162 all0).keep J168 (allS (by omega) (allS (by omega) all0)))
    have cl170_ := fun (Ls : Array Slot) (hLs : Ls.size = c.maxLocals) => Jvm.LawKit.callS X168 hx (y := (⟨"java/lang/String", "valueOf", "(C)Ljava/lang/String;"⟩ : MethodName)) hown (mvT hZ (hw _ (List.mem_of_getElem? (i := 65) rfl))) (mvT hZ (hw _ (List.mem_of_getElem? (i := 66) rfl))) (mvT hZ (hw _ (List.mem_of_getElem? (i := 67) rfl))) (mvT hZ (hw _ (List.mem_of_getElem? (i := 68) rfl))) (by decide) (backOf (W := 0) (rmSVO l Z a0 hw [] cf zc T168.heap n0 (by omega) S4 f169 hCS r_cf.2) hZ (hw _ (List.mem_of_getElem? (i := 68) rfl)) (hw _ (List.mem_of_getElem? (i := 67) rfl)) (by decide) (by decide)) (g := mkF m 93 Ls [(.int cf)]) rfl hLs (argsL := [(.int cf)]) (rest := []) (lenOf pd_15 rfl) rfl (by show 2 * 0 + _ ≤ _; exact Nat.le_of_eq rfl) (hb hby at_93) (fun _ _ => ⟨rfl, rfl, (by decide : 0 + 0 + 1 + 0 + 1 + 1 + 1 + 0 + 1 + 0 + 1 + 0 + 2 ≤ _), (by decide : 0 + 0 + 3 + 0 + 1 + 10 + 1 + 0 + 1 + 0 + 1 + 0 + 5 ≤ _)⟩)
    refine Wk.backS (n := 96) (rc := 2) (rs := 5) (Q := Q_rmSVO Z cf zc T168.heap n0) (cl170_ _ (by rw [hml]; rfl)) fun vn170 T170 L170 X170 hQ170 => ?_
    clear cl170_
    obtain ⟨r_170, t_170, kb_170, rfl, M170, J170, p170_0, p170_1, p170_2, p170_3, gr_170, gt_170⟩ := hQ170
    have N170 := Fr.app N168 M170
    have sz170 := J170.1
    have K170 := K168.trans J170 (fun x hx => nomatch hx)
    have lt_p170_0 := ny p170_0.lt
    have lt_p170_3 := ny p170_3.lt
    show Wk p e below s _ _ _ T170 (mkF m 96 _ [(.ref r_170)])
    refine Wk.astore X170 hx (hb hby at_96) (n := 98) rfl rfl (L' := #[.val (.int p1), .val (.int p2), .val (.int p3), .val (.int p4), .val (.int p5), .val (.int (4 : Int32)), .val (.int z_130), .val (.ref b131), .val (.ref r_170), .unset]) rfl ?_
    refine Wk.aload X170 hx (hb hby at_98) (n := 100) rfl rfl rfl ?_
    refine Wk.aload X170 hx (hb hby at_100) (n := 102) rfl rfl rfl ?_
    refine Wk.iload X170 hx (hb hby at_102) (n := 104) rfl rfl ?_
    have f171 := (p168_0.keep J170)
    have f172 := (Z168_.keep J170 nin0)
    have cl173_ := fun (Ls : Array Slot) (hLs : Ls.size = c.maxLocals) => Jvm.LawKit.callS X170 hx (y := (⟨"com/example/strict_stock/strictstock/Names", "list", "(Ljava/lang/String;Ljava/util/List;I)Ljava/util/List;"⟩ : MethodName)) hown (mvT hZ (hw _ (List.mem_of_getElem? (i := 89) rfl))) (mvT hZ (hw _ (List.mem_of_getElem? (i := 90) rfl))) (mvT hZ (hw _ (List.mem_of_getElem? (i := 91) rfl))) (mvT hZ (hw _ (List.mem_of_getElem? (i := 92) rfl))) (by decide) (backOf (W := 0) (rmNL l Z a0 hw [] r_170 b131 z_130 (4 : Int32) T170.heap n0 (by omega) f171 f172 (by decide) hmx) hZ (hw _ (List.mem_of_getElem? (i := 92) rfl)) (hw _ (List.mem_of_getElem? (i := 91) rfl)) (by decide) (by decide)) (g := mkF m 104 Ls [(.int z_130), (.ref b131), (.ref r_170)]) rfl hLs (argsL := [(.ref r_170), (.ref b131), (.int z_130)]) (rest := []) (lenOf pd_16 rfl) rfl (by show 2 * 0 + _ ≤ _; exact Nat.le_of_eq rfl) (hb hby at_104) (fun _ _ => ⟨rfl, rfl, (by decide : 0 + 0 + 1 + 0 + 1 + 1 + 1 + 0 + 1 + 0 + 1 + 0 + 2 + 0 ≤ _), (by decide : 0 + 0 + 3 + 0 + 1 + 10 + 1 + 0 + 1 + 0 + 1 + 0 + 5 + 0 ≤ _)⟩)
    refine Wk.backS (n := 107) (rc := 0) (rs := 0) (Q := Q_rmNL Z r_170 b131 z_130 (4 : Int32) T170.heap n0) (cl173_ _ (by rw [hml]; rfl)) fun vn173 T173 L173 X173 hQ173 => ?_
    clear cl173_
    obtain ⟨rfl, M173, e173⟩ := hQ173
    have N173 := Fr.app N170 M173
    show Wk p e below s _ _ _ T173 (mkF m 107 _ [(.ref b131)])
    refine Wk.astore X173 hx (hb hby at_107) (n := 109) rfl rfl (L' := #[.val (.int p1), .val (.int p2), .val (.int p3), .val (.int p4), .val (.int p5), .val (.int (4 : Int32)), .val (.int z_130), .val (.ref b131), .val (.ref r_170), .val (.ref b131)]) rfl ?_
    refine Wk.aload X173 hx (hb hby at_109) (n := 111) rfl rfl rfl ?_
    refine Wk.aload X173 hx (hb hby at_111) (n := 113) rfl rfl rfl ?_
    refine Wk.acmp X173 hx rfl rfl (hb hby at_113) (same := true) (decide_eq_true rfl) (by decide) (n := 118) (by decide) ?_
    refine Wk.aload X173 hx (hb hby at_118) (n := 120) rfl rfl rfl ?_
    obtain ⟨cq174, kq174, qn174a, qn174b, qn174c⟩ := isOf hZ e173 f171
    have cl174_ := fun (Ls : Array Slot) (hLs : Ls.size = c.maxLocals) => X173.interfaceBack hx (xi := (⟨"java/util/List", "size", "()I"⟩ : MethodName)) (y := (⟨"java/util/ArrayList", "size", "()I"⟩ : MethodName)) hown (mvT hZ (hw _ (List.mem_of_getElem? (i := 110) rfl))) (mvT hZ (hw _ (List.mem_of_getElem? (i := 103) rfl))) (mvT hZ (hw _ (List.mem_of_getElem? (i := 104) rfl))) (mvT hZ (hw _ (List.mem_of_getElem? (i := 105) rfl))) (mvT hZ (hw _ (List.mem_of_getElem? (i := 106) rfl))) (mvT hZ (hw _ (List.mem_of_getElem? (i := 107) rfl))) (mvT hZ (hw _ (List.mem_of_getElem? (i := 108) rfl))) (mvT hZ (hw _ (List.mem_of_getElem? (i := 100) rfl))) (by decide) (backOf (W := 0) (rmSz l Z a0 hw [] b131 (4 : Int32) T170.heap n0 (by omega) f172) hZ (hw _ (List.mem_of_getElem? (i := 109) rfl)) (hw _ (List.mem_of_getElem? (i := 6) rfl)) (by decide) (by decide)) qn174a qn174b qn174c (g := mkF m 120 Ls [(.ref b131)]) rfl hLs (Steps.refl _) (argsL := []) (rest := []) (lenOf pd_10 rfl) rfl (by show 2 * 0 + _ ≤ _; exact Nat.le_of_eq rfl) (hb hby at_120) (fun _ _ => ⟨rfl, e173, (by decide : 0 + 0 + 1 + 0 + 1 + 1 + 1 + 0 + 1 + 0 + 1 + 0 + 2 + 0 + 0 ≤ _), (by decide : 0 + 0 + 3 + 0 + 1 + 10 + 1 + 0 + 1 + 0 + 1 + 0 + 5 + 0 + 0 ≤ _)⟩)
    refine Wk.back (n := 125) (rc := 0) (rs := 0) (Q := Q_rmSz Z b131 (4 : Int32) T170.heap n0) (cl174_ _ (by rw [hml]; rfl)) fun vn174 T174 L174 X174 hQ174 => ?_
    clear cl174_
    obtain ⟨rfl, M174, e174⟩ := hQ174
    have N174 := Fr.app N173 M174
    show Wk p e below s _ _ _ T174 (mkF m 125 _ [(.int (4 : Int32))])
    refine Wk.iload X174 hx (hb hby at_125) (n := 127) rfl rfl ?_
    have hc127_175 : (4 : Int32) = (4 : Int32) := rfl
    refine Wk.icmpYes X174 hx (hb hby at_127) (teq hc127_175).1 (by decide) (n := 132) (by decide) ?_
    refine Wk.aload X174 hx (hb hby at_132) (n := 134) rfl rfl rfl ?_
    refine Wk.iconst X174 hx (hb hby at_134) (n := 135) rfl (z := (0 : Int32)) rfl ?_
    have f176 := (p168_2.keep J170 nin0)
    have f177 := (V168_.keep J170 nin0)
    obtain ⟨cq178, kq178, qn178a, qn178b, qn178c⟩ := isOf hZ e174 f171
    have cl178_ := fun (Ls : Array Slot) (hLs : Ls.size = c.maxLocals) => X174.interfaceBack hx (xi := (⟨"java/util/List", "get", "(I)Ljava/lang/Object;"⟩ : MethodName)) (y := (⟨"java/util/ArrayList", "get", "(I)Ljava/lang/Object;"⟩ : MethodName)) hown (mvT hZ (hw _ (List.mem_of_getElem? (i := 111) rfl))) (mvT hZ (hw _ (List.mem_of_getElem? (i := 112) rfl))) (mvT hZ (hw _ (List.mem_of_getElem? (i := 113) rfl))) (mvT hZ (hw _ (List.mem_of_getElem? (i := 114) rfl))) (mvT hZ (hw _ (List.mem_of_getElem? (i := 115) rfl))) (mvT hZ (hw _ (List.mem_of_getElem? (i := 116) rfl))) (mvT hZ (hw _ (List.mem_of_getElem? (i := 117) rfl))) (mvT hZ (hw _ (List.mem_of_getElem? (i := 100) rfl))) (by decide) (backOf (W := 0) (rmGe l Z a0 hw [] b131 (0 : Int32) t_141 kt_141 ([(.ref r_135), (.ref r_144), (.ref r_153), (.ref r_162), .null, .null, .null, .null, .null, .null]) r_135 (4 : Int32) T170.heap n0 (by omega) f171 f172 f176 f177 ⟨by decide, by decide⟩ rfl (by decide)) hZ (hw _ (List.mem_of_getElem? (i := 118) rfl)) (hw _ (List.mem_of_getElem? (i := 6) rfl)) (by decide) (by decide)) qn178a qn178b qn178c (g := mkF m 135 Ls [(.int (0 : Int32)), (.ref b131)]) rfl hLs (Steps.refl _) (argsL := [(.int (0 : Int32))]) (rest := []) (lenOf pd_12 rfl) rfl (by show 2 * 0 + _ ≤ _; exact Nat.le_of_eq rfl) (hb hby at_135) (fun _ _ => ⟨rfl, e174, (by decide : 0 + 0 + 1 + 0 + 1 + 1 + 1 + 0 + 1 + 0 + 1 + 0 + 2 + 0 + 0 + 0 ≤ _), (by decide : 0 + 0 + 3 + 0 + 1 + 10 + 1 + 0 + 1 + 0 + 1 + 0 + 5 + 0 + 0 + 0 ≤ _)⟩)
    refine Wk.back (n := 140) (rc := 0) (rs := 0) (Q := Q_rmGe Z b131 (0 : Int32) t_141 kt_141 ([(.ref r_135), (.ref r_144), (.ref r_153), (.ref r_162), .null, .null, .null, .null, .null, .null]) r_135 (4 : Int32) T170.heap n0) (cl178_ _ (by rw [hml]; rfl)) fun vn178 T178 L178 X178 hQ178 => ?_
    clear cl178_
    obtain ⟨rfl, M178, e178⟩ := hQ178
    have N178 := Fr.app N174 M178
    show Wk p e below s _ _ _ T178 (mkF m 140 _ [(.ref r_135)])
    have f180 := ((((((((p135_0.keep J141).keep J144).keep J150).keep J153).keep J159).keep J162).keep J168).keep J170)
    refine Wk.castY X178 hx hZ hown (hw _ (List.mem_of_getElem? (i := 132) rfl)) e178 (Ins.self f180) (hb hby at_140) (n := 143) rfl fun T179 X179 e179 => ?_
    have f181 := ((((((((p135_1.keep J141 (ninS (nz (by omega)) nin0)).keep J144 nin0).keep J150 (ninS (nz (by omega)) (ninS (nz (by omega)) nin0))).keep J153 nin0).keep J159 (ninS (nz (by omega)) (ninS (nz (by omega)) nin0))).keep J162 nin0).keep J168 (ninS (nz (by omega)) (ninS (nz (by omega)) nin0))).keep J170 nin0)
    obtain ⟨cq182, kq182, qn182a, qn182b, qn182c⟩ := isOf hZ e179 f180
    have cl182_ := fun (Ls : Array Slot) (hLs : Ls.size = c.maxLocals) => X179.virtualBack hx (y := (⟨"java/lang/Integer", "intValue", "()I"⟩ : MethodName)) (z := (⟨"java/lang/Integer", "intValue", "()I"⟩ : MethodName)) hown (mvT hZ (hw _ (List.mem_of_getElem? (i := 134) rfl))) (mvT hZ (hw _ (List.mem_of_getElem? (i := 135) rfl))) (notFace_of_selects (args := #[]) (mvT hZ (hw _ (List.mem_of_getElem? (i := 137) rfl)))) (mvT hZ (hw _ (List.mem_of_getElem? (i := 137) rfl))) (mvT hZ (hw _ (List.mem_of_getElem? (i := 136) rfl))) (by decide) (backOf (W := 0) (rmIV l Z a0 hw [] r_135 p3 T170.heap n0 (by omega) f181) hZ (hw _ (List.mem_of_getElem? (i := 138) rfl)) (hw _ (List.mem_of_getElem? (i := 32) rfl)) (by decide) (by decide)) qn182a qn182c (g := mkF m 143 Ls [(.ref r_135)]) rfl hLs (Steps.refl _) (argsL := []) (rest := []) (lenOf pd_10 rfl) rfl (by show 2 * 0 + _ ≤ _; exact Nat.le_of_eq rfl) (hb hby at_143) (fun _ _ => ⟨rfl, e179, (by decide : 0 + 0 + 1 + 0 + 1 + 1 + 1 + 0 + 1 + 0 + 1 + 0 + 2 + 0 + 0 + 0 + 0 ≤ _), (by decide : 0 + 0 + 3 + 0 + 1 + 10 + 1 + 0 + 1 + 0 + 1 + 0 + 5 + 0 + 0 + 0 + 0 ≤ _)⟩)
    refine Wk.back (n := 146) (rc := 0) (rs := 0) (Q := Q_rmIV Z r_135 p3 T170.heap n0) (cl182_ _ (by rw [hml]; rfl)) fun vn182 T182 L182 X182 hQ182 => ?_
    clear cl182_
    obtain ⟨rfl, M182, e182⟩ := hQ182
    have N182 := Fr.app N178 M182
    show Wk p e below s _ _ _ T182 (mkF m 146 _ [(.int p3)])
    refine Wk.iloadN X182 hx (hb hby at_146) (n := 147) rfl rfl ?_
    have hc147_183 : p3 = p3 := rfl
    refine Wk.icmpYes X182 hx (hb hby at_147) (teq hc147_183).1 (by decide) (n := 152) (by decide) ?_
    refine Wk.iload X182 hx (hb hby at_152) (n := 154) rfl rfl ?_
    refine Wk.iconst X182 hx (hb hby at_154) (n := 155) rfl (z := (2 : Int32)) rfl ?_
    have hc155_184 : ¬ ((4 : Int32) < (2 : Int32)) := by decide
    refine Wk.icmpNo X182 hx (hb hby at_155) (n := 158) rfl (flt hc155_184).1 ?_
    refine Wk.aload X182 hx (hb hby at_158) (n := 160) rfl rfl rfl ?_
    refine Wk.iconst X182 hx (hb hby at_160) (n := 161) rfl (z := (1 : Int32)) rfl ?_
    obtain ⟨cq185, kq185, qn185a, qn185b, qn185c⟩ := isOf hZ e182 f171
    have cl185_ := fun (Ls : Array Slot) (hLs : Ls.size = c.maxLocals) => X182.interfaceBack hx (xi := (⟨"java/util/List", "get", "(I)Ljava/lang/Object;"⟩ : MethodName)) (y := (⟨"java/util/ArrayList", "get", "(I)Ljava/lang/Object;"⟩ : MethodName)) hown (mvT hZ (hw _ (List.mem_of_getElem? (i := 111) rfl))) (mvT hZ (hw _ (List.mem_of_getElem? (i := 112) rfl))) (mvT hZ (hw _ (List.mem_of_getElem? (i := 113) rfl))) (mvT hZ (hw _ (List.mem_of_getElem? (i := 114) rfl))) (mvT hZ (hw _ (List.mem_of_getElem? (i := 115) rfl))) (mvT hZ (hw _ (List.mem_of_getElem? (i := 116) rfl))) (mvT hZ (hw _ (List.mem_of_getElem? (i := 117) rfl))) (mvT hZ (hw _ (List.mem_of_getElem? (i := 100) rfl))) (by decide) (backOf (W := 0) (rmGe l Z a0 hw [] b131 (1 : Int32) t_141 kt_141 ([(.ref r_135), (.ref r_144), (.ref r_153), (.ref r_162), .null, .null, .null, .null, .null, .null]) r_144 (4 : Int32) T170.heap n0 (by omega) f171 f172 f176 f177 ⟨by decide, by decide⟩ rfl (by decide)) hZ (hw _ (List.mem_of_getElem? (i := 118) rfl)) (hw _ (List.mem_of_getElem? (i := 6) rfl)) (by decide) (by decide)) qn185a qn185b qn185c (g := mkF m 161 Ls [(.int (1 : Int32)), (.ref b131)]) rfl hLs (Steps.refl _) (argsL := [(.int (1 : Int32))]) (rest := []) (lenOf pd_12 rfl) rfl (by show 2 * 0 + _ ≤ _; exact Nat.le_of_eq rfl) (hb hby at_161) (fun _ _ => ⟨rfl, e182, (by decide : 0 + 0 + 1 + 0 + 1 + 1 + 1 + 0 + 1 + 0 + 1 + 0 + 2 + 0 + 0 + 0 + 0 + 0 ≤ _), (by decide : 0 + 0 + 3 + 0 + 1 + 10 + 1 + 0 + 1 + 0 + 1 + 0 + 5 + 0 + 0 + 0 + 0 + 0 ≤ _)⟩)
    refine Wk.back (n := 166) (rc := 0) (rs := 0) (Q := Q_rmGe Z b131 (1 : Int32) t_141 kt_141 ([(.ref r_135), (.ref r_144), (.ref r_153), (.ref r_162), .null, .null, .null, .null, .null, .null]) r_144 (4 : Int32) T170.heap n0) (cl185_ _ (by rw [hml]; rfl)) fun vn185 T185 L185 X185 hQ185 => ?_
    clear cl185_
    obtain ⟨rfl, M185, e185⟩ := hQ185
    have N185 := Fr.app N182 M185
    show Wk p e below s _ _ _ T185 (mkF m 166 _ [(.ref r_144)])
    have f187 := ((((((p144_0.keep J150).keep J153).keep J159).keep J162).keep J168).keep J170)
    refine Wk.castY X185 hx hZ hown (hw _ (List.mem_of_getElem? (i := 132) rfl)) e185 (Ins.self f187) (hb hby at_166) (n := 169) rfl fun T186 X186 e186 => ?_
    have f188 := ((((((p144_1.keep J150 (ninS (nz (by omega)) (ninS (nz (by omega)) nin0))).keep J153 nin0).keep J159 (ninS (nz (by omega)) (ninS (nz (by omega)) nin0))).keep J162 nin0).keep J168 (ninS (nz (by omega)) (ninS (nz (by omega)) nin0))).keep J170 nin0)
    obtain ⟨cq189, kq189, qn189a, qn189b, qn189c⟩ := isOf hZ e186 f187
    have cl189_ := fun (Ls : Array Slot) (hLs : Ls.size = c.maxLocals) => X186.virtualBack hx (y := (⟨"java/lang/Integer", "intValue", "()I"⟩ : MethodName)) (z := (⟨"java/lang/Integer", "intValue", "()I"⟩ : MethodName)) hown (mvT hZ (hw _ (List.mem_of_getElem? (i := 134) rfl))) (mvT hZ (hw _ (List.mem_of_getElem? (i := 135) rfl))) (notFace_of_selects (args := #[]) (mvT hZ (hw _ (List.mem_of_getElem? (i := 137) rfl)))) (mvT hZ (hw _ (List.mem_of_getElem? (i := 137) rfl))) (mvT hZ (hw _ (List.mem_of_getElem? (i := 136) rfl))) (by decide) (backOf (W := 0) (rmIV l Z a0 hw [] r_144 p4 T170.heap n0 (by omega) f188) hZ (hw _ (List.mem_of_getElem? (i := 138) rfl)) (hw _ (List.mem_of_getElem? (i := 32) rfl)) (by decide) (by decide)) qn189a qn189c (g := mkF m 169 Ls [(.ref r_144)]) rfl hLs (Steps.refl _) (argsL := []) (rest := []) (lenOf pd_10 rfl) rfl (by show 2 * 0 + _ ≤ _; exact Nat.le_of_eq rfl) (hb hby at_169) (fun _ _ => ⟨rfl, e186, (by decide : 0 + 0 + 1 + 0 + 1 + 1 + 1 + 0 + 1 + 0 + 1 + 0 + 2 + 0 + 0 + 0 + 0 + 0 + 0 ≤ _), (by decide : 0 + 0 + 3 + 0 + 1 + 10 + 1 + 0 + 1 + 0 + 1 + 0 + 5 + 0 + 0 + 0 + 0 + 0 + 0 ≤ _)⟩)
    refine Wk.back (n := 172) (rc := 0) (rs := 0) (Q := Q_rmIV Z r_144 p4 T170.heap n0) (cl189_ _ (by rw [hml]; rfl)) fun vn189 T189 L189 X189 hQ189 => ?_
    clear cl189_
    obtain ⟨rfl, M189, e189⟩ := hQ189
    have N189 := Fr.app N185 M189
    show Wk p e below s _ _ _ T189 (mkF m 172 _ [(.int p4)])
    refine Wk.iloadN X189 hx (hb hby at_172) (n := 173) rfl rfl ?_
    have hc173_190 : p4 = p4 := rfl
    refine Wk.icmpYes X189 hx (hb hby at_173) (teq hc173_190).1 (by decide) (n := 178) (by decide) ?_
    refine Wk.iconst X189 hx (hb hby at_178) (n := 179) rfl (z := (1 : Int32)) rfl ?_
    exact Wk.leave X189 (v := some (.int (1 : Int32))) (fun h => by rw [Bd.returns] at h; cases h) hlk e189 ⟨rfl, N189, K170⟩ (by decide) (by decide) (fun fs hr => retNz X189 hx (t := .boolean) rfl Bd.returns (by simp) (hb hby at_179) hr)
set_option maxRecDepth 65536 in
set_option maxHeartbeats 40000000 in
theorem comes_1 {Post : Tables → Env → Array Value → State → Outcome → State → Prop} (hpost : ∀ tb e args s v u, (limb_1_1.after args s (.returned v) u = true ∧ limb_1_2.after args s (.returned v) u = true ∧ True) → FrameEnd s (.returned v) u (Jvm.fieldLocs frame_1_writes args s ++ Jvm.arrayLocs frame_1_arrays args s ++ Jvm.staticLocs frame_1_statics s) 24 128 → Post tb e args s (.returned v) u) :
    ArmFor flags0 classFile x code maxLocals ret World_1 tables_1 room_1 Calls_1 rest_1 Pre_1 Post := by
  intro l hfl _ _ p e ha hc hk s m args below hf hA hF happ hP
  obtain ⟨hcalls, hrest, hpre⟩ := hP
  obtain ⟨-, -, -, hnamed, -, -, -, hat⟩ := (Spec.applies_iff hf).mp happ
  obtain ⟨hg, hn⟩ := and_e (Cond.before_iff.mp (show (Jvm.Cond.and given_1 narrow_1).before args s = true from hpre))
  obtain ⟨gc, gr⟩ := and_e hg
  obtain ⟨w0, w1, w2, w3, w4, rfl⟩ : ∃ w0 w1 w2 w3 w4 : Value, args = #[w0, w1, w2, w3, w4] := by
    have hs : args.size = 5 := by simpa [Cond.value, given_1] using gc
    obtain ⟨L⟩ := args
    match L, hs with
    | [w0, w1, w2, w3, w4], _ => exact ⟨w0, w1, w2, w3, w4, rfl⟩
  have hw := fun d (hd : d ∈ tables_1) => atoms_spec (ws := Jvm.Cond.code x code maxLocals ret :: tables_1) hat d (List.mem_cons_of_mem _ hd)
  have hfit : Fit s := fun {y c} hc i hi => by
    obtain ⟨ha, rfl⟩ := Array.getElem?_eq_some_iff.mp hc
    have q := List.all_eq_true.mp ((Array.all_eq_true_iff_forall_mem.mp hF) _ (Array.getElem_mem ha)) i (List.mem_range.mpr hi)
    simpa [Array.getElem?_eq_getElem hi] using q
  obtain ⟨hsets, hown0⟩ := atoms_of _ (rest_1_c_eq ▸ (show rest_1_c.before _ s = true from hrest))
  have hr0 := Cond.before_iff.mp hown0
  obtain ⟨g0, gr⟩ := and_e gr
  obtain ⟨i0, ei0⟩ := is_v g0
  obtain rfl : w0 = (.int i0) := Option.some.inj ei0
  obtain ⟨g1, gr⟩ := and_e gr
  obtain ⟨i1, ei1⟩ := is_v g1
  obtain rfl : w1 = (.int i1) := Option.some.inj ei1
  obtain ⟨g2, gr⟩ := and_e gr
  obtain ⟨i2, ei2⟩ := is_v g2
  obtain rfl : w2 = (.int i2) := Option.some.inj ei2
  obtain ⟨g3, gr⟩ := and_e gr
  obtain ⟨i3, ei3⟩ := is_v g3
  obtain rfl : w3 = (.int i3) := Option.some.inj ei3
  obtain ⟨i4, ei4⟩ := is_v gr
  obtain rfl : w4 = (.int i4) := Option.some.inj ei4
  obtain ⟨wE, eE⟩ := arr_v (Cond.before_iff.mp (hsets _ (List.mem_of_getElem? (i := 6) rfl)))
  have S1 := Sta.start eE (Or.inr ⟨hw _ (List.mem_of_getElem? (i := 6) rfl), hsets _ (List.mem_of_getElem? (i := 2) rfl)⟩)
  obtain ⟨cE, ArE⟩ := Arr.start eE (Cond.before_iff.mp (hsets _ (List.mem_of_getElem? (i := 6) rfl)))
  have A0 := own_arv0 hfit ArE eE (Cond.before_iff.mp (hsets _ (List.mem_of_getElem? (i := 8) rfl)))
  have S2 : Sta s s.heap "java/lang/Integer$IntegerCache" "high" "I" (.int (127 : Int32)) := Sta.start (eqv_i (Term.int_eval (127)) (Cond.before_iff.mp (hsets _ (List.mem_of_getElem? (i := 12) rfl)))) (Or.inl (hsets _ (List.mem_of_getElem? (i := 10) rfl)))
  obtain ⟨wC, eC⟩ := arr_v (Cond.before_iff.mp (hsets _ (List.mem_of_getElem? (i := 13) rfl)))
  have S3 := Sta.start eC (Or.inr ⟨hw _ (List.mem_of_getElem? (i := 35) rfl), hsets _ (List.mem_of_getElem? (i := 11) rfl)⟩)
  obtain ⟨cC, ArC⟩ := Arr.start eC (Cond.before_iff.mp (hsets _ (List.mem_of_getElem? (i := 13) rfl)))
  obtain ⟨qC, lC⟩ := own_len eC ArC (Cond.before_iff.mp (hsets _ (List.mem_of_getElem? (i := 15) rfl)))
  have hC := own_cache (Bxs.start (val := fun j => .int (j - (128 : Int32))) (fun _ => eC) ArC qC lC (by decide) (Cond.before_iff.mp (hsets _ (List.mem_of_getElem? (i := 16) rfl))) (fun X j nn hv => eqv_i (own_sub (idx_at nn) (Term.int_eval (128))) hv))
  obtain ⟨zc, ez⟩ := is_v (Cond.before_iff.mp (hsets _ (List.mem_of_getElem? (i := 18) rfl)))
  have S4 := Sta.start ez (Or.inl (hsets _ (List.mem_of_getElem? (i := 17) rfl)))
  have hCS : ¬ zc = 0 := own_ne0 ez (Cond.before_iff.mp (hsets _ (List.mem_of_getElem? (i := 19) rfl)))
  obtain ⟨n, o, h1, h2, h3, _, L, rfl, ⟨rfl, N, -⟩, hq⟩ := rm0 l s _ hw tables_1 i0 i1 i2 i3 i4 wE cE.cls wC cC zc s.heap s.heap.size (Nat.le_refl _) S1 (Old.start s) A0 S2 S3 S4 ArC hC hCS p e ha hc hk s m _ below hf ((Spec.applies_iff_loose hf).mp happ).1 ⟨rfl, State.Warmed39.refl s, rfl⟩ trivial
  refine ⟨n, _, h1, h2, h3, hpost _ _ _ _ _ _ ⟨Cond.after_iff.mpr rfl, Cond.after_iff.mpr (eq_i res_at (Term.int_eval (1)) rfl), trivial⟩ ⟨hq.1, hq.2.1, (hq.2.2.sift fun y hy => Or.inr (N y hy)).mono (by decide) (by decide)⟩⟩
theorem main_1_1 : Claimed_1_1 := comes_1 fun _ _ _ _ _ _ h hF => ⟨h.1, hF⟩
theorem main_1_2 : Claimed_1_2 := comes_1 fun _ _ _ _ _ _ h hF => ⟨h.2.1, hF⟩
end Jvm.Pilot.@@N@@
namespace Jvm.Pilot.@@N@@
open Jvm Jvm.ClassFile Sem Op Lib Jvm.Free Jvm.Stand Jvm.Pilot.@@N@@.Jvm.D
/-! MADE BY PROGRAM (witnessworld.py) out of the Statement's table words and the real class files: 32 classes; the members and pool entries that the words name. The judged class is class 1, her method 1. -/
namespace start1
open Jvm.ClassFile
def u (s : String) : CpInfo := .utf8 (stringToUtf16 s)
/-- a pool by its gaps: so many unusable entries, then the entry; so many at the end -/
def gap : Nat → List CpInfo → List CpInfo
  | 0, r => r
  | n + 1, r => .unusable :: gap n r
def poolList (es : List (Nat × CpInfo)) (last : Nat) : List CpInfo := es.foldr (fun e r => gap e.1 (e.2 :: r)) (gap last [])
def pool (es : List (Nat × CpInfo)) (last : Nat) : Array CpInfo := ⟨poolList es last⟩
def fileOf (pool : Array CpInfo) (this : Nat) (attrs : Array Attribute := #[]) (ms : Array MethodInfo := #[]) (fl : Nat := 33) (sup : Nat := 0) (ifs : Array Nat := #[]) (fds : Array FieldInfo := #[]) : ClassFile where
  minorVersion := 0
  majorVersion := 65
  constantPool := pool
  accessFlags := fl
  thisClass := this
  superClass := sup
  interfaces := ifs
  fields := fds
  methods := ms
  attributes := attrs
def plain (name : String) (sup : Option ClassId) : Class where
  name := name
  kind := .ordinary
  loader := none
  accessFlags := 33
  super := sup
  interfaces := #[]
  cf := none
  fields := #[]
  methods := #[]
  instanceTypes := #[]
  staticTypes := #[]
  resolved := #[]
  callSites := []
  init := .initialized
  statics := none
  mirror := none

def pool0 : Array CpInfo := pool [(5, u "<init>"), (0, u "()V"), (1, .class_ 10), (1, u "java/lang/Object")] 113

def k0c0 : Code := { maxStack := 0, maxLocals := 1, code := object_method_1_code, exceptionTable := #[], attributes := #[] }
def k0m0 : Method := { name := "<init>", desc := "()V", sig := { parameters := [], returnType := none }, accessFlags := 1, code := some k0c0 }
/-- java/lang/Object -/
def k0 : Class := { plain "java/lang/Object" none with
  accessFlags := 33
  interfaces := #[]
  cf := some (fileOf pool0 8 #[] #[{ accessFlags := 1, nameIndex := 5, descriptorIndex := 6, attributes := #[] }] 33 0 #[] #[])
  fields := #[]
  methods := #[k0m0]
  instanceTypes := #[]
  staticTypes := #[]
  resolved := Array.replicate 124 none
  statics := none }

def pool1 : Array CpInfo := pool [(2, .class_ 4), (0, .nameAndType 5 6), (0, u "java/lang/Object"), (0, u "<init>"), (0, u "()V"), (0, .methodref 8 9), (0, .class_ 10), (0, .nameAndType 11 12), (0, u "java/lang/Math"), (0, u "max"), (0, u "(II)I"), (0, .class_ 14), (0, u "java/util/ArrayList"), (0, .methodref 13 3), (0, .methodref 17 18), (0, .class_ 19), (0, .nameAndType 20 21), (0, u "java/lang/Integer"), (0, u "valueOf"), (0, u "(I)Ljava/lang/Integer;"), (0, .methodref 13 23), (0, .nameAndType 24 25), (0, u "add"), (0, u "(Ljava/lang/Object;)Z"), (0, .methodref 27 28), (0, .class_ 29), (0, .nameAndType 20 30), (0, u "java/lang/String"), (0, u "(C)Ljava/lang/String;"), (0, .methodref 32 33), (0, .class_ 34), (0, .nameAndType 35 36), (0, u "com/example/strict_stock/strictstock/Names"), (0, u "list"), (0, u "(Ljava/lang/String;Ljava/util/List;I)Ljava/util/List;"), (0, .interfaceMethodref 38 39), (0, .class_ 40), (0, .nameAndType 41 42), (0, u "java/util/List"), (0, u "size"), (0, u "()I"), (0, .interfaceMethodref 38 44), (0, .nameAndType 45 46), (0, u "get"), (0, u "(I)Ljava/lang/Object;"), (0, .methodref 17 48), (0, .nameAndType 49 42), (0, u "intValue"), (0, .class_ 51), (0, u "com/example/strict_stock/strictstock/NamesListPinLaw"), (2, u "law"), (0, u "(IIIII)Z")] 3

def k1m0 : Method := { name := "<init>", desc := "()V", sig := { parameters := [], returnType := none }, accessFlags := 1, code := none }
def k1c1 : Code := { maxStack := 3, maxLocals := 10, code := code, exceptionTable := #[], attributes := #[] }
def k1m1 : Method := { name := "law", desc := "(IIIII)Z", sig := { parameters := [.int, .int, .int, .int, .int], returnType := some .boolean }, accessFlags := 9, code := some k1c1 }
/-- com/example/strict_stock/strictstock/NamesListPinLaw -/
def k1 : Class := { plain "com/example/strict_stock/strictstock/NamesListPinLaw" (some 0) with
  accessFlags := 49
  interfaces := #[]
  cf := some (fileOf pool1 50 #[] #[{ accessFlags := 1, nameIndex := 5, descriptorIndex := 6, attributes := #[] }, { accessFlags := 9, nameIndex := 54, descriptorIndex := 55, attributes := #[] }] 49 2 #[] #[])
  fields := #[]
  methods := #[k1m0, k1m1]
  instanceTypes := #[]
  staticTypes := #[]
  resolved := Array.replicate 59 none
  statics := none }

def pool2 : Array CpInfo := pool [(1, .class_ 2), (0, u "java/lang/Math"), (1, .class_ 6), (1, u "java/lang/Object"), (0, u "<init>"), (0, u "()V"), (89, .class_ 100), (1, u "java/lang/Math$RandomNumberGeneratorHolder"), (71, u "negativeZeroFloatBits"), (0, u "J"), (2, u "negativeZeroDoubleBits"), (21, u "max"), (46, u "$assertionsDisabled"), (0, u "Z"), (88, u "(II)I"), (2, u "twoToTheDoubleScaleDown"), (0, u "D"), (4, u "twoToTheDoubleScaleUp"), (9, u "E"), (3, u "PI"), (2, u "TAU"), (2, u "DEGREES_TO_RADIANS"), (0, u "RADIANS_TO_DEGREES")] 94

def k2m0 : Method := { name := "<init>", desc := "()V", sig := { parameters := [], returnType := none }, accessFlags := 2, code := none }
def k2c1 : Code := { maxStack := 2, maxLocals := 2, code := jdk_29_method_65_code, exceptionTable := #[], attributes := #[] }
def k2m1 : Method := { name := "max", desc := "(II)I", sig := { parameters := [.int, .int], returnType := some .int }, accessFlags := 9, code := some k2c1 }
/-- java/lang/Math -/
def k2 : Class := { plain "java/lang/Math" (some 0) with
  accessFlags := 49
  interfaces := #[]
  cf := some (fileOf pool2 1 #[.nestMembers #[98]] #[{ accessFlags := 2, nameIndex := 7, descriptorIndex := 8, attributes := #[] }, { accessFlags := 9, nameIndex := 198, descriptorIndex := 335, attributes := #[] }] 49 4 #[] #[{ accessFlags := 25, nameIndex := 354, descriptorIndex := 339, attributes := #[] }, { accessFlags := 25, nameIndex := 358, descriptorIndex := 339, attributes := #[] }, { accessFlags := 25, nameIndex := 361, descriptorIndex := 339, attributes := #[] }, { accessFlags := 26, nameIndex := 364, descriptorIndex := 339, attributes := #[] }, { accessFlags := 26, nameIndex := 365, descriptorIndex := 339, attributes := #[] }, { accessFlags := 26, nameIndex := 172, descriptorIndex := 173, attributes := #[] }, { accessFlags := 26, nameIndex := 176, descriptorIndex := 173, attributes := #[] }, { accessFlags := 8, nameIndex := 344, descriptorIndex := 339, attributes := #[] }, { accessFlags := 8, nameIndex := 338, descriptorIndex := 339, attributes := #[] }, { accessFlags := 4120, nameIndex := 245, descriptorIndex := 246, attributes := #[] }])
  fields := #[{ name := "E", type := .double, accessFlags := 25, slot := 0, constantValue := 0 }, { name := "PI", type := .double, accessFlags := 25, slot := 1, constantValue := 0 }, { name := "TAU", type := .double, accessFlags := 25, slot := 2, constantValue := 0 }, { name := "DEGREES_TO_RADIANS", type := .double, accessFlags := 26, slot := 3, constantValue := 0 }, { name := "RADIANS_TO_DEGREES", type := .double, accessFlags := 26, slot := 4, constantValue := 0 }, { name := "negativeZeroFloatBits", type := .long, accessFlags := 26, slot := 5, constantValue := 0 }, { name := "negativeZeroDoubleBits", type := .long, accessFlags := 26, slot := 6, constantValue := 0 }, { name := "twoToTheDoubleScaleUp", type := .double, accessFlags := 8, slot := 7, constantValue := 0 }, { name := "twoToTheDoubleScaleDown", type := .double, accessFlags := 8, slot := 8, constantValue := 0 }, { name := "$assertionsDisabled", type := .boolean, accessFlags := 4120, slot := 9, constantValue := 0 }]
  methods := #[k2m0, k2m1]
  instanceTypes := #[]
  staticTypes := #[.double, .double, .double, .double, .double, .long, .long, .double, .double, .boolean]
  resolved := Array.replicate 460 none
  statics := none }

def pool3 : Array CpInfo := pool [(8, .class_ 10), (1, u "java/lang/Iterable"), (24, .class_ 36), (0, u "java/lang/Object")] 25

/-- java/lang/Iterable -/
def k3 : Class := { plain "java/lang/Iterable" (some 0) with
  accessFlags := 1537
  interfaces := #[]
  cf := some (fileOf pool3 8 #[] #[] 1537 35 #[] #[])
  fields := #[]
  methods := #[]
  instanceTypes := #[]
  staticTypes := #[]
  resolved := Array.replicate 62 none
  statics := none }

def pool4 : Array CpInfo := pool [(10, .class_ 12), (1, u "java/util/Collection"), (47, .class_ 61), (0, u "java/lang/Object"), (0, .class_ 63), (0, u "java/lang/Iterable")] 51

/-- java/util/Collection -/
def k4 : Class := { plain "java/util/Collection" (some 0) with
  accessFlags := 1537
  interfaces := #[3]
  cf := some (fileOf pool4 10 #[] #[] 1537 60 #[62] #[])
  fields := #[]
  methods := #[]
  instanceTypes := #[]
  staticTypes := #[]
  resolved := Array.replicate 115 none
  statics := none }

def pool5 : Array CpInfo := pool [(1, .methodref 2 3), (0, .class_ 4), (0, .nameAndType 5 6), (0, u "java/lang/Object"), (0, u "<init>"), (0, u "()V"), (1, .class_ 10), (1, u "java/util/AbstractCollection"), (66, .class_ 78), (0, u "java/util/Collection")] 81

def k5c0 : Code := { maxStack := 1, maxLocals := 1, code := jdk_22_method_1_code, exceptionTable := #[], attributes := #[] }
def k5m0 : Method := { name := "<init>", desc := "()V", sig := { parameters := [], returnType := none }, accessFlags := 4, code := some k5c0 }
/-- java/util/AbstractCollection -/
def k5 : Class := { plain "java/util/AbstractCollection" (some 0) with
  accessFlags := 1057
  interfaces := #[4]
  cf := some (fileOf pool5 8 #[] #[{ accessFlags := 4, nameIndex := 5, descriptorIndex := 6, attributes := #[] }] 1057 2 #[77] #[])
  fields := #[]
  methods := #[k5m0]
  instanceTypes := #[]
  staticTypes := #[]
  resolved := Array.replicate 160 none
  statics := none }

def pool6 : Array CpInfo := pool [(8, .class_ 10), (1, u "java/util/SequencedCollection"), (15, .class_ 27), (0, u "java/lang/Object"), (0, .class_ 29), (0, u "java/util/Collection")] 27

/-- java/util/SequencedCollection -/
def k6 : Class := { plain "java/util/SequencedCollection" (some 0) with
  accessFlags := 1537
  interfaces := #[4]
  cf := some (fileOf pool6 8 #[] #[] 1537 26 #[28] #[])
  fields := #[]
  methods := #[]
  instanceTypes := #[]
  staticTypes := #[]
  resolved := Array.replicate 57 none
  statics := none }

def pool7 : Array CpInfo := pool [(8, .class_ 10), (1, u "java/util/List"), (7, u "()Z"), (48, u "isEmpty"), (7, u "get"), (0, u "(I)Ljava/lang/Object;"), (2, u "size"), (0, u "()I"), (22, .class_ 104), (0, u "java/lang/Object"), (15, .class_ 121), (0, u "java/util/SequencedCollection")] 129

def k7m0 : Method := { name := "size", desc := "()I", sig := { parameters := [], returnType := some .int }, accessFlags := 1025, code := none }
def k7m1 : Method := { name := "isEmpty", desc := "()Z", sig := { parameters := [], returnType := some .boolean }, accessFlags := 1025, code := none }
def k7m2 : Method := { name := "get", desc := "(I)Ljava/lang/Object;", sig := { parameters := [.int], returnType := some (.object "java/lang/Object") }, accessFlags := 1025, code := none }
/-- java/util/List -/
def k7 : Class := { plain "java/util/List" (some 0) with
  accessFlags := 1537
  interfaces := #[6]
  cf := some (fileOf pool7 8 #[] #[{ accessFlags := 1025, nameIndex := 79, descriptorIndex := 80, attributes := #[] }, { accessFlags := 1025, nameIndex := 67, descriptorIndex := 18, attributes := #[] }, { accessFlags := 1025, nameIndex := 75, descriptorIndex := 76, attributes := #[] }] 1537 103 #[120] #[])
  fields := #[]
  methods := #[k7m0, k7m1, k7m2]
  instanceTypes := #[]
  staticTypes := #[]
  resolved := Array.replicate 251 none
  statics := none }

def pool8 : Array CpInfo := pool [(1, .methodref 2 3), (0, .class_ 4), (0, .nameAndType 5 6), (0, u "java/util/AbstractCollection"), (0, u "<init>"), (0, u "()V"), (0, .fieldref 8 9), (0, .class_ 10), (0, .nameAndType 11 12), (0, u "java/util/AbstractList"), (0, u "modCount"), (0, u "I"), (64, .class_ 78), (0, u "java/util/AbstractList$Itr"), (3, .class_ 83), (0, u "java/util/AbstractList$ListItr"), (9, .class_ 94), (0, u "java/util/AbstractList$RandomAccessSubList"), (3, .class_ 99), (0, u "java/util/AbstractList$SubList"), (33, .class_ 134), (0, u "java/util/List"), (73, .class_ 209), (0, u "java/util/AbstractList$SubList$1"), (0, .class_ 211), (0, u "java/util/AbstractList$RandomAccessSpliterator")] 6

def k8c0 : Code := { maxStack := 2, maxLocals := 1, code := jdk_39_method_1_code, exceptionTable := #[], attributes := #[] }
def k8m0 : Method := { name := "<init>", desc := "()V", sig := { parameters := [], returnType := none }, accessFlags := 4, code := some k8c0 }
/-- java/util/AbstractList -/
def k8 : Class := { plain "java/util/AbstractList" (some 5) with
  accessFlags := 1057
  interfaces := #[7]
  cf := some (fileOf pool8 8 #[.nestMembers #[93, 98, 208, 210, 82, 77]] #[{ accessFlags := 4, nameIndex := 5, descriptorIndex := 6, attributes := #[] }] 1057 2 #[133] #[{ accessFlags := 132, nameIndex := 11, descriptorIndex := 12, attributes := #[] }])
  fields := #[{ name := "modCount", type := .int, accessFlags := 132, slot := 0, constantValue := 0 }]
  methods := #[k8m0]
  instanceTypes := #[.int]
  staticTypes := #[]
  resolved := Array.replicate 218 none
  statics := none }

def pool9 : Array CpInfo := pool [(1, .class_ 2), (0, u "java/util/RandomAccess"), (0, .class_ 4), (0, u "java/lang/Object")] 2

/-- java/util/RandomAccess -/
def k9 : Class := { plain "java/util/RandomAccess" (some 0) with
  accessFlags := 1537
  interfaces := #[]
  cf := some (fileOf pool9 1 #[] #[] 1537 3 #[] #[])
  fields := #[]
  methods := #[]
  instanceTypes := #[]
  staticTypes := #[]
  resolved := Array.replicate 7 none
  statics := none }

def pool10 : Array CpInfo := pool [(1, .class_ 2), (0, u "java/lang/Cloneable"), (0, .class_ 4), (0, u "java/lang/Object")] 2

/-- java/lang/Cloneable -/
def k10 : Class := { plain "java/lang/Cloneable" (some 0) with
  accessFlags := 1537
  interfaces := #[]
  cf := some (fileOf pool10 1 #[] #[] 1537 3 #[] #[])
  fields := #[]
  methods := #[]
  instanceTypes := #[]
  staticTypes := #[]
  resolved := Array.replicate 7 none
  statics := none }

def pool11 : Array CpInfo := pool [(1, .class_ 2), (0, u "java/io/Serializable"), (0, .class_ 4), (0, u "java/lang/Object")] 2

/-- java/io/Serializable -/
def k11 : Class := { plain "java/io/Serializable" (some 0) with
  accessFlags := 1537
  interfaces := #[]
  cf := some (fileOf pool11 1 #[] #[] 1537 3 #[] #[])
  fields := #[]
  methods := #[]
  instanceTypes := #[]
  staticTypes := #[]
  resolved := Array.replicate 7 none
  statics := none }

def pool12 : Array CpInfo := pool [(1, .methodref 2 3), (0, .class_ 4), (0, .nameAndType 5 6), (0, u "java/util/AbstractList"), (0, u "<init>"), (0, u "()V"), (0, .class_ 8), (0, u "java/lang/Object"), (0, .fieldref 10 11), (0, .class_ 12), (0, .nameAndType 13 14), (0, u "java/util/ArrayList"), (0, u "elementData"), (0, u "[Ljava/lang/Object;"), (2, u "EMPTY_ELEMENTDATA"), (21, .fieldref 10 40), (0, .nameAndType 41 14), (0, u "DEFAULTCAPACITY_EMPTY_ELEMENTDATA"), (5, u "()[Ljava/lang/Object;"), (0, .fieldref 10 49), (0, .nameAndType 50 51), (0, u "size"), (0, u "I"), (11, .fieldref 10 64), (0, .nameAndType 65 51), (0, u "modCount"), (3, .methodref 10 70), (0, .nameAndType 71 72), (0, u "grow"), (0, u "(I)[Ljava/lang/Object;"), (6, .methodref 80 81), (0, .class_ 82), (0, .nameAndType 83 84), (0, u "java/lang/Math"), (0, u "max"), (0, u "(II)I"), (11, u "(Ljava/lang/Object;)Z"), (21, .methodref 119 120), (0, .class_ 121), (0, .nameAndType 122 84), (0, u "java/util/Objects"), (0, u "checkIndex"), (0, .methodref 10 124), (0, .nameAndType 13 125), (0, u "(I)Ljava/lang/Object;"), (3, .methodref 10 130), (0, .nameAndType 71 47), (0, .methodref 10 132), (0, .nameAndType 133 134), (0, u "add"), (0, u "(Ljava/lang/Object;[Ljava/lang/Object;I)V"), (13, .class_ 149), (0, u "java/util/List"), (23, u "()Z"), (12, u "()I"), (75, .class_ 263), (0, u "java/util/ArrayList$ListItr"), (3, .class_ 268), (0, u "java/util/ArrayList$Itr"), (7, .class_ 277), (0, u "java/util/ArrayList$SubList"), (12, .class_ 291), (0, u "java/util/ArrayList$ArrayListSpliterator"), (37, .class_ 330), (0, u "java/util/RandomAccess"), (0, .class_ 332), (0, u "java/lang/Cloneable"), (0, .class_ 334), (0, u "java/io/Serializable"), (0, u "serialVersionUID"), (0, u "J"), (3, u "DEFAULT_CAPACITY"), (22, u "isEmpty"), (17, u "get"), (118, .class_ 501), (0, u "java/util/ArrayList$SubList$2"), (0, .class_ 503), (0, u "java/util/ArrayList$SubList$1")] 5

def k12c0 : Code := { maxStack := 2, maxLocals := 1, code := jdk_38_method_2_code, exceptionTable := #[], attributes := #[] }
def k12m0 : Method := { name := "<init>", desc := "()V", sig := { parameters := [], returnType := none }, accessFlags := 1, code := some k12c0 }
def k12c1 : Code := { maxStack := 4, maxLocals := 4, code := jdk_38_method_6_code, exceptionTable := #[], attributes := #[] }
def k12m1 : Method := { name := "grow", desc := "(I)[Ljava/lang/Object;", sig := { parameters := [.int], returnType := some (.array (.object "java/lang/Object")) }, accessFlags := 2, code := some k12c1 }
def k12c2 : Code := { maxStack := 3, maxLocals := 1, code := jdk_38_method_7_code, exceptionTable := #[], attributes := #[] }
def k12m2 : Method := { name := "grow", desc := "()[Ljava/lang/Object;", sig := { parameters := [], returnType := some (.array (.object "java/lang/Object")) }, accessFlags := 2, code := some k12c2 }
def k12c3 : Code := { maxStack := 1, maxLocals := 1, code := jdk_38_method_8_code, exceptionTable := #[], attributes := #[] }
def k12m3 : Method := { name := "size", desc := "()I", sig := { parameters := [], returnType := some .int }, accessFlags := 1, code := some k12c3 }
def k12c4 : Code := { maxStack := 1, maxLocals := 1, code := jdk_38_method_9_code, exceptionTable := #[], attributes := #[] }
def k12m4 : Method := { name := "isEmpty", desc := "()Z", sig := { parameters := [], returnType := some .boolean }, accessFlags := 1, code := some k12c4 }
def k12c5 : Code := { maxStack := 2, maxLocals := 2, code := jdk_38_method_18_code, exceptionTable := #[], attributes := #[] }
def k12m5 : Method := { name := "elementData", desc := "(I)Ljava/lang/Object;", sig := { parameters := [.int], returnType := some (.object "java/lang/Object") }, accessFlags := 0, code := some k12c5 }
def k12c6 : Code := { maxStack := 2, maxLocals := 2, code := jdk_38_method_20_code, exceptionTable := #[], attributes := #[] }
def k12m6 : Method := { name := "get", desc := "(I)Ljava/lang/Object;", sig := { parameters := [.int], returnType := some (.object "java/lang/Object") }, accessFlags := 1, code := some k12c6 }
def k12c7 : Code := { maxStack := 3, maxLocals := 4, code := jdk_38_method_24_code, exceptionTable := #[], attributes := #[] }
def k12m7 : Method := { name := "add", desc := "(Ljava/lang/Object;[Ljava/lang/Object;I)V", sig := { parameters := [(.object "java/lang/Object"), (.array (.object "java/lang/Object")), .int], returnType := none }, accessFlags := 2, code := some k12c7 }
def k12c8 : Code := { maxStack := 4, maxLocals := 2, code := jdk_38_method_25_code, exceptionTable := #[], attributes := #[] }
def k12m8 : Method := { name := "add", desc := "(Ljava/lang/Object;)Z", sig := { parameters := [(.object "java/lang/Object")], returnType := some .boolean }, accessFlags := 1, code := some k12c8 }
/-- java/util/ArrayList -/
def k12 : Class := { plain "java/util/ArrayList" (some 8) with
  accessFlags := 33
  interfaces := #[7, 9, 10, 11]
  cf := some (fileOf pool12 10 #[.nestMembers #[290, 276, 500, 502, 262, 267]] #[{ accessFlags := 1, nameIndex := 5, descriptorIndex := 6, attributes := #[] }, { accessFlags := 2, nameIndex := 71, descriptorIndex := 72, attributes := #[] }, { accessFlags := 2, nameIndex := 71, descriptorIndex := 47, attributes := #[] }, { accessFlags := 1, nameIndex := 50, descriptorIndex := 186, attributes := #[] }, { accessFlags := 1, nameIndex := 363, descriptorIndex := 173, attributes := #[] }, { accessFlags := 0, nameIndex := 13, descriptorIndex := 125, attributes := #[] }, { accessFlags := 1, nameIndex := 381, descriptorIndex := 125, attributes := #[] }, { accessFlags := 2, nameIndex := 133, descriptorIndex := 134, attributes := #[] }, { accessFlags := 1, nameIndex := 133, descriptorIndex := 96, attributes := #[] }] 33 2 #[148, 329, 331, 333] #[{ accessFlags := 26, nameIndex := 335, descriptorIndex := 336, attributes := #[] }, { accessFlags := 26, nameIndex := 340, descriptorIndex := 51, attributes := #[] }, { accessFlags := 26, nameIndex := 17, descriptorIndex := 14, attributes := #[] }, { accessFlags := 26, nameIndex := 41, descriptorIndex := 14, attributes := #[] }, { accessFlags := 128, nameIndex := 13, descriptorIndex := 14, attributes := #[] }, { accessFlags := 2, nameIndex := 50, descriptorIndex := 51, attributes := #[] }])
  fields := #[{ name := "serialVersionUID", type := .long, accessFlags := 26, slot := 0, constantValue := 0 }, { name := "DEFAULT_CAPACITY", type := .int, accessFlags := 26, slot := 1, constantValue := 0 }, { name := "EMPTY_ELEMENTDATA", type := (.array (.object "java/lang/Object")), accessFlags := 26, slot := 2, constantValue := 0 }, { name := "DEFAULTCAPACITY_EMPTY_ELEMENTDATA", type := (.array (.object "java/lang/Object")), accessFlags := 26, slot := 3, constantValue := 0 }, { name := "elementData", type := (.array (.object "java/lang/Object")), accessFlags := 128, slot := 1, constantValue := 0 }, { name := "size", type := .int, accessFlags := 2, slot := 2, constantValue := 0 }]
  methods := #[k12m0, k12m1, k12m2, k12m3, k12m4, k12m5, k12m6, k12m7, k12m8]
  instanceTypes := #[.int, (.array (.object "java/lang/Object")), .int]
  staticTypes := #[.long, .int, (.array (.object "java/lang/Object")), (.array (.object "java/lang/Object"))]
  resolved := Array.replicate 509 none
  statics := some 0 }

def pool13 : Array CpInfo := pool [(1, .methodref 2 3), (0, .class_ 4), (0, .nameAndType 5 6), (0, u "java/lang/Object"), (0, u "<init>"), (0, u "()V"), (1, .class_ 10), (1, u "java/lang/Number"), (2, .class_ 14), (0, u "java/io/Serializable"), (0, u "serialVersionUID"), (0, u "J")] 20

def k13c0 : Code := { maxStack := 1, maxLocals := 1, code := jdk_18_method_1_code, exceptionTable := #[], attributes := #[] }
def k13m0 : Method := { name := "<init>", desc := "()V", sig := { parameters := [], returnType := none }, accessFlags := 1, code := some k13c0 }
/-- java/lang/Number -/
def k13 : Class := { plain "java/lang/Number" (some 0) with
  accessFlags := 1057
  interfaces := #[11]
  cf := some (fileOf pool13 8 #[] #[{ accessFlags := 1, nameIndex := 5, descriptorIndex := 6, attributes := #[] }] 1057 2 #[13] #[{ accessFlags := 26, nameIndex := 15, descriptorIndex := 16, attributes := #[] }])
  fields := #[{ name := "serialVersionUID", type := .long, accessFlags := 26, slot := 0, constantValue := 0 }]
  methods := #[k13m0]
  instanceTypes := #[]
  staticTypes := #[.long]
  resolved := Array.replicate 37 none
  statics := none }

def pool14 : Array CpInfo := pool [(1, .class_ 2), (0, u "java/lang/Comparable"), (0, .class_ 4), (0, u "java/lang/Object")] 7

/-- java/lang/Comparable -/
def k14 : Class := { plain "java/lang/Comparable" (some 0) with
  accessFlags := 1537
  interfaces := #[]
  cf := some (fileOf pool14 1 #[] #[] 1537 3 #[] #[])
  fields := #[]
  methods := #[]
  instanceTypes := #[]
  staticTypes := #[]
  resolved := Array.replicate 12 none
  statics := none }

def pool15 : Array CpInfo := pool [(1, .class_ 2), (0, u "java/lang/constant/Constable"), (0, .class_ 4), (0, u "java/lang/Object")] 6

/-- java/lang/constant/Constable -/
def k15 : Class := { plain "java/lang/constant/Constable" (some 0) with
  accessFlags := 1537
  interfaces := #[]
  cf := some (fileOf pool15 1 #[] #[] 1537 3 #[] #[])
  fields := #[]
  methods := #[]
  instanceTypes := #[]
  staticTypes := #[]
  resolved := Array.replicate 11 none
  statics := none }

def pool16 : Array CpInfo := pool [(1, .class_ 2), (0, u "java/lang/constant/ConstantDesc"), (0, .class_ 4), (0, u "java/lang/Object")] 32

/-- java/lang/constant/ConstantDesc -/
def k16 : Class := { plain "java/lang/constant/ConstantDesc" (some 0) with
  accessFlags := 1537
  interfaces := #[]
  cf := some (fileOf pool16 1 #[] #[] 1537 3 #[] #[])
  fields := #[]
  methods := #[]
  instanceTypes := #[]
  staticTypes := #[]
  resolved := Array.replicate 37 none
  statics := none }

def pool17 : Array CpInfo := pool [(1, .class_ 2), (0, u "java/lang/Integer"), (16, u "digits"), (0, u "[C"), (46, u "<init>"), (17, u "DigitOnes"), (0, u "[B"), (2, u "DigitTens"), (10, .nameAndType 67 101), (0, u "()V"), (19, u "()I"), (65, u "valueOf"), (0, u "(I)Ljava/lang/Integer;"), (0, .class_ 190), (0, u "java/lang/Integer$IntegerCache"), (0, .fieldref 189 192), (0, .nameAndType 193 194), (0, u "high"), (0, u "I"), (0, .fieldref 189 196), (0, .nameAndType 197 198), (0, u "cache"), (0, u "[Ljava/lang/Integer;"), (0, .methodref 1 200), (0, .nameAndType 67 201), (0, u "(I)V"), (0, .methodref 203 100), (0, .class_ 204), (0, u "java/lang/Number"), (0, .fieldref 1 206), (0, .nameAndType 207 194), (0, u "value"), (5, u "intValue"), (88, u "TYPE"), (0, u "Ljava/lang/Class;"), (0, .class_ 305), (0, u "java/lang/Comparable"), (0, .class_ 307), (0, u "java/lang/constant/Constable"), (0, .class_ 309), (0, u "java/lang/constant/ConstantDesc"), (0, u "MIN_VALUE"), (1, u "MAX_VALUE"), (3, u "SIZE"), (1, u "BYTES"), (1, u "serialVersionUID"), (0, u "J")] 131

def k17c0 : Code := { maxStack := 3, maxLocals := 1, code := jdk_33_method_22_code, exceptionTable := #[], attributes := #[] }
def k17m0 : Method := { name := "valueOf", desc := "(I)Ljava/lang/Integer;", sig := { parameters := [.int], returnType := some (.object "java/lang/Integer") }, accessFlags := 9, code := some k17c0 }
def k17c1 : Code := { maxStack := 2, maxLocals := 2, code := jdk_33_method_23_code, exceptionTable := #[], attributes := #[] }
def k17m1 : Method := { name := "<init>", desc := "(I)V", sig := { parameters := [.int], returnType := none }, accessFlags := 1, code := some k17c1 }
def k17c2 : Code := { maxStack := 1, maxLocals := 1, code := jdk_33_method_27_code, exceptionTable := #[], attributes := #[] }
def k17m2 : Method := { name := "intValue", desc := "()I", sig := { parameters := [], returnType := some .int }, accessFlags := 1, code := some k17c2 }
/-- java/lang/Integer -/
def k17 : Class := { plain "java/lang/Integer" (some 13) with
  accessFlags := 49
  interfaces := #[14, 15, 16]
  cf := some (fileOf pool17 1 #[.nestMembers #[189]] #[{ accessFlags := 9, nameIndex := 187, descriptorIndex := 188, attributes := #[] }, { accessFlags := 1, nameIndex := 67, descriptorIndex := 201, attributes := #[] }, { accessFlags := 1, nameIndex := 213, descriptorIndex := 121, attributes := #[] }] 49 203 #[304, 306, 308] #[{ accessFlags := 25, nameIndex := 310, descriptorIndex := 194, attributes := #[] }, { accessFlags := 25, nameIndex := 312, descriptorIndex := 194, attributes := #[] }, { accessFlags := 25, nameIndex := 302, descriptorIndex := 303, attributes := #[] }, { accessFlags := 24, nameIndex := 19, descriptorIndex := 20, attributes := #[] }, { accessFlags := 24, nameIndex := 89, descriptorIndex := 86, attributes := #[] }, { accessFlags := 24, nameIndex := 85, descriptorIndex := 86, attributes := #[] }, { accessFlags := 18, nameIndex := 207, descriptorIndex := 194, attributes := #[] }, { accessFlags := 25, nameIndex := 316, descriptorIndex := 194, attributes := #[] }, { accessFlags := 25, nameIndex := 318, descriptorIndex := 194, attributes := #[] }, { accessFlags := 26, nameIndex := 320, descriptorIndex := 321, attributes := #[] }])
  fields := #[{ name := "MIN_VALUE", type := .int, accessFlags := 25, slot := 0, constantValue := 0 }, { name := "MAX_VALUE", type := .int, accessFlags := 25, slot := 1, constantValue := 0 }, { name := "TYPE", type := (.object "java/lang/Class"), accessFlags := 25, slot := 2, constantValue := 0 }, { name := "digits", type := (.array .char), accessFlags := 24, slot := 3, constantValue := 0 }, { name := "DigitTens", type := (.array .byte), accessFlags := 24, slot := 4, constantValue := 0 }, { name := "DigitOnes", type := (.array .byte), accessFlags := 24, slot := 5, constantValue := 0 }, { name := "value", type := .int, accessFlags := 18, slot := 0, constantValue := 0 }, { name := "SIZE", type := .int, accessFlags := 25, slot := 6, constantValue := 0 }, { name := "BYTES", type := .int, accessFlags := 25, slot := 7, constantValue := 0 }, { name := "serialVersionUID", type := .long, accessFlags := 26, slot := 8, constantValue := 0 }]
  methods := #[k17m0, k17m1, k17m2]
  instanceTypes := #[.int]
  staticTypes := #[.int, .int, (.object "java/lang/Class"), (.array .char), (.array .byte), (.array .byte), .int, .int, .long]
  resolved := Array.replicate 453 none
  statics := none }

def pool18 : Array CpInfo := pool [(2, .class_ 4), (1, u "java/lang/Object"), (0, u "<init>"), (0, u "()V"), (0, .class_ 8), (0, u "java/lang/Integer"), (7, .class_ 18), (1, u "java/lang/Integer$IntegerCache"), (0, u "$assertionsDisabled"), (0, u "Z"), (26, u "high"), (0, u "I"), (8, u "archivedCache"), (0, u "[Ljava/lang/Integer;"), (12, u "cache"), (0, u "low")] 27

def k18m0 : Method := { name := "<init>", desc := "()V", sig := { parameters := [], returnType := none }, accessFlags := 2, code := none }
/-- java/lang/Integer$IntegerCache -/
def k18 : Class := { plain "java/lang/Integer$IntegerCache" (some 0) with
  accessFlags := 48
  interfaces := #[]
  cf := some (fileOf pool18 16 #[.nestHost 7] #[{ accessFlags := 2, nameIndex := 5, descriptorIndex := 6, attributes := #[] }] 48 2 #[] #[{ accessFlags := 24, nameIndex := 72, descriptorIndex := 48, attributes := #[] }, { accessFlags := 24, nameIndex := 47, descriptorIndex := 48, attributes := #[] }, { accessFlags := 24, nameIndex := 71, descriptorIndex := 58, attributes := #[] }, { accessFlags := 8, nameIndex := 57, descriptorIndex := 58, attributes := #[] }, { accessFlags := 4120, nameIndex := 19, descriptorIndex := 20, attributes := #[] }])
  fields := #[{ name := "low", type := .int, accessFlags := 24, slot := 0, constantValue := 0 }, { name := "high", type := .int, accessFlags := 24, slot := 1, constantValue := 0 }, { name := "cache", type := (.array (.object "java/lang/Integer")), accessFlags := 24, slot := 2, constantValue := 0 }, { name := "archivedCache", type := (.array (.object "java/lang/Integer")), accessFlags := 8, slot := 3, constantValue := 0 }, { name := "$assertionsDisabled", type := .boolean, accessFlags := 4120, slot := 4, constantValue := 0 }]
  methods := #[k18m0]
  instanceTypes := #[]
  staticTypes := #[.int, .int, (.array (.object "java/lang/Integer")), (.array (.object "java/lang/Integer")), .boolean]
  resolved := Array.replicate 100 none
  statics := some 1 }

def pool19 : Array CpInfo := pool [(2, .class_ 4), (1, u "java/lang/CharSequence"), (42, .class_ 48), (0, u "java/lang/CharSequence$1CodePointIterator"), (10, .class_ 60), (0, u "java/lang/CharSequence$1CharIterator"), (5, .class_ 67), (0, u "java/lang/Object")] 63

/-- java/lang/CharSequence -/
def k19 : Class := { plain "java/lang/CharSequence" (some 0) with
  accessFlags := 1537
  interfaces := #[]
  cf := some (fileOf pool19 2 #[.nestMembers #[47, 59]] #[] 1537 66 #[] #[])
  fields := #[]
  methods := #[]
  instanceTypes := #[]
  staticTypes := #[]
  resolved := Array.replicate 131 none
  statics := none }

def pool20 : Array CpInfo := pool [(1, .methodref 2 3), (0, .class_ 4), (0, .nameAndType 5 6), (0, u "java/lang/Object"), (0, u "<init>"), (0, u "()V"), (2, .fieldref 10 11), (0, .class_ 12), (0, .nameAndType 13 14), (0, u "java/lang/String"), (0, u "value"), (0, u "[B"), (0, .fieldref 10 16), (0, .nameAndType 17 18), (0, u "coder"), (0, u "B"), (2, u "hash"), (0, u "I"), (2, u "hashIsZero"), (0, u "Z"), (11, .fieldref 10 39), (0, .nameAndType 40 26), (0, u "COMPACT_STRINGS"), (12, u "toBytes"), (53, .class_ 109), (1, u "java/lang/StringLatin1"), (99, .methodref 10 210), (0, .nameAndType 5 211), (0, u "([BB)V"), (157, u "(C)Z"), (205, .class_ 576), (0, u "java/lang/CharSequence"), (22, u "CASE_INSENSITIVE_ORDER"), (0, u "Ljava/util/Comparator;"), (181, u "valueOf"), (0, u "(C)Ljava/lang/String;"), (231, .methodref 107 1016), (0, .nameAndType 1017 369), (0, u "canEncode"), (0, .methodref 107 1019), (0, .nameAndType 53 1020), (0, u "(C)[B"), (80, u "serialPersistentFields"), (0, u "[Ljava/io/ObjectStreamField;"), (0, .class_ 1104), (0, u "java/lang/String$CaseInsensitiveComparator"), (1, .class_ 1107), (0, u "java/io/Serializable"), (0, .class_ 1109), (0, u "java/lang/Comparable"), (0, .class_ 1111), (0, u "java/lang/constant/Constable"), (0, .class_ 1113), (0, u "java/lang/constant/ConstantDesc"), (2, u "serialVersionUID"), (0, u "J"), (3, u "REPL"), (0, u "C"), (2, u "LATIN1"), (1, u "UTF16")] 323

def k20m0 : Method := { name := "<init>", desc := "()V", sig := { parameters := [], returnType := none }, accessFlags := 1, code := none }
def k20c1 : Code := { maxStack := 4, maxLocals := 1, code := jdk_42_method_139_code, exceptionTable := #[], attributes := #[] }
def k20m1 : Method := { name := "valueOf", desc := "(C)Ljava/lang/String;", sig := { parameters := [.char], returnType := some (.object "java/lang/String") }, accessFlags := 9, code := some k20c1 }
def k20c2 : Code := { maxStack := 2, maxLocals := 3, code := jdk_42_method_151_code, exceptionTable := #[], attributes := #[] }
def k20m2 : Method := { name := "<init>", desc := "([BB)V", sig := { parameters := [(.array .byte), .byte], returnType := none }, accessFlags := 0, code := some k20c2 }
/-- java/lang/String -/
def k20 : Class := { plain "java/lang/String" (some 0) with
  accessFlags := 49
  interfaces := #[11, 14, 19, 15, 16]
  cf := some (fileOf pool20 10 #[.nestMembers #[1103]] #[{ accessFlags := 1, nameIndex := 5, descriptorIndex := 6, attributes := #[] }, { accessFlags := 9, nameIndex := 782, descriptorIndex := 783, attributes := #[] }, { accessFlags := 0, nameIndex := 5, descriptorIndex := 211, attributes := #[] }] 49 2 #[1106, 1108, 575, 1110, 1112] #[{ accessFlags := 18, nameIndex := 13, descriptorIndex := 14, attributes := #[] }, { accessFlags := 18, nameIndex := 17, descriptorIndex := 18, attributes := #[] }, { accessFlags := 2, nameIndex := 21, descriptorIndex := 22, attributes := #[] }, { accessFlags := 2, nameIndex := 25, descriptorIndex := 26, attributes := #[] }, { accessFlags := 26, nameIndex := 1116, descriptorIndex := 1117, attributes := #[] }, { accessFlags := 24, nameIndex := 40, descriptorIndex := 26, attributes := #[] }, { accessFlags := 26, nameIndex := 1101, descriptorIndex := 1102, attributes := #[] }, { accessFlags := 26, nameIndex := 1121, descriptorIndex := 1122, attributes := #[] }, { accessFlags := 25, nameIndex := 599, descriptorIndex := 600, attributes := #[] }, { accessFlags := 24, nameIndex := 1125, descriptorIndex := 18, attributes := #[] }, { accessFlags := 24, nameIndex := 1127, descriptorIndex := 18, attributes := #[] }])
  fields := #[{ name := "value", type := (.array .byte), accessFlags := 18, slot := 0, constantValue := 0 }, { name := "coder", type := .byte, accessFlags := 18, slot := 1, constantValue := 0 }, { name := "hash", type := .int, accessFlags := 2, slot := 2, constantValue := 0 }, { name := "hashIsZero", type := .boolean, accessFlags := 2, slot := 3, constantValue := 0 }, { name := "serialVersionUID", type := .long, accessFlags := 26, slot := 0, constantValue := 0 }, { name := "COMPACT_STRINGS", type := .boolean, accessFlags := 24, slot := 1, constantValue := 0 }, { name := "serialPersistentFields", type := (.array (.object "java/io/ObjectStreamField")), accessFlags := 26, slot := 2, constantValue := 0 }, { name := "REPL", type := .char, accessFlags := 26, slot := 3, constantValue := 0 }, { name := "CASE_INSENSITIVE_ORDER", type := (.object "java/util/Comparator"), accessFlags := 25, slot := 4, constantValue := 0 }, { name := "LATIN1", type := .byte, accessFlags := 24, slot := 5, constantValue := 0 }, { name := "UTF16", type := .byte, accessFlags := 24, slot := 6, constantValue := 0 }]
  methods := #[k20m0, k20m1, k20m2]
  instanceTypes := #[(.array .byte), .byte, .int, .boolean]
  staticTypes := #[.long, .boolean, (.array (.object "java/io/ObjectStreamField")), .char, (.object "java/util/Comparator"), .byte, .byte]
  resolved := Array.replicate 1451 none
  statics := some 2 }

def pool21 : Array CpInfo := pool [(4, .class_ 6), (1, u "java/lang/Object"), (0, u "<init>"), (0, u "()V"), (5, .class_ 16), (1, u "java/lang/StringLatin1"), (73, u "canEncode"), (14, u "(C)Z"), (15, u "$assertionsDisabled"), (0, u "Z"), (98, .class_ 223), (1, u "java/lang/StringLatin1$LinesSpliterator"), (156, u "toBytes"), (1, u "(C)[B"), (7, .class_ 391), (0, u "java/lang/StringLatin1$CharsSpliterator")] 3

def k21m0 : Method := { name := "<init>", desc := "()V", sig := { parameters := [], returnType := none }, accessFlags := 0, code := none }
def k21c1 : Code := { maxStack := 2, maxLocals := 1, code := jdk_43_method_3_code, exceptionTable := #[], attributes := #[] }
def k21m1 : Method := { name := "canEncode", desc := "(C)Z", sig := { parameters := [.char], returnType := some .boolean }, accessFlags := 9, code := some k21c1 }
def k21c2 : Code := { maxStack := 4, maxLocals := 1, code := jdk_43_method_46_code, exceptionTable := #[], attributes := #[] }
def k21m2 : Method := { name := "toBytes", desc := "(C)[B", sig := { parameters := [.char], returnType := some (.array .byte) }, accessFlags := 9, code := some k21c2 }
/-- java/lang/StringLatin1 -/
def k21 : Class := { plain "java/lang/StringLatin1" (some 0) with
  accessFlags := 48
  interfaces := #[]
  cf := some (fileOf pool21 14 #[.nestMembers #[390, 221]] #[{ accessFlags := 0, nameIndex := 7, descriptorIndex := 8, attributes := #[] }, { accessFlags := 9, nameIndex := 90, descriptorIndex := 105, attributes := #[] }, { accessFlags := 9, nameIndex := 380, descriptorIndex := 382, attributes := #[] }] 48 4 #[] #[{ accessFlags := 4120, nameIndex := 121, descriptorIndex := 122, attributes := #[] }])
  fields := #[{ name := "$assertionsDisabled", type := .boolean, accessFlags := 4120, slot := 0, constantValue := 0 }]
  methods := #[k21m0, k21m1, k21m2]
  instanceTypes := #[]
  staticTypes := #[.boolean]
  resolved := Array.replicate 395 none
  statics := none }

def pool22 : Array CpInfo := pool [(2, .class_ 4), (1, u "java/lang/Object"), (0, u "<init>"), (0, u "()V"), (0, .class_ 8), (0, u "com/example/strict_stock/strictstock/Names"), (39, .interfaceMethodref 49 50), (0, .class_ 51), (0, .nameAndType 52 53), (0, u "java/util/List"), (0, u "isEmpty"), (0, u "()Z"), (0, .interfaceMethodref 49 55), (0, .nameAndType 56 57), (0, u "size"), (0, u "()I"), (61, u "MAX_SKU_LENGTH"), (0, u "I"), (2, u "MAX_IDENTIFIER_LENGTH"), (1, u "MAX_BUYER_KEY_LENGTH"), (0, u "MAX_QUANTITY"), (0, u "J"), (0, u "MAX_CART_LINES"), (1, u "MAX_BUYERS"), (1, u "IDENTIFIER_CHARS"), (0, u "Ljava/lang/String;"), (0, u "BUYER_KEY_CHARS"), (7, u "list"), (0, u "(Ljava/lang/String;Ljava/util/List;I)Ljava/util/List;")] 42

def k22m0 : Method := { name := "<init>", desc := "()V", sig := { parameters := [], returnType := none }, accessFlags := 2, code := none }
def k22c1 : Code := { maxStack := 5, maxLocals := 3, code := prog_12_method_7_code, exceptionTable := #[], attributes := #[] }
def k22m1 : Method := { name := "list", desc := "(Ljava/lang/String;Ljava/util/List;I)Ljava/util/List;", sig := { parameters := [(.object "java/lang/String"), (.object "java/util/List"), .int], returnType := some (.object "java/util/List") }, accessFlags := 9, code := some k22c1 }
/-- com/example/strict_stock/strictstock/Names -/
def k22 : Class := { plain "com/example/strict_stock/strictstock/Names" (some 0) with
  accessFlags := 49
  interfaces := #[]
  cf := some (fileOf pool22 7 #[] #[{ accessFlags := 2, nameIndex := 5, descriptorIndex := 6, attributes := #[] }, { accessFlags := 9, nameIndex := 142, descriptorIndex := 143, attributes := #[] }] 49 2 #[] #[{ accessFlags := 25, nameIndex := 119, descriptorIndex := 120, attributes := #[] }, { accessFlags := 25, nameIndex := 123, descriptorIndex := 120, attributes := #[] }, { accessFlags := 25, nameIndex := 125, descriptorIndex := 120, attributes := #[] }, { accessFlags := 25, nameIndex := 126, descriptorIndex := 127, attributes := #[] }, { accessFlags := 25, nameIndex := 128, descriptorIndex := 120, attributes := #[] }, { accessFlags := 25, nameIndex := 130, descriptorIndex := 120, attributes := #[] }, { accessFlags := 26, nameIndex := 132, descriptorIndex := 133, attributes := #[] }, { accessFlags := 26, nameIndex := 134, descriptorIndex := 133, attributes := #[] }])
  fields := #[{ name := "MAX_SKU_LENGTH", type := .int, accessFlags := 25, slot := 0, constantValue := 0 }, { name := "MAX_IDENTIFIER_LENGTH", type := .int, accessFlags := 25, slot := 1, constantValue := 0 }, { name := "MAX_BUYER_KEY_LENGTH", type := .int, accessFlags := 25, slot := 2, constantValue := 0 }, { name := "MAX_QUANTITY", type := .long, accessFlags := 25, slot := 3, constantValue := 0 }, { name := "MAX_CART_LINES", type := .int, accessFlags := 25, slot := 4, constantValue := 0 }, { name := "MAX_BUYERS", type := .int, accessFlags := 25, slot := 5, constantValue := 0 }, { name := "IDENTIFIER_CHARS", type := (.object "java/lang/String"), accessFlags := 26, slot := 6, constantValue := 0 }, { name := "BUYER_KEY_CHARS", type := (.object "java/lang/String"), accessFlags := 26, slot := 7, constantValue := 0 }]
  methods := #[k22m0, k22m1]
  instanceTypes := #[]
  staticTypes := #[.int, .int, .int, .long, .int, .int, (.object "java/lang/String"), (.object "java/lang/String")]
  resolved := Array.replicate 186 none
  statics := none }

def pool23 : Array CpInfo := pool [(2, .class_ 4), (1, u "java/lang/Object"), (0, u "<init>"), (0, u "()V"), (35, .class_ 44), (1, u "java/util/Objects"), (60, .methodref 106 107), (0, .class_ 108), (0, .nameAndType 109 110), (0, u "jdk/internal/util/Preconditions"), (0, u "checkIndex"), (0, u "(IILjava/util/function/BiFunction;)I"), (60, u "(II)I")] 12

def k23m0 : Method := { name := "<init>", desc := "()V", sig := { parameters := [], returnType := none }, accessFlags := 2, code := none }
def k23c1 : Code := { maxStack := 3, maxLocals := 2, code := jdk_31_method_17_code, exceptionTable := #[], attributes := #[] }
def k23m1 : Method := { name := "checkIndex", desc := "(II)I", sig := { parameters := [.int, .int], returnType := some .int }, accessFlags := 9, code := some k23c1 }
/-- java/util/Objects -/
def k23 : Class := { plain "java/util/Objects" (some 0) with
  accessFlags := 49
  interfaces := #[]
  cf := some (fileOf pool23 42 #[] #[{ accessFlags := 2, nameIndex := 5, descriptorIndex := 6, attributes := #[] }, { accessFlags := 9, nameIndex := 109, descriptorIndex := 171, attributes := #[] }] 49 2 #[] #[])
  fields := #[]
  methods := #[k23m0, k23m1]
  instanceTypes := #[]
  staticTypes := #[]
  resolved := Array.replicate 184 none
  statics := none }

def pool24 : Array CpInfo := pool [(2, .class_ 4), (1, u "java/lang/Object"), (0, u "<init>"), (0, u "()V"), (17, .class_ 26), (1, u "jdk/internal/util/Preconditions"), (6, u "checkIndex"), (21, .class_ 56), (0, u "jdk/internal/util/Preconditions$4"), (57, .class_ 115), (0, u "jdk/internal/util/Preconditions$1"), (7, u "SIOOBE_FORMATTER"), (0, u "Ljava/util/function/BiFunction;"), (0, .class_ 126), (0, u "jdk/internal/util/Preconditions$2"), (3, u "AIOOBE_FORMATTER"), (0, .class_ 132), (0, u "jdk/internal/util/Preconditions$3"), (3, u "IOOBE_FORMATTER"), (41, u "(IILjava/util/function/BiFunction;)I")] 15

def k24m0 : Method := { name := "<init>", desc := "()V", sig := { parameters := [], returnType := none }, accessFlags := 1, code := none }
def k24c1 : Code := { maxStack := 3, maxLocals := 3, code := jdk_41_method_11_code, exceptionTable := #[], attributes := #[] }
def k24m1 : Method := { name := "checkIndex", desc := "(IILjava/util/function/BiFunction;)I", sig := { parameters := [.int, .int, (.object "java/util/function/BiFunction")], returnType := some .int }, accessFlags := 9, code := some k24c1 }
/-- jdk/internal/util/Preconditions -/
def k24 : Class := { plain "jdk/internal/util/Preconditions" (some 0) with
  accessFlags := 33
  interfaces := #[]
  cf := some (fileOf pool24 24 #[.nestMembers #[55, 131, 125, 114]] #[{ accessFlags := 1, nameIndex := 5, descriptorIndex := 6, attributes := #[] }, { accessFlags := 9, nameIndex := 33, descriptorIndex := 178, attributes := #[] }] 33 2 #[] #[{ accessFlags := 25, nameIndex := 123, descriptorIndex := 124, attributes := #[] }, { accessFlags := 25, nameIndex := 130, descriptorIndex := 124, attributes := #[] }, { accessFlags := 25, nameIndex := 136, descriptorIndex := 124, attributes := #[] }])
  fields := #[{ name := "SIOOBE_FORMATTER", type := (.object "java/util/function/BiFunction"), accessFlags := 25, slot := 0, constantValue := 0 }, { name := "AIOOBE_FORMATTER", type := (.object "java/util/function/BiFunction"), accessFlags := 25, slot := 1, constantValue := 0 }, { name := "IOOBE_FORMATTER", type := (.object "java/util/function/BiFunction"), accessFlags := 25, slot := 2, constantValue := 0 }]
  methods := #[k24m0, k24m1]
  instanceTypes := #[]
  staticTypes := #[(.object "java/util/function/BiFunction"), (.object "java/util/function/BiFunction"), (.object "java/util/function/BiFunction")]
  resolved := Array.replicate 194 none
  statics := some 3 }

def pool25 : Array CpInfo := pool [(9, u "<init>"), (6, .class_ 18), (1, u "java/lang/Object"), (0, u "()V"), (1, .class_ 23), (1, u "jdk/internal/util/ArraysSupport"), (0, u "LOG2_ARRAY_LONG_INDEX_SCALE"), (0, u "I"), (2, u "U"), (0, u "Ljdk/internal/misc/Unsafe;"), (8, u "BIG_ENDIAN"), (0, u "Z"), (8, u "LOG2_BYTE_BIT_SIZE"), (4, u "LOG2_ARRAY_INT_INDEX_SCALE"), (54, u "JLA"), (0, u "Ljdk/internal/access/JavaLangAccess;"), (11, u "LOG2_ARRAY_BOOLEAN_INDEX_SCALE"), (9, u "LOG2_ARRAY_BYTE_INDEX_SCALE"), (5, u "LOG2_ARRAY_CHAR_INDEX_SCALE"), (5, u "LOG2_ARRAY_SHORT_INDEX_SCALE"), (18, u "LOG2_ARRAY_FLOAT_INDEX_SCALE"), (24, u "LOG2_ARRAY_DOUBLE_INDEX_SCALE"), (89, u "T_BOOLEAN"), (2, u "T_CHAR"), (1, u "T_FLOAT"), (1, u "T_DOUBLE"), (1, u "T_BYTE"), (1, u "T_SHORT"), (1, u "T_INT"), (1, u "T_LONG"), (1, u "SOFT_MAX_ARRAY_LENGTH")] 83

def k25m0 : Method := { name := "<init>", desc := "()V", sig := { parameters := [], returnType := none }, accessFlags := 2, code := none }
/-- jdk/internal/util/ArraysSupport -/
def k25 : Class := { plain "jdk/internal/util/ArraysSupport" (some 0) with
  accessFlags := 33
  interfaces := #[]
  cf := some (fileOf pool25 21 #[] #[{ accessFlags := 2, nameIndex := 9, descriptorIndex := 19, attributes := #[] }] 33 16 #[] #[{ accessFlags := 24, nameIndex := 28, descriptorIndex := 29, attributes := #[] }, { accessFlags := 26, nameIndex := 38, descriptorIndex := 39, attributes := #[] }, { accessFlags := 25, nameIndex := 121, descriptorIndex := 25, attributes := #[] }, { accessFlags := 25, nameIndex := 131, descriptorIndex := 25, attributes := #[] }, { accessFlags := 25, nameIndex := 137, descriptorIndex := 25, attributes := #[] }, { accessFlags := 25, nameIndex := 143, descriptorIndex := 25, attributes := #[] }, { accessFlags := 25, nameIndex := 53, descriptorIndex := 25, attributes := #[] }, { accessFlags := 25, nameIndex := 24, descriptorIndex := 25, attributes := #[] }, { accessFlags := 25, nameIndex := 162, descriptorIndex := 25, attributes := #[] }, { accessFlags := 25, nameIndex := 187, descriptorIndex := 25, attributes := #[] }, { accessFlags := 26, nameIndex := 48, descriptorIndex := 25, attributes := #[] }, { accessFlags := 25, nameIndex := 277, descriptorIndex := 25, attributes := #[] }, { accessFlags := 25, nameIndex := 280, descriptorIndex := 25, attributes := #[] }, { accessFlags := 25, nameIndex := 282, descriptorIndex := 25, attributes := #[] }, { accessFlags := 25, nameIndex := 284, descriptorIndex := 25, attributes := #[] }, { accessFlags := 25, nameIndex := 286, descriptorIndex := 25, attributes := #[] }, { accessFlags := 25, nameIndex := 288, descriptorIndex := 25, attributes := #[] }, { accessFlags := 25, nameIndex := 290, descriptorIndex := 25, attributes := #[] }, { accessFlags := 25, nameIndex := 292, descriptorIndex := 25, attributes := #[] }, { accessFlags := 26, nameIndex := 108, descriptorIndex := 109, attributes := #[] }, { accessFlags := 25, nameIndex := 294, descriptorIndex := 25, attributes := #[] }])
  fields := #[{ name := "U", type := (.object "jdk/internal/misc/Unsafe"), accessFlags := 24, slot := 0, constantValue := 0 }, { name := "BIG_ENDIAN", type := .boolean, accessFlags := 26, slot := 1, constantValue := 0 }, { name := "LOG2_ARRAY_BOOLEAN_INDEX_SCALE", type := .int, accessFlags := 25, slot := 2, constantValue := 0 }, { name := "LOG2_ARRAY_BYTE_INDEX_SCALE", type := .int, accessFlags := 25, slot := 3, constantValue := 0 }, { name := "LOG2_ARRAY_CHAR_INDEX_SCALE", type := .int, accessFlags := 25, slot := 4, constantValue := 0 }, { name := "LOG2_ARRAY_SHORT_INDEX_SCALE", type := .int, accessFlags := 25, slot := 5, constantValue := 0 }, { name := "LOG2_ARRAY_INT_INDEX_SCALE", type := .int, accessFlags := 25, slot := 6, constantValue := 0 }, { name := "LOG2_ARRAY_LONG_INDEX_SCALE", type := .int, accessFlags := 25, slot := 7, constantValue := 0 }, { name := "LOG2_ARRAY_FLOAT_INDEX_SCALE", type := .int, accessFlags := 25, slot := 8, constantValue := 0 }, { name := "LOG2_ARRAY_DOUBLE_INDEX_SCALE", type := .int, accessFlags := 25, slot := 9, constantValue := 0 }, { name := "LOG2_BYTE_BIT_SIZE", type := .int, accessFlags := 26, slot := 10, constantValue := 0 }, { name := "T_BOOLEAN", type := .int, accessFlags := 25, slot := 11, constantValue := 0 }, { name := "T_CHAR", type := .int, accessFlags := 25, slot := 12, constantValue := 0 }, { name := "T_FLOAT", type := .int, accessFlags := 25, slot := 13, constantValue := 0 }, { name := "T_DOUBLE", type := .int, accessFlags := 25, slot := 14, constantValue := 0 }, { name := "T_BYTE", type := .int, accessFlags := 25, slot := 15, constantValue := 0 }, { name := "T_SHORT", type := .int, accessFlags := 25, slot := 16, constantValue := 0 }, { name := "T_INT", type := .int, accessFlags := 25, slot := 17, constantValue := 0 }, { name := "T_LONG", type := .int, accessFlags := 25, slot := 18, constantValue := 0 }, { name := "JLA", type := (.object "jdk/internal/access/JavaLangAccess"), accessFlags := 26, slot := 19, constantValue := 0 }, { name := "SOFT_MAX_ARRAY_LENGTH", type := .int, accessFlags := 25, slot := 20, constantValue := 0 }]
  methods := #[k25m0]
  instanceTypes := #[]
  staticTypes := #[(.object "jdk/internal/misc/Unsafe"), .boolean, .int, .int, .int, .int, .int, .int, .int, .int, .int, .int, .int, .int, .int, .int, .int, .int, .int, (.object "jdk/internal/access/JavaLangAccess"), .int]
  resolved := Array.replicate 378 none
  statics := none }

/-- the primitive byte -/
def k26 : Class := { plain "byte" none with kind := .primitive 'B', accessFlags := 0x411 }
/-- [B -/
def k27 : Class := { plain "[B" (some 0) with kind := .array 26 .byte, interfaces := #[10, 11], accessFlags := 1041 }

/-- the primitive int -/
def k28 : Class := { plain "int" none with kind := .primitive 'I', accessFlags := 0x411 }
/-- [I -/
def k29 : Class := { plain "[I" (some 0) with kind := .array 28 .int, interfaces := #[10, 11], accessFlags := 1041 }

/-- [Ljava/lang/Integer; -/
def k30 : Class := { plain "[Ljava/lang/Integer;" (some 0) with kind := .array 17 (.object "java/lang/Integer"), interfaces := #[10, 11], accessFlags := 1041 }

/-- [Ljava/lang/Object; -/
def k31 : Class := { plain "[Ljava/lang/Object;" (some 0) with kind := .array 0 (.object "java/lang/Object"), interfaces := #[10, 11], accessFlags := 1041 }

def heap : Heap := #[{ cls := 12, slots := #[.long 0, .int 0, .ref 261, .ref 262], vm := .statics 12 },
  { cls := 18, slots := #[.int 0, .int 127, .ref 4, .null, .int 0], vm := .statics 18 },
  { cls := 20, slots := #[.long 0, .int 1, .null, .int 0, .null, .int 0, .int 0], vm := .statics 20 },
  { cls := 24, slots := #[.null, .null, .null], vm := .statics 24 },
  { cls := 30, slots := #[.ref 5, .ref 6, .ref 7, .ref 8, .ref 9, .ref 10, .ref 11, .ref 12, .ref 13, .ref 14, .ref 15, .ref 16, .ref 17, .ref 18, .ref 19, .ref 20, .ref 21, .ref 22, .ref 23, .ref 24, .ref 25, .ref 26, .ref 27, .ref 28, .ref 29, .ref 30, .ref 31, .ref 32, .ref 33, .ref 34, .ref 35, .ref 36, .ref 37, .ref 38, .ref 39, .ref 40, .ref 41, .ref 42, .ref 43, .ref 44, .ref 45, .ref 46, .ref 47, .ref 48, .ref 49, .ref 50, .ref 51, .ref 52, .ref 53, .ref 54, .ref 55, .ref 56, .ref 57, .ref 58, .ref 59, .ref 60, .ref 61, .ref 62, .ref 63, .ref 64, .ref 65, .ref 66, .ref 67, .ref 68, .ref 69, .ref 70, .ref 71, .ref 72, .ref 73, .ref 74, .ref 75, .ref 76, .ref 77, .ref 78, .ref 79, .ref 80, .ref 81, .ref 82, .ref 83, .ref 84, .ref 85, .ref 86, .ref 87, .ref 88, .ref 89, .ref 90, .ref 91, .ref 92, .ref 93, .ref 94, .ref 95, .ref 96, .ref 97, .ref 98, .ref 99, .ref 100, .ref 101, .ref 102, .ref 103, .ref 104, .ref 105, .ref 106, .ref 107, .ref 108, .ref 109, .ref 110, .ref 111, .ref 112, .ref 113, .ref 114, .ref 115, .ref 116, .ref 117, .ref 118, .ref 119, .ref 120, .ref 121, .ref 122, .ref 123, .ref 124, .ref 125, .ref 126, .ref 127, .ref 128, .ref 129, .ref 130, .ref 131, .ref 132, .ref 133, .ref 134, .ref 135, .ref 136, .ref 137, .ref 138, .ref 139, .ref 140, .ref 141, .ref 142, .ref 143, .ref 144, .ref 145, .ref 146, .ref 147, .ref 148, .ref 149, .ref 150, .ref 151, .ref 152, .ref 153, .ref 154, .ref 155, .ref 156, .ref 157, .ref 158, .ref 159, .ref 160, .ref 161, .ref 162, .ref 163, .ref 164, .ref 165, .ref 166, .ref 167, .ref 168, .ref 169, .ref 170, .ref 171, .ref 172, .ref 173, .ref 174, .ref 175, .ref 176, .ref 177, .ref 178, .ref 179, .ref 180, .ref 181, .ref 182, .ref 183, .ref 184, .ref 185, .ref 186, .ref 187, .ref 188, .ref 189, .ref 190, .ref 191, .ref 192, .ref 193, .ref 194, .ref 195, .ref 196, .ref 197, .ref 198, .ref 199, .ref 200, .ref 201, .ref 202, .ref 203, .ref 204, .ref 205, .ref 206, .ref 207, .ref 208, .ref 209, .ref 210, .ref 211, .ref 212, .ref 213, .ref 214, .ref 215, .ref 216, .ref 217, .ref 218, .ref 219, .ref 220, .ref 221, .ref 222, .ref 223, .ref 224, .ref 225, .ref 226, .ref 227, .ref 228, .ref 229, .ref 230, .ref 231, .ref 232, .ref 233, .ref 234, .ref 235, .ref 236, .ref 237, .ref 238, .ref 239, .ref 240, .ref 241, .ref 242, .ref 243, .ref 244, .ref 245, .ref 246, .ref 247, .ref 248, .ref 249, .ref 250, .ref 251, .ref 252, .ref 253, .ref 254, .ref 255, .ref 256, .ref 257, .ref 258, .ref 259, .ref 260], vm := .none },
  { cls := 17, slots := #[.int (-128)], vm := .none },
  { cls := 17, slots := #[.int (-127)], vm := .none },
  { cls := 17, slots := #[.int (-126)], vm := .none },
  { cls := 17, slots := #[.int (-125)], vm := .none },
  { cls := 17, slots := #[.int (-124)], vm := .none },
  { cls := 17, slots := #[.int (-123)], vm := .none },
  { cls := 17, slots := #[.int (-122)], vm := .none },
  { cls := 17, slots := #[.int (-121)], vm := .none },
  { cls := 17, slots := #[.int (-120)], vm := .none },
  { cls := 17, slots := #[.int (-119)], vm := .none },
  { cls := 17, slots := #[.int (-118)], vm := .none },
  { cls := 17, slots := #[.int (-117)], vm := .none },
  { cls := 17, slots := #[.int (-116)], vm := .none },
  { cls := 17, slots := #[.int (-115)], vm := .none },
  { cls := 17, slots := #[.int (-114)], vm := .none },
  { cls := 17, slots := #[.int (-113)], vm := .none },
  { cls := 17, slots := #[.int (-112)], vm := .none },
  { cls := 17, slots := #[.int (-111)], vm := .none },
  { cls := 17, slots := #[.int (-110)], vm := .none },
  { cls := 17, slots := #[.int (-109)], vm := .none },
  { cls := 17, slots := #[.int (-108)], vm := .none },
  { cls := 17, slots := #[.int (-107)], vm := .none },
  { cls := 17, slots := #[.int (-106)], vm := .none },
  { cls := 17, slots := #[.int (-105)], vm := .none },
  { cls := 17, slots := #[.int (-104)], vm := .none },
  { cls := 17, slots := #[.int (-103)], vm := .none },
  { cls := 17, slots := #[.int (-102)], vm := .none },
  { cls := 17, slots := #[.int (-101)], vm := .none },
  { cls := 17, slots := #[.int (-100)], vm := .none },
  { cls := 17, slots := #[.int (-99)], vm := .none },
  { cls := 17, slots := #[.int (-98)], vm := .none },
  { cls := 17, slots := #[.int (-97)], vm := .none },
  { cls := 17, slots := #[.int (-96)], vm := .none },
  { cls := 17, slots := #[.int (-95)], vm := .none },
  { cls := 17, slots := #[.int (-94)], vm := .none },
  { cls := 17, slots := #[.int (-93)], vm := .none },
  { cls := 17, slots := #[.int (-92)], vm := .none },
  { cls := 17, slots := #[.int (-91)], vm := .none },
  { cls := 17, slots := #[.int (-90)], vm := .none },
  { cls := 17, slots := #[.int (-89)], vm := .none },
  { cls := 17, slots := #[.int (-88)], vm := .none },
  { cls := 17, slots := #[.int (-87)], vm := .none },
  { cls := 17, slots := #[.int (-86)], vm := .none },
  { cls := 17, slots := #[.int (-85)], vm := .none },
  { cls := 17, slots := #[.int (-84)], vm := .none },
  { cls := 17, slots := #[.int (-83)], vm := .none },
  { cls := 17, slots := #[.int (-82)], vm := .none },
  { cls := 17, slots := #[.int (-81)], vm := .none },
  { cls := 17, slots := #[.int (-80)], vm := .none },
  { cls := 17, slots := #[.int (-79)], vm := .none },
  { cls := 17, slots := #[.int (-78)], vm := .none },
  { cls := 17, slots := #[.int (-77)], vm := .none },
  { cls := 17, slots := #[.int (-76)], vm := .none },
  { cls := 17, slots := #[.int (-75)], vm := .none },
  { cls := 17, slots := #[.int (-74)], vm := .none },
  { cls := 17, slots := #[.int (-73)], vm := .none },
  { cls := 17, slots := #[.int (-72)], vm := .none },
  { cls := 17, slots := #[.int (-71)], vm := .none },
  { cls := 17, slots := #[.int (-70)], vm := .none },
  { cls := 17, slots := #[.int (-69)], vm := .none },
  { cls := 17, slots := #[.int (-68)], vm := .none },
  { cls := 17, slots := #[.int (-67)], vm := .none },
  { cls := 17, slots := #[.int (-66)], vm := .none },
  { cls := 17, slots := #[.int (-65)], vm := .none },
  { cls := 17, slots := #[.int (-64)], vm := .none },
  { cls := 17, slots := #[.int (-63)], vm := .none },
  { cls := 17, slots := #[.int (-62)], vm := .none },
  { cls := 17, slots := #[.int (-61)], vm := .none },
  { cls := 17, slots := #[.int (-60)], vm := .none },
  { cls := 17, slots := #[.int (-59)], vm := .none },
  { cls := 17, slots := #[.int (-58)], vm := .none },
  { cls := 17, slots := #[.int (-57)], vm := .none },
  { cls := 17, slots := #[.int (-56)], vm := .none },
  { cls := 17, slots := #[.int (-55)], vm := .none },
  { cls := 17, slots := #[.int (-54)], vm := .none },
  { cls := 17, slots := #[.int (-53)], vm := .none },
  { cls := 17, slots := #[.int (-52)], vm := .none },
  { cls := 17, slots := #[.int (-51)], vm := .none },
  { cls := 17, slots := #[.int (-50)], vm := .none },
  { cls := 17, slots := #[.int (-49)], vm := .none },
  { cls := 17, slots := #[.int (-48)], vm := .none },
  { cls := 17, slots := #[.int (-47)], vm := .none },
  { cls := 17, slots := #[.int (-46)], vm := .none },
  { cls := 17, slots := #[.int (-45)], vm := .none },
  { cls := 17, slots := #[.int (-44)], vm := .none },
  { cls := 17, slots := #[.int (-43)], vm := .none },
  { cls := 17, slots := #[.int (-42)], vm := .none },
  { cls := 17, slots := #[.int (-41)], vm := .none },
  { cls := 17, slots := #[.int (-40)], vm := .none },
  { cls := 17, slots := #[.int (-39)], vm := .none },
  { cls := 17, slots := #[.int (-38)], vm := .none },
  { cls := 17, slots := #[.int (-37)], vm := .none },
  { cls := 17, slots := #[.int (-36)], vm := .none },
  { cls := 17, slots := #[.int (-35)], vm := .none },
  { cls := 17, slots := #[.int (-34)], vm := .none },
  { cls := 17, slots := #[.int (-33)], vm := .none },
  { cls := 17, slots := #[.int (-32)], vm := .none },
  { cls := 17, slots := #[.int (-31)], vm := .none },
  { cls := 17, slots := #[.int (-30)], vm := .none },
  { cls := 17, slots := #[.int (-29)], vm := .none },
  { cls := 17, slots := #[.int (-28)], vm := .none },
  { cls := 17, slots := #[.int (-27)], vm := .none },
  { cls := 17, slots := #[.int (-26)], vm := .none },
  { cls := 17, slots := #[.int (-25)], vm := .none },
  { cls := 17, slots := #[.int (-24)], vm := .none },
  { cls := 17, slots := #[.int (-23)], vm := .none },
  { cls := 17, slots := #[.int (-22)], vm := .none },
  { cls := 17, slots := #[.int (-21)], vm := .none },
  { cls := 17, slots := #[.int (-20)], vm := .none },
  { cls := 17, slots := #[.int (-19)], vm := .none },
  { cls := 17, slots := #[.int (-18)], vm := .none },
  { cls := 17, slots := #[.int (-17)], vm := .none },
  { cls := 17, slots := #[.int (-16)], vm := .none },
  { cls := 17, slots := #[.int (-15)], vm := .none },
  { cls := 17, slots := #[.int (-14)], vm := .none },
  { cls := 17, slots := #[.int (-13)], vm := .none },
  { cls := 17, slots := #[.int (-12)], vm := .none },
  { cls := 17, slots := #[.int (-11)], vm := .none },
  { cls := 17, slots := #[.int (-10)], vm := .none },
  { cls := 17, slots := #[.int (-9)], vm := .none },
  { cls := 17, slots := #[.int (-8)], vm := .none },
  { cls := 17, slots := #[.int (-7)], vm := .none },
  { cls := 17, slots := #[.int (-6)], vm := .none },
  { cls := 17, slots := #[.int (-5)], vm := .none },
  { cls := 17, slots := #[.int (-4)], vm := .none },
  { cls := 17, slots := #[.int (-3)], vm := .none },
  { cls := 17, slots := #[.int (-2)], vm := .none },
  { cls := 17, slots := #[.int (-1)], vm := .none },
  { cls := 17, slots := #[.int (0)], vm := .none },
  { cls := 17, slots := #[.int (1)], vm := .none },
  { cls := 17, slots := #[.int (2)], vm := .none },
  { cls := 17, slots := #[.int (3)], vm := .none },
  { cls := 17, slots := #[.int (4)], vm := .none },
  { cls := 17, slots := #[.int (5)], vm := .none },
  { cls := 17, slots := #[.int (6)], vm := .none },
  { cls := 17, slots := #[.int (7)], vm := .none },
  { cls := 17, slots := #[.int (8)], vm := .none },
  { cls := 17, slots := #[.int (9)], vm := .none },
  { cls := 17, slots := #[.int (10)], vm := .none },
  { cls := 17, slots := #[.int (11)], vm := .none },
  { cls := 17, slots := #[.int (12)], vm := .none },
  { cls := 17, slots := #[.int (13)], vm := .none },
  { cls := 17, slots := #[.int (14)], vm := .none },
  { cls := 17, slots := #[.int (15)], vm := .none },
  { cls := 17, slots := #[.int (16)], vm := .none },
  { cls := 17, slots := #[.int (17)], vm := .none },
  { cls := 17, slots := #[.int (18)], vm := .none },
  { cls := 17, slots := #[.int (19)], vm := .none },
  { cls := 17, slots := #[.int (20)], vm := .none },
  { cls := 17, slots := #[.int (21)], vm := .none },
  { cls := 17, slots := #[.int (22)], vm := .none },
  { cls := 17, slots := #[.int (23)], vm := .none },
  { cls := 17, slots := #[.int (24)], vm := .none },
  { cls := 17, slots := #[.int (25)], vm := .none },
  { cls := 17, slots := #[.int (26)], vm := .none },
  { cls := 17, slots := #[.int (27)], vm := .none },
  { cls := 17, slots := #[.int (28)], vm := .none },
  { cls := 17, slots := #[.int (29)], vm := .none },
  { cls := 17, slots := #[.int (30)], vm := .none },
  { cls := 17, slots := #[.int (31)], vm := .none },
  { cls := 17, slots := #[.int (32)], vm := .none },
  { cls := 17, slots := #[.int (33)], vm := .none },
  { cls := 17, slots := #[.int (34)], vm := .none },
  { cls := 17, slots := #[.int (35)], vm := .none },
  { cls := 17, slots := #[.int (36)], vm := .none },
  { cls := 17, slots := #[.int (37)], vm := .none },
  { cls := 17, slots := #[.int (38)], vm := .none },
  { cls := 17, slots := #[.int (39)], vm := .none },
  { cls := 17, slots := #[.int (40)], vm := .none },
  { cls := 17, slots := #[.int (41)], vm := .none },
  { cls := 17, slots := #[.int (42)], vm := .none },
  { cls := 17, slots := #[.int (43)], vm := .none },
  { cls := 17, slots := #[.int (44)], vm := .none },
  { cls := 17, slots := #[.int (45)], vm := .none },
  { cls := 17, slots := #[.int (46)], vm := .none },
  { cls := 17, slots := #[.int (47)], vm := .none },
  { cls := 17, slots := #[.int (48)], vm := .none },
  { cls := 17, slots := #[.int (49)], vm := .none },
  { cls := 17, slots := #[.int (50)], vm := .none },
  { cls := 17, slots := #[.int (51)], vm := .none },
  { cls := 17, slots := #[.int (52)], vm := .none },
  { cls := 17, slots := #[.int (53)], vm := .none },
  { cls := 17, slots := #[.int (54)], vm := .none },
  { cls := 17, slots := #[.int (55)], vm := .none },
  { cls := 17, slots := #[.int (56)], vm := .none },
  { cls := 17, slots := #[.int (57)], vm := .none },
  { cls := 17, slots := #[.int (58)], vm := .none },
  { cls := 17, slots := #[.int (59)], vm := .none },
  { cls := 17, slots := #[.int (60)], vm := .none },
  { cls := 17, slots := #[.int (61)], vm := .none },
  { cls := 17, slots := #[.int (62)], vm := .none },
  { cls := 17, slots := #[.int (63)], vm := .none },
  { cls := 17, slots := #[.int (64)], vm := .none },
  { cls := 17, slots := #[.int (65)], vm := .none },
  { cls := 17, slots := #[.int (66)], vm := .none },
  { cls := 17, slots := #[.int (67)], vm := .none },
  { cls := 17, slots := #[.int (68)], vm := .none },
  { cls := 17, slots := #[.int (69)], vm := .none },
  { cls := 17, slots := #[.int (70)], vm := .none },
  { cls := 17, slots := #[.int (71)], vm := .none },
  { cls := 17, slots := #[.int (72)], vm := .none },
  { cls := 17, slots := #[.int (73)], vm := .none },
  { cls := 17, slots := #[.int (74)], vm := .none },
  { cls := 17, slots := #[.int (75)], vm := .none },
  { cls := 17, slots := #[.int (76)], vm := .none },
  { cls := 17, slots := #[.int (77)], vm := .none },
  { cls := 17, slots := #[.int (78)], vm := .none },
  { cls := 17, slots := #[.int (79)], vm := .none },
  { cls := 17, slots := #[.int (80)], vm := .none },
  { cls := 17, slots := #[.int (81)], vm := .none },
  { cls := 17, slots := #[.int (82)], vm := .none },
  { cls := 17, slots := #[.int (83)], vm := .none },
  { cls := 17, slots := #[.int (84)], vm := .none },
  { cls := 17, slots := #[.int (85)], vm := .none },
  { cls := 17, slots := #[.int (86)], vm := .none },
  { cls := 17, slots := #[.int (87)], vm := .none },
  { cls := 17, slots := #[.int (88)], vm := .none },
  { cls := 17, slots := #[.int (89)], vm := .none },
  { cls := 17, slots := #[.int (90)], vm := .none },
  { cls := 17, slots := #[.int (91)], vm := .none },
  { cls := 17, slots := #[.int (92)], vm := .none },
  { cls := 17, slots := #[.int (93)], vm := .none },
  { cls := 17, slots := #[.int (94)], vm := .none },
  { cls := 17, slots := #[.int (95)], vm := .none },
  { cls := 17, slots := #[.int (96)], vm := .none },
  { cls := 17, slots := #[.int (97)], vm := .none },
  { cls := 17, slots := #[.int (98)], vm := .none },
  { cls := 17, slots := #[.int (99)], vm := .none },
  { cls := 17, slots := #[.int (100)], vm := .none },
  { cls := 17, slots := #[.int (101)], vm := .none },
  { cls := 17, slots := #[.int (102)], vm := .none },
  { cls := 17, slots := #[.int (103)], vm := .none },
  { cls := 17, slots := #[.int (104)], vm := .none },
  { cls := 17, slots := #[.int (105)], vm := .none },
  { cls := 17, slots := #[.int (106)], vm := .none },
  { cls := 17, slots := #[.int (107)], vm := .none },
  { cls := 17, slots := #[.int (108)], vm := .none },
  { cls := 17, slots := #[.int (109)], vm := .none },
  { cls := 17, slots := #[.int (110)], vm := .none },
  { cls := 17, slots := #[.int (111)], vm := .none },
  { cls := 17, slots := #[.int (112)], vm := .none },
  { cls := 17, slots := #[.int (113)], vm := .none },
  { cls := 17, slots := #[.int (114)], vm := .none },
  { cls := 17, slots := #[.int (115)], vm := .none },
  { cls := 17, slots := #[.int (116)], vm := .none },
  { cls := 17, slots := #[.int (117)], vm := .none },
  { cls := 17, slots := #[.int (118)], vm := .none },
  { cls := 17, slots := #[.int (119)], vm := .none },
  { cls := 17, slots := #[.int (120)], vm := .none },
  { cls := 17, slots := #[.int (121)], vm := .none },
  { cls := 17, slots := #[.int (122)], vm := .none },
  { cls := 17, slots := #[.int (123)], vm := .none },
  { cls := 17, slots := #[.int (124)], vm := .none },
  { cls := 17, slots := #[.int (125)], vm := .none },
  { cls := 17, slots := #[.int (126)], vm := .none },
  { cls := 17, slots := #[.int (127)], vm := .none },
  { cls := 31, slots := #[], vm := .none },
  { cls := 31, slots := #[], vm := .none }]
def classes : Array Class := #[k0, k1, k2, k3, k4, k5, k6, k7, k8, k9, k10, k11, k12, k13, k14, k15, k16, k17, k18, k19, k20, k21, k22, k23, k24, k25, k26, k27, k28, k29, k30, k31]
def interned : List (Array UInt16 × Addr) := []
def slotsUsed : Nat := 531
def theMethod : MethodId := ⟨1, 1⟩
def args0 : Array Value := #[.int 6, .int 7, .int 8, .int 9, .int 10]
def aboutOver (below : List Frame) : State where
  vm := { classes := classes, interned := interned.toArray }
  heap := heap
  slotsUsed := slotsUsed
  threads := #[{ frames := .invoking theMethod args0 :: below }]
def below0 : List Frame := [.native { method := ⟨0, 0⟩, args := #[] }]
def about1 : State := aboutOver below0
def p0 : Program := .bare "" "" ""
def e0 : Env := launch0.env 0 0 0
theorem w_frames : about1.frames = Frame.invoking theMethod args0 :: below0 := rfl
set_option maxRecDepth 65536 in
theorem w_args : argsFit about1.vm theMethod args0 = true := by decide +kernel
set_option maxRecDepth 65536 in
theorem w_heap : heapFits about1 = true := by decide +kernel
set_option maxRecDepth 65536 in
theorem w_runnable : about1.curStatus? = some .runnable := by decide +kernel
set_option maxRecDepth 65536 in
theorem w_alone : about1.alone = true := by decide +kernel
set_option maxRecDepth 65536 in
theorem w_named : about1.methodNamed? x = some theMethod := by decide +kernel
set_option maxRecDepth 65536 in
theorem w_hears : about1.hears theMethod below0 = true := by decide +kernel
set_option maxRecDepth 65536 in
theorem w_ripe : about1.ripe theMethod args0 below0 = true := by decide +kernel
theorem w_running : about1.status = .running := rfl
set_option maxRecDepth 65536 in
theorem w_room : about1.hasRoom e0.platform room_1 = true :=
  launch0.hasRoom_least _ room_1 (by decide +kernel) (by decide +kernel) (by decide +kernel) (by decide +kernel) (by decide +kernel) (by decide +kernel)
theorem allAtoms_all (ts : List Jvm.Cond) (a : Array Jvm.Value) (st : Jvm.State) : (allAtoms ts).before a st = ts.all (fun c => c.before a st) := by
  induction ts with
  | nil => rfl
  | cons c t ih =>
    show (Jvm.Cond.and c (allAtoms t)).before a st = _
    rw [Jvm.Cond.before_and, ih, List.all_cons]
def words1 : List Jvm.Cond := Jvm.Cond.code x code maxLocals ret :: tables_1
/-- a 'code' word, met by the world's own term for the bytes: nothing is compared byte by byte -/
theorem code_word {y : MethodName} {bytes : ByteArray} {mx : Nat} {rt : Option FieldType} {a : Array Value} {s : State} {m : MethodId} {meth : Method} {c : Code} (h1 : s.methodNamed? y = some m) (h2 : s.vm.method? m = some meth) (h3 : meth.code = some c) (h4 : c.code = bytes)
    (h5 : (c.maxLocals == mx && c.exceptionTable.isEmpty && decide (c.maxStack ≤ mostOperands) && decide (meth.sig.returnType = rt) && !meth.locks && decide (parseMethodDescriptor y.desc = some meth.sig)) = true) : (Jvm.Cond.code y bytes mx rt).before a s = true := by
  simp only [Bool.and_eq_true, beq_iff_eq, Bool.not_eq_true', decide_eq_true_eq] at h5
  obtain ⟨⟨⟨⟨⟨g1, g2⟩, g3⟩, g4⟩, g5⟩, g6⟩ := h5
  simp [Cond.before, Cond.holds, Cond.value, h1, h2, h3, h4, g1, g2, g3, g4, g5, g6]
def isCode : Jvm.Cond → Bool
  | .code _ _ _ _ => true
  | _ => false
theorem all_split {L : List Jvm.Cond} {P : Jvm.Cond → Bool} (h1 : L.all (fun c => isCode c || P c) = true) (h2 : ∀ c ∈ L.filter isCode, P c = true) : L.all P = true := by
  refine List.all_eq_true.mpr fun c hc => ?_
  have h := List.all_eq_true.mp h1 c hc
  rcases Bool.eq_false_or_eq_true (isCode c) with hi | hi
  · exact h2 c (List.mem_filter.mpr ⟨hc, hi⟩)
  · simpa [hi] using h
set_option maxRecDepth 65536 in
theorem w_c0 : (Jvm.Cond.code x code maxLocals ret).before args0 about1 = true := code_word (m := ⟨1, 1⟩) (meth := k1m1) (c := k1c1) (by decide +kernel) rfl rfl rfl (by decide +kernel)
set_option maxRecDepth 65536 in
theorem w_c1 : (Jvm.Cond.code ({ cls := "java/lang/Math", name := "max", desc := "(II)I" } : Jvm.MethodName) jdk_29_method_65_code (2 : Nat) (Option.some Jvm.ClassFile.FieldType.int)).before args0 about1 = true := code_word (m := ⟨2, 1⟩) (meth := k2m1) (c := k2c1) (by decide +kernel) rfl rfl rfl (by decide +kernel)
set_option maxRecDepth 65536 in
theorem w_c2 : (Jvm.Cond.code ({ cls := "java/util/ArrayList", name := "<init>", desc := "()V" } : Jvm.MethodName) jdk_38_method_2_code (1 : Nat) (Option.none : Option Jvm.ClassFile.FieldType)).before args0 about1 = true := code_word (m := ⟨12, 0⟩) (meth := k12m0) (c := k12c0) (by decide +kernel) rfl rfl rfl (by decide +kernel)
set_option maxRecDepth 65536 in
theorem w_c3 : (Jvm.Cond.code ({ cls := "java/util/AbstractList", name := "<init>", desc := "()V" } : Jvm.MethodName) jdk_39_method_1_code (1 : Nat) (Option.none : Option Jvm.ClassFile.FieldType)).before args0 about1 = true := code_word (m := ⟨8, 0⟩) (meth := k8m0) (c := k8c0) (by decide +kernel) rfl rfl rfl (by decide +kernel)
set_option maxRecDepth 65536 in
theorem w_c4 : (Jvm.Cond.code ({ cls := "java/util/AbstractCollection", name := "<init>", desc := "()V" } : Jvm.MethodName) jdk_22_method_1_code (1 : Nat) (Option.none : Option Jvm.ClassFile.FieldType)).before args0 about1 = true := code_word (m := ⟨5, 0⟩) (meth := k5m0) (c := k5c0) (by decide +kernel) rfl rfl rfl (by decide +kernel)
set_option maxRecDepth 65536 in
theorem w_c5 : (Jvm.Cond.code ({ cls := "java/lang/Object", name := "<init>", desc := "()V" } : Jvm.MethodName) object_method_1_code (1 : Nat) (Option.none : Option Jvm.ClassFile.FieldType)).before args0 about1 = true := code_word (m := ⟨0, 0⟩) (meth := k0m0) (c := k0c0) (by decide +kernel) rfl rfl rfl (by decide +kernel)
set_option maxRecDepth 65536 in
theorem w_c6 : (Jvm.Cond.code ({ cls := "java/lang/Integer", name := "valueOf", desc := "(I)Ljava/lang/Integer;" } : Jvm.MethodName) jdk_33_method_22_code (1 : Nat) (Option.some (Jvm.ClassFile.FieldType.object "java/lang/Integer"))).before args0 about1 = true := code_word (m := ⟨17, 0⟩) (meth := k17m0) (c := k17c0) (by decide +kernel) rfl rfl rfl (by decide +kernel)
set_option maxRecDepth 65536 in
theorem w_c7 : (Jvm.Cond.code ({ cls := "java/util/ArrayList", name := "add", desc := "(Ljava/lang/Object;)Z" } : Jvm.MethodName) jdk_38_method_25_code (2 : Nat) (Option.some Jvm.ClassFile.FieldType.boolean)).before args0 about1 = true := code_word (m := ⟨12, 8⟩) (meth := k12m8) (c := k12c8) (by decide +kernel) rfl rfl rfl (by decide +kernel)
set_option maxRecDepth 65536 in
theorem w_c8 : (Jvm.Cond.code ({ cls := "java/util/ArrayList", name := "add", desc := "(Ljava/lang/Object;[Ljava/lang/Object;I)V" } : Jvm.MethodName) jdk_38_method_24_code (4 : Nat) (Option.none : Option Jvm.ClassFile.FieldType)).before args0 about1 = true := code_word (m := ⟨12, 7⟩) (meth := k12m7) (c := k12c7) (by decide +kernel) rfl rfl rfl (by decide +kernel)
set_option maxRecDepth 65536 in
theorem w_c9 : (Jvm.Cond.code ({ cls := "java/util/ArrayList", name := "grow", desc := "()[Ljava/lang/Object;" } : Jvm.MethodName) jdk_38_method_7_code (1 : Nat) (Option.some (Jvm.ClassFile.FieldType.array (Jvm.ClassFile.FieldType.object "java/lang/Object")))).before args0 about1 = true := code_word (m := ⟨12, 2⟩) (meth := k12m2) (c := k12c2) (by decide +kernel) rfl rfl rfl (by decide +kernel)
set_option maxRecDepth 65536 in
theorem w_c10 : (Jvm.Cond.code ({ cls := "java/util/ArrayList", name := "grow", desc := "(I)[Ljava/lang/Object;" } : Jvm.MethodName) jdk_38_method_6_code (4 : Nat) (Option.some (Jvm.ClassFile.FieldType.array (Jvm.ClassFile.FieldType.object "java/lang/Object")))).before args0 about1 = true := code_word (m := ⟨12, 1⟩) (meth := k12m1) (c := k12c1) (by decide +kernel) rfl rfl rfl (by decide +kernel)
set_option maxRecDepth 65536 in
theorem w_c11 : (Jvm.Cond.code ({ cls := "java/lang/String", name := "valueOf", desc := "(C)Ljava/lang/String;" } : Jvm.MethodName) jdk_42_method_139_code (1 : Nat) (Option.some (Jvm.ClassFile.FieldType.object "java/lang/String"))).before args0 about1 = true := code_word (m := ⟨20, 1⟩) (meth := k20m1) (c := k20c1) (by decide +kernel) rfl rfl rfl (by decide +kernel)
set_option maxRecDepth 65536 in
theorem w_c12 : (Jvm.Cond.code ({ cls := "java/lang/StringLatin1", name := "canEncode", desc := "(C)Z" } : Jvm.MethodName) jdk_43_method_3_code (1 : Nat) (Option.some Jvm.ClassFile.FieldType.boolean)).before args0 about1 = true := code_word (m := ⟨21, 1⟩) (meth := k21m1) (c := k21c1) (by decide +kernel) rfl rfl rfl (by decide +kernel)
set_option maxRecDepth 65536 in
theorem w_c13 : (Jvm.Cond.code ({ cls := "java/lang/StringLatin1", name := "toBytes", desc := "(C)[B" } : Jvm.MethodName) jdk_43_method_46_code (1 : Nat) (Option.some (Jvm.ClassFile.FieldType.array Jvm.ClassFile.FieldType.byte))).before args0 about1 = true := code_word (m := ⟨21, 2⟩) (meth := k21m2) (c := k21c2) (by decide +kernel) rfl rfl rfl (by decide +kernel)
set_option maxRecDepth 65536 in
theorem w_c14 : (Jvm.Cond.code ({ cls := "java/lang/String", name := "<init>", desc := "([BB)V" } : Jvm.MethodName) jdk_42_method_151_code (3 : Nat) (Option.none : Option Jvm.ClassFile.FieldType)).before args0 about1 = true := code_word (m := ⟨20, 2⟩) (meth := k20m2) (c := k20c2) (by decide +kernel) rfl rfl rfl (by decide +kernel)
set_option maxRecDepth 65536 in
theorem w_c15 : (Jvm.Cond.code ({ cls := "com/example/strict_stock/strictstock/Names", name := "list", desc := "(Ljava/lang/String;Ljava/util/List;I)Ljava/util/List;" } : Jvm.MethodName) prog_12_method_7_code (3 : Nat) (Option.some (Jvm.ClassFile.FieldType.object "java/util/List"))).before args0 about1 = true := code_word (m := ⟨22, 1⟩) (meth := k22m1) (c := k22c1) (by decide +kernel) rfl rfl rfl (by decide +kernel)
set_option maxRecDepth 65536 in
theorem w_c16 : (Jvm.Cond.code ({ cls := "java/util/ArrayList", name := "isEmpty", desc := "()Z" } : Jvm.MethodName) jdk_38_method_9_code (1 : Nat) (Option.some Jvm.ClassFile.FieldType.boolean)).before args0 about1 = true := code_word (m := ⟨12, 4⟩) (meth := k12m4) (c := k12c4) (by decide +kernel) rfl rfl rfl (by decide +kernel)
set_option maxRecDepth 65536 in
theorem w_c17 : (Jvm.Cond.code ({ cls := "java/util/ArrayList", name := "size", desc := "()I" } : Jvm.MethodName) jdk_38_method_8_code (1 : Nat) (Option.some Jvm.ClassFile.FieldType.int)).before args0 about1 = true := code_word (m := ⟨12, 3⟩) (meth := k12m3) (c := k12c3) (by decide +kernel) rfl rfl rfl (by decide +kernel)
set_option maxRecDepth 65536 in
theorem w_c18 : (Jvm.Cond.code ({ cls := "java/util/ArrayList", name := "get", desc := "(I)Ljava/lang/Object;" } : Jvm.MethodName) jdk_38_method_20_code (2 : Nat) (Option.some (Jvm.ClassFile.FieldType.object "java/lang/Object"))).before args0 about1 = true := code_word (m := ⟨12, 6⟩) (meth := k12m6) (c := k12c6) (by decide +kernel) rfl rfl rfl (by decide +kernel)
set_option maxRecDepth 65536 in
theorem w_c19 : (Jvm.Cond.code ({ cls := "java/util/Objects", name := "checkIndex", desc := "(II)I" } : Jvm.MethodName) jdk_31_method_17_code (2 : Nat) (Option.some Jvm.ClassFile.FieldType.int)).before args0 about1 = true := code_word (m := ⟨23, 1⟩) (meth := k23m1) (c := k23c1) (by decide +kernel) rfl rfl rfl (by decide +kernel)
set_option maxRecDepth 65536 in
theorem w_c20 : (Jvm.Cond.code ({ cls := "jdk/internal/util/Preconditions", name := "checkIndex", desc := "(IILjava/util/function/BiFunction;)I" } : Jvm.MethodName) jdk_41_method_11_code (3 : Nat) (Option.some Jvm.ClassFile.FieldType.int)).before args0 about1 = true := code_word (m := ⟨24, 1⟩) (meth := k24m1) (c := k24c1) (by decide +kernel) rfl rfl rfl (by decide +kernel)
set_option maxRecDepth 65536 in
theorem w_c21 : (Jvm.Cond.code ({ cls := "java/util/ArrayList", name := "elementData", desc := "(I)Ljava/lang/Object;" } : Jvm.MethodName) jdk_38_method_18_code (2 : Nat) (Option.some (Jvm.ClassFile.FieldType.object "java/lang/Object"))).before args0 about1 = true := code_word (m := ⟨12, 5⟩) (meth := k12m5) (c := k12c5) (by decide +kernel) rfl rfl rfl (by decide +kernel)
set_option maxRecDepth 65536 in
theorem w_c22 : (Jvm.Cond.code ({ cls := "java/lang/Integer", name := "intValue", desc := "()I" } : Jvm.MethodName) jdk_33_method_27_code (1 : Nat) (Option.some Jvm.ClassFile.FieldType.int)).before args0 about1 = true := code_word (m := ⟨17, 2⟩) (meth := k17m2) (c := k17c2) (by decide +kernel) rfl rfl rfl (by decide +kernel)
set_option maxRecDepth 65536 in
theorem w_c23 : (Jvm.Cond.code ({ cls := "java/lang/Integer", name := "<init>", desc := "(I)V" } : Jvm.MethodName) jdk_33_method_23_code (2 : Nat) (Option.none : Option Jvm.ClassFile.FieldType)).before args0 about1 = true := code_word (m := ⟨17, 1⟩) (meth := k17m1) (c := k17c1) (by decide +kernel) rfl rfl rfl (by decide +kernel)
set_option maxRecDepth 65536 in
theorem w_c24 : (Jvm.Cond.code ({ cls := "java/lang/Number", name := "<init>", desc := "()V" } : Jvm.MethodName) jdk_18_method_1_code (1 : Nat) (Option.none : Option Jvm.ClassFile.FieldType)).before args0 about1 = true := code_word (m := ⟨13, 0⟩) (meth := k13m0) (c := k13c0) (by decide +kernel) rfl rfl rfl (by decide +kernel)
def codes1 : List Jvm.Cond := [Jvm.Cond.code x code maxLocals ret, Jvm.Cond.code ({ cls := "java/lang/Math", name := "max", desc := "(II)I" } : Jvm.MethodName) jdk_29_method_65_code (2 : Nat) (Option.some Jvm.ClassFile.FieldType.int), Jvm.Cond.code ({ cls := "java/util/ArrayList", name := "<init>", desc := "()V" } : Jvm.MethodName) jdk_38_method_2_code (1 : Nat) (Option.none : Option Jvm.ClassFile.FieldType), Jvm.Cond.code ({ cls := "java/util/AbstractList", name := "<init>", desc := "()V" } : Jvm.MethodName) jdk_39_method_1_code (1 : Nat) (Option.none : Option Jvm.ClassFile.FieldType), Jvm.Cond.code ({ cls := "java/util/AbstractCollection", name := "<init>", desc := "()V" } : Jvm.MethodName) jdk_22_method_1_code (1 : Nat) (Option.none : Option Jvm.ClassFile.FieldType), Jvm.Cond.code ({ cls := "java/lang/Object", name := "<init>", desc := "()V" } : Jvm.MethodName) object_method_1_code (1 : Nat) (Option.none : Option Jvm.ClassFile.FieldType), Jvm.Cond.code ({ cls := "java/lang/Integer", name := "valueOf", desc := "(I)Ljava/lang/Integer;" } : Jvm.MethodName) jdk_33_method_22_code (1 : Nat) (Option.some (Jvm.ClassFile.FieldType.object "java/lang/Integer")), Jvm.Cond.code ({ cls := "java/util/ArrayList", name := "add", desc := "(Ljava/lang/Object;)Z" } : Jvm.MethodName) jdk_38_method_25_code (2 : Nat) (Option.some Jvm.ClassFile.FieldType.boolean), Jvm.Cond.code ({ cls := "java/util/ArrayList", name := "add", desc := "(Ljava/lang/Object;[Ljava/lang/Object;I)V" } : Jvm.MethodName) jdk_38_method_24_code (4 : Nat) (Option.none : Option Jvm.ClassFile.FieldType), Jvm.Cond.code ({ cls := "java/util/ArrayList", name := "grow", desc := "()[Ljava/lang/Object;" } : Jvm.MethodName) jdk_38_method_7_code (1 : Nat) (Option.some (Jvm.ClassFile.FieldType.array (Jvm.ClassFile.FieldType.object "java/lang/Object"))), Jvm.Cond.code ({ cls := "java/util/ArrayList", name := "grow", desc := "(I)[Ljava/lang/Object;" } : Jvm.MethodName) jdk_38_method_6_code (4 : Nat) (Option.some (Jvm.ClassFile.FieldType.array (Jvm.ClassFile.FieldType.object "java/lang/Object"))), Jvm.Cond.code ({ cls := "java/lang/String", name := "valueOf", desc := "(C)Ljava/lang/String;" } : Jvm.MethodName) jdk_42_method_139_code (1 : Nat) (Option.some (Jvm.ClassFile.FieldType.object "java/lang/String")), Jvm.Cond.code ({ cls := "java/lang/StringLatin1", name := "canEncode", desc := "(C)Z" } : Jvm.MethodName) jdk_43_method_3_code (1 : Nat) (Option.some Jvm.ClassFile.FieldType.boolean), Jvm.Cond.code ({ cls := "java/lang/StringLatin1", name := "toBytes", desc := "(C)[B" } : Jvm.MethodName) jdk_43_method_46_code (1 : Nat) (Option.some (Jvm.ClassFile.FieldType.array Jvm.ClassFile.FieldType.byte)), Jvm.Cond.code ({ cls := "java/lang/String", name := "<init>", desc := "([BB)V" } : Jvm.MethodName) jdk_42_method_151_code (3 : Nat) (Option.none : Option Jvm.ClassFile.FieldType), Jvm.Cond.code ({ cls := "com/example/strict_stock/strictstock/Names", name := "list", desc := "(Ljava/lang/String;Ljava/util/List;I)Ljava/util/List;" } : Jvm.MethodName) prog_12_method_7_code (3 : Nat) (Option.some (Jvm.ClassFile.FieldType.object "java/util/List")), Jvm.Cond.code ({ cls := "java/util/ArrayList", name := "isEmpty", desc := "()Z" } : Jvm.MethodName) jdk_38_method_9_code (1 : Nat) (Option.some Jvm.ClassFile.FieldType.boolean), Jvm.Cond.code ({ cls := "java/util/ArrayList", name := "size", desc := "()I" } : Jvm.MethodName) jdk_38_method_8_code (1 : Nat) (Option.some Jvm.ClassFile.FieldType.int), Jvm.Cond.code ({ cls := "java/util/ArrayList", name := "get", desc := "(I)Ljava/lang/Object;" } : Jvm.MethodName) jdk_38_method_20_code (2 : Nat) (Option.some (Jvm.ClassFile.FieldType.object "java/lang/Object")), Jvm.Cond.code ({ cls := "java/util/Objects", name := "checkIndex", desc := "(II)I" } : Jvm.MethodName) jdk_31_method_17_code (2 : Nat) (Option.some Jvm.ClassFile.FieldType.int), Jvm.Cond.code ({ cls := "jdk/internal/util/Preconditions", name := "checkIndex", desc := "(IILjava/util/function/BiFunction;)I" } : Jvm.MethodName) jdk_41_method_11_code (3 : Nat) (Option.some Jvm.ClassFile.FieldType.int), Jvm.Cond.code ({ cls := "java/util/ArrayList", name := "elementData", desc := "(I)Ljava/lang/Object;" } : Jvm.MethodName) jdk_38_method_18_code (2 : Nat) (Option.some (Jvm.ClassFile.FieldType.object "java/lang/Object")), Jvm.Cond.code ({ cls := "java/lang/Integer", name := "intValue", desc := "()I" } : Jvm.MethodName) jdk_33_method_27_code (1 : Nat) (Option.some Jvm.ClassFile.FieldType.int), Jvm.Cond.code ({ cls := "java/lang/Integer", name := "<init>", desc := "(I)V" } : Jvm.MethodName) jdk_33_method_23_code (2 : Nat) (Option.none : Option Jvm.ClassFile.FieldType), Jvm.Cond.code ({ cls := "java/lang/Number", name := "<init>", desc := "()V" } : Jvm.MethodName) jdk_18_method_1_code (1 : Nat) (Option.none : Option Jvm.ClassFile.FieldType)]
set_option maxRecDepth 65536 in
theorem codes_eq : words1.filter isCode = codes1 := rfl
theorem w_codes : ∀ c ∈ words1.filter isCode, c.before args0 about1 = true := by
  rw [codes_eq]
  intro c hc
  simp only [codes1, List.mem_cons, List.not_mem_nil, or_false] at hc
  rcases hc with rfl | rfl | rfl | rfl | rfl | rfl | rfl | rfl | rfl | rfl | rfl | rfl | rfl | rfl | rfl | rfl | rfl | rfl | rfl | rfl | rfl | rfl | rfl | rfl | rfl
  · exact w_c0
  · exact w_c1
  · exact w_c2
  · exact w_c3
  · exact w_c4
  · exact w_c5
  · exact w_c6
  · exact w_c7
  · exact w_c8
  · exact w_c9
  · exact w_c10
  · exact w_c11
  · exact w_c12
  · exact w_c13
  · exact w_c14
  · exact w_c15
  · exact w_c16
  · exact w_c17
  · exact w_c18
  · exact w_c19
  · exact w_c20
  · exact w_c21
  · exact w_c22
  · exact w_c23
  · exact w_c24
set_option maxRecDepth 65536 in
theorem w_t1 : (words1.take 24).all (fun c => isCode c || c.before args0 about1) = true := by decide +kernel
set_option maxRecDepth 65536 in
theorem w_t2 : ((words1.drop 24).take 24).all (fun c => isCode c || c.before args0 about1) = true := by decide +kernel
set_option maxRecDepth 65536 in
theorem w_t3 : (((words1.drop 24).drop 24).take 24).all (fun c => isCode c || c.before args0 about1) = true := by decide +kernel
set_option maxRecDepth 65536 in
theorem w_t4 : ((((words1.drop 24).drop 24).drop 24).take 24).all (fun c => isCode c || c.before args0 about1) = true := by decide +kernel
set_option maxRecDepth 65536 in
theorem w_t5 : (((((words1.drop 24).drop 24).drop 24).drop 24).take 24).all (fun c => isCode c || c.before args0 about1) = true := by decide +kernel
set_option maxRecDepth 65536 in
theorem w_t6 : ((((((words1.drop 24).drop 24).drop 24).drop 24).drop 24).take 24).all (fun c => isCode c || c.before args0 about1) = true := by decide +kernel
set_option maxRecDepth 65536 in
theorem w_t7 : ((((((words1.drop 24).drop 24).drop 24).drop 24).drop 24).drop 24).all (fun c => isCode c || c.before args0 about1) = true := by decide +kernel
theorem w_tables : (allAtoms (Jvm.Cond.code x code maxLocals ret :: tables_1)).before args0 about1 = true := by
  rw [allAtoms_all]
  show words1.all (fun c => c.before args0 about1) = true
  refine all_split ?_ w_codes
  rw [← List.take_append_drop 24 words1, List.all_append, w_t1, ← List.take_append_drop 24 (words1.drop 24), List.all_append, w_t2, ← List.take_append_drop 24 ((words1.drop 24).drop 24), List.all_append, w_t3, ← List.take_append_drop 24 (((words1.drop 24).drop 24).drop 24), List.all_append, w_t4, ← List.take_append_drop 24 ((((words1.drop 24).drop 24).drop 24).drop 24), List.all_append, w_t5, ← List.take_append_drop 24 (((((words1.drop 24).drop 24).drop 24).drop 24).drop 24), List.all_append, w_t6, w_t7]
  rfl
set_option maxRecDepth 65536 in
theorem w_rest : rest_1_c.before args0 about1 = true := by decide +kernel
set_option maxRecDepth 65536 in
theorem w_case : (Jvm.Cond.and given_1 narrow_1).before args0 about1 = true := by decide +kernel
theorem w_applies : (headSpec (Jvm.Cond.code x code maxLocals ret :: tables_1) room_1).applies x e0.platform about1 = true :=
  (Spec.applies_iff w_frames).mpr ⟨w_running, w_runnable, w_alone, w_named, w_hears, w_ripe, w_room, w_tables⟩
theorem atStart : AtStart classFile x code maxLocals ret World_1 tables_1 room_1 Calls_1 rest_1 Pre_1 launch0 p0 e0 about1 theMethod args0 below0 :=
  ⟨lists_1, trivial, launch0.admits_env _ _ _, launch0.least_env, fairChoices_fair.cas, fairChoices_fair.clock, w_frames, w_args, w_heap, w_applies, trivial, w_rest, w_case⟩
end start1
theorem witness_1 : WitnessClaimed_1 := ⟨start1.p0, start1.e0, start1.about1, start1.theMethod, start1.args0, start1.below0, start1.atStart⟩
end Jvm.Pilot.@@N@@
