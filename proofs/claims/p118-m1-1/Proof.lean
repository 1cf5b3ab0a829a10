import JvmDerived
import JvmDerived.Pilot.@@N@@Statement
import JvmDerived.Pilot.@@N@@Code
set_option linter.unusedVariables false
set_option linter.unusedSimpArgs false
namespace Jvm.RoadKit
open Sem ClassFile Op Lib Jvm.Stand Jvm.Free Jvm.LawKit
section Own
variable {p : Program} {l : Launch} {e : Env} {R : Room} {s : State} {m : MethodId} {args : Array Value} {below : List Frame} {meth : Method} {c : Code} {T T' : State} {locs : List Loc} {cells slots : Nat} {g g' : JFrame} {Qf : Option Value → Heap → List Loc → Prop} {C S : Nat} {Z : State} {a0 : Array Value} {h : Heap} {pc n : Nat} {Ls : Array Slot} {sk : List Value}
theorem nz {a b : Addr} (h : ¬ @Eq Nat a b) : a ≠ b := h
theorem ny {a b : Nat} (h : a < b) : a < b := h
theorem nx {a b : Nat} (h : a = b) : a = b := h
theorem nw {a b : Nat} (h : ¬ a = b) : ¬ a = b := h
theorem retI (X : Stand p l e R s m args below meth c T locs cells slots) (hx : p.tables.exec = Jvm.exec) {z : Int32} {rest : List Value} (hret : meth.sig.returnType = some .int) (hd : decode c.code pc = .ok (.ireturn, 1)) {fs : List Frame}
    (hl : ∀ (f : JFrame) (acts : List Action), f.method = m → f.locked = none → f.entered = [] → (doReturn e (T.setTop f) acts (some (.int z))).1 = T.setFrames fs) : Steps p.tables e below (T.setTop (mkF m pc Ls (.int z :: rest))) (T.setFrames fs) := by
  have hm' : T.vm.method? m = some meth := X.method'
  have hn : narrow .int (.int z) = .int z := rfl
  show Steps p.tables e below (T.setTop { method := m, pc := pc, locals := Ls, stack := _ :: rest, locked := none }) _
  jvm_step X.here [X.here.top, hx, hd, hm', hret, hn]
  first | (intro acts; rw [hl _ acts rfl rfl rfl]) | rw [hl _ _ rfl rfl rfl]
  exact Steps.refl _
theorem retL (X : Stand p l e R s m args below meth c T locs cells slots) (hx : p.tables.exec = Jvm.exec) {z : Int64} {rest : List Value} (hret : meth.sig.returnType = some .long) (hd : decode c.code pc = .ok (.lreturn, 1)) {fs : List Frame}
    (hl : ∀ (f : JFrame) (acts : List Action), f.method = m → f.locked = none → f.entered = [] → (doReturn e (T.setTop f) acts (some (.long z))).1 = T.setFrames fs) : Steps p.tables e below (T.setTop (mkF m pc Ls (.long z :: rest))) (T.setFrames fs) := by
  have hm' : T.vm.method? m = some meth := X.method'
  show Steps p.tables e below (T.setTop { method := m, pc := pc, locals := Ls, stack := _ :: rest, locked := none }) _
  jvm_step X.here [X.here.top, hx, hd, hm', hret, narrow]
  first | (intro acts; rw [hl _ acts rfl rfl rfl]) | rw [hl _ _ rfl rfl rfl]
  exact Steps.refl _
theorem retA (X : Stand p l e R s m args below meth c T locs cells slots) (hx : p.tables.exec = Jvm.exec) {z : Value} {t : FieldType} {rest : List Value} (hz : z.isRef = true) (hret : meth.sig.returnType = some t) (ht : t.isReference = true) (hd : decode c.code pc = .ok (.areturn, 1)) {fs : List Frame}
    (hl : ∀ (f : JFrame) (acts : List Action), f.method = m → f.locked = none → f.entered = [] → (doReturn e (T.setTop f) acts (some z)).1 = T.setFrames fs) : Steps p.tables e below (T.setTop (mkF m pc Ls (z :: rest))) (T.setFrames fs) := by
  have hm' : T.vm.method? m = some meth := X.method'
  show Steps p.tables e below (T.setTop { method := m, pc := pc, locals := Ls, stack := _ :: rest, locked := none }) _
  jvm_step X.here [X.here.top, hx, hd, hm', hret, hz, ht]
  first | (intro acts; rw [hl _ acts rfl rfl rfl]) | rw [hl _ _ rfl rfl rfl]
  exact Steps.refl _
theorem retNz (X : Stand p l e R s m args below meth c T locs cells slots) (hx : p.tables.exec = Jvm.exec) {z z' : Int32} {t : FieldType} {rest : List Value} (hz : nar t z = z') (hret : meth.sig.returnType = some t) (ht : t = .boolean ∨ t = .byte ∨ t = .char ∨ t = .short)
    (hd : decode c.code pc = .ok (.ireturn, 1)) {fs : List Frame} (hl : ∀ (f : JFrame) (acts : List Action), f.method = m → f.locked = none → f.entered = [] → (doReturn e (T.setTop f) acts (some (.int z'))).1 = T.setFrames fs) :
    Steps p.tables e below (T.setTop (mkF m pc Ls (.int z :: rest))) (T.setFrames fs) := by
  subst hz
  exact retN X hx hret ht hd hl
/-- from here the body comes back, with what Qf says of the value, the heap and the places written -/
def Wk (p : Program) (e : Env) (below : List Frame) (s : State) (Qf : Option Value → Heap → List Loc → Prop) (C S : Nat) (T : State) (g : JFrame) : Prop :=
  ∃ s₂ o, Steps p.tables e below (T.setTop g) s₂ ∧ s₂.status = .running ∧ Ended s₂ below o ∧ ∃ v L, o = .returned v ∧ Qf v s₂.heap L ∧ FrameEnd s o s₂ L C S
theorem Wk.go (k : ∀ t, Steps p.tables e below (T'.setTop g') t → Steps p.tables e below (T.setTop g) t) (w : Wk p e below s Qf C S T' g') : Wk p e below s Qf C S T g := by
  obtain ⟨s₂, o, a, r⟩ := w
  exact ⟨s₂, o, k _ a, r⟩
theorem Wk.leave (X : Stand p l e R s m args below meth c T locs cells slots) {v : Option Value} (hv : meth.sig.returnType = none → v = none) (hlocks : meth.locks = false) (eT : T.heap = h) (hQ : Qf v h locs) (hC : cells ≤ C) (hS : slots ≤ S)
    (k : ∀ fs, (∀ (f : JFrame) (acts : List Action), f.method = m → f.locked = none → f.entered = [] → (doReturn e (T.setTop f) acts v).1 = T.setFrames fs) → Steps p.tables e below (T.setTop g) (T.setFrames fs)) : Wk p e below s Qf C S T g := by
  obtain ⟨fs, hr, hrun, hended, hW, hsame⟩ := X.leave hv hlocks
  subst eT
  exact ⟨_, _, k fs hr, hrun, hended, _, _, rfl, hQ, ⟨_, rfl⟩, hW, hsame.mono hC hS⟩
theorem Wk.aloadN (X : Stand p l e R s m args below meth c T locs cells slots) (hx : p.tables.exec = Jvm.exec) {k : Fin 4} {v : Value} (hd : decode c.code pc = .ok (.aload_n k, 1)) (hp : pc + 1 = n) (hl : Ls[k.val]? = some (.val v)) (hv : v.isRef = true) (w : Wk p e below s Qf C S T (mkF m n Ls (v :: sk))) : Wk p e below s Qf C S T (mkF m pc Ls sk) := by
  subst hp
  exact Wk.go (fun _ k => XS.aloadN X.here hx rfl hd hl hv k) w
theorem Wk.iloadN (X : Stand p l e R s m args below meth c T locs cells slots) (hx : p.tables.exec = Jvm.exec) {k : Fin 4} {v : Int32} (hd : decode c.code pc = .ok (.iload_n k, 1)) (hp : pc + 1 = n) (hl : Ls[k.val]? = some (.val (.int v))) (w : Wk p e below s Qf C S T (mkF m n Ls (.int v :: sk))) : Wk p e below s Qf C S T (mkF m pc Ls sk) := by
  subst hp
  exact Wk.go (fun _ k => XS.iloadN X.here hx rfl hd hl k) w
theorem Wk.lloadN (X : Stand p l e R s m args below meth c T locs cells slots) (hx : p.tables.exec = Jvm.exec) {k : Fin 4} {v : Int64} (hd : decode c.code pc = .ok (.lload_n k, 1)) (hp : pc + 1 = n) (hl : Ls[k.val]? = some (.val (.long v))) (w : Wk p e below s Qf C S T (mkF m n Ls (.long v :: sk))) : Wk p e below s Qf C S T (mkF m pc Ls sk) := by
  subst hp
  exact Wk.go (fun _ k => XS.lloadN X.here hx rfl hd hl k) w
theorem Wk.istoreN (X : Stand p l e R s m args below meth c T locs cells slots) (hx : p.tables.exec = Jvm.exec) {k : Fin 4} {v : Int32} {L' : Array Slot} (hd : decode c.code pc = .ok (.istore_n k, 1)) (hp : pc + 1 = n) (hl : storeLocals Ls k.val (.int v) = some L') (w : Wk p e below s Qf C S T (mkF m n L' sk)) : Wk p e below s Qf C S T (mkF m pc Ls (.int v :: sk)) := by
  subst hp
  exact Wk.go (fun _ k => XS.istoreN X.here hx rfl hd rfl hl k) w
theorem Wk.lstoreN (X : Stand p l e R s m args below meth c T locs cells slots) (hx : p.tables.exec = Jvm.exec) {k : Fin 4} {v : Int64} {L' : Array Slot} (hd : decode c.code pc = .ok (.lstore_n k, 1)) (hp : pc + 1 = n) (hl : storeLocals Ls k.val (.long v) = some L') (w : Wk p e below s Qf C S T (mkF m n L' sk)) : Wk p e below s Qf C S T (mkF m pc Ls (.long v :: sk)) := by
  subst hp
  exact Wk.go (fun _ k => XS.lstoreN X.here hx rfl hd rfl hl k) w
theorem Wk.astoreN (X : Stand p l e R s m args below meth c T locs cells slots) (hx : p.tables.exec = Jvm.exec) {k : Fin 4} {v : Value} {L' : Array Slot} (hd : decode c.code pc = .ok (.astore_n k, 1)) (hp : pc + 1 = n) (hv : v.isRef = true) (hl : storeLocals Ls k.val v = some L') (w : Wk p e below s Qf C S T (mkF m n L' sk)) : Wk p e below s Qf C S T (mkF m pc Ls (v :: sk)) := by
  subst hp
  exact Wk.go (fun _ k => XS.astoreN X.here hx rfl hd rfl hv hl k) w
theorem Wk.aload (X : Stand p l e R s m args below meth c T locs cells slots) (hx : p.tables.exec = Jvm.exec) {k : Nat} {v : Value} (hd : decode c.code pc = .ok (.aload k, 2)) (hp : pc + 2 = n) (hl : Ls[k]? = some (.val v)) (hv : v.isRef = true) (w : Wk p e below s Qf C S T (mkF m n Ls (v :: sk))) : Wk p e below s Qf C S T (mkF m pc Ls sk) := by
  subst hp
  exact Wk.go (fun _ k => XS.aload X.here hx rfl hd hl hv k) w
theorem Wk.iload (X : Stand p l e R s m args below meth c T locs cells slots) (hx : p.tables.exec = Jvm.exec) {k : Nat} {v : Int32} (hd : decode c.code pc = .ok (.iload k, 2)) (hp : pc + 2 = n) (hl : Ls[k]? = some (.val (.int v))) (w : Wk p e below s Qf C S T (mkF m n Ls (.int v :: sk))) : Wk p e below s Qf C S T (mkF m pc Ls sk) := by
  subst hp
  exact Wk.go (fun _ k => XS.iload X.here hx rfl hd hl k) w
theorem Wk.lload (X : Stand p l e R s m args below meth c T locs cells slots) (hx : p.tables.exec = Jvm.exec) {k : Nat} {v : Int64} (hd : decode c.code pc = .ok (.lload k, 2)) (hp : pc + 2 = n) (hl : Ls[k]? = some (.val (.long v))) (w : Wk p e below s Qf C S T (mkF m n Ls (.long v :: sk))) : Wk p e below s Qf C S T (mkF m pc Ls sk) := by
  subst hp
  exact Wk.go (fun _ k => XS.lload X.here hx rfl hd hl k) w
theorem Wk.istore (X : Stand p l e R s m args below meth c T locs cells slots) (hx : p.tables.exec = Jvm.exec) {k : Nat} {v : Int32} {L' : Array Slot} (hd : decode c.code pc = .ok (.istore k, 2)) (hp : pc + 2 = n) (hl : storeLocals Ls k (.int v) = some L') (w : Wk p e below s Qf C S T (mkF m n L' sk)) : Wk p e below s Qf C S T (mkF m pc Ls (.int v :: sk)) := by
  subst hp
  exact Wk.go (fun _ k => XS.istore X.here hx rfl hd rfl hl k) w
theorem Wk.lstore (X : Stand p l e R s m args below meth c T locs cells slots) (hx : p.tables.exec = Jvm.exec) {k : Nat} {v : Int64} {L' : Array Slot} (hd : decode c.code pc = .ok (.lstore k, 2)) (hp : pc + 2 = n) (hl : storeLocals Ls k (.long v) = some L') (w : Wk p e below s Qf C S T (mkF m n L' sk)) : Wk p e below s Qf C S T (mkF m pc Ls (.long v :: sk)) := by
  subst hp
  exact Wk.go (fun _ k => XS.lstore X.here hx rfl hd rfl hl k) w
theorem Wk.astore (X : Stand p l e R s m args below meth c T locs cells slots) (hx : p.tables.exec = Jvm.exec) {k : Nat} {v : Value} {L' : Array Slot} (hd : decode c.code pc = .ok (.astore k, 2)) (hp : pc + 2 = n) (hv : v.isRef = true) (hl : storeLocals Ls k v = some L') (w : Wk p e below s Qf C S T (mkF m n L' sk)) : Wk p e below s Qf C S T (mkF m pc Ls (v :: sk)) := by
  subst hp
  exact Wk.go (fun _ k => XS.astore X.here hx rfl hd rfl hv hl k) w
theorem Wk.iconst (X : Stand p l e R s m args below meth c T locs cells slots) (hx : p.tables.exec = Jvm.exec) {i : Int} {z : Int32} (hd : decode c.code pc = .ok (.iconst i, 1)) (hp : pc + 1 = n) (hz : Int32.ofInt i = z) (w : Wk p e below s Qf C S T (mkF m n Ls (.int z :: sk))) : Wk p e below s Qf C S T (mkF m pc Ls sk) := by
  subst hp; subst hz
  exact Wk.go (fun _ k => XS.iconst X.here hx rfl hd  k) w
theorem Wk.bipush (X : Stand p l e R s m args below meth c T locs cells slots) (hx : p.tables.exec = Jvm.exec) {i : Int} {z : Int32} (hd : decode c.code pc = .ok (.bipush i, 2)) (hp : pc + 2 = n) (hz : (Int8.ofInt i).toInt32 = z) (w : Wk p e below s Qf C S T (mkF m n Ls (.int z :: sk))) : Wk p e below s Qf C S T (mkF m pc Ls sk) := by
  subst hp; subst hz
  exact Wk.go (fun _ k => XS.bipush X.here hx rfl hd  k) w
theorem Wk.sipush (X : Stand p l e R s m args below meth c T locs cells slots) (hx : p.tables.exec = Jvm.exec) {i : Int} {z : Int32} (hd : decode c.code pc = .ok (.sipush i, 3)) (hp : pc + 3 = n) (hz : (Int16.ofInt i).toInt32 = z) (w : Wk p e below s Qf C S T (mkF m n Ls (.int z :: sk))) : Wk p e below s Qf C S T (mkF m pc Ls sk) := by
  subst hp; subst hz
  exact Wk.go (fun _ k => XS.sipush X.here hx rfl hd  k) w
theorem Wk.lconst (X : Stand p l e R s m args below meth c T locs cells slots) (hx : p.tables.exec = Jvm.exec) {k : Fin 2} {z : Int64} (hd : decode c.code pc = .ok (.lconst k, 1)) (hp : pc + 1 = n) (hz : Int64.ofNat k = z) (w : Wk p e below s Qf C S T (mkF m n Ls (.long z :: sk))) : Wk p e below s Qf C S T (mkF m pc Ls sk) := by
  subst hp; subst hz
  exact Wk.go (fun _ k => XS.lconst X.here hx rfl hd  k) w
theorem Wk.aconstNull (X : Stand p l e R s m args below meth c T locs cells slots) (hx : p.tables.exec = Jvm.exec)  (hd : decode c.code pc = .ok (.aconst_null, 1)) (hp : pc + 1 = n)  (w : Wk p e below s Qf C S T (mkF m n Ls (.null :: sk))) : Wk p e below s Qf C S T (mkF m pc Ls sk) := by
  subst hp
  exact Wk.go (fun _ k => XS.aconstNull X.here hx rfl hd  k) w
theorem Wk.iadd (X : Stand p l e R s m args below meth c T locs cells slots) (hx : p.tables.exec = Jvm.exec) {x y : Int32} (hd : decode c.code pc = .ok (.iadd, 1)) (hp : pc + 1 = n)  (w : Wk p e below s Qf C S T (mkF m n Ls (.int (x + y) :: sk))) : Wk p e below s Qf C S T (mkF m pc Ls (.int y :: .int x :: sk)) := by
  subst hp
  exact Wk.go (fun _ k => XS.iadd X.here hx rfl hd rfl k) w
theorem Wk.ladd (X : Stand p l e R s m args below meth c T locs cells slots) (hx : p.tables.exec = Jvm.exec) {x y : Int64} (hd : decode c.code pc = .ok (.ladd, 1)) (hp : pc + 1 = n)  (w : Wk p e below s Qf C S T (mkF m n Ls (.long (x + y) :: sk))) : Wk p e below s Qf C S T (mkF m pc Ls (.long y :: .long x :: sk)) := by
  subst hp
  exact Wk.go (fun _ k => XS.ladd X.here hx rfl hd rfl k) w
theorem Wk.isub (X : Stand p l e R s m args below meth c T locs cells slots) (hx : p.tables.exec = Jvm.exec) {x y : Int32} (hd : decode c.code pc = .ok (.isub, 1)) (hp : pc + 1 = n)  (w : Wk p e below s Qf C S T (mkF m n Ls (.int (x - y) :: sk))) : Wk p e below s Qf C S T (mkF m pc Ls (.int y :: .int x :: sk)) := by
  subst hp
  exact Wk.go (fun _ k => XS.isub X.here hx rfl hd rfl k) w
theorem Wk.lsub (X : Stand p l e R s m args below meth c T locs cells slots) (hx : p.tables.exec = Jvm.exec) {x y : Int64} (hd : decode c.code pc = .ok (.lsub, 1)) (hp : pc + 1 = n)  (w : Wk p e below s Qf C S T (mkF m n Ls (.long (x - y) :: sk))) : Wk p e below s Qf C S T (mkF m pc Ls (.long y :: .long x :: sk)) := by
  subst hp
  exact Wk.go (fun _ k => XS.lsub X.here hx rfl hd rfl k) w
theorem Wk.imul (X : Stand p l e R s m args below meth c T locs cells slots) (hx : p.tables.exec = Jvm.exec) {x y : Int32} (hd : decode c.code pc = .ok (.imul, 1)) (hp : pc + 1 = n)  (w : Wk p e below s Qf C S T (mkF m n Ls (.int (x * y) :: sk))) : Wk p e below s Qf C S T (mkF m pc Ls (.int y :: .int x :: sk)) := by
  subst hp
  exact Wk.go (fun _ k => XS.imul X.here hx rfl hd rfl k) w
theorem Wk.lmul (X : Stand p l e R s m args below meth c T locs cells slots) (hx : p.tables.exec = Jvm.exec) {x y : Int64} (hd : decode c.code pc = .ok (.lmul, 1)) (hp : pc + 1 = n)  (w : Wk p e below s Qf C S T (mkF m n Ls (.long (x * y) :: sk))) : Wk p e below s Qf C S T (mkF m pc Ls (.long y :: .long x :: sk)) := by
  subst hp
  exact Wk.go (fun _ k => XS.lmul X.here hx rfl hd rfl k) w
theorem Wk.iand (X : Stand p l e R s m args below meth c T locs cells slots) (hx : p.tables.exec = Jvm.exec) {x y : Int32} (hd : decode c.code pc = .ok (.iand, 1)) (hp : pc + 1 = n)  (w : Wk p e below s Qf C S T (mkF m n Ls (.int (x &&& y) :: sk))) : Wk p e below s Qf C S T (mkF m pc Ls (.int y :: .int x :: sk)) := by
  subst hp
  exact Wk.go (fun _ k => XS.iand X.here hx rfl hd rfl k) w
theorem Wk.land (X : Stand p l e R s m args below meth c T locs cells slots) (hx : p.tables.exec = Jvm.exec) {x y : Int64} (hd : decode c.code pc = .ok (.land, 1)) (hp : pc + 1 = n)  (w : Wk p e below s Qf C S T (mkF m n Ls (.long (x &&& y) :: sk))) : Wk p e below s Qf C S T (mkF m pc Ls (.long y :: .long x :: sk)) := by
  subst hp
  exact Wk.go (fun _ k => XS.land X.here hx rfl hd rfl k) w
theorem Wk.ior (X : Stand p l e R s m args below meth c T locs cells slots) (hx : p.tables.exec = Jvm.exec) {x y : Int32} (hd : decode c.code pc = .ok (.ior, 1)) (hp : pc + 1 = n)  (w : Wk p e below s Qf C S T (mkF m n Ls (.int (x ||| y) :: sk))) : Wk p e below s Qf C S T (mkF m pc Ls (.int y :: .int x :: sk)) := by
  subst hp
  exact Wk.go (fun _ k => XS.ior X.here hx rfl hd rfl k) w
theorem Wk.lor (X : Stand p l e R s m args below meth c T locs cells slots) (hx : p.tables.exec = Jvm.exec) {x y : Int64} (hd : decode c.code pc = .ok (.lor, 1)) (hp : pc + 1 = n)  (w : Wk p e below s Qf C S T (mkF m n Ls (.long (x ||| y) :: sk))) : Wk p e below s Qf C S T (mkF m pc Ls (.long y :: .long x :: sk)) := by
  subst hp
  exact Wk.go (fun _ k => XS.lor X.here hx rfl hd rfl k) w
theorem Wk.ixor (X : Stand p l e R s m args below meth c T locs cells slots) (hx : p.tables.exec = Jvm.exec) {x y : Int32} (hd : decode c.code pc = .ok (.ixor, 1)) (hp : pc + 1 = n)  (w : Wk p e below s Qf C S T (mkF m n Ls (.int (x ^^^ y) :: sk))) : Wk p e below s Qf C S T (mkF m pc Ls (.int y :: .int x :: sk)) := by
  subst hp
  exact Wk.go (fun _ k => XS.ixor X.here hx rfl hd rfl k) w
theorem Wk.lxor (X : Stand p l e R s m args below meth c T locs cells slots) (hx : p.tables.exec = Jvm.exec) {x y : Int64} (hd : decode c.code pc = .ok (.lxor, 1)) (hp : pc + 1 = n)  (w : Wk p e below s Qf C S T (mkF m n Ls (.long (x ^^^ y) :: sk))) : Wk p e below s Qf C S T (mkF m pc Ls (.long y :: .long x :: sk)) := by
  subst hp
  exact Wk.go (fun _ k => XS.lxor X.here hx rfl hd rfl k) w
theorem Wk.ineg (X : Stand p l e R s m args below meth c T locs cells slots) (hx : p.tables.exec = Jvm.exec) {x : Int32} (hd : decode c.code pc = .ok (.ineg, 1)) (hp : pc + 1 = n)  (w : Wk p e below s Qf C S T (mkF m n Ls (.int (-x) :: sk))) : Wk p e below s Qf C S T (mkF m pc Ls (.int x :: sk)) := by
  subst hp
  exact Wk.go (fun _ k => XS.ineg X.here hx rfl hd rfl k) w
theorem Wk.lneg (X : Stand p l e R s m args below meth c T locs cells slots) (hx : p.tables.exec = Jvm.exec) {x : Int64} (hd : decode c.code pc = .ok (.lneg, 1)) (hp : pc + 1 = n)  (w : Wk p e below s Qf C S T (mkF m n Ls (.long (-x) :: sk))) : Wk p e below s Qf C S T (mkF m pc Ls (.long x :: sk)) := by
  subst hp
  exact Wk.go (fun _ k => XS.lneg X.here hx rfl hd rfl k) w
theorem Wk.i2l (X : Stand p l e R s m args below meth c T locs cells slots) (hx : p.tables.exec = Jvm.exec) {x : Int32} (hd : decode c.code pc = .ok (.i2l, 1)) (hp : pc + 1 = n)  (w : Wk p e below s Qf C S T (mkF m n Ls (.long (x.toInt64) :: sk))) : Wk p e below s Qf C S T (mkF m pc Ls (.int x :: sk)) := by
  subst hp
  exact Wk.go (fun _ k => XS.i2l X.here hx rfl hd rfl k) w
theorem Wk.l2i (X : Stand p l e R s m args below meth c T locs cells slots) (hx : p.tables.exec = Jvm.exec) {x : Int64} (hd : decode c.code pc = .ok (.l2i, 1)) (hp : pc + 1 = n)  (w : Wk p e below s Qf C S T (mkF m n Ls (.int (x.toInt32) :: sk))) : Wk p e below s Qf C S T (mkF m pc Ls (.long x :: sk)) := by
  subst hp
  exact Wk.go (fun _ k => XS.l2i X.here hx rfl hd rfl k) w
theorem Wk.i2b (X : Stand p l e R s m args below meth c T locs cells slots) (hx : p.tables.exec = Jvm.exec) {x : Int32} (hd : decode c.code pc = .ok (.i2b, 1)) (hp : pc + 1 = n)  (w : Wk p e below s Qf C S T (mkF m n Ls (.int (x.toInt8.toInt32) :: sk))) : Wk p e below s Qf C S T (mkF m pc Ls (.int x :: sk)) := by
  subst hp
  exact Wk.go (fun _ k => XS.i2b X.here hx rfl hd rfl k) w
theorem Wk.i2s (X : Stand p l e R s m args below meth c T locs cells slots) (hx : p.tables.exec = Jvm.exec) {x : Int32} (hd : decode c.code pc = .ok (.i2s, 1)) (hp : pc + 1 = n)  (w : Wk p e below s Qf C S T (mkF m n Ls (.int (x.toInt16.toInt32) :: sk))) : Wk p e below s Qf C S T (mkF m pc Ls (.int x :: sk)) := by
  subst hp
  exact Wk.go (fun _ k => XS.i2s X.here hx rfl hd rfl k) w
theorem Wk.i2c (X : Stand p l e R s m args below meth c T locs cells slots) (hx : p.tables.exec = Jvm.exec) {x z : Int32} (hd : decode c.code pc = .ok (.i2c, 1)) (hp : pc + 1 = n) (hz : x.toUInt32.toUInt16.toUInt32.toInt32 = z) (w : Wk p e below s Qf C S T (mkF m n Ls (.int z :: sk))) : Wk p e below s Qf C S T (mkF m pc Ls (.int x :: sk)) := by
  subst hp; subst hz
  exact Wk.go (fun _ k => XS.i2c X.here hx rfl hd rfl k) w
theorem Wk.ishl (X : Stand p l e R s m args below meth c T locs cells slots) (hx : p.tables.exec = Jvm.exec) {x y : Int32} (hd : decode c.code pc = .ok (.ishl, 1)) (hp : pc + 1 = n)  (w : Wk p e below s Qf C S T (mkF m n Ls (.int (x <<< (y &&& 31)) :: sk))) : Wk p e below s Qf C S T (mkF m pc Ls (.int y :: .int x :: sk)) := by
  subst hp
  exact Wk.go (fun _ k => XS.ishl X.here hx rfl hd rfl k) w
theorem Wk.ishr (X : Stand p l e R s m args below meth c T locs cells slots) (hx : p.tables.exec = Jvm.exec) {x y : Int32} (hd : decode c.code pc = .ok (.ishr, 1)) (hp : pc + 1 = n)  (w : Wk p e below s Qf C S T (mkF m n Ls (.int (x >>> (y &&& 31)) :: sk))) : Wk p e below s Qf C S T (mkF m pc Ls (.int y :: .int x :: sk)) := by
  subst hp
  exact Wk.go (fun _ k => XS.ishr X.here hx rfl hd rfl k) w
theorem Wk.iushr (X : Stand p l e R s m args below meth c T locs cells slots) (hx : p.tables.exec = Jvm.exec) {x y : Int32} (hd : decode c.code pc = .ok (.iushr, 1)) (hp : pc + 1 = n)  (w : Wk p e below s Qf C S T (mkF m n Ls (.int ((x.toUInt32 >>> (y &&& 31).toUInt32).toInt32) :: sk))) : Wk p e below s Qf C S T (mkF m pc Ls (.int y :: .int x :: sk)) := by
  subst hp
  exact Wk.go (fun _ k => XS.iushr X.here hx rfl hd rfl k) w
theorem Wk.lshl (X : Stand p l e R s m args below meth c T locs cells slots) (hx : p.tables.exec = Jvm.exec) {x z : Int64} {y : Int32} (hd : decode c.code pc = .ok (.lshl, 1)) (hp : pc + 1 = n) (hz : (x <<< (y &&& 63).toInt64) = z) (w : Wk p e below s Qf C S T (mkF m n Ls (.long z :: sk))) : Wk p e below s Qf C S T (mkF m pc Ls (.int y :: .long x :: sk)) := by
  subst hp; subst hz
  exact Wk.go (fun _ k => XS.lshl X.here hx rfl hd rfl k) w
theorem Wk.lshr (X : Stand p l e R s m args below meth c T locs cells slots) (hx : p.tables.exec = Jvm.exec) {x z : Int64} {y : Int32} (hd : decode c.code pc = .ok (.lshr, 1)) (hp : pc + 1 = n) (hz : (x >>> (y &&& 63).toInt64) = z) (w : Wk p e below s Qf C S T (mkF m n Ls (.long z :: sk))) : Wk p e below s Qf C S T (mkF m pc Ls (.int y :: .long x :: sk)) := by
  subst hp; subst hz
  exact Wk.go (fun _ k => XS.lshr X.here hx rfl hd rfl k) w
theorem Wk.lushr (X : Stand p l e R s m args below meth c T locs cells slots) (hx : p.tables.exec = Jvm.exec) {x z : Int64} {y : Int32} (hd : decode c.code pc = .ok (.lushr, 1)) (hp : pc + 1 = n) (hz : (x.toUInt64 >>> (y &&& 63).toInt64.toUInt64).toInt64 = z) (w : Wk p e below s Qf C S T (mkF m n Ls (.long z :: sk))) : Wk p e below s Qf C S T (mkF m pc Ls (.int y :: .long x :: sk)) := by
  subst hp; subst hz
  exact Wk.go (fun _ k => XS.lushr X.here hx rfl hd rfl k) w
theorem Wk.lcmp (X : Stand p l e R s m args below meth c T locs cells slots) (hx : p.tables.exec = Jvm.exec) {x y : Int64} (hd : decode c.code pc = .ok (.lcmp, 1)) (hp : pc + 1 = n)  (w : Wk p e below s Qf C S T (mkF m n Ls (.int (lcmpW x y) :: sk))) : Wk p e below s Qf C S T (mkF m pc Ls (.long y :: .long x :: sk)) := by
  subst hp
  exact Wk.go (fun _ k => XS.lcmp X.here hx rfl hd rfl k) w
theorem Wk.idiv (X : Stand p l e R s m args below meth c T locs cells slots) (hx : p.tables.exec = Jvm.exec) {x y : Int32} (hd : decode c.code pc = .ok (.idiv, 1)) (hp : pc + 1 = n) (hy : y ≠ 0) (w : Wk p e below s Qf C S T (mkF m n Ls (.int (x / y) :: sk))) : Wk p e below s Qf C S T (mkF m pc Ls (.int y :: .int x :: sk)) := by
  subst hp
  exact Wk.go (fun _ k => XS.idiv X.here hx rfl hd rfl hy k) w
theorem Wk.ldiv (X : Stand p l e R s m args below meth c T locs cells slots) (hx : p.tables.exec = Jvm.exec) {x y : Int64} (hd : decode c.code pc = .ok (.ldiv, 1)) (hp : pc + 1 = n) (hy : y ≠ 0) (w : Wk p e below s Qf C S T (mkF m n Ls (.long (x / y) :: sk))) : Wk p e below s Qf C S T (mkF m pc Ls (.long y :: .long x :: sk)) := by
  subst hp
  exact Wk.go (fun _ k => XS.ldiv X.here hx rfl hd rfl hy k) w
theorem Wk.irem (X : Stand p l e R s m args below meth c T locs cells slots) (hx : p.tables.exec = Jvm.exec) {x y : Int32} (hd : decode c.code pc = .ok (.irem, 1)) (hp : pc + 1 = n) (hy : y ≠ 0) (w : Wk p e below s Qf C S T (mkF m n Ls (.int (x % y) :: sk))) : Wk p e below s Qf C S T (mkF m pc Ls (.int y :: .int x :: sk)) := by
  subst hp
  exact Wk.go (fun _ k => iremM X hx rfl hd rfl hy k) w
theorem Wk.lrem (X : Stand p l e R s m args below meth c T locs cells slots) (hx : p.tables.exec = Jvm.exec) {x y : Int64} (hd : decode c.code pc = .ok (.lrem, 1)) (hp : pc + 1 = n) (hy : y ≠ 0) (w : Wk p e below s Qf C S T (mkF m n Ls (.long (x - (x / y) * y) :: sk))) : Wk p e below s Qf C S T (mkF m pc Ls (.long y :: .long x :: sk)) := by
  subst hp
  exact Wk.go (fun _ k => XS.lrem X.here hx rfl hd rfl hy k) w
theorem Wk.iinc (X : Stand p l e R s m args below meth c T locs cells slots) (hx : p.tables.exec = Jvm.exec) {k : Nat} {cst : Int} {x : Int32} {L' : Array Slot} (hd : decode c.code pc = .ok (.iinc k cst, 3)) (hp : pc + 3 = n) (hl : Ls[k]? = some (.val (.int x))) (hl' : storeLocals Ls k (.int (x + Int32.ofInt cst)) = some L') (w : Wk p e below s Qf C S T (mkF m n L' sk)) : Wk p e below s Qf C S T (mkF m pc Ls sk) := by
  subst hp
  exact Wk.go (fun _ k => XS.iinc X.here hx rfl hd hl hl' k) w
theorem Wk.dup (X : Stand p l e R s m args below meth c T locs cells slots) (hx : p.tables.exec = Jvm.exec) {x : Value} (hd : decode c.code pc = .ok (.dup, 1)) (hp : pc + 1 = n) (hc : x.category = 1) (w : Wk p e below s Qf C S T (mkF m n Ls (x :: x :: sk))) : Wk p e below s Qf C S T (mkF m pc Ls (x :: sk)) := by
  subst hp
  exact Wk.go (fun _ k => XS.dup X.here hx rfl hd rfl hc k) w
theorem Wk.pop (X : Stand p l e R s m args below meth c T locs cells slots) (hx : p.tables.exec = Jvm.exec) {x : Value} (hd : decode c.code pc = .ok (.pop, 1)) (hp : pc + 1 = n) (hc : x.category = 1) (w : Wk p e below s Qf C S T (mkF m n Ls sk)) : Wk p e below s Qf C S T (mkF m pc Ls (x :: sk)) := by
  subst hp
  exact Wk.go (fun _ k => XS.pop X.here hx rfl hd rfl hc k) w
theorem Wk.dupX1 (X : Stand p l e R s m args below meth c T locs cells slots) (hx : p.tables.exec = Jvm.exec) {x y : Value} (hd : decode c.code pc = .ok (.dup_x1, 1)) (hp : pc + 1 = n) (hc : x.category = 1) (hc' : y.category = 1) (w : Wk p e below s Qf C S T (mkF m n Ls (x :: y :: x :: sk))) : Wk p e below s Qf C S T (mkF m pc Ls (x :: y :: sk)) := by
  subst hp
  exact Wk.go (fun _ k => XS.dupX1 X.here hx rfl hd rfl hc hc' k) w
theorem Wk.dup2 (X : Stand p l e R s m args below meth c T locs cells slots) (hx : p.tables.exec = Jvm.exec) {x y : Value} (hd : decode c.code pc = .ok (.dup2, 1)) (hp : pc + 1 = n) (hc : x.category = 1) (hc' : y.category = 1) (w : Wk p e below s Qf C S T (mkF m n Ls (x :: y :: x :: y :: sk))) : Wk p e below s Qf C S T (mkF m pc Ls (x :: y :: sk)) := by
  subst hp
  exact Wk.go (fun _ k => Jvm.Free.XT.dup2 X.here hx rfl hd rfl hc hc' k) w
theorem Wk.dup2L (X : Stand p l e R s m args below meth c T locs cells slots) (hx : p.tables.exec = Jvm.exec) {x : Int64} (hd : decode c.code pc = .ok (.dup2, 1)) (hp : pc + 1 = n)  (w : Wk p e below s Qf C S T (mkF m n Ls (.long x :: .long x :: sk))) : Wk p e below s Qf C S T (mkF m pc Ls (.long x :: sk)) := by
  subst hp
  exact Wk.go (fun _ k => Jvm.Free.XT.dup2L X.here hx rfl hd rfl k) w
theorem Wk.goto (X : Stand p l e R s m args below meth c T locs cells slots) (hx : p.tables.exec = Jvm.exec)  {o : Int} (hd : decode c.code pc = .ok (.goto o, 3))  (ho : 0 ≤ (pc : Int) + o) (hp : ((pc : Int) + o).toNat = n) (w : Wk p e below s Qf C S T (mkF m n Ls sk)) : Wk p e below s Qf C S T (mkF m pc Ls sk) := Wk.go (fun _ k => XS.goto X.here hx rfl rfl hd  ho hp k) w
theorem Wk.ifYes (X : Stand p l e R s m args below meth c T locs cells slots) (hx : p.tables.exec = Jvm.exec) {cd : ClassFile.Cond} {x : Int32} {o : Int} (hd : decode c.code pc = .ok (.ifCond cd o, 3)) (hc : ifCond.holds cd x = true) (ho : 0 ≤ (pc : Int) + o) (hp : ((pc : Int) + o).toNat = n) (w : Wk p e below s Qf C S T (mkF m n Ls sk)) : Wk p e below s Qf C S T (mkF m pc Ls (.int x :: sk)) := Wk.go (fun _ k => XS.ifYes X.here hx rfl rfl hd rfl hc ho hp k) w
theorem Wk.icmpYes (X : Stand p l e R s m args below meth c T locs cells slots) (hx : p.tables.exec = Jvm.exec) {cd : ClassFile.Cond} {x y : Int32} {o : Int} (hd : decode c.code pc = .ok (.if_icmp cd o, 3)) (hc : if_icmp.holds cd x y = true) (ho : 0 ≤ (pc : Int) + o) (hp : ((pc : Int) + o).toNat = n) (w : Wk p e below s Qf C S T (mkF m n Ls sk)) : Wk p e below s Qf C S T (mkF m pc Ls (.int y :: .int x :: sk)) := Wk.go (fun _ k => XS.icmpYes X.here hx rfl rfl hd rfl hc ho hp k) w
theorem Wk.ifnullYes (X : Stand p l e R s m args below meth c T locs cells slots) (hx : p.tables.exec = Jvm.exec)  {o : Int} (hd : decode c.code pc = .ok (.ifnull o, 3))  (ho : 0 ≤ (pc : Int) + o) (hp : ((pc : Int) + o).toNat = n) (w : Wk p e below s Qf C S T (mkF m n Ls sk)) : Wk p e below s Qf C S T (mkF m pc Ls (.null :: sk)) := Wk.go (fun _ k => XS.ifnullYes X.here hx rfl rfl hd rfl ho hp k) w
theorem Wk.ifnonnullYes (X : Stand p l e R s m args below meth c T locs cells slots) (hx : p.tables.exec = Jvm.exec) {b : Addr} {o : Int} (hd : decode c.code pc = .ok (.ifnonnull o, 3))  (ho : 0 ≤ (pc : Int) + o) (hp : ((pc : Int) + o).toNat = n) (w : Wk p e below s Qf C S T (mkF m n Ls sk)) : Wk p e below s Qf C S T (mkF m pc Ls (.ref b :: sk)) := Wk.go (fun _ k => XS.ifnonnullYes X.here hx rfl rfl hd rfl ho hp k) w
theorem Wk.ifNo (X : Stand p l e R s m args below meth c T locs cells slots) (hx : p.tables.exec = Jvm.exec) {cd : ClassFile.Cond} {o : Int} {x : Int32} (hd : decode c.code pc = .ok (.ifCond cd o, 3)) (hp : pc + 3 = n) (hc : ifCond.holds cd x = false) (w : Wk p e below s Qf C S T (mkF m n Ls sk)) : Wk p e below s Qf C S T (mkF m pc Ls (.int x :: sk)) := by
  subst hp
  exact Wk.go (fun _ k => XS.ifNo X.here hx rfl hd rfl hc k) w
theorem Wk.icmpNo (X : Stand p l e R s m args below meth c T locs cells slots) (hx : p.tables.exec = Jvm.exec) {cd : ClassFile.Cond} {o : Int} {x y : Int32} (hd : decode c.code pc = .ok (.if_icmp cd o, 3)) (hp : pc + 3 = n) (hc : if_icmp.holds cd x y = false) (w : Wk p e below s Qf C S T (mkF m n Ls sk)) : Wk p e below s Qf C S T (mkF m pc Ls (.int y :: .int x :: sk)) := by
  subst hp
  exact Wk.go (fun _ k => XS.icmpNo X.here hx rfl hd rfl hc k) w
theorem Wk.ifnullNo (X : Stand p l e R s m args below meth c T locs cells slots) (hx : p.tables.exec = Jvm.exec) {o : Int} {b : Addr} (hd : decode c.code pc = .ok (.ifnull o, 3)) (hp : pc + 3 = n)  (w : Wk p e below s Qf C S T (mkF m n Ls sk)) : Wk p e below s Qf C S T (mkF m pc Ls (.ref b :: sk)) := by
  subst hp
  exact Wk.go (fun _ k => XS.ifnullNo X.here hx rfl hd rfl k) w
theorem Wk.ifnonnullNo (X : Stand p l e R s m args below meth c T locs cells slots) (hx : p.tables.exec = Jvm.exec) {o : Int} (hd : decode c.code pc = .ok (.ifnonnull o, 3)) (hp : pc + 3 = n)  (w : Wk p e below s Qf C S T (mkF m n Ls sk)) : Wk p e below s Qf C S T (mkF m pc Ls (.null :: sk)) := by
  subst hp
  exact Wk.go (fun _ k => XS.ifnonnullNo X.here hx rfl hd rfl k) w
theorem Wk.acmp (X : Stand p l e R s m args below meth c T locs cells slots) (hx : p.tables.exec = Jvm.exec) {cd : ACond} {x y : Value} {same : Bool} {o : Int} (h1 : x.isRef = true) (h2 : y.isRef = true) (hd : decode c.code pc = .ok (.if_acmp cd o, 3)) (hq : decide (x = y) = same) (ho : 0 ≤ (pc : Int) + o) (hp : n = if acV cd same = true then ((pc : Int) + o).toNat else pc + 3) (w : Wk p e below s Qf C S T (mkF m n Ls sk)) : Wk p e below s Qf C S T (mkF m pc Ls (y :: x :: sk)) := Wk.go (fun _ k => RoadKit.acmp (g := mkF m pc Ls (y :: x :: sk)) X hx rfl h1 h2 rfl hd rfl hq ho hp k) w
theorem Wk.ldcInt (X : Stand p l e R s m args below meth c T locs cells slots) (hx : p.tables.exec = Jvm.exec) {own : String} {index : Nat} {v : Int32} (hown : s.vm.findClass own = some m.cls) (hc : (Cond.constant own index v).before args s = true) (hd : decode c.code pc = .ok (.ldc index, 2)) (hp : pc + 2 = n) (w : Wk p e below s Qf C S T (mkF m n Ls (.int v :: sk))) : Wk p e below s Qf C S T (mkF m pc Ls sk) := by
  subst hp
  exact Wk.go (X.ldcInt hx hown hc (g := mkF m pc Ls sk) rfl hd) w
theorem Wk.ldc2Long (X : Stand p l e R s m args below meth c T locs cells slots) (hx : p.tables.exec = Jvm.exec) {own : String} {index : Nat} {v : Int64} (hown : s.vm.findClass own = some m.cls) (hc : (Cond.constantLong own index v).before args s = true) (hd : decode c.code pc = .ok (.ldc2_w index, 3)) (hp : pc + 3 = n) (w : Wk p e below s Qf C S T (mkF m n Ls (.long v :: sk))) : Wk p e below s Qf C S T (mkF m pc Ls sk) := by
  subst hp
  exact Wk.go (X.ldc2Long hx hown hc (g := mkF m pc Ls sk) rfl hd) w
theorem Wk.newO (X : Stand p l e R s m args below meth c T locs cells slots) (hx : p.tables.exec = Jvm.exec) (hZ : Z.Warmed39 s.vm) {own K : String} {index k : Nat} (hown : s.vm.findClass own = some m.cls) (w : (Cond.classLink own index K).before a0 Z = true) (wi : (Cond.instantiable K k).before a0 Z = true) (wz : (Cond.initialized K).before a0 Z = true) (eT : T.heap = h) (hd : decode c.code pc = .ok (.new index, 3)) (hp : pc + 3 = n) (hc : cells + 1 ≤ R.cells) (hl : slots + k ≤ R.slots)
    (kk : ∀ (T' : State) (h' : Heap) (b : Addr), b = h.size → Stand p l e R s m args below meth c T' locs (cells + 1) (slots + k) → T'.heap = h' → Ext h h' → Exa Z h' b K → (∀ {O nm d : String} {ty : FieldType}, Laid Z a0 K O nm d → parseFieldDescriptor d = some ty → Fld Z h' b O nm d (defaultValue ty)) → Unt h' b → Wk p e below s Qf C S T' (mkF m n Ls (.ref b :: sk))) : Wk p e below s Qf C S T (mkF m pc Ls sk) := by
  subst hp
  obtain ⟨T', h', X', e', E', A', D', Y', st'⟩ := RoadKit.newO X hx hZ hown w wi wz eT (g := mkF m pc Ls sk) rfl hd hc hl
  exact Wk.go st' (kk T' h' _ rfl X' e' E' A' (fun L q => D' L q) Y')
theorem Wk.getF (X : Stand p l e R s m args below meth c T locs cells slots) (hx : p.tables.exec = Jvm.exec) (hZ : Z.Warmed39 s.vm) {own R0 O f d host : String} {index : Nat} (hown : s.vm.findClass own = some m.cls) (w : (Cond.fieldLink own index R0 f d).before a0 Z = true ∨ (Cond.fieldLinkNest own index R0 f d host).before a0 Z = true) (via : Via Z R0 O f d) (eT : T.heap = h) {a : Addr} {v : Value} (F : Fld Z h a O f d v) (hd : decode c.code pc = .ok (.getfield index, 3)) (hp : pc + 3 = n) (kk : ∀ T' : State, Stand p l e R s m args below meth c T' locs cells slots → T'.heap = h → Wk p e below s Qf C S T' (mkF m n Ls (v :: sk))) : Wk p e below s Qf C S T (mkF m pc Ls (.ref a :: sk)) := by
  subst hp
  obtain ⟨T', X', e', st'⟩ := RoadKit.getF X hx hZ hown w via eT F (g := mkF m pc Ls (.ref a :: sk)) rfl rfl hd
  exact Wk.go st' (kk T' X' e')
theorem Wk.getS (X : Stand p l e R s m args below meth c T locs cells slots) (hx : p.tables.exec = Jvm.exec) (hZ : Z.Warmed39 s.vm) {own R0 O f d host : String} {index : Nat} (hown : s.vm.findClass own = some m.cls) (w : (Cond.fieldLink own index R0 f d).before a0 Z = true ∨ (Cond.fieldLinkNest own index R0 f d host).before a0 Z = true) (via : Via Z R0 O f d) (eT : T.heap = h) {v : Value} (F : Sta Z h O f d v) (hd : decode c.code pc = .ok (.getstatic index, 3)) (hp : pc + 3 = n) (kk : ∀ T' : State, Stand p l e R s m args below meth c T' locs cells slots → T'.heap = h → Wk p e below s Qf C S T' (mkF m n Ls (v :: sk))) : Wk p e below s Qf C S T (mkF m pc Ls sk) := by
  subst hp
  obtain ⟨T', X', e', st'⟩ := RoadKit.getS2 X hx hZ hown w via eT F (g := mkF m pc Ls sk) rfl hd
  exact Wk.go st' (kk T' X' e')
theorem Wk.putF (X : Stand p l e R s m args below meth c T locs cells slots) (hx : p.tables.exec = Jvm.exec) (hZ : Z.Warmed39 s.vm) {own R0 O f d host : String} {index : Nat} (hown : s.vm.findClass own = some m.cls) (w : (Cond.fieldLink own index R0 f d).before a0 Z = true ∨ (Cond.fieldLinkNest own index R0 f d host).before a0 Z = true) (via : Via Z R0 O f d) (eT : T.heap = h) {K : String} {kk' : Nat} {ty : FieldType} {a : Addr} {v old : Value} (F : Fld Z h a O f d old) (E : Exa Z h a K) (L : (Cond.lays K O f d).before a0 Z = true ∨ ((Cond.laysFinal K O f d).before a0 Z = true ∧ own = O ∧ meth.name = "<init>")) (wi : (Cond.instantiable K kk').before a0 Z = true) (hty : parseFieldDescriptor d = some ty) (hn : narrow ty v = v) (hf : fits ty v = true) (hd : decode c.code pc = .ok (.putfield index, 3)) (hp : pc + 3 = n) (kk : ∀ (T' : State) (h' : Heap), Stand p l e R s m args below meth c T' (locs ++ [⟨a, slotOf Z O f d⟩]) cells slots → T'.heap = h' → Wr h h' a (slotOf Z O f d) v → Wk p e below s Qf C S T' (mkF m n Ls sk)) : Wk p e below s Qf C S T (mkF m pc Ls (v :: .ref a :: sk)) := by
  subst hp
  obtain ⟨T', h', X', e', W', st'⟩ := RoadKit.putF X hx hZ hown w via eT F E L wi hty hn hf (g := mkF m pc Ls (v :: .ref a :: sk)) rfl rfl hd
  exact Wk.go st' (kk T' h' X' e' W')
theorem Wk.putFN (X : Stand p l e R s m args below meth c T locs cells slots) (hx : p.tables.exec = Jvm.exec) (hZ : Z.Warmed39 s.vm) {own R0 O f d : String} {index : Nat} (hown : s.vm.findClass own = some m.cls) (w : (Cond.fieldLink own index R0 f d).before a0 Z = true) (via : Via Z R0 O f d) (eT : T.heap = h) {K : String} {kk' : Nat} {ty : FieldType} {a : Addr} {v old : Value} (F : Fld Z h a O f d old) (E : Exa Z h a K) (L : (Cond.lays K O f d).before a0 Z = true ∨ ((Cond.laysFinal K O f d).before a0 Z = true ∧ own = O ∧ meth.name = "<init>")) (wi : (Cond.instantiable K kk').before a0 Z = true) (hty : parseFieldDescriptor d = some ty) {v' : Value} (hn : narrow ty v = v') (hf : fits ty v' = true) (hd : decode c.code pc = .ok (.putfield index, 3)) (hp : pc + 3 = n) (kk : ∀ (T' : State) (h' : Heap), Stand p l e R s m args below meth c T' (locs ++ [⟨a, slotOf Z O f d⟩]) cells slots → T'.heap = h' → Wr h h' a (slotOf Z O f d) v' → Wk p e below s Qf C S T' (mkF m n Ls sk)) : Wk p e below s Qf C S T (mkF m pc Ls (v :: .ref a :: sk)) := by
  subst hp
  obtain ⟨T', h', X', e', W', st'⟩ := RoadKit.putFN X hx hZ hown w via eT F E L wi hty hn hf (g := mkF m pc Ls (v :: .ref a :: sk)) rfl rfl hd
  exact Wk.go st' (kk T' h' X' e' W')
theorem Wk.initO (X : Stand p l e R s m args below meth c T locs cells slots) (hx : p.tables.exec = Jvm.exec) (hZ : Z.Warmed39 s.vm) {own : String} {idx : Nat} (hown : s.vm.findClass own = some m.cls) (w1 : (Cond.methodLink own idx Lib.objectInit).before a0 Z = true) (w2 : (Cond.instanceMethod Lib.objectInit).before a0 Z = true) (w3 : (Cond.code Lib.objectInit ⟨#[0xb1]⟩ 1 none).before a0 Z = true) (eT : T.heap = h) (hsz : Ls.size = c.maxLocals) {a : Addr} (hd : decode c.code pc = .ok (.invokespecial idx, 3)) (hp : pc + 3 = n) (hf : 1 ≤ R.frames) {w : Nat} (hw : (sk.map fun v => v.category).sum ≤ w) (hl : w + 12 ≤ R.locals) (kk : ∀ T' : State, Stand p l e R s m args below meth c T' locs cells slots → T'.heap = h → Wk p e below s Qf C S T' (mkF m n Ls sk)) : Wk p e below s Qf C S T (mkF m pc Ls (.ref a :: sk)) := by
  subst hp
  obtain ⟨T', X', e', st'⟩ := RoadKit.initO X hx hZ hown w1 w2 w3 eT (g := mkF m pc Ls (.ref a :: sk)) rfl hsz rfl hd hf (W := w) (by show 2 * 0 + _ ≤ _; omega) hl
  exact Wk.go st' (kk T' X' e')
theorem Wk.newP (X : Stand p l e R s m args below meth c T locs cells slots) (hx : p.tables.exec = Jvm.exec) (hZ : Z.Warmed39 s.vm) {aty : ArrayType} (w : (Cond.arrayClass (newarray.typeOf aty)).before a0 Z = true) (eT : T.heap = h) (hd : decode c.code pc = .ok (.newarray aty, 2)) (hp : pc + 2 = n) {z : Int32} (hz : ¬ z < 0) {cap : Nat} (hcap : z.toNatClampNeg ≤ cap) (hb : cap * 8 ≤ 536870912) (hc : cells + 1 ≤ R.cells) (hl : slots + cap ≤ R.slots)
    (kk : ∀ (T' : State) (h' : Heap) (b : Addr) (cA : ClassId), b = h.size → Stand p l e R s m args below meth c T' locs (cells + 1) (slots + cap) → T'.heap = h' → Ext h h' → Arr Z h' b (newA cA (newarray.typeOf aty) z) (newarray.typeOf aty) → Wk p e below s Qf C S T' (mkF m n Ls (.ref b :: sk))) : Wk p e below s Qf C S T (mkF m pc Ls (.int z :: sk)) := by
  subst hp
  obtain ⟨T', h', cA, X', e', E', A', st'⟩ := RoadKit.newP X hx hZ w eT (g := mkF m pc Ls (.int z :: sk)) rfl hd rfl hz hcap hb hc hl
  exact Wk.go st' (kk T' h' _ cA rfl X' e' E' A')
theorem Wk.newR (X : Stand p l e R s m args below meth c T locs cells slots) (hx : p.tables.exec = Jvm.exec) (hZ : Z.Warmed39 s.vm) {own K : String} {index : Nat} (hown : s.vm.findClass own = some m.cls) (w1 : (Cond.classLink own index K).before a0 Z = true) (w2 : (Cond.arrayOver (.object K)).before a0 Z = true) (eT : T.heap = h) (hd : decode c.code pc = .ok (.anewarray index, 3)) (hp : pc + 3 = n) {z : Int32} (hz : ¬ z < 0) {cap : Nat} (hcap : z.toNatClampNeg ≤ cap) (hb : cap * 8 ≤ 536870912) (hc : cells + 1 ≤ R.cells) (hl : slots + cap ≤ R.slots)
    (kk : ∀ (T' : State) (h' : Heap) (b : Addr) (cA : ClassId), b = h.size → Stand p l e R s m args below meth c T' locs (cells + 1) (slots + cap) → T'.heap = h' → Ext h h' → Arr Z h' b (newA cA (.object K) z) (.object K) → Ovr Z cA K → Wk p e below s Qf C S T' (mkF m n Ls (.ref b :: sk))) : Wk p e below s Qf C S T (mkF m pc Ls (.int z :: sk)) := by
  subst hp
  obtain ⟨T', h', cA, X', e', E', A', O', st'⟩ := RoadKit.newR X hx hZ hown w1 w2 eT (g := mkF m pc Ls (.int z :: sk)) rfl hd rfl hz hcap hb hc hl
  exact Wk.go st' (kk T' h' _ cA rfl X' e' E' A' O')
theorem Wk.stI (X : Stand p l e R s m args below meth c T locs cells slots) (hx : p.tables.exec = Jvm.exec) (hZ : Z.Warmed39 s.vm) (eT : T.heap = h) {a : Addr} {cl : Cell} (A : Arr Z h a cl .int) {j : Int32} {x : Int32} (hj : ¬ (j < 0 ∨ cl.slots.size ≤ j.toNatClampNeg)) (hd : decode c.code pc = .ok (.iastore, 1)) (hp : pc + 1 = n) (kk : ∀ (T' : State) (h' : Heap), Stand p l e R s m args below meth c T' (locs ++ [⟨a, j.toNatClampNeg⟩]) cells slots → T'.heap = h' → Wr h h' a j.toNatClampNeg (.int x) → Wk p e below s Qf C S T' (mkF m n Ls sk)) : Wk p e below s Qf C S T (mkF m pc Ls ((.int x) :: .int j :: .ref a :: sk)) := by
  subst hp
  obtain ⟨T', h', X', e', W', st'⟩ := RoadKit.stI X hx hZ eT A hj (g := mkF m pc Ls ((.int x) :: .int j :: .ref a :: sk)) rfl rfl hd
  exact Wk.go st' (kk T' h' X' e' W')
theorem Wk.stC (X : Stand p l e R s m args below meth c T locs cells slots) (hx : p.tables.exec = Jvm.exec) (hZ : Z.Warmed39 s.vm) (eT : T.heap = h) {a : Addr} {cl : Cell} (A : Arr Z h a cl .char) {j : Int32} {x : Int32} (hj : ¬ (j < 0 ∨ cl.slots.size ≤ j.toNatClampNeg)) (hd : decode c.code pc = .ok (.castore, 1)) (hp : pc + 1 = n) (kk : ∀ (T' : State) (h' : Heap), Stand p l e R s m args below meth c T' (locs ++ [⟨a, j.toNatClampNeg⟩]) cells slots → T'.heap = h' → Wr h h' a j.toNatClampNeg (.int (nar .char x)) → Wk p e below s Qf C S T' (mkF m n Ls sk)) : Wk p e below s Qf C S T (mkF m pc Ls ((.int x) :: .int j :: .ref a :: sk)) := by
  subst hp
  obtain ⟨T', h', X', e', W', st'⟩ := RoadKit.stC X hx hZ eT A hj (g := mkF m pc Ls ((.int x) :: .int j :: .ref a :: sk)) rfl rfl hd
  exact Wk.go st' (kk T' h' X' e' W')
theorem Wk.stS (X : Stand p l e R s m args below meth c T locs cells slots) (hx : p.tables.exec = Jvm.exec) (hZ : Z.Warmed39 s.vm) (eT : T.heap = h) {a : Addr} {cl : Cell} (A : Arr Z h a cl .short) {j : Int32} {x : Int32} (hj : ¬ (j < 0 ∨ cl.slots.size ≤ j.toNatClampNeg)) (hd : decode c.code pc = .ok (.sastore, 1)) (hp : pc + 1 = n) (kk : ∀ (T' : State) (h' : Heap), Stand p l e R s m args below meth c T' (locs ++ [⟨a, j.toNatClampNeg⟩]) cells slots → T'.heap = h' → Wr h h' a j.toNatClampNeg (.int (nar .short x)) → Wk p e below s Qf C S T' (mkF m n Ls sk)) : Wk p e below s Qf C S T (mkF m pc Ls ((.int x) :: .int j :: .ref a :: sk)) := by
  subst hp
  obtain ⟨T', h', X', e', W', st'⟩ := RoadKit.stS X hx hZ eT A hj (g := mkF m pc Ls ((.int x) :: .int j :: .ref a :: sk)) rfl rfl hd
  exact Wk.go st' (kk T' h' X' e' W')
theorem Wk.stB (X : Stand p l e R s m args below meth c T locs cells slots) (hx : p.tables.exec = Jvm.exec) (hZ : Z.Warmed39 s.vm) (eT : T.heap = h) {a : Addr} {cl : Cell} (A : Arr Z h a cl .byte) {j : Int32} {x : Int32} (hj : ¬ (j < 0 ∨ cl.slots.size ≤ j.toNatClampNeg)) (hd : decode c.code pc = .ok (.bastore, 1)) (hp : pc + 1 = n) (kk : ∀ (T' : State) (h' : Heap), Stand p l e R s m args below meth c T' (locs ++ [⟨a, j.toNatClampNeg⟩]) cells slots → T'.heap = h' → Wr h h' a j.toNatClampNeg (.int (nar .byte x)) → Wk p e below s Qf C S T' (mkF m n Ls sk)) : Wk p e below s Qf C S T (mkF m pc Ls ((.int x) :: .int j :: .ref a :: sk)) := by
  subst hp
  obtain ⟨T', h', X', e', W', st'⟩ := RoadKit.stB X hx hZ eT A hj (g := mkF m pc Ls ((.int x) :: .int j :: .ref a :: sk)) rfl rfl hd
  exact Wk.go st' (kk T' h' X' e' W')
theorem Wk.stZ (X : Stand p l e R s m args below meth c T locs cells slots) (hx : p.tables.exec = Jvm.exec) (hZ : Z.Warmed39 s.vm) (eT : T.heap = h) {a : Addr} {cl : Cell} (A : Arr Z h a cl .boolean) {j : Int32} {x : Int32} (hj : ¬ (j < 0 ∨ cl.slots.size ≤ j.toNatClampNeg)) (hd : decode c.code pc = .ok (.bastore, 1)) (hp : pc + 1 = n) (kk : ∀ (T' : State) (h' : Heap), Stand p l e R s m args below meth c T' (locs ++ [⟨a, j.toNatClampNeg⟩]) cells slots → T'.heap = h' → Wr h h' a j.toNatClampNeg (.int (nar .boolean x)) → Wk p e below s Qf C S T' (mkF m n Ls sk)) : Wk p e below s Qf C S T (mkF m pc Ls ((.int x) :: .int j :: .ref a :: sk)) := by
  subst hp
  obtain ⟨T', h', X', e', W', st'⟩ := RoadKit.stZ X hx hZ eT A hj (g := mkF m pc Ls ((.int x) :: .int j :: .ref a :: sk)) rfl rfl hd
  exact Wk.go st' (kk T' h' X' e' W')
theorem Wk.stJ (X : Stand p l e R s m args below meth c T locs cells slots) (hx : p.tables.exec = Jvm.exec) (hZ : Z.Warmed39 s.vm) (eT : T.heap = h) {a : Addr} {cl : Cell} (A : Arr Z h a cl .long) {j : Int32} {x : Int64} (hj : ¬ (j < 0 ∨ cl.slots.size ≤ j.toNatClampNeg)) (hd : decode c.code pc = .ok (.lastore, 1)) (hp : pc + 1 = n) (kk : ∀ (T' : State) (h' : Heap), Stand p l e R s m args below meth c T' (locs ++ [⟨a, j.toNatClampNeg⟩]) cells slots → T'.heap = h' → Wr h h' a j.toNatClampNeg (.long x) → Wk p e below s Qf C S T' (mkF m n Ls sk)) : Wk p e below s Qf C S T (mkF m pc Ls ((.long x) :: .int j :: .ref a :: sk)) := by
  subst hp
  obtain ⟨T', h', X', e', W', st'⟩ := RoadKit.stJ X hx hZ eT A hj (g := mkF m pc Ls ((.long x) :: .int j :: .ref a :: sk)) rfl rfl hd
  exact Wk.go st' (kk T' h' X' e' W')
theorem Wk.goR (X : Stand p l e R s m args below meth c T locs cells slots) (hx : p.tables.exec = Jvm.exec) (hZ : Z.Warmed39 s.vm) (eT : T.heap = h) {a : Addr} {cl : Cell} {ty : FieldType} (A : Arr Z h a cl ty) {j : Int32} {v : Value} (hj : ¬ (j < 0 ∨ cl.slots.size ≤ j.toNatClampNeg)) (hty : ty.isReference = true) (F : Sto Z h a v) (hd : decode c.code pc = .ok (.aastore, 1)) (hp : pc + 1 = n) (kk : ∀ (T' : State) (h' : Heap), Stand p l e R s m args below meth c T' (locs ++ [⟨a, j.toNatClampNeg⟩]) cells slots → T'.heap = h' → Wr h h' a j.toNatClampNeg v → Wk p e below s Qf C S T' (mkF m n Ls sk)) : Wk p e below s Qf C S T (mkF m pc Ls (v :: .int j :: .ref a :: sk)) := by
  subst hp
  obtain ⟨T', h', X', e', W', st'⟩ := RoadKit.stR X hx hZ eT A hj hty F (g := mkF m pc Ls (v :: .int j :: .ref a :: sk)) rfl rfl hd
  exact Wk.go st' (kk T' h' X' e' W')
theorem Wk.iaload (X : Stand p l e R s m args below meth c T locs cells slots) (hx : p.tables.exec = Jvm.exec) (hZ : Z.Warmed39 s.vm) (eT : T.heap = h) {a : Addr} {cl : Cell} (A : Arr Z h a cl .int) {j : Int32} {v : Value} (hj : ¬ (j < 0 ∨ cl.slots.size ≤ j.toNatClampNeg)) (ha : cl.slots[j.toNatClampNeg]? = some v) (hd : decode c.code pc = .ok (.iaload, 1)) (hp : pc + 1 = n) (w : Wk p e below s Qf C S T (mkF m n Ls (v :: sk))) : Wk p e below s Qf C S T (mkF m pc Ls (.int j :: .ref a :: sk)) := by
  subst hp
  exact Wk.go (X.iaload hx (by rw [eT]; exact A.1) (State.isArrayOf_alike hZ.alike A.2.1) A.2.2 hj ha (g := mkF m pc Ls (.int j :: .ref a :: sk)) rfl rfl hd) w
theorem Wk.caload (X : Stand p l e R s m args below meth c T locs cells slots) (hx : p.tables.exec = Jvm.exec) (hZ : Z.Warmed39 s.vm) (eT : T.heap = h) {a : Addr} {cl : Cell} (A : Arr Z h a cl .char) {j : Int32} {v : Value} (hj : ¬ (j < 0 ∨ cl.slots.size ≤ j.toNatClampNeg)) (ha : cl.slots[j.toNatClampNeg]? = some v) (hd : decode c.code pc = .ok (.caload, 1)) (hp : pc + 1 = n) (w : Wk p e below s Qf C S T (mkF m n Ls (v :: sk))) : Wk p e below s Qf C S T (mkF m pc Ls (.int j :: .ref a :: sk)) := by
  subst hp
  exact Wk.go (X.caload hx (by rw [eT]; exact A.1) (State.isArrayOf_alike hZ.alike A.2.1) A.2.2 hj ha (g := mkF m pc Ls (.int j :: .ref a :: sk)) rfl rfl hd) w
theorem Wk.saload (X : Stand p l e R s m args below meth c T locs cells slots) (hx : p.tables.exec = Jvm.exec) (hZ : Z.Warmed39 s.vm) (eT : T.heap = h) {a : Addr} {cl : Cell} (A : Arr Z h a cl .short) {j : Int32} {v : Value} (hj : ¬ (j < 0 ∨ cl.slots.size ≤ j.toNatClampNeg)) (ha : cl.slots[j.toNatClampNeg]? = some v) (hd : decode c.code pc = .ok (.saload, 1)) (hp : pc + 1 = n) (w : Wk p e below s Qf C S T (mkF m n Ls (v :: sk))) : Wk p e below s Qf C S T (mkF m pc Ls (.int j :: .ref a :: sk)) := by
  subst hp
  exact Wk.go (X.saload hx (by rw [eT]; exact A.1) (State.isArrayOf_alike hZ.alike A.2.1) A.2.2 hj ha (g := mkF m pc Ls (.int j :: .ref a :: sk)) rfl rfl hd) w
theorem Wk.laload (X : Stand p l e R s m args below meth c T locs cells slots) (hx : p.tables.exec = Jvm.exec) (hZ : Z.Warmed39 s.vm) (eT : T.heap = h) {a : Addr} {cl : Cell} (A : Arr Z h a cl .long) {j : Int32} {v : Value} (hj : ¬ (j < 0 ∨ cl.slots.size ≤ j.toNatClampNeg)) (ha : cl.slots[j.toNatClampNeg]? = some v) (hd : decode c.code pc = .ok (.laload, 1)) (hp : pc + 1 = n) (w : Wk p e below s Qf C S T (mkF m n Ls (v :: sk))) : Wk p e below s Qf C S T (mkF m pc Ls (.int j :: .ref a :: sk)) := by
  subst hp
  exact Wk.go (X.laload hx (by rw [eT]; exact A.1) (State.isArrayOf_alike hZ.alike A.2.1) A.2.2 hj ha (g := mkF m pc Ls (.int j :: .ref a :: sk)) rfl rfl hd) w
theorem Wk.baloadBytes (X : Stand p l e R s m args below meth c T locs cells slots) (hx : p.tables.exec = Jvm.exec) (hZ : Z.Warmed39 s.vm) (eT : T.heap = h) {a : Addr} {cl : Cell} (A : Arr Z h a cl .byte) {j : Int32} {v : Value} (hj : ¬ (j < 0 ∨ cl.slots.size ≤ j.toNatClampNeg)) (ha : cl.slots[j.toNatClampNeg]? = some v) (hd : decode c.code pc = .ok (.baload, 1)) (hp : pc + 1 = n) (w : Wk p e below s Qf C S T (mkF m n Ls (v :: sk))) : Wk p e below s Qf C S T (mkF m pc Ls (.int j :: .ref a :: sk)) := by
  subst hp
  exact Wk.go (X.baloadBytes hx (by rw [eT]; exact A.1) (State.isArrayOf_alike hZ.alike A.2.1) A.2.2 hj ha (g := mkF m pc Ls (.int j :: .ref a :: sk)) rfl rfl hd) w
theorem Wk.aaload (X : Stand p l e R s m args below meth c T locs cells slots) (hx : p.tables.exec = Jvm.exec) (hZ : Z.Warmed39 s.vm) (eT : T.heap = h) {a : Addr} {cl : Cell} {ty : FieldType} (A : Arr Z h a cl ty) {j : Int32} {v : Value} (hty : ty.isReference = true) (hj : ¬ (j < 0 ∨ cl.slots.size ≤ j.toNatClampNeg)) (ha : cl.slots[j.toNatClampNeg]? = some v) (hd : decode c.code pc = .ok (.aaload, 1)) (hp : pc + 1 = n) (w : Wk p e below s Qf C S T (mkF m n Ls (v :: sk))) : Wk p e below s Qf C S T (mkF m pc Ls (.int j :: .ref a :: sk)) := by
  subst hp
  exact Wk.go (X.aaload hx (by rw [eT]; exact A.1) (State.isArrayOf_alike hZ.alike A.2.1) hty A.2.2 hj ha (g := mkF m pc Ls (.int j :: .ref a :: sk)) rfl rfl hd) w
theorem Wk.arrlen (X : Stand p l e R s m args below meth c T locs cells slots) (hx : p.tables.exec = Jvm.exec) (hZ : Z.Warmed39 s.vm) (eT : T.heap = h) {a : Addr} {cl : Cell} {ty : FieldType} {z : Int32} (A : Arr Z h a cl ty) (S' : cl.slots.size = z.toNatClampNeg) (hz : ¬ z < 0) (hd : decode c.code pc = .ok (.arraylength, 1)) (hp : pc + 1 = n) (w : Wk p e below s Qf C S T (mkF m n Ls (.int z :: sk))) : Wk p e below s Qf C S T (mkF m pc Ls (.ref a :: sk)) := by
  subst hp
  have q := X.arraylength hx (by rw [eT]; exact A.1) (State.isArrayOf_alike hZ.alike A.2.1) (g := mkF m pc Ls (.ref a :: sk)) rfl rfl hd
  rw [len_of S' hz] at q
  exact Wk.go q w
theorem Wk.castY (X : Stand p l e R s m args below meth c T locs cells slots) (hx : p.tables.exec = Jvm.exec) (hZ : Z.Warmed39 s.vm) {own K : String} {index : Nat} (hown : s.vm.findClass own = some m.cls) (w : (Cond.classLink own index K).before a0 Z = true) (eT : T.heap = h) {a : Addr} (F : Ins Z h a K true) (hd : decode c.code pc = .ok (.checkcast index, 3)) (hp : pc + 3 = n) (kk : ∀ T' : State, Stand p l e R s m args below meth c T' locs cells slots → T'.heap = h → Wk p e below s Qf C S T' (mkF m n Ls (.ref a :: sk))) : Wk p e below s Qf C S T (mkF m pc Ls (.ref a :: sk)) := by
  subst hp
  obtain ⟨T', X', e', st'⟩ := RoadKit.castY X hx hZ hown w eT F (g := mkF m pc Ls (.ref a :: sk)) rfl rfl hd
  exact Wk.go st' (kk T' X' e')
theorem Wk.instY (X : Stand p l e R s m args below meth c T locs cells slots) (hx : p.tables.exec = Jvm.exec) (hZ : Z.Warmed39 s.vm) {own K : String} {index : Nat} (hown : s.vm.findClass own = some m.cls) (w : (Cond.classLink own index K).before a0 Z = true) (eT : T.heap = h) {a : Addr} (F : Ins Z h a K true) (hd : decode c.code pc = .ok (.instanceof index, 3)) (hp : pc + 3 = n) (kk : ∀ T' : State, Stand p l e R s m args below meth c T' locs cells slots → T'.heap = h → Wk p e below s Qf C S T' (mkF m n Ls (.int 1 :: sk))) : Wk p e below s Qf C S T (mkF m pc Ls (.ref a :: sk)) := by
  subst hp
  obtain ⟨T', X', e', st'⟩ := RoadKit.instY X hx hZ hown w eT F (g := mkF m pc Ls (.ref a :: sk)) rfl rfl hd
  exact Wk.go st' (kk T' X' e')
theorem Wk.back {rc rs : Nat} {Q : Option Value → Heap → List Loc → Prop} {rest : List Value} (call : ∃ (v : Option Value) (vm₁ : Vm) (B : Pt), s.WarmedH vm₁ ∧ Stand p l e R s m args below meth c B.U B.locs B.cells B.slots ∧ (∃ L, Q v B.U.heap L ∧ B.locs = locs ++ L ∧ B.cells = cells + rc ∧ B.slots = slots + rs) ∧ Steps p.tables e below (T.setTop (mkF m pc Ls sk)) (B.U.setTop (mkF m n Ls (v.toList ++ rest)))) (kk : ∀ (v : Option Value) (T' : State) (L : List Loc), Stand p l e R s m args below meth c T' (locs ++ L) (cells + rc) (slots + rs) → Q v T'.heap L → Wk p e below s Qf C S T' (mkF m n Ls (v.toList ++ rest))) : Wk p e below s Qf C S T (mkF m pc Ls sk) := by
  obtain ⟨v, _, ⟨T', L', c', s'⟩, -, X', ⟨L, hQ, h1, h2, h3⟩, k⟩ := call
  dsimp only [Pt.U, Pt.locs, Pt.cells, Pt.slots] at X' h1 h2 h3 k hQ
  subst h1 h2 h3
  exact Wk.go (fun _ r => k.trans r) (kk v T' L X' hQ)
theorem Wk.backS {rc rs : Nat} {Q : Option Value → Heap → List Loc → Prop} {rest : List Value} (call : ∃ (v : Option Value) (vm₁ : Vm) (B : Pt), s.WarmedH vm₁ ∧ Stand p l e R s m args below meth c B.U B.locs B.cells B.slots ∧ (∃ L, Q v B.U.heap L ∧ B.locs = locs ++ L ∧ B.cells = cells + rc ∧ B.slots = slots + rs) ∧ ∀ target, Steps p.tables e below (B.U.setTop (mkF m n Ls (v.toList ++ rest))) target → Steps p.tables e below (T.setTop (mkF m pc Ls sk)) target) (kk : ∀ (v : Option Value) (T' : State) (L : List Loc), Stand p l e R s m args below meth c T' (locs ++ L) (cells + rc) (slots + rs) → Q v T'.heap L → Wk p e below s Qf C S T' (mkF m n Ls (v.toList ++ rest))) : Wk p e below s Qf C S T (mkF m pc Ls sk) := by
  obtain ⟨v, _, ⟨T', L', c', s'⟩, -, X', ⟨L, hQ, h1, h2, h3⟩, k⟩ := call
  dsimp only [Pt.U, Pt.locs, Pt.cells, Pt.slots] at X' h1 h2 h3 k hQ
  subst h1 h2 h3
  exact Wk.go k (kk v T' L X' hQ)
end Own
end Jvm.RoadKit
namespace Jvm.Pilot.@@N@@
open Jvm Jvm.ClassFile Sem Op Lib Jvm.Free Jvm.Stand Jvm.LawKit Jvm.RoadKit Bundle Jvm.Pilot.@@N@@.Jvm.D
theorem own_fld {args : Array Value} {s : State} {t u : Term} {C n d : String} {a : Addr} {z : Int32} (ev : t.eval args s none [] s = some (.ref a)) (hu : u.eval args s none [] s = some (.int z)) (h : (Jvm.Cond.eq (Term.field t C n d) u).value args s none s [] = some true) : Fld s s.heap a C n d (.int z) := by
  obtain ⟨x, y, h1, h2, -, k2⟩ := cmp_v (Or.inl h)
  rw [hu] at h2
  cases h2
  obtain ⟨x', rfl⟩ := k2
  have e2 : x' = z := gotT (P := x' = z) (by simp [Cond.value, h1, hu]) h
  subst e2
  rw [fld_at ev] at h1
  exact Fld.start h1
theorem own_fldL {args : Array Value} {s : State} {t : Term} {C n d : String} {a : Addr} {z : Int64} (ev : t.eval args s none [] s = some (.ref a)) (h : (Jvm.Cond.eq (Term.field t C n d) (Term.long z)).value args s none s [] = some true) : Fld s s.heap a C n d (.long z) := by
  obtain ⟨x, y, h1, h2, -, k2⟩ := cmp_v (Or.inl h)
  rw [long_at] at h2
  cases h2
  obtain ⟨x', rfl⟩ := k2
  have e2 : x' = z := gotT (eq_L h1 (long_at z)) h
  subst e2
  rw [fld_at ev] at h1
  exact Fld.start h1
theorem own_i2c {y : Int32} (h0 : 0 ≤ y.toInt) (h1 : y.toInt < 65536) : y.toUInt32.toUInt16.toUInt32.toInt32 = y := by
  have h := c_i2c y
  apply Int32.toInt_inj.mp
  omega
theorem own_narc (x : Int32) : nar .char (x.toUInt32.toUInt16.toUInt32.toInt32) = x.toUInt32.toUInt16.toUInt32.toInt32 := own_i2c (c_i2c x).2.1 (c_i2c x).2.2
theorem own_fitc {z : Int32} (h : nar .char z = z) : fits .char (.int z) = true := by
  rw [← h]
  exact fits_nar_char _
def Q_rmPick (Z : State) (p1 : Int32) (p2 : Int32) (h0 : Heap) (n0 : Nat) (v : Option Value) (h : Heap) (L : List Loc) : Prop := ∃ (z : Int32), v = some (.int z) ∧ Fr n0 L ∧ h = h0 ∧ (nar .char z = z)
theorem ef_rmPick (m : MethodId) (x0 : Int32) (x1 : Int32) : entryFrame m #[(.int x0), (.int x1)] 2 = mkF m 0 #[.val (.int x0), .val (.int x1)] [] := by first | (simp [entryFrame, mkF, argsToLocals, Value.category]; done) | rfl
theorem pn_com_example_depeche_depeche_hl7_SeparatorsIsStandardPinLaw : plainName "com/example/depeche/depeche/hl7/SeparatorsIsStandardPinLaw" = true := by first | (simp [plainName, overriddenIn]; done) | decide +kernel
theorem d_m2_0 : decode method_2_code 0 = .ok (.iload_n 0, 1) := by decide +kernel
theorem d_m2_1 : decode method_2_code 1 = .ok (.iconst 1, 1) := by decide +kernel
theorem d_m2_2 : decode method_2_code 2 = .ok (.iand, 1) := by decide +kernel
theorem d_m2_3 : decode method_2_code 3 = .ok (.ifCond .ne 5, 3) := by decide +kernel
theorem d_m2_6 : decode method_2_code 6 = .ok (.iload_n 1, 1) := by decide +kernel
theorem d_m2_7 : decode method_2_code 7 = .ok (.ireturn, 1) := by decide +kernel
theorem d_m2_8 : decode method_2_code 8 = .ok (.iload_n 0, 1) := by decide +kernel
theorem d_m2_9 : decode method_2_code 9 = .ok (.iconst 1, 1) := by decide +kernel
theorem d_m2_10 : decode method_2_code 10 = .ok (.iushr, 1) := by decide +kernel
theorem d_m2_11 : decode method_2_code 11 = .ok (.i2c, 1) := by decide +kernel
theorem d_m2_12 : decode method_2_code 12 = .ok (.ireturn, 1) := by decide +kernel
set_option maxRecDepth 65536 in
set_option maxHeartbeats 40000000 in
theorem rmPick (l : Launch) (Z : State) (a0 : Array Value) (hw : ∀ d ∈ tables_1, d.before a0 Z = true) (ws : List Jvm.Cond) (p1 : Int32) (p2 : Int32) (h0 : Heap) (n0 : Nat) (Z0 : n0 ≤ h0.size) (hbp : nar .char p2 = p2) :
    MetFree l (⟨"com/example/depeche/depeche/hl7/SeparatorsIsStandardPinLaw", "pick", "(IC)C"⟩ : MethodName) (head1 (Jvm.Cond.code (⟨"com/example/depeche/depeche/hl7/SeparatorsIsStandardPinLaw", "pick", "(IC)C"⟩ : MethodName) method_2_code 2 (some .char) :: ws) ({ frames := 0, cells := 0, slots := 0, locals := 0 } : Room)) (fun a U => a = #[(.int p1), (.int p2)] ∧ Z.Warmed39 U.vm ∧ U.heap = h0) (fun _ _ _ _ _ => True) (fun _ U o U' => ∃ v L, o = .returned v ∧ Q_rmPick Z p1 p2 h0 n0 v U'.heap L ∧ FrameEnd U o U' L ({ frames := 0, cells := 0, slots := 0, locals := 0 } : Room).cells ({ frames := 0, cells := 0, slots := 0, locals := 0 } : Room).slots) := by
  refine MetFree.of_bodySF (plainFor_of_name pn_com_example_depeche_depeche_hl7_SeparatorsIsStandardPinLaw) hisR ?_
  intro p e s m args below meth c s₁ Bd hml0 hP hK
  obtain ⟨rfl, hZ, hh⟩ := hP
  have hx := Bd.exec
  have hby := Bd.bytes
  have hlk := BodyLoose.notSynchronized Bd
  have hml : c.maxLocals = 2 := hml0
  have hown : s.vm.findClass "com/example/depeche/depeche/hl7/SeparatorsIsStandardPinLaw" = some m.cls := findClass_of_methodNamed Bd.named
  have hnm := (name_of_methodNamed Bd.named Bd.method).1
  have X0 : Stand p l e ({ frames := 0, cells := 0, slots := 0, locals := 0 } : Room) s m #[(.int p1), (.int p2)] below meth c s₁ [] 0 0 := Stand.of_body Bd
  have e0 : s₁.heap = h0 := by rw [← hh, Bd.state]; rfl
  have N0 := Fr.nil n0
  have K0 := Keep.refl h0 []
  clear hh
  show Wk p e below s (Q_rmPick Z p1 p2 h0 n0) ({ frames := 0, cells := 0, slots := 0, locals := 0 } : Room).cells ({ frames := 0, cells := 0, slots := 0, locals := 0 } : Room).slots s₁ (entryFrame m #[(.int p1), (.int p2)] 2)
  rw [ef_rmPick]
  refine Wk.iloadN X0 hx (hb hby d_m2_0) (n := 1) rfl rfl ?_
  refine Wk.iconst X0 hx (hb hby d_m2_1) (n := 2) rfl (z := (1 : Int32)) rfl ?_
  refine Wk.iand X0 hx (hb hby d_m2_2) (n := 3) rfl ?_
  by_cases hc3 : (p1 &&& (1 : Int32)) = (0 : Int32)
  ·
    refine Wk.ifNo X0 hx (hb hby d_m2_3) (n := 6) rfl ((if0 _ _).trans (teq hc3).2) ?_
    refine Wk.iloadN X0 hx (hb hby d_m2_6) (n := 7) rfl rfl ?_
    exact Wk.leave X0 (v := some (.int p2)) (fun h => by rw [Bd.returns] at h; cases h) hlk e0 ⟨p2, rfl, N0, rfl, hbp⟩ (by decide) (by decide) (fun fs hr => retNz X0 hx (t := .char) hbp Bd.returns (by simp) (hb hby d_m2_7) hr)
  ·
    refine Wk.ifYes X0 hx (hb hby d_m2_3) ((if0 _ _).trans (feq hc3).2) (by decide) (n := 8) (by decide) ?_
    refine Wk.iloadN X0 hx (hb hby d_m2_8) (n := 9) rfl rfl ?_
    refine Wk.iconst X0 hx (hb hby d_m2_9) (n := 10) rfl (z := (1 : Int32)) rfl ?_
    refine Wk.iushr X0 hx (hb hby d_m2_10) (n := 11) rfl ?_
    refine Wk.i2c X0 hx (hb hby d_m2_11) (n := 12) rfl rfl ?_
    exact Wk.leave X0 (v := some (.int (((p1.toUInt32 >>> ((1 : Int32) &&& 31).toUInt32).toInt32).toUInt32.toUInt16.toUInt32.toInt32))) (fun h => by rw [Bd.returns] at h; cases h) hlk e0 ⟨(((p1.toUInt32 >>> ((1 : Int32) &&& 31).toUInt32).toInt32).toUInt32.toUInt16.toUInt32.toInt32), rfl, N0, rfl, (own_narc _)⟩ (by decide) (by decide) (fun fs hr => retNz X0 hx (t := .char) (own_narc _) Bd.returns (by simp) (hb hby d_m2_12) hr)
def Q_rmRec (Z : State) (a1 : Addr) (h0 : Heap) (n0 : Nat) (v : Option Value) (h : Heap) (L : List Loc) : Prop := v = none ∧ Fr n0 L ∧ h = h0
theorem ef_rmRec (m : MethodId) (x0 : Addr) : entryFrame m #[(.ref x0)] 1 = mkF m 0 #[.val (.ref x0)] [] := by first | (simp [entryFrame, mkF, argsToLocals, Value.category]; done) | rfl
theorem pn_java_lang_Record : plainName "java/lang/Record" = true := by first | (simp [plainName, overriddenIn]; done) | decide +kernel
theorem d_jdk_30_m1_0 : decode jdk_30_method_1_code 0 = .ok (.aload_n 0, 1) := by decide +kernel
theorem d_jdk_30_m1_1 : decode jdk_30_method_1_code 1 = .ok (.invokespecial 1, 3) := by decide +kernel
theorem d_jdk_30_m1_4 : decode jdk_30_method_1_code 4 = .ok (.return_, 1) := by decide +kernel
set_option maxRecDepth 65536 in
set_option maxHeartbeats 40000000 in
theorem rmRec (l : Launch) (Z : State) (a0 : Array Value) (hw : ∀ d ∈ tables_1, d.before a0 Z = true) (ws : List Jvm.Cond) (a1 : Addr) (h0 : Heap) (n0 : Nat) (Z0 : n0 ≤ h0.size) :
    MetFree l (⟨"java/lang/Record", "<init>", "()V"⟩ : MethodName) (head1 (Jvm.Cond.code (⟨"java/lang/Record", "<init>", "()V"⟩ : MethodName) jdk_30_method_1_code 1 none :: ws) ({ frames := 1, cells := 0, slots := 0, locals := 12 } : Room)) (fun a U => a = #[(.ref a1)] ∧ Z.Warmed39 U.vm ∧ U.heap = h0) (fun _ _ _ _ _ => True) (fun _ U o U' => ∃ v L, o = .returned v ∧ Q_rmRec Z a1 h0 n0 v U'.heap L ∧ FrameEnd U o U' L ({ frames := 1, cells := 0, slots := 0, locals := 12 } : Room).cells ({ frames := 1, cells := 0, slots := 0, locals := 12 } : Room).slots) := by
  refine MetFree.of_bodySF (plainFor_of_name pn_java_lang_Record) hisR ?_
  intro p e s m args below meth c s₁ Bd hml0 hP hK
  obtain ⟨rfl, hZ, hh⟩ := hP
  have hx := Bd.exec
  have hby := Bd.bytes
  have hlk := BodyLoose.notSynchronized Bd
  have hml : c.maxLocals = 1 := hml0
  have hown : s.vm.findClass "java/lang/Record" = some m.cls := findClass_of_methodNamed Bd.named
  have hnm := (name_of_methodNamed Bd.named Bd.method).1
  have X0 : Stand p l e ({ frames := 1, cells := 0, slots := 0, locals := 12 } : Room) s m #[(.ref a1)] below meth c s₁ [] 0 0 := Stand.of_body Bd
  have e0 : s₁.heap = h0 := by rw [← hh, Bd.state]; rfl
  have N0 := Fr.nil n0
  have K0 := Keep.refl h0 []
  clear hh
  show Wk p e below s (Q_rmRec Z a1 h0 n0) ({ frames := 1, cells := 0, slots := 0, locals := 12 } : Room).cells ({ frames := 1, cells := 0, slots := 0, locals := 12 } : Room).slots s₁ (entryFrame m #[(.ref a1)] 1)
  rw [ef_rmRec]
  refine Wk.aloadN X0 hx (hb hby d_jdk_30_m1_0) (n := 1) rfl rfl rfl ?_
  refine Wk.initO X0 hx hZ hown (hw _ (List.mem_of_getElem? (i := 15) rfl)) (hw _ (List.mem_of_getElem? (i := 16) rfl)) (hw _ (List.mem_of_getElem? (i := 17) rfl)) e0 (by rw [hml]; rfl) (hb hby d_jdk_30_m1_1) (n := 4) rfl (by decide) (w := 0) (Nat.le_of_eq rfl) (by decide) fun T1 X1 e1 => ?_
  exact Wk.leave X1 (v := none) (fun _ => rfl) hlk e1 ⟨rfl, N0, rfl⟩ (by decide) (by decide) (fun fs hr => X1.returnOut hx Bd.returns (hb hby d_jdk_30_m1_4) hr)
def Q_rmIni (Z : State) (a1 : Addr) (p1 : Int32) (p2 : Int32) (p3 : Int32) (p4 : Int32) (p5 : Int32) (u0 : Value) (u1 : Value) (u2 : Value) (u3 : Value) (u4 : Value) (h0 : Heap) (n0 : Nat) (v : Option Value) (h : Heap) (L : List Loc) : Prop := v = none ∧ Fr n0 L ∧ Keep h0 h [a1] ∧ Exa Z h a1 "com/example/depeche/depeche/hl7/Separators" ∧ Fld Z h a1 "com/example/depeche/depeche/hl7/Separators" "field" "C" (.int p1) ∧ Fld Z h a1 "com/example/depeche/depeche/hl7/Separators" "component" "C" (.int p2) ∧ Fld Z h a1 "com/example/depeche/depeche/hl7/Separators" "repetition" "C" (.int p3) ∧ Fld Z h a1 "com/example/depeche/depeche/hl7/Separators" "escape" "C" (.int p4) ∧ Fld Z h a1 "com/example/depeche/depeche/hl7/Separators" "subComponent" "C" (.int p5)
theorem ef_rmIni (m : MethodId) (x0 : Addr) (x1 : Int32) (x2 : Int32) (x3 : Int32) (x4 : Int32) (x5 : Int32) : entryFrame m #[(.ref x0), (.int x1), (.int x2), (.int x3), (.int x4), (.int x5)] 6 = mkF m 0 #[.val (.ref x0), .val (.int x1), .val (.int x2), .val (.int x3), .val (.int x4), .val (.int x5)] [] := by first | (simp [entryFrame, mkF, argsToLocals, Value.category]; done) | rfl
theorem pn_com_example_depeche_depeche_hl7_Separators : plainName "com/example/depeche/depeche/hl7/Separators" = true := by first | (simp [plainName, overriddenIn]; done) | decide +kernel
theorem d_prog_23_m1_0 : decode prog_23_method_1_code 0 = .ok (.aload_n 0, 1) := by decide +kernel
theorem d_prog_23_m1_1 : decode prog_23_method_1_code 1 = .ok (.invokespecial 1, 3) := by decide +kernel
theorem pd_0 : parseMethodDescriptor "()V" = some ⟨[], none⟩ := by decide +kernel
theorem d_prog_23_m1_4 : decode prog_23_method_1_code 4 = .ok (.aload_n 0, 1) := by decide +kernel
theorem d_prog_23_m1_5 : decode prog_23_method_1_code 5 = .ok (.iload_n 1, 1) := by decide +kernel
theorem d_prog_23_m1_6 : decode prog_23_method_1_code 6 = .ok (.putfield 7, 3) := by decide +kernel
theorem d_prog_23_m1_9 : decode prog_23_method_1_code 9 = .ok (.aload_n 0, 1) := by decide +kernel
theorem d_prog_23_m1_10 : decode prog_23_method_1_code 10 = .ok (.iload_n 2, 1) := by decide +kernel
theorem d_prog_23_m1_11 : decode prog_23_method_1_code 11 = .ok (.putfield 13, 3) := by decide +kernel
theorem d_prog_23_m1_14 : decode prog_23_method_1_code 14 = .ok (.aload_n 0, 1) := by decide +kernel
theorem d_prog_23_m1_15 : decode prog_23_method_1_code 15 = .ok (.iload_n 3, 1) := by decide +kernel
theorem d_prog_23_m1_16 : decode prog_23_method_1_code 16 = .ok (.putfield 16, 3) := by decide +kernel
theorem d_prog_23_m1_19 : decode prog_23_method_1_code 19 = .ok (.aload_n 0, 1) := by decide +kernel
theorem d_prog_23_m1_20 : decode prog_23_method_1_code 20 = .ok (.iload 4, 2) := by decide +kernel
theorem d_prog_23_m1_22 : decode prog_23_method_1_code 22 = .ok (.putfield 19, 3) := by decide +kernel
theorem d_prog_23_m1_25 : decode prog_23_method_1_code 25 = .ok (.aload_n 0, 1) := by decide +kernel
theorem d_prog_23_m1_26 : decode prog_23_method_1_code 26 = .ok (.iload 5, 2) := by decide +kernel
theorem d_prog_23_m1_28 : decode prog_23_method_1_code 28 = .ok (.putfield 22, 3) := by decide +kernel
theorem d_prog_23_m1_31 : decode prog_23_method_1_code 31 = .ok (.return_, 1) := by decide +kernel
set_option maxRecDepth 65536 in
set_option maxHeartbeats 40000000 in
theorem rmIni (l : Launch) (Z : State) (a0 : Array Value) (hw : ∀ d ∈ tables_1, d.before a0 Z = true) (ws : List Jvm.Cond) (a1 : Addr) (p1 : Int32) (p2 : Int32) (p3 : Int32) (p4 : Int32) (p5 : Int32) (u0 : Value) (u1 : Value) (u2 : Value) (u3 : Value) (u4 : Value) (h0 : Heap) (n0 : Nat) (Z0 : n0 ≤ h0.size) (E1 : Exa Z h0 a1 "com/example/depeche/depeche/hl7/Separators") (F0_ : Fld Z h0 a1 "com/example/depeche/depeche/hl7/Separators" "field" "C" u0) (F1_ : Fld Z h0 a1 "com/example/depeche/depeche/hl7/Separators" "component" "C" u1) (F2_ : Fld Z h0 a1 "com/example/depeche/depeche/hl7/Separators" "repetition" "C" u2) (F3_ : Fld Z h0 a1 "com/example/depeche/depeche/hl7/Separators" "escape" "C" u3) (F4_ : Fld Z h0 a1 "com/example/depeche/depeche/hl7/Separators" "subComponent" "C" u4) (g1 : n0 ≤ a1) (hp1 : nar .char p1 = p1) (hp2 : nar .char p2 = p2) (hp3 : nar .char p3 = p3) (hp4 : nar .char p4 = p4) (hp5 : nar .char p5 = p5) :
    MetFree l (⟨"com/example/depeche/depeche/hl7/Separators", "<init>", "(CCCCC)V"⟩ : MethodName) (head1 (Jvm.Cond.code (⟨"com/example/depeche/depeche/hl7/Separators", "<init>", "(CCCCC)V"⟩ : MethodName) prog_23_method_1_code 6 none :: ws) ({ frames := 2, cells := 0, slots := 0, locals := 24 } : Room)) (fun a U => a = #[(.ref a1), (.int p1), (.int p2), (.int p3), (.int p4), (.int p5)] ∧ Z.Warmed39 U.vm ∧ U.heap = h0) (fun _ _ _ _ _ => True) (fun _ U o U' => ∃ v L, o = .returned v ∧ Q_rmIni Z a1 p1 p2 p3 p4 p5 u0 u1 u2 u3 u4 h0 n0 v U'.heap L ∧ FrameEnd U o U' L ({ frames := 2, cells := 0, slots := 0, locals := 24 } : Room).cells ({ frames := 2, cells := 0, slots := 0, locals := 24 } : Room).slots) := by
  refine MetFree.of_bodySF (plainFor_of_name pn_com_example_depeche_depeche_hl7_Separators) hisR ?_
  intro p e s m args below meth c s₁ Bd hml0 hP hK
  obtain ⟨rfl, hZ, hh⟩ := hP
  have hx := Bd.exec
  have hby := Bd.bytes
  have hlk := BodyLoose.notSynchronized Bd
  have hml : c.maxLocals = 6 := hml0
  have hown : s.vm.findClass "com/example/depeche/depeche/hl7/Separators" = some m.cls := findClass_of_methodNamed Bd.named
  have hnm := (name_of_methodNamed Bd.named Bd.method).1
  have X0 : Stand p l e ({ frames := 2, cells := 0, slots := 0, locals := 24 } : Room) s m #[(.ref a1), (.int p1), (.int p2), (.int p3), (.int p4), (.int p5)] below meth c s₁ [] 0 0 := Stand.of_body Bd
  have e0 : s₁.heap = h0 := by rw [← hh, Bd.state]; rfl
  have N0 := Fr.nil n0
  have K0 := Keep.refl h0 [a1]
  clear hh
  show Wk p e below s (Q_rmIni Z a1 p1 p2 p3 p4 p5 u0 u1 u2 u3 u4 h0 n0) ({ frames := 2, cells := 0, slots := 0, locals := 24 } : Room).cells ({ frames := 2, cells := 0, slots := 0, locals := 24 } : Room).slots s₁ (entryFrame m #[(.ref a1), (.int p1), (.int p2), (.int p3), (.int p4), (.int p5)] 6)
  rw [ef_rmIni]
  have lt_E1 := ny E1.lt
  have lt_F0_ := ny F0_.lt
  have lt_F1_ := ny F1_.lt
  have lt_F2_ := ny F2_.lt
  have lt_F3_ := ny F3_.lt
  have lt_F4_ := ny F4_.lt
  refine Wk.aloadN X0 hx (hb hby d_prog_23_m1_0) (n := 1) rfl rfl rfl ?_
  have cl1_ := fun (Ls : Array Slot) (hLs : Ls.size = c.maxLocals) => X0.specialBack hx (y := (⟨"java/lang/Record", "<init>", "()V"⟩ : MethodName)) rfl hown (mvT hZ (hw _ (List.mem_of_getElem? (i := 10) rfl))) (mvT hZ (hw _ (List.mem_of_getElem? (i := 11) rfl))) (mvT hZ (hw _ (List.mem_of_getElem? (i := 14) rfl))) (by decide) (backOf (W := 0) (rmRec l Z a0 hw [] a1 h0 n0 (by omega)) hZ (hw _ (List.mem_of_getElem? (i := 14) rfl)) (hw _ (List.mem_of_getElem? (i := 13) rfl)) (by decide) (by decide)) (g := mkF m 1 Ls [(.ref a1)]) rfl hLs (Steps.refl _) (a := a1) (argsL := []) (rest := []) (lenOf pd_0 rfl) rfl (by show 2 * 0 + _ ≤ _; exact Nat.le_of_eq rfl) (hb hby d_prog_23_m1_1) (fun _ _ => ⟨rfl, e0, (by decide : 0 + 0 ≤ _), (by decide : 0 + 0 ≤ _)⟩)
  refine Wk.back (n := 4) (rc := 0) (rs := 0) (Q := Q_rmRec Z a1 h0 n0) (cl1_ _ (by rw [hml]; rfl)) fun vn1 T1 L1 X1 hQ1 => ?_
  clear cl1_
  obtain ⟨rfl, M1, e1⟩ := hQ1
  have N1 := Fr.app N0 M1
  show Wk p e below s _ _ _ T1 (mkF m 4 _ [])
  refine Wk.aloadN X1 hx (hb hby d_prog_23_m1_4) (n := 5) rfl rfl rfl ?_
  refine Wk.iloadN X1 hx (hb hby d_prog_23_m1_5) (n := 6) rfl rfl ?_
  refine Wk.putFN X1 hx hZ hown (hw _ (List.mem_of_getElem? (i := 18) rfl)) Via.refl e1 F0_ E1 (Or.inr ⟨(hw _ (List.mem_of_getElem? (i := 19) rfl)), rfl, hnm⟩) (hw _ (List.mem_of_getElem? (i := 5) rfl)) (ty := .char) (by decide) (v' := (.int p1)) (congrArg Value.int hp1) (own_fitc hp1) (hb hby d_prog_23_m1_6) (n := 9) rfl fun T2 H2 X2 e2 Wn2 => ?_
  have sz2 := Wn2.size
  have Fn2 := F0_.same Wn2
  have K2 := K0.wr Wn2 (Or.inl (List.mem_of_getElem? (i := 0) rfl))
  have N2 := Fr.snoc X2 N1 (by omega)
  refine Wk.aloadN X2 hx (hb hby d_prog_23_m1_9) (n := 10) rfl rfl rfl ?_
  refine Wk.iloadN X2 hx (hb hby d_prog_23_m1_10) (n := 11) rfl rfl ?_
  have f3 := (F1_.other Wn2 (Or.inr (slot_ne (Or.inr (hw _ (List.mem_of_getElem? (i := 21) rfl))) (Or.inr (hw _ (List.mem_of_getElem? (i := 19) rfl))) (by decide) (t := .char) (t' := .char) (by decide) (by decide))))
  have f4 := (E1.wr Wn2)
  refine Wk.putFN X2 hx hZ hown (hw _ (List.mem_of_getElem? (i := 20) rfl)) Via.refl e2 f3 f4 (Or.inr ⟨(hw _ (List.mem_of_getElem? (i := 21) rfl)), rfl, hnm⟩) (hw _ (List.mem_of_getElem? (i := 5) rfl)) (ty := .char) (by decide) (v' := (.int p2)) (congrArg Value.int hp2) (own_fitc hp2) (hb hby d_prog_23_m1_11) (n := 14) rfl fun T5 H5 X5 e5 Wn5 => ?_
  have sz5 := Wn5.size
  have Fn5 := f3.same Wn5
  have K5 := K2.wr Wn5 (Or.inl (List.mem_of_getElem? (i := 0) rfl))
  have N5 := Fr.snoc X5 N2 (by omega)
  refine Wk.aloadN X5 hx (hb hby d_prog_23_m1_14) (n := 15) rfl rfl rfl ?_
  refine Wk.iloadN X5 hx (hb hby d_prog_23_m1_15) (n := 16) rfl rfl ?_
  have f6 := ((F2_.other Wn2 (Or.inr (slot_ne (Or.inr (hw _ (List.mem_of_getElem? (i := 23) rfl))) (Or.inr (hw _ (List.mem_of_getElem? (i := 19) rfl))) (by decide) (t := .char) (t' := .char) (by decide) (by decide)))).other Wn5 (Or.inr (slot_ne (Or.inr (hw _ (List.mem_of_getElem? (i := 23) rfl))) (Or.inr (hw _ (List.mem_of_getElem? (i := 21) rfl))) (by decide) (t := .char) (t' := .char) (by decide) (by decide))))
  have f7 := (f4.wr Wn5)
  refine Wk.putFN X5 hx hZ hown (hw _ (List.mem_of_getElem? (i := 22) rfl)) Via.refl e5 f6 f7 (Or.inr ⟨(hw _ (List.mem_of_getElem? (i := 23) rfl)), rfl, hnm⟩) (hw _ (List.mem_of_getElem? (i := 5) rfl)) (ty := .char) (by decide) (v' := (.int p3)) (congrArg Value.int hp3) (own_fitc hp3) (hb hby d_prog_23_m1_16) (n := 19) rfl fun T8 H8 X8 e8 Wn8 => ?_
  have sz8 := Wn8.size
  have Fn8 := f6.same Wn8
  have K8 := K5.wr Wn8 (Or.inl (List.mem_of_getElem? (i := 0) rfl))
  have N8 := Fr.snoc X8 N5 (by omega)
  refine Wk.aloadN X8 hx (hb hby d_prog_23_m1_19) (n := 20) rfl rfl rfl ?_
  refine Wk.iload X8 hx (hb hby d_prog_23_m1_20) (n := 22) rfl rfl ?_
  have f9 := (((F3_.other Wn2 (Or.inr (slot_ne (Or.inr (hw _ (List.mem_of_getElem? (i := 25) rfl))) (Or.inr (hw _ (List.mem_of_getElem? (i := 19) rfl))) (by decide) (t := .char) (t' := .char) (by decide) (by decide)))).other Wn5 (Or.inr (slot_ne (Or.inr (hw _ (List.mem_of_getElem? (i := 25) rfl))) (Or.inr (hw _ (List.mem_of_getElem? (i := 21) rfl))) (by decide) (t := .char) (t' := .char) (by decide) (by decide)))).other Wn8 (Or.inr (slot_ne (Or.inr (hw _ (List.mem_of_getElem? (i := 25) rfl))) (Or.inr (hw _ (List.mem_of_getElem? (i := 23) rfl))) (by decide) (t := .char) (t' := .char) (by decide) (by decide))))
  have f10 := (f7.wr Wn8)
  refine Wk.putFN X8 hx hZ hown (hw _ (List.mem_of_getElem? (i := 24) rfl)) Via.refl e8 f9 f10 (Or.inr ⟨(hw _ (List.mem_of_getElem? (i := 25) rfl)), rfl, hnm⟩) (hw _ (List.mem_of_getElem? (i := 5) rfl)) (ty := .char) (by decide) (v' := (.int p4)) (congrArg Value.int hp4) (own_fitc hp4) (hb hby d_prog_23_m1_22) (n := 25) rfl fun T11 H11 X11 e11 Wn11 => ?_
  have sz11 := Wn11.size
  have Fn11 := f9.same Wn11
  have K11 := K8.wr Wn11 (Or.inl (List.mem_of_getElem? (i := 0) rfl))
  have N11 := Fr.snoc X11 N8 (by omega)
  refine Wk.aloadN X11 hx (hb hby d_prog_23_m1_25) (n := 26) rfl rfl rfl ?_
  refine Wk.iload X11 hx (hb hby d_prog_23_m1_26) (n := 28) rfl rfl ?_
  have f12 := ((((F4_.other Wn2 (Or.inr (slot_ne (Or.inr (hw _ (List.mem_of_getElem? (i := 27) rfl))) (Or.inr (hw _ (List.mem_of_getElem? (i := 19) rfl))) (by decide) (t := .char) (t' := .char) (by decide) (by decide)))).other Wn5 (Or.inr (slot_ne (Or.inr (hw _ (List.mem_of_getElem? (i := 27) rfl))) (Or.inr (hw _ (List.mem_of_getElem? (i := 21) rfl))) (by decide) (t := .char) (t' := .char) (by decide) (by decide)))).other Wn8 (Or.inr (slot_ne (Or.inr (hw _ (List.mem_of_getElem? (i := 27) rfl))) (Or.inr (hw _ (List.mem_of_getElem? (i := 23) rfl))) (by decide) (t := .char) (t' := .char) (by decide) (by decide)))).other Wn11 (Or.inr (slot_ne (Or.inr (hw _ (List.mem_of_getElem? (i := 27) rfl))) (Or.inr (hw _ (List.mem_of_getElem? (i := 25) rfl))) (by decide) (t := .char) (t' := .char) (by decide) (by decide))))
  have f13 := (f10.wr Wn11)
  refine Wk.putFN X11 hx hZ hown (hw _ (List.mem_of_getElem? (i := 26) rfl)) Via.refl e11 f12 f13 (Or.inr ⟨(hw _ (List.mem_of_getElem? (i := 27) rfl)), rfl, hnm⟩) (hw _ (List.mem_of_getElem? (i := 5) rfl)) (ty := .char) (by decide) (v' := (.int p5)) (congrArg Value.int hp5) (own_fitc hp5) (hb hby d_prog_23_m1_28) (n := 31) rfl fun T14 H14 X14 e14 Wn14 => ?_
  have sz14 := Wn14.size
  have Fn14 := f12.same Wn14
  have K14 := K11.wr Wn14 (Or.inl (List.mem_of_getElem? (i := 0) rfl))
  have N14 := Fr.snoc X14 N11 (by omega)
  have f15 := (f13.wr Wn14)
  have f16 := ((((Fn2.other Wn5 (Or.inr (slot_ne (Or.inr (hw _ (List.mem_of_getElem? (i := 19) rfl))) (Or.inr (hw _ (List.mem_of_getElem? (i := 21) rfl))) (by decide) (t := .char) (t' := .char) (by decide) (by decide)))).other Wn8 (Or.inr (slot_ne (Or.inr (hw _ (List.mem_of_getElem? (i := 19) rfl))) (Or.inr (hw _ (List.mem_of_getElem? (i := 23) rfl))) (by decide) (t := .char) (t' := .char) (by decide) (by decide)))).other Wn11 (Or.inr (slot_ne (Or.inr (hw _ (List.mem_of_getElem? (i := 19) rfl))) (Or.inr (hw _ (List.mem_of_getElem? (i := 25) rfl))) (by decide) (t := .char) (t' := .char) (by decide) (by decide)))).other Wn14 (Or.inr (slot_ne (Or.inr (hw _ (List.mem_of_getElem? (i := 19) rfl))) (Or.inr (hw _ (List.mem_of_getElem? (i := 27) rfl))) (by decide) (t := .char) (t' := .char) (by decide) (by decide))))
  have f17 := (((Fn5.other Wn8 (Or.inr (slot_ne (Or.inr (hw _ (List.mem_of_getElem? (i := 21) rfl))) (Or.inr (hw _ (List.mem_of_getElem? (i := 23) rfl))) (by decide) (t := .char) (t' := .char) (by decide) (by decide)))).other Wn11 (Or.inr (slot_ne (Or.inr (hw _ (List.mem_of_getElem? (i := 21) rfl))) (Or.inr (hw _ (List.mem_of_getElem? (i := 25) rfl))) (by decide) (t := .char) (t' := .char) (by decide) (by decide)))).other Wn14 (Or.inr (slot_ne (Or.inr (hw _ (List.mem_of_getElem? (i := 21) rfl))) (Or.inr (hw _ (List.mem_of_getElem? (i := 27) rfl))) (by decide) (t := .char) (t' := .char) (by decide) (by decide))))
  have f18 := ((Fn8.other Wn11 (Or.inr (slot_ne (Or.inr (hw _ (List.mem_of_getElem? (i := 23) rfl))) (Or.inr (hw _ (List.mem_of_getElem? (i := 25) rfl))) (by decide) (t := .char) (t' := .char) (by decide) (by decide)))).other Wn14 (Or.inr (slot_ne (Or.inr (hw _ (List.mem_of_getElem? (i := 23) rfl))) (Or.inr (hw _ (List.mem_of_getElem? (i := 27) rfl))) (by decide) (t := .char) (t' := .char) (by decide) (by decide))))
  have f19 := (Fn11.other Wn14 (Or.inr (slot_ne (Or.inr (hw _ (List.mem_of_getElem? (i := 25) rfl))) (Or.inr (hw _ (List.mem_of_getElem? (i := 27) rfl))) (by decide) (t := .char) (t' := .char) (by decide) (by decide))))
  exact Wk.leave X14 (v := none) (fun _ => rfl) hlk e14 ⟨rfl, N14, K14, f15, f16, f17, f18, f19, Fn14⟩ (by decide) (by decide) (fun fs hr => X14.returnOut hx Bd.returns (hb hby d_prog_23_m1_31) hr)
def Q_rmIsS (Z : State) (a1 : Addr) (w1 : Addr) (p1 : Int32) (p2 : Int32) (p3 : Int32) (p4 : Int32) (p5 : Int32) (h0 : Heap) (n0 : Nat) (v : Option Value) (h : Heap) (L : List Loc) : Prop := ∃ (iv : Int32), v = some (.int iv) ∧ Fr n0 L ∧ h = h0 ∧ (p1 = (124 : Int32) ∧ p2 = (94 : Int32) ∧ p3 = (126 : Int32) ∧ p4 = (92 : Int32) ∧ p5 = (38 : Int32) → iv = (1 : Int32)) ∧ (¬ (p1 = (124 : Int32) ∧ p2 = (94 : Int32) ∧ p3 = (126 : Int32) ∧ p4 = (92 : Int32) ∧ p5 = (38 : Int32)) → iv = (0 : Int32))
theorem ef_rmIsS (m : MethodId) (x0 : Addr) : entryFrame m #[(.ref x0)] 1 = mkF m 0 #[.val (.ref x0)] [] := by first | (simp [entryFrame, mkF, argsToLocals, Value.category]; done) | rfl
theorem d_prog_23_m4_0 : decode prog_23_method_4_code 0 = .ok (.aload_n 0, 1) := by decide +kernel
theorem d_prog_23_m4_1 : decode prog_23_method_4_code 1 = .ok (.getfield 7, 3) := by decide +kernel
theorem d_prog_23_m4_4 : decode prog_23_method_4_code 4 = .ok (.getstatic 44, 3) := by decide +kernel
theorem d_prog_23_m4_7 : decode prog_23_method_4_code 7 = .ok (.getfield 7, 3) := by decide +kernel
theorem d_prog_23_m4_10 : decode prog_23_method_4_code 10 = .ok (.if_icmp .ne 59, 3) := by decide +kernel
theorem d_prog_23_m4_13 : decode prog_23_method_4_code 13 = .ok (.aload_n 0, 1) := by decide +kernel
theorem d_prog_23_m4_14 : decode prog_23_method_4_code 14 = .ok (.getfield 13, 3) := by decide +kernel
theorem d_prog_23_m4_17 : decode prog_23_method_4_code 17 = .ok (.getstatic 44, 3) := by decide +kernel
theorem d_prog_23_m4_20 : decode prog_23_method_4_code 20 = .ok (.getfield 13, 3) := by decide +kernel
theorem d_prog_23_m4_23 : decode prog_23_method_4_code 23 = .ok (.if_icmp .ne 46, 3) := by decide +kernel
theorem d_prog_23_m4_26 : decode prog_23_method_4_code 26 = .ok (.aload_n 0, 1) := by decide +kernel
theorem d_prog_23_m4_27 : decode prog_23_method_4_code 27 = .ok (.getfield 16, 3) := by decide +kernel
theorem d_prog_23_m4_30 : decode prog_23_method_4_code 30 = .ok (.getstatic 44, 3) := by decide +kernel
theorem d_prog_23_m4_33 : decode prog_23_method_4_code 33 = .ok (.getfield 16, 3) := by decide +kernel
theorem d_prog_23_m4_36 : decode prog_23_method_4_code 36 = .ok (.if_icmp .ne 33, 3) := by decide +kernel
theorem d_prog_23_m4_39 : decode prog_23_method_4_code 39 = .ok (.aload_n 0, 1) := by decide +kernel
theorem d_prog_23_m4_40 : decode prog_23_method_4_code 40 = .ok (.getfield 19, 3) := by decide +kernel
theorem d_prog_23_m4_43 : decode prog_23_method_4_code 43 = .ok (.getstatic 44, 3) := by decide +kernel
theorem d_prog_23_m4_46 : decode prog_23_method_4_code 46 = .ok (.getfield 19, 3) := by decide +kernel
theorem d_prog_23_m4_49 : decode prog_23_method_4_code 49 = .ok (.if_icmp .ne 20, 3) := by decide +kernel
theorem d_prog_23_m4_52 : decode prog_23_method_4_code 52 = .ok (.aload_n 0, 1) := by decide +kernel
theorem d_prog_23_m4_53 : decode prog_23_method_4_code 53 = .ok (.getfield 22, 3) := by decide +kernel
theorem d_prog_23_m4_56 : decode prog_23_method_4_code 56 = .ok (.getstatic 44, 3) := by decide +kernel
theorem d_prog_23_m4_59 : decode prog_23_method_4_code 59 = .ok (.getfield 22, 3) := by decide +kernel
theorem d_prog_23_m4_62 : decode prog_23_method_4_code 62 = .ok (.if_icmp .ne 7, 3) := by decide +kernel
theorem d_prog_23_m4_65 : decode prog_23_method_4_code 65 = .ok (.iconst 1, 1) := by decide +kernel
theorem d_prog_23_m4_66 : decode prog_23_method_4_code 66 = .ok (.goto 4, 3) := by decide +kernel
theorem d_prog_23_m4_70 : decode prog_23_method_4_code 70 = .ok (.ireturn, 1) := by decide +kernel
theorem d_prog_23_m4_69 : decode prog_23_method_4_code 69 = .ok (.iconst 0, 1) := by decide +kernel
set_option maxRecDepth 65536 in
set_option maxHeartbeats 40000000 in
theorem rmIsS (l : Launch) (Z : State) (a0 : Array Value) (hw : ∀ d ∈ tables_1, d.before a0 Z = true) (ws : List Jvm.Cond) (a1 : Addr) (w1 : Addr) (p1 : Int32) (p2 : Int32) (p3 : Int32) (p4 : Int32) (p5 : Int32) (h0 : Heap) (n0 : Nat) (Z0 : n0 ≤ h0.size) (F0_ : Fld Z h0 a1 "com/example/depeche/depeche/hl7/Separators" "field" "C" (.int p1)) (F1_ : Fld Z h0 a1 "com/example/depeche/depeche/hl7/Separators" "component" "C" (.int p2)) (F2_ : Fld Z h0 a1 "com/example/depeche/depeche/hl7/Separators" "repetition" "C" (.int p3)) (F3_ : Fld Z h0 a1 "com/example/depeche/depeche/hl7/Separators" "escape" "C" (.int p4)) (F4_ : Fld Z h0 a1 "com/example/depeche/depeche/hl7/Separators" "subComponent" "C" (.int p5)) (S1 : Sta Z Z.heap "com/example/depeche/depeche/hl7/Separators" "STANDARD" "Lcom/example/depeche/depeche/hl7/Separators;" (.ref w1)) (O1 : Old Z n0 h0) (G0 : Fld Z Z.heap w1 "com/example/depeche/depeche/hl7/Separators" "field" "C" (.int (124 : Int32))) (G1 : Fld Z Z.heap w1 "com/example/depeche/depeche/hl7/Separators" "component" "C" (.int (94 : Int32))) (G2 : Fld Z Z.heap w1 "com/example/depeche/depeche/hl7/Separators" "repetition" "C" (.int (126 : Int32))) (G3 : Fld Z Z.heap w1 "com/example/depeche/depeche/hl7/Separators" "escape" "C" (.int (92 : Int32))) (G4 : Fld Z Z.heap w1 "com/example/depeche/depeche/hl7/Separators" "subComponent" "C" (.int (38 : Int32))) :
    MetFree l (⟨"com/example/depeche/depeche/hl7/Separators", "isStandard", "()Z"⟩ : MethodName) (head1 (Jvm.Cond.code (⟨"com/example/depeche/depeche/hl7/Separators", "isStandard", "()Z"⟩ : MethodName) prog_23_method_4_code 1 (some .boolean) :: ws) ({ frames := 0, cells := 0, slots := 0, locals := 0 } : Room)) (fun a U => a = #[(.ref a1)] ∧ Z.Warmed39 U.vm ∧ U.heap = h0) (fun _ _ _ _ _ => True) (fun _ U o U' => ∃ v L, o = .returned v ∧ Q_rmIsS Z a1 w1 p1 p2 p3 p4 p5 h0 n0 v U'.heap L ∧ FrameEnd U o U' L ({ frames := 0, cells := 0, slots := 0, locals := 0 } : Room).cells ({ frames := 0, cells := 0, slots := 0, locals := 0 } : Room).slots) := by
  refine MetFree.of_bodySF (plainFor_of_name pn_com_example_depeche_depeche_hl7_Separators) hisR ?_
  intro p e s m args below meth c s₁ Bd hml0 hP hK
  obtain ⟨rfl, hZ, hh⟩ := hP
  have hx := Bd.exec
  have hby := Bd.bytes
  have hlk := BodyLoose.notSynchronized Bd
  have hml : c.maxLocals = 1 := hml0
  have hown : s.vm.findClass "com/example/depeche/depeche/hl7/Separators" = some m.cls := findClass_of_methodNamed Bd.named
  have hnm := (name_of_methodNamed Bd.named Bd.method).1
  have X0 : Stand p l e ({ frames := 0, cells := 0, slots := 0, locals := 0 } : Room) s m #[(.ref a1)] below meth c s₁ [] 0 0 := Stand.of_body Bd
  have e0 : s₁.heap = h0 := by rw [← hh, Bd.state]; rfl
  have N0 := Fr.nil n0
  have K0 := Keep.refl h0 []
  clear hh
  show Wk p e below s (Q_rmIsS Z a1 w1 p1 p2 p3 p4 p5 h0 n0) ({ frames := 0, cells := 0, slots := 0, locals := 0 } : Room).cells ({ frames := 0, cells := 0, slots := 0, locals := 0 } : Room).slots s₁ (entryFrame m #[(.ref a1)] 1)
  rw [ef_rmIsS]
  have lt_F0_ := ny F0_.lt
  have lt_F1_ := ny F1_.lt
  have lt_F2_ := ny F2_.lt
  have lt_F3_ := ny F3_.lt
  have lt_F4_ := ny F4_.lt
  refine Wk.aloadN X0 hx (hb hby d_prog_23_m4_0) (n := 1) rfl rfl rfl ?_
  refine Wk.getF X0 hx hZ hown (host := "") (Or.inl (hw _ (List.mem_of_getElem? (i := 18) rfl))) Via.refl e0 F0_ (hb hby d_prog_23_m4_1) (n := 4) rfl fun T1 X1 e1 => ?_
  refine Wk.getS X1 hx hZ hown (host := "") (Or.inl (hw _ (List.mem_of_getElem? (i := 33) rfl))) Via.refl e1 (Sta.ext O1.2 S1) (hb hby d_prog_23_m4_4) (n := 7) rfl fun T2 X2 e2 => ?_
  have f3 := G0.ext O1.2
  refine Wk.getF X2 hx hZ hown (host := "") (Or.inl (hw _ (List.mem_of_getElem? (i := 18) rfl))) Via.refl e2 f3 (hb hby d_prog_23_m4_7) (n := 10) rfl fun T4 X4 e4 => ?_
  by_cases hc10 : p1 = (124 : Int32)
  ·
    refine Wk.icmpNo X4 hx (hb hby d_prog_23_m4_10) (n := 13) rfl (teq hc10).2 ?_
    refine Wk.aloadN X4 hx (hb hby d_prog_23_m4_13) (n := 14) rfl rfl rfl ?_
    refine Wk.getF X4 hx hZ hown (host := "") (Or.inl (hw _ (List.mem_of_getElem? (i := 20) rfl))) Via.refl e4 F1_ (hb hby d_prog_23_m4_14) (n := 17) rfl fun T5 X5 e5 => ?_
    refine Wk.getS X5 hx hZ hown (host := "") (Or.inl (hw _ (List.mem_of_getElem? (i := 33) rfl))) Via.refl e5 (Sta.ext O1.2 S1) (hb hby d_prog_23_m4_17) (n := 20) rfl fun T6 X6 e6 => ?_
    have f7 := G1.ext O1.2
    refine Wk.getF X6 hx hZ hown (host := "") (Or.inl (hw _ (List.mem_of_getElem? (i := 20) rfl))) Via.refl e6 f7 (hb hby d_prog_23_m4_20) (n := 23) rfl fun T8 X8 e8 => ?_
    by_cases hc23 : p2 = (94 : Int32)
    ·
      refine Wk.icmpNo X8 hx (hb hby d_prog_23_m4_23) (n := 26) rfl (teq hc23).2 ?_
      refine Wk.aloadN X8 hx (hb hby d_prog_23_m4_26) (n := 27) rfl rfl rfl ?_
      refine Wk.getF X8 hx hZ hown (host := "") (Or.inl (hw _ (List.mem_of_getElem? (i := 22) rfl))) Via.refl e8 F2_ (hb hby d_prog_23_m4_27) (n := 30) rfl fun T9 X9 e9 => ?_
      refine Wk.getS X9 hx hZ hown (host := "") (Or.inl (hw _ (List.mem_of_getElem? (i := 33) rfl))) Via.refl e9 (Sta.ext O1.2 S1) (hb hby d_prog_23_m4_30) (n := 33) rfl fun T10 X10 e10 => ?_
      have f11 := G2.ext O1.2
      refine Wk.getF X10 hx hZ hown (host := "") (Or.inl (hw _ (List.mem_of_getElem? (i := 22) rfl))) Via.refl e10 f11 (hb hby d_prog_23_m4_33) (n := 36) rfl fun T12 X12 e12 => ?_
      by_cases hc36 : p3 = (126 : Int32)
      ·
        refine Wk.icmpNo X12 hx (hb hby d_prog_23_m4_36) (n := 39) rfl (teq hc36).2 ?_
        refine Wk.aloadN X12 hx (hb hby d_prog_23_m4_39) (n := 40) rfl rfl rfl ?_
        refine Wk.getF X12 hx hZ hown (host := "") (Or.inl (hw _ (List.mem_of_getElem? (i := 24) rfl))) Via.refl e12 F3_ (hb hby d_prog_23_m4_40) (n := 43) rfl fun T13 X13 e13 => ?_
        refine Wk.getS X13 hx hZ hown (host := "") (Or.inl (hw _ (List.mem_of_getElem? (i := 33) rfl))) Via.refl e13 (Sta.ext O1.2 S1) (hb hby d_prog_23_m4_43) (n := 46) rfl fun T14 X14 e14 => ?_
        have f15 := G3.ext O1.2
        refine Wk.getF X14 hx hZ hown (host := "") (Or.inl (hw _ (List.mem_of_getElem? (i := 24) rfl))) Via.refl e14 f15 (hb hby d_prog_23_m4_46) (n := 49) rfl fun T16 X16 e16 => ?_
        by_cases hc49 : p4 = (92 : Int32)
        ·
          refine Wk.icmpNo X16 hx (hb hby d_prog_23_m4_49) (n := 52) rfl (teq hc49).2 ?_
          refine Wk.aloadN X16 hx (hb hby d_prog_23_m4_52) (n := 53) rfl rfl rfl ?_
          refine Wk.getF X16 hx hZ hown (host := "") (Or.inl (hw _ (List.mem_of_getElem? (i := 26) rfl))) Via.refl e16 F4_ (hb hby d_prog_23_m4_53) (n := 56) rfl fun T17 X17 e17 => ?_
          refine Wk.getS X17 hx hZ hown (host := "") (Or.inl (hw _ (List.mem_of_getElem? (i := 33) rfl))) Via.refl e17 (Sta.ext O1.2 S1) (hb hby d_prog_23_m4_56) (n := 59) rfl fun T18 X18 e18 => ?_
          have f19 := G4.ext O1.2
          refine Wk.getF X18 hx hZ hown (host := "") (Or.inl (hw _ (List.mem_of_getElem? (i := 26) rfl))) Via.refl e18 f19 (hb hby d_prog_23_m4_59) (n := 62) rfl fun T20 X20 e20 => ?_
          by_cases hc62 : p5 = (38 : Int32)
          ·
            refine Wk.icmpNo X20 hx (hb hby d_prog_23_m4_62) (n := 65) rfl (teq hc62).2 ?_
            refine Wk.iconst X20 hx (hb hby d_prog_23_m4_65) (n := 66) rfl (z := (1 : Int32)) rfl ?_
            refine Wk.goto X20 hx (hb hby d_prog_23_m4_66) (by decide) (n := 70) (by decide) ?_
            exact Wk.leave X20 (v := some (.int (1 : Int32))) (fun h => by rw [Bd.returns] at h; cases h) hlk e20 ⟨(1 : Int32), rfl, N0, rfl, (fun _ => rfl), (fun q => absurd ⟨hc10, hc23, hc36, hc49, hc62⟩ q)⟩ (by decide) (by decide) (fun fs hr => retNz X20 hx (t := .boolean) rfl Bd.returns (by simp) (hb hby d_prog_23_m4_70) hr)
          ·
            refine Wk.icmpYes X20 hx (hb hby d_prog_23_m4_62) (feq hc62).2 (by decide) (n := 69) (by decide) ?_
            refine Wk.iconst X20 hx (hb hby d_prog_23_m4_69) (n := 70) rfl (z := (0 : Int32)) rfl ?_
            exact Wk.leave X20 (v := some (.int (0 : Int32))) (fun h => by rw [Bd.returns] at h; cases h) hlk e20 ⟨(0 : Int32), rfl, N0, rfl, (fun q => absurd q.2.2.2.2 hc62), (fun _ => rfl)⟩ (by decide) (by decide) (fun fs hr => retNz X20 hx (t := .boolean) rfl Bd.returns (by simp) (hb hby d_prog_23_m4_70) hr)
        ·
          refine Wk.icmpYes X16 hx (hb hby d_prog_23_m4_49) (feq hc49).2 (by decide) (n := 69) (by decide) ?_
          refine Wk.iconst X16 hx (hb hby d_prog_23_m4_69) (n := 70) rfl (z := (0 : Int32)) rfl ?_
          exact Wk.leave X16 (v := some (.int (0 : Int32))) (fun h => by rw [Bd.returns] at h; cases h) hlk e16 ⟨(0 : Int32), rfl, N0, rfl, (fun q => absurd q.2.2.2.1 hc49), (fun _ => rfl)⟩ (by decide) (by decide) (fun fs hr => retNz X16 hx (t := .boolean) rfl Bd.returns (by simp) (hb hby d_prog_23_m4_70) hr)
      ·
        refine Wk.icmpYes X12 hx (hb hby d_prog_23_m4_36) (feq hc36).2 (by decide) (n := 69) (by decide) ?_
        refine Wk.iconst X12 hx (hb hby d_prog_23_m4_69) (n := 70) rfl (z := (0 : Int32)) rfl ?_
        exact Wk.leave X12 (v := some (.int (0 : Int32))) (fun h => by rw [Bd.returns] at h; cases h) hlk e12 ⟨(0 : Int32), rfl, N0, rfl, (fun q => absurd q.2.2.1 hc36), (fun _ => rfl)⟩ (by decide) (by decide) (fun fs hr => retNz X12 hx (t := .boolean) rfl Bd.returns (by simp) (hb hby d_prog_23_m4_70) hr)
    ·
      refine Wk.icmpYes X8 hx (hb hby d_prog_23_m4_23) (feq hc23).2 (by decide) (n := 69) (by decide) ?_
      refine Wk.iconst X8 hx (hb hby d_prog_23_m4_69) (n := 70) rfl (z := (0 : Int32)) rfl ?_
      exact Wk.leave X8 (v := some (.int (0 : Int32))) (fun h => by rw [Bd.returns] at h; cases h) hlk e8 ⟨(0 : Int32), rfl, N0, rfl, (fun q => absurd q.2.1 hc23), (fun _ => rfl)⟩ (by decide) (by decide) (fun fs hr => retNz X8 hx (t := .boolean) rfl Bd.returns (by simp) (hb hby d_prog_23_m4_70) hr)
  ·
    refine Wk.icmpYes X4 hx (hb hby d_prog_23_m4_10) (feq hc10).2 (by decide) (n := 69) (by decide) ?_
    refine Wk.iconst X4 hx (hb hby d_prog_23_m4_69) (n := 70) rfl (z := (0 : Int32)) rfl ?_
    exact Wk.leave X4 (v := some (.int (0 : Int32))) (fun h => by rw [Bd.returns] at h; cases h) hlk e4 ⟨(0 : Int32), rfl, N0, rfl, (fun q => absurd q.1 hc10), (fun _ => rfl)⟩ (by decide) (by decide) (fun fs hr => retNz X4 hx (t := .boolean) rfl Bd.returns (by simp) (hb hby d_prog_23_m4_70) hr)
def Q_rm0 (Z : State) (p1 : Int32) (p2 : Int32) (p3 : Int32) (p4 : Int32) (p5 : Int32) (w1 : Addr) (h0 : Heap) (n0 : Nat) (v : Option Value) (h : Heap) (L : List Loc) : Prop := v = some (.int (1 : Int32)) ∧ Fr n0 L ∧ Keep h0 h []
theorem ef_rm0 (m : MethodId) (x0 : Int32) (x1 : Int32) (x2 : Int32) (x3 : Int32) (x4 : Int32) : entryFrame m #[(.int x0), (.int x1), (.int x2), (.int x3), (.int x4)] maxLocals = mkF m 0 #[.val (.int x0), .val (.int x1), .val (.int x2), .val (.int x3), .val (.int x4), .unset, .unset, .unset, .unset, .unset, .unset, .unset] [] := by first | (simp [entryFrame, mkF, argsToLocals, Value.category, maxLocals]; done) | rfl
theorem pd_1 : parseMethodDescriptor "(IC)C" = some ⟨[.int, .char], some .char⟩ := by decide +kernel
theorem pd_2 : parseMethodDescriptor "(CCCCC)V" = some ⟨[.char, .char, .char, .char, .char], none⟩ := by decide +kernel
theorem pd_3 : parseMethodDescriptor "()Z" = some ⟨[], some .boolean⟩ := by decide +kernel
set_option maxRecDepth 65536 in
set_option maxHeartbeats 40000000 in
theorem rm0 (l : Launch) (Z : State) (a0 : Array Value) (hw : ∀ d ∈ tables_1, d.before a0 Z = true) (ws : List Jvm.Cond) (p1 : Int32) (p2 : Int32) (p3 : Int32) (p4 : Int32) (p5 : Int32) (w1 : Addr) (h0 : Heap) (n0 : Nat) (Z0 : n0 ≤ h0.size) (S1 : Sta Z Z.heap "com/example/depeche/depeche/hl7/Separators" "STANDARD" "Lcom/example/depeche/depeche/hl7/Separators;" (.ref w1)) (O1 : Old Z n0 h0) (G0 : Fld Z Z.heap w1 "com/example/depeche/depeche/hl7/Separators" "field" "C" (.int (124 : Int32))) (G1 : Fld Z Z.heap w1 "com/example/depeche/depeche/hl7/Separators" "component" "C" (.int (94 : Int32))) (G2 : Fld Z Z.heap w1 "com/example/depeche/depeche/hl7/Separators" "repetition" "C" (.int (126 : Int32))) (G3 : Fld Z Z.heap w1 "com/example/depeche/depeche/hl7/Separators" "escape" "C" (.int (92 : Int32))) (G4 : Fld Z Z.heap w1 "com/example/depeche/depeche/hl7/Separators" "subComponent" "C" (.int (38 : Int32))) :
    MetFree l x (head1 (Jvm.Cond.code x code maxLocals ret :: ws) room_1) (fun a U => a = #[(.int p1), (.int p2), (.int p3), (.int p4), (.int p5)] ∧ Z.Warmed39 U.vm ∧ U.heap = h0) (fun _ _ _ _ _ => True) (fun _ U o U' => ∃ v L, o = .returned v ∧ Q_rm0 Z p1 p2 p3 p4 p5 w1 h0 n0 v U'.heap L ∧ FrameEnd U o U' L room_1.cells room_1.slots) := by
  refine MetFree.of_bodySF (plainFor_of_name pn_com_example_depeche_depeche_hl7_SeparatorsIsStandardPinLaw) hisR ?_
  intro p e s m args below meth c s₁ Bd hml0 hP hK
  obtain ⟨rfl, hZ, hh⟩ := hP
  have hx := Bd.exec
  have hby := Bd.bytes
  have hlk := BodyLoose.notSynchronized Bd
  have hml : c.maxLocals = 12 := hml0
  have hown : s.vm.findClass "com/example/depeche/depeche/hl7/SeparatorsIsStandardPinLaw" = some m.cls := findClass_of_methodNamed Bd.named
  have hnm := (name_of_methodNamed Bd.named Bd.method).1
  have X0 : Stand p l e room_1 s m #[(.int p1), (.int p2), (.int p3), (.int p4), (.int p5)] below meth c s₁ [] 0 0 := Stand.of_body Bd
  have e0 : s₁.heap = h0 := by rw [← hh, Bd.state]; rfl
  have N0 := Fr.nil n0
  have K0 := Keep.refl h0 []
  clear hh
  show Wk p e below s (Q_rm0 Z p1 p2 p3 p4 p5 w1 h0 n0) room_1.cells room_1.slots s₁ (entryFrame m #[(.int p1), (.int p2), (.int p3), (.int p4), (.int p5)] maxLocals)
  rw [ef_rm0]
  refine Wk.iloadN X0 hx (hb hby at_0) (n := 1) rfl rfl ?_
  refine Wk.bipush X0 hx (hb hby at_1) (n := 3) rfl (z := (124 : Int32)) rfl ?_
  have cl1_ := fun (Ls : Array Slot) (hLs : Ls.size = c.maxLocals) => Jvm.LawKit.callS X0 hx (y := (⟨"com/example/depeche/depeche/hl7/SeparatorsIsStandardPinLaw", "pick", "(IC)C"⟩ : MethodName)) hown (mvT hZ (hw _ (List.mem_of_getElem? (i := 0) rfl))) (mvT hZ (hw _ (List.mem_of_getElem? (i := 1) rfl))) (mvT hZ (hw _ (List.mem_of_getElem? (i := 2) rfl))) (mvT hZ (hw _ (List.mem_of_getElem? (i := 3) rfl))) (by decide) (backOf (W := 0) (rmPick l Z a0 hw [] p1 (124 : Int32) h0 n0 (by omega) (by decide)) hZ (hw _ (List.mem_of_getElem? (i := 3) rfl)) (hw _ (List.mem_of_getElem? (i := 2) rfl)) (by decide) (by decide)) (g := mkF m 3 Ls [(.int (124 : Int32)), (.int p1)]) rfl hLs (argsL := [(.int p1), (.int (124 : Int32))]) (rest := []) (lenOf pd_1 rfl) rfl (by show 2 * 0 + _ ≤ _; exact Nat.le_of_eq rfl) (hb hby at_3) (fun _ _ => ⟨rfl, e0, (by decide : 0 + 0 ≤ _), (by decide : 0 + 0 ≤ _)⟩)
  refine Wk.backS (n := 6) (rc := 0) (rs := 0) (Q := Q_rmPick Z p1 (124 : Int32) h0 n0) (cl1_ _ (by rw [hml]; rfl)) fun vn1 T1 L1 X1 hQ1 => ?_
  clear cl1_
  obtain ⟨z_1, rfl, M1, e1, hz_1⟩ := hQ1
  have N1 := Fr.app N0 M1
  show Wk p e below s _ _ _ T1 (mkF m 6 _ [(.int z_1)])
  refine Wk.istore X1 hx (hb hby at_6) (n := 8) rfl (L' := #[.val (.int p1), .val (.int p2), .val (.int p3), .val (.int p4), .val (.int p5), .val (.int z_1), .unset, .unset, .unset, .unset, .unset, .unset]) rfl ?_
  refine Wk.iloadN X1 hx (hb hby at_8) (n := 9) rfl rfl ?_
  refine Wk.bipush X1 hx (hb hby at_9) (n := 11) rfl (z := (94 : Int32)) rfl ?_
  have cl2_ := fun (Ls : Array Slot) (hLs : Ls.size = c.maxLocals) => Jvm.LawKit.callS X1 hx (y := (⟨"com/example/depeche/depeche/hl7/SeparatorsIsStandardPinLaw", "pick", "(IC)C"⟩ : MethodName)) hown (mvT hZ (hw _ (List.mem_of_getElem? (i := 0) rfl))) (mvT hZ (hw _ (List.mem_of_getElem? (i := 1) rfl))) (mvT hZ (hw _ (List.mem_of_getElem? (i := 2) rfl))) (mvT hZ (hw _ (List.mem_of_getElem? (i := 3) rfl))) (by decide) (backOf (W := 0) (rmPick l Z a0 hw [] p2 (94 : Int32) h0 n0 (by omega) (by decide)) hZ (hw _ (List.mem_of_getElem? (i := 3) rfl)) (hw _ (List.mem_of_getElem? (i := 2) rfl)) (by decide) (by decide)) (g := mkF m 11 Ls [(.int (94 : Int32)), (.int p2)]) rfl hLs (argsL := [(.int p2), (.int (94 : Int32))]) (rest := []) (lenOf pd_1 rfl) rfl (by show 2 * 0 + _ ≤ _; exact Nat.le_of_eq rfl) (hb hby at_11) (fun _ _ => ⟨rfl, e1, (by decide : 0 + 0 + 0 ≤ _), (by decide : 0 + 0 + 0 ≤ _)⟩)
  refine Wk.backS (n := 14) (rc := 0) (rs := 0) (Q := Q_rmPick Z p2 (94 : Int32) h0 n0) (cl2_ _ (by rw [hml]; rfl)) fun vn2 T2 L2 X2 hQ2 => ?_
  clear cl2_
  obtain ⟨z_2, rfl, M2, e2, hz_2⟩ := hQ2
  have N2 := Fr.app N1 M2
  show Wk p e below s _ _ _ T2 (mkF m 14 _ [(.int z_2)])
  refine Wk.istore X2 hx (hb hby at_14) (n := 16) rfl (L' := #[.val (.int p1), .val (.int p2), .val (.int p3), .val (.int p4), .val (.int p5), .val (.int z_1), .val (.int z_2), .unset, .unset, .unset, .unset, .unset]) rfl ?_
  refine Wk.iloadN X2 hx (hb hby at_16) (n := 17) rfl rfl ?_
  refine Wk.bipush X2 hx (hb hby at_17) (n := 19) rfl (z := (126 : Int32)) rfl ?_
  have cl3_ := fun (Ls : Array Slot) (hLs : Ls.size = c.maxLocals) => Jvm.LawKit.callS X2 hx (y := (⟨"com/example/depeche/depeche/hl7/SeparatorsIsStandardPinLaw", "pick", "(IC)C"⟩ : MethodName)) hown (mvT hZ (hw _ (List.mem_of_getElem? (i := 0) rfl))) (mvT hZ (hw _ (List.mem_of_getElem? (i := 1) rfl))) (mvT hZ (hw _ (List.mem_of_getElem? (i := 2) rfl))) (mvT hZ (hw _ (List.mem_of_getElem? (i := 3) rfl))) (by decide) (backOf (W := 0) (rmPick l Z a0 hw [] p3 (126 : Int32) h0 n0 (by omega) (by decide)) hZ (hw _ (List.mem_of_getElem? (i := 3) rfl)) (hw _ (List.mem_of_getElem? (i := 2) rfl)) (by decide) (by decide)) (g := mkF m 19 Ls [(.int (126 : Int32)), (.int p3)]) rfl hLs (argsL := [(.int p3), (.int (126 : Int32))]) (rest := []) (lenOf pd_1 rfl) rfl (by show 2 * 0 + _ ≤ _; exact Nat.le_of_eq rfl) (hb hby at_19) (fun _ _ => ⟨rfl, e2, (by decide : 0 + 0 + 0 + 0 ≤ _), (by decide : 0 + 0 + 0 + 0 ≤ _)⟩)
  refine Wk.backS (n := 22) (rc := 0) (rs := 0) (Q := Q_rmPick Z p3 (126 : Int32) h0 n0) (cl3_ _ (by rw [hml]; rfl)) fun vn3 T3 L3 X3 hQ3 => ?_
  clear cl3_
  obtain ⟨z_3, rfl, M3, e3, hz_3⟩ := hQ3
  have N3 := Fr.app N2 M3
  show Wk p e below s _ _ _ T3 (mkF m 22 _ [(.int z_3)])
  refine Wk.istore X3 hx (hb hby at_22) (n := 24) rfl (L' := #[.val (.int p1), .val (.int p2), .val (.int p3), .val (.int p4), .val (.int p5), .val (.int z_1), .val (.int z_2), .val (.int z_3), .unset, .unset, .unset, .unset]) rfl ?_
  refine Wk.iloadN X3 hx (hb hby at_24) (n := 25) rfl rfl ?_
  refine Wk.bipush X3 hx (hb hby at_25) (n := 27) rfl (z := (92 : Int32)) rfl ?_
  have cl4_ := fun (Ls : Array Slot) (hLs : Ls.size = c.maxLocals) => Jvm.LawKit.callS X3 hx (y := (⟨"com/example/depeche/depeche/hl7/SeparatorsIsStandardPinLaw", "pick", "(IC)C"⟩ : MethodName)) hown (mvT hZ (hw _ (List.mem_of_getElem? (i := 0) rfl))) (mvT hZ (hw _ (List.mem_of_getElem? (i := 1) rfl))) (mvT hZ (hw _ (List.mem_of_getElem? (i := 2) rfl))) (mvT hZ (hw _ (List.mem_of_getElem? (i := 3) rfl))) (by decide) (backOf (W := 0) (rmPick l Z a0 hw [] p4 (92 : Int32) h0 n0 (by omega) (by decide)) hZ (hw _ (List.mem_of_getElem? (i := 3) rfl)) (hw _ (List.mem_of_getElem? (i := 2) rfl)) (by decide) (by decide)) (g := mkF m 27 Ls [(.int (92 : Int32)), (.int p4)]) rfl hLs (argsL := [(.int p4), (.int (92 : Int32))]) (rest := []) (lenOf pd_1 rfl) rfl (by show 2 * 0 + _ ≤ _; exact Nat.le_of_eq rfl) (hb hby at_27) (fun _ _ => ⟨rfl, e3, (by decide : 0 + 0 + 0 + 0 + 0 ≤ _), (by decide : 0 + 0 + 0 + 0 + 0 ≤ _)⟩)
  refine Wk.backS (n := 30) (rc := 0) (rs := 0) (Q := Q_rmPick Z p4 (92 : Int32) h0 n0) (cl4_ _ (by rw [hml]; rfl)) fun vn4 T4 L4 X4 hQ4 => ?_
  clear cl4_
  obtain ⟨z_4, rfl, M4, e4, hz_4⟩ := hQ4
  have N4 := Fr.app N3 M4
  show Wk p e below s _ _ _ T4 (mkF m 30 _ [(.int z_4)])
  refine Wk.istore X4 hx (hb hby at_30) (n := 32) rfl (L' := #[.val (.int p1), .val (.int p2), .val (.int p3), .val (.int p4), .val (.int p5), .val (.int z_1), .val (.int z_2), .val (.int z_3), .val (.int z_4), .unset, .unset, .unset]) rfl ?_
  refine Wk.iload X4 hx (hb hby at_32) (n := 34) rfl rfl ?_
  refine Wk.bipush X4 hx (hb hby at_34) (n := 36) rfl (z := (38 : Int32)) rfl ?_
  have cl5_ := fun (Ls : Array Slot) (hLs : Ls.size = c.maxLocals) => Jvm.LawKit.callS X4 hx (y := (⟨"com/example/depeche/depeche/hl7/SeparatorsIsStandardPinLaw", "pick", "(IC)C"⟩ : MethodName)) hown (mvT hZ (hw _ (List.mem_of_getElem? (i := 0) rfl))) (mvT hZ (hw _ (List.mem_of_getElem? (i := 1) rfl))) (mvT hZ (hw _ (List.mem_of_getElem? (i := 2) rfl))) (mvT hZ (hw _ (List.mem_of_getElem? (i := 3) rfl))) (by decide) (backOf (W := 0) (rmPick l Z a0 hw [] p5 (38 : Int32) h0 n0 (by omega) (by decide)) hZ (hw _ (List.mem_of_getElem? (i := 3) rfl)) (hw _ (List.mem_of_getElem? (i := 2) rfl)) (by decide) (by decide)) (g := mkF m 36 Ls [(.int (38 : Int32)), (.int p5)]) rfl hLs (argsL := [(.int p5), (.int (38 : Int32))]) (rest := []) (lenOf pd_1 rfl) rfl (by show 2 * 0 + _ ≤ _; exact Nat.le_of_eq rfl) (hb hby at_36) (fun _ _ => ⟨rfl, e4, (by decide : 0 + 0 + 0 + 0 + 0 + 0 ≤ _), (by decide : 0 + 0 + 0 + 0 + 0 + 0 ≤ _)⟩)
  refine Wk.backS (n := 39) (rc := 0) (rs := 0) (Q := Q_rmPick Z p5 (38 : Int32) h0 n0) (cl5_ _ (by rw [hml]; rfl)) fun vn5 T5 L5 X5 hQ5 => ?_
  clear cl5_
  obtain ⟨z_5, rfl, M5, e5, hz_5⟩ := hQ5
  have N5 := Fr.app N4 M5
  show Wk p e below s _ _ _ T5 (mkF m 39 _ [(.int z_5)])
  refine Wk.istore X5 hx (hb hby at_39) (n := 41) rfl (L' := #[.val (.int p1), .val (.int p2), .val (.int p3), .val (.int p4), .val (.int p5), .val (.int z_1), .val (.int z_2), .val (.int z_3), .val (.int z_4), .val (.int z_5), .unset, .unset]) rfl ?_
  refine Wk.newO X5 hx hZ hown (hw _ (List.mem_of_getElem? (i := 4) rfl)) (hw _ (List.mem_of_getElem? (i := 5) rfl)) (hw _ (List.mem_of_getElem? (i := 6) rfl)) e5 (hb hby at_41) (n := 44) rfl (by decide) (by decide) fun T6 H6 b6 gn6 X6 e6 Ex6 An6 Dn6 Yn6 => ?_
  have gn6 := nx gn6
  have sz6 := Ex6.1
  have lt6 := ny An6.lt
  have K6 := K0.ext Ex6
  have Fn6_field : Fld Z H6 b6 "com/example/depeche/depeche/hl7/Separators" "field" "C" (.int (0 : Int32)) := Dn6 (Or.inr (hw _ (List.mem_of_getElem? (i := 19) rfl))) (ty := .char) (by decide)
  have Fn6_component : Fld Z H6 b6 "com/example/depeche/depeche/hl7/Separators" "component" "C" (.int (0 : Int32)) := Dn6 (Or.inr (hw _ (List.mem_of_getElem? (i := 21) rfl))) (ty := .char) (by decide)
  have Fn6_repetition : Fld Z H6 b6 "com/example/depeche/depeche/hl7/Separators" "repetition" "C" (.int (0 : Int32)) := Dn6 (Or.inr (hw _ (List.mem_of_getElem? (i := 23) rfl))) (ty := .char) (by decide)
  have Fn6_escape : Fld Z H6 b6 "com/example/depeche/depeche/hl7/Separators" "escape" "C" (.int (0 : Int32)) := Dn6 (Or.inr (hw _ (List.mem_of_getElem? (i := 25) rfl))) (ty := .char) (by decide)
  have Fn6_subComponent : Fld Z H6 b6 "com/example/depeche/depeche/hl7/Separators" "subComponent" "C" (.int (0 : Int32)) := Dn6 (Or.inr (hw _ (List.mem_of_getElem? (i := 27) rfl))) (ty := .char) (by decide)
  refine Wk.dup X6 hx (hb hby at_44) (n := 45) rfl rfl ?_
  refine Wk.iload X6 hx (hb hby at_45) (n := 47) rfl rfl ?_
  refine Wk.iload X6 hx (hb hby at_47) (n := 49) rfl rfl ?_
  refine Wk.iload X6 hx (hb hby at_49) (n := 51) rfl rfl ?_
  refine Wk.iload X6 hx (hb hby at_51) (n := 53) rfl rfl ?_
  refine Wk.iload X6 hx (hb hby at_53) (n := 55) rfl rfl ?_
  have cl7_ := fun (Ls : Array Slot) (hLs : Ls.size = c.maxLocals) => X6.specialBack hx (y := (⟨"com/example/depeche/depeche/hl7/Separators", "<init>", "(CCCCC)V"⟩ : MethodName)) rfl hown (mvT hZ (hw _ (List.mem_of_getElem? (i := 7) rfl))) (mvT hZ (hw _ (List.mem_of_getElem? (i := 8) rfl))) (mvT hZ (hw _ (List.mem_of_getElem? (i := 9) rfl))) (by decide) (backOf (W := 1) (rmIni l Z a0 hw [] b6 z_1 z_2 z_3 z_4 z_5 (.int (0 : Int32)) (.int (0 : Int32)) (.int (0 : Int32)) (.int (0 : Int32)) (.int (0 : Int32)) H6 n0 (by omega) An6 Fn6_field Fn6_component Fn6_repetition Fn6_escape Fn6_subComponent (by omega) hz_1 hz_2 hz_3 hz_4 hz_5) hZ (hw _ (List.mem_of_getElem? (i := 9) rfl)) (hw _ (List.mem_of_getElem? (i := 6) rfl)) (by decide) (by decide)) (g := mkF m 55 Ls [(.int z_5), (.int z_4), (.int z_3), (.int z_2), (.int z_1), (.ref b6), (.ref b6)]) rfl hLs (Steps.refl _) (a := b6) (argsL := [(.int z_1), (.int z_2), (.int z_3), (.int z_4), (.int z_5)]) (rest := [(.ref b6)]) (lenOf pd_2 rfl) rfl (by show 2 * 0 + _ ≤ _; exact Nat.le_of_eq rfl) (hb hby at_55) (fun _ _ => ⟨rfl, e6, (by decide : 0 + 0 + 0 + 0 + 0 + 0 + 1 + 0 ≤ _), (by decide : 0 + 0 + 0 + 0 + 0 + 0 + 5 + 0 ≤ _)⟩)
  refine Wk.back (n := 58) (rc := 0) (rs := 0) (Q := Q_rmIni Z b6 z_1 z_2 z_3 z_4 z_5 (.int (0 : Int32)) (.int (0 : Int32)) (.int (0 : Int32)) (.int (0 : Int32)) (.int (0 : Int32)) H6 n0) (cl7_ _ (by rw [hml]; rfl)) fun vn7 T7 L7 X7 hQ7 => ?_
  clear cl7_
  obtain ⟨rfl, M7, J7, p7_0, p7_1, p7_2, p7_3, p7_4, p7_5⟩ := hQ7
  have N7 := Fr.app N5 M7
  have sz7 := J7.1
  have K7 := K6.trans J7 (allS (Or.inr (by omega)) all0)
  have lt_p7_0 := ny p7_0.lt
  show Wk p e below s _ _ _ T7 (mkF m 58 _ [(.ref b6)])
  refine Wk.astore X7 hx (hb hby at_58) (n := 60) rfl rfl (L' := #[.val (.int p1), .val (.int p2), .val (.int p3), .val (.int p4), .val (.int p5), .val (.int z_1), .val (.int z_2), .val (.int z_3), .val (.int z_4), .val (.int z_5), .val (.ref b6), .unset]) rfl ?_
  refine Wk.iload X7 hx (hb hby at_60) (n := 62) rfl rfl ?_
  refine Wk.bipush X7 hx (hb hby at_62) (n := 64) rfl (z := (124 : Int32)) rfl ?_
  by_cases hc64 : z_1 = (124 : Int32)
  ·
    refine Wk.icmpNo X7 hx (hb hby at_64) (n := 67) rfl (teq hc64).2 ?_
    refine Wk.iload X7 hx (hb hby at_67) (n := 69) rfl rfl ?_
    refine Wk.bipush X7 hx (hb hby at_69) (n := 71) rfl (z := (94 : Int32)) rfl ?_
    by_cases hc71 : z_2 = (94 : Int32)
    ·
      refine Wk.icmpNo X7 hx (hb hby at_71) (n := 74) rfl (teq hc71).2 ?_
      refine Wk.iload X7 hx (hb hby at_74) (n := 76) rfl rfl ?_
      refine Wk.bipush X7 hx (hb hby at_76) (n := 78) rfl (z := (126 : Int32)) rfl ?_
      by_cases hc78 : z_3 = (126 : Int32)
      ·
        refine Wk.icmpNo X7 hx (hb hby at_78) (n := 81) rfl (teq hc78).2 ?_
        refine Wk.iload X7 hx (hb hby at_81) (n := 83) rfl rfl ?_
        refine Wk.bipush X7 hx (hb hby at_83) (n := 85) rfl (z := (92 : Int32)) rfl ?_
        by_cases hc85 : z_4 = (92 : Int32)
        ·
          refine Wk.icmpNo X7 hx (hb hby at_85) (n := 88) rfl (teq hc85).2 ?_
          refine Wk.iload X7 hx (hb hby at_88) (n := 90) rfl rfl ?_
          refine Wk.bipush X7 hx (hb hby at_90) (n := 92) rfl (z := (38 : Int32)) rfl ?_
          by_cases hc92 : z_5 = (38 : Int32)
          ·
            refine Wk.icmpNo X7 hx (hb hby at_92) (n := 95) rfl (teq hc92).2 ?_
            refine Wk.iconst X7 hx (hb hby at_95) (n := 96) rfl (z := (1 : Int32)) rfl ?_
            refine Wk.goto X7 hx (hb hby at_96) (by decide) (n := 100) (by decide) ?_
            refine Wk.istore X7 hx (hb hby at_100) (n := 102) rfl (L' := #[.val (.int p1), .val (.int p2), .val (.int p3), .val (.int p4), .val (.int p5), .val (.int z_1), .val (.int z_2), .val (.int z_3), .val (.int z_4), .val (.int z_5), .val (.ref b6), .val (.int (1 : Int32))]) rfl ?_
            refine Wk.aload X7 hx (hb hby at_102) (n := 104) rfl rfl rfl ?_
            have f8 := ((O1.ext Ex6).keep J7 (allS (by omega) all0))
            obtain ⟨cq9, kq9, qn9a, qn9b, qn9c⟩ := isOf hZ rfl p7_0
            have cl9_ := fun (Ls : Array Slot) (hLs : Ls.size = c.maxLocals) => X7.virtualBack hx (y := (⟨"com/example/depeche/depeche/hl7/Separators", "isStandard", "()Z"⟩ : MethodName)) (z := (⟨"com/example/depeche/depeche/hl7/Separators", "isStandard", "()Z"⟩ : MethodName)) hown (mvT hZ (hw _ (List.mem_of_getElem? (i := 28) rfl))) (mvT hZ (hw _ (List.mem_of_getElem? (i := 29) rfl))) (notFace_of_selects (args := #[]) (mvT hZ (hw _ (List.mem_of_getElem? (i := 31) rfl)))) (mvT hZ (hw _ (List.mem_of_getElem? (i := 31) rfl))) (mvT hZ (hw _ (List.mem_of_getElem? (i := 30) rfl))) (by decide) (backOf (W := 0) (rmIsS l Z a0 hw [] b6 w1 z_1 z_2 z_3 z_4 z_5 T7.heap n0 (by omega) p7_1 p7_2 p7_3 p7_4 p7_5 S1 f8 G0 G1 G2 G3 G4) hZ (hw _ (List.mem_of_getElem? (i := 32) rfl)) (hw _ (List.mem_of_getElem? (i := 6) rfl)) (by decide) (by decide)) qn9a qn9c (g := mkF m 104 Ls [(.ref b6)]) rfl hLs (Steps.refl _) (argsL := []) (rest := []) (lenOf pd_3 rfl) rfl (by show 2 * 0 + _ ≤ _; exact Nat.le_of_eq rfl) (hb hby at_104) (fun _ _ => ⟨rfl, rfl, (by decide : 0 + 0 + 0 + 0 + 0 + 0 + 1 + 0 + 0 ≤ _), (by decide : 0 + 0 + 0 + 0 + 0 + 0 + 5 + 0 + 0 ≤ _)⟩)
            refine Wk.back (n := 107) (rc := 0) (rs := 0) (Q := Q_rmIsS Z b6 w1 z_1 z_2 z_3 z_4 z_5 T7.heap n0) (cl9_ _ (by rw [hml]; rfl)) fun vn9 T9 L9 X9 hQ9 => ?_
            clear cl9_
            obtain ⟨iv_9, rfl, M9, e9, hy_9, hn_9⟩ := hQ9
            have N9 := Fr.app N7 M9
            show Wk p e below s _ _ _ T9 (mkF m 107 _ [(.int iv_9)])
            refine Wk.iload X9 hx (hb hby at_107) (n := 109) rfl rfl ?_
            have hc109_10 : iv_9 = (1 : Int32) := hy_9 ⟨hc64, hc71, hc78, hc85, hc92⟩
            refine Wk.icmpNo X9 hx (hb hby at_109) (n := 112) rfl (teq hc109_10).2 ?_
            refine Wk.iconst X9 hx (hb hby at_112) (n := 113) rfl (z := (1 : Int32)) rfl ?_
            refine Wk.goto X9 hx (hb hby at_113) (by decide) (n := 117) (by decide) ?_
            exact Wk.leave X9 (v := some (.int (1 : Int32))) (fun h => by rw [Bd.returns] at h; cases h) hlk e9 ⟨rfl, N9, K7⟩ (by decide) (by decide) (fun fs hr => retNz X9 hx (t := .boolean) rfl Bd.returns (by simp) (hb hby at_117) hr)
          ·
            refine Wk.icmpYes X7 hx (hb hby at_92) (feq hc92).2 (by decide) (n := 99) (by decide) ?_
            refine Wk.iconst X7 hx (hb hby at_99) (n := 100) rfl (z := (0 : Int32)) rfl ?_
            refine Wk.istore X7 hx (hb hby at_100) (n := 102) rfl (L' := #[.val (.int p1), .val (.int p2), .val (.int p3), .val (.int p4), .val (.int p5), .val (.int z_1), .val (.int z_2), .val (.int z_3), .val (.int z_4), .val (.int z_5), .val (.ref b6), .val (.int (0 : Int32))]) rfl ?_
            refine Wk.aload X7 hx (hb hby at_102) (n := 104) rfl rfl rfl ?_
            have f11 := ((O1.ext Ex6).keep J7 (allS (by omega) all0))
            obtain ⟨cq12, kq12, qn12a, qn12b, qn12c⟩ := isOf hZ rfl p7_0
            have cl12_ := fun (Ls : Array Slot) (hLs : Ls.size = c.maxLocals) => X7.virtualBack hx (y := (⟨"com/example/depeche/depeche/hl7/Separators", "isStandard", "()Z"⟩ : MethodName)) (z := (⟨"com/example/depeche/depeche/hl7/Separators", "isStandard", "()Z"⟩ : MethodName)) hown (mvT hZ (hw _ (List.mem_of_getElem? (i := 28) rfl))) (mvT hZ (hw _ (List.mem_of_getElem? (i := 29) rfl))) (notFace_of_selects (args := #[]) (mvT hZ (hw _ (List.mem_of_getElem? (i := 31) rfl)))) (mvT hZ (hw _ (List.mem_of_getElem? (i := 31) rfl))) (mvT hZ (hw _ (List.mem_of_getElem? (i := 30) rfl))) (by decide) (backOf (W := 0) (rmIsS l Z a0 hw [] b6 w1 z_1 z_2 z_3 z_4 z_5 T7.heap n0 (by omega) p7_1 p7_2 p7_3 p7_4 p7_5 S1 f11 G0 G1 G2 G3 G4) hZ (hw _ (List.mem_of_getElem? (i := 32) rfl)) (hw _ (List.mem_of_getElem? (i := 6) rfl)) (by decide) (by decide)) qn12a qn12c (g := mkF m 104 Ls [(.ref b6)]) rfl hLs (Steps.refl _) (argsL := []) (rest := []) (lenOf pd_3 rfl) rfl (by show 2 * 0 + _ ≤ _; exact Nat.le_of_eq rfl) (hb hby at_104) (fun _ _ => ⟨rfl, rfl, (by decide : 0 + 0 + 0 + 0 + 0 + 0 + 1 + 0 + 0 ≤ _), (by decide : 0 + 0 + 0 + 0 + 0 + 0 + 5 + 0 + 0 ≤ _)⟩)
            refine Wk.back (n := 107) (rc := 0) (rs := 0) (Q := Q_rmIsS Z b6 w1 z_1 z_2 z_3 z_4 z_5 T7.heap n0) (cl12_ _ (by rw [hml]; rfl)) fun vn12 T12 L12 X12 hQ12 => ?_
            clear cl12_
            obtain ⟨iv_12, rfl, M12, e12, hy_12, hn_12⟩ := hQ12
            have N12 := Fr.app N7 M12
            show Wk p e below s _ _ _ T12 (mkF m 107 _ [(.int iv_12)])
            refine Wk.iload X12 hx (hb hby at_107) (n := 109) rfl rfl ?_
            have hc109_13 : iv_12 = (0 : Int32) := hn_12 (fun q => hc92 q.2.2.2.2)
            refine Wk.icmpNo X12 hx (hb hby at_109) (n := 112) rfl (teq hc109_13).2 ?_
            refine Wk.iconst X12 hx (hb hby at_112) (n := 113) rfl (z := (1 : Int32)) rfl ?_
            refine Wk.goto X12 hx (hb hby at_113) (by decide) (n := 117) (by decide) ?_
            exact Wk.leave X12 (v := some (.int (1 : Int32))) (fun h => by rw [Bd.returns] at h; cases h) hlk e12 ⟨rfl, N12, K7⟩ (by decide) (by decide) (fun fs hr => retNz X12 hx (t := .boolean) rfl Bd.returns (by simp) (hb hby at_117) hr)
        ·
          refine Wk.icmpYes X7 hx (hb hby at_85) (feq hc85).2 (by decide) (n := 99) (by decide) ?_
          refine Wk.iconst X7 hx (hb hby at_99) (n := 100) rfl (z := (0 : Int32)) rfl ?_
          refine Wk.istore X7 hx (hb hby at_100) (n := 102) rfl (L' := #[.val (.int p1), .val (.int p2), .val (.int p3), .val (.int p4), .val (.int p5), .val (.int z_1), .val (.int z_2), .val (.int z_3), .val (.int z_4), .val (.int z_5), .val (.ref b6), .val (.int (0 : Int32))]) rfl ?_
          refine Wk.aload X7 hx (hb hby at_102) (n := 104) rfl rfl rfl ?_
          have f14 := ((O1.ext Ex6).keep J7 (allS (by omega) all0))
          obtain ⟨cq15, kq15, qn15a, qn15b, qn15c⟩ := isOf hZ rfl p7_0
          have cl15_ := fun (Ls : Array Slot) (hLs : Ls.size = c.maxLocals) => X7.virtualBack hx (y := (⟨"com/example/depeche/depeche/hl7/Separators", "isStandard", "()Z"⟩ : MethodName)) (z := (⟨"com/example/depeche/depeche/hl7/Separators", "isStandard", "()Z"⟩ : MethodName)) hown (mvT hZ (hw _ (List.mem_of_getElem? (i := 28) rfl))) (mvT hZ (hw _ (List.mem_of_getElem? (i := 29) rfl))) (notFace_of_selects (args := #[]) (mvT hZ (hw _ (List.mem_of_getElem? (i := 31) rfl)))) (mvT hZ (hw _ (List.mem_of_getElem? (i := 31) rfl))) (mvT hZ (hw _ (List.mem_of_getElem? (i := 30) rfl))) (by decide) (backOf (W := 0) (rmIsS l Z a0 hw [] b6 w1 z_1 z_2 z_3 z_4 z_5 T7.heap n0 (by omega) p7_1 p7_2 p7_3 p7_4 p7_5 S1 f14 G0 G1 G2 G3 G4) hZ (hw _ (List.mem_of_getElem? (i := 32) rfl)) (hw _ (List.mem_of_getElem? (i := 6) rfl)) (by decide) (by decide)) qn15a qn15c (g := mkF m 104 Ls [(.ref b6)]) rfl hLs (Steps.refl _) (argsL := []) (rest := []) (lenOf pd_3 rfl) rfl (by show 2 * 0 + _ ≤ _; exact Nat.le_of_eq rfl) (hb hby at_104) (fun _ _ => ⟨rfl, rfl, (by decide : 0 + 0 + 0 + 0 + 0 + 0 + 1 + 0 + 0 ≤ _), (by decide : 0 + 0 + 0 + 0 + 0 + 0 + 5 + 0 + 0 ≤ _)⟩)
          refine Wk.back (n := 107) (rc := 0) (rs := 0) (Q := Q_rmIsS Z b6 w1 z_1 z_2 z_3 z_4 z_5 T7.heap n0) (cl15_ _ (by rw [hml]; rfl)) fun vn15 T15 L15 X15 hQ15 => ?_
          clear cl15_
          obtain ⟨iv_15, rfl, M15, e15, hy_15, hn_15⟩ := hQ15
          have N15 := Fr.app N7 M15
          show Wk p e below s _ _ _ T15 (mkF m 107 _ [(.int iv_15)])
          refine Wk.iload X15 hx (hb hby at_107) (n := 109) rfl rfl ?_
          have hc109_16 : iv_15 = (0 : Int32) := hn_15 (fun q => hc85 q.2.2.2.1)
          refine Wk.icmpNo X15 hx (hb hby at_109) (n := 112) rfl (teq hc109_16).2 ?_
          refine Wk.iconst X15 hx (hb hby at_112) (n := 113) rfl (z := (1 : Int32)) rfl ?_
          refine Wk.goto X15 hx (hb hby at_113) (by decide) (n := 117) (by decide) ?_
          exact Wk.leave X15 (v := some (.int (1 : Int32))) (fun h => by rw [Bd.returns] at h; cases h) hlk e15 ⟨rfl, N15, K7⟩ (by decide) (by decide) (fun fs hr => retNz X15 hx (t := .boolean) rfl Bd.returns (by simp) (hb hby at_117) hr)
      ·
        refine Wk.icmpYes X7 hx (hb hby at_78) (feq hc78).2 (by decide) (n := 99) (by decide) ?_
        refine Wk.iconst X7 hx (hb hby at_99) (n := 100) rfl (z := (0 : Int32)) rfl ?_
        refine Wk.istore X7 hx (hb hby at_100) (n := 102) rfl (L' := #[.val (.int p1), .val (.int p2), .val (.int p3), .val (.int p4), .val (.int p5), .val (.int z_1), .val (.int z_2), .val (.int z_3), .val (.int z_4), .val (.int z_5), .val (.ref b6), .val (.int (0 : Int32))]) rfl ?_
        refine Wk.aload X7 hx (hb hby at_102) (n := 104) rfl rfl rfl ?_
        have f17 := ((O1.ext Ex6).keep J7 (allS (by omega) all0))
        obtain ⟨cq18, kq18, qn18a, qn18b, qn18c⟩ := isOf hZ rfl p7_0
        have cl18_ := fun (Ls : Array Slot) (hLs : Ls.size = c.maxLocals) => X7.virtualBack hx (y := (⟨"com/example/depeche/depeche/hl7/Separators", "isStandard", "()Z"⟩ : MethodName)) (z := (⟨"com/example/depeche/depeche/hl7/Separators", "isStandard", "()Z"⟩ : MethodName)) hown (mvT hZ (hw _ (List.mem_of_getElem? (i := 28) rfl))) (mvT hZ (hw _ (List.mem_of_getElem? (i := 29) rfl))) (notFace_of_selects (args := #[]) (mvT hZ (hw _ (List.mem_of_getElem? (i := 31) rfl)))) (mvT hZ (hw _ (List.mem_of_getElem? (i := 31) rfl))) (mvT hZ (hw _ (List.mem_of_getElem? (i := 30) rfl))) (by decide) (backOf (W := 0) (rmIsS l Z a0 hw [] b6 w1 z_1 z_2 z_3 z_4 z_5 T7.heap n0 (by omega) p7_1 p7_2 p7_3 p7_4 p7_5 S1 f17 G0 G1 G2 G3 G4) hZ (hw _ (List.mem_of_getElem? (i := 32) rfl)) (hw _ (List.mem_of_getElem? (i := 6) rfl)) (by decide) (by decide)) qn18a qn18c (g := mkF m 104 Ls [(.ref b6)]) rfl hLs (Steps.refl _) (argsL := []) (rest := []) (lenOf pd_3 rfl) rfl (by show 2 * 0 + _ ≤ _; exact Nat.le_of_eq rfl) (hb hby at_104) (fun _ _ => ⟨rfl, rfl, (by decide : 0 + 0 + 0 + 0 + 0 + 0 + 1 + 0 + 0 ≤ _), (by decide : 0 + 0 + 0 + 0 + 0 + 0 + 5 + 0 + 0 ≤ _)⟩)
        refine Wk.back (n := 107) (rc := 0) (rs := 0) (Q := Q_rmIsS Z b6 w1 z_1 z_2 z_3 z_4 z_5 T7.heap n0) (cl18_ _ (by rw [hml]; rfl)) fun vn18 T18 L18 X18 hQ18 => ?_
        clear cl18_
        obtain ⟨iv_18, rfl, M18, e18, hy_18, hn_18⟩ := hQ18
        have N18 := Fr.app N7 M18
        show Wk p e below s _ _ _ T18 (mkF m 107 _ [(.int iv_18)])
        refine Wk.iload X18 hx (hb hby at_107) (n := 109) rfl rfl ?_
        have hc109_19 : iv_18 = (0 : Int32) := hn_18 (fun q => hc78 q.2.2.1)
        refine Wk.icmpNo X18 hx (hb hby at_109) (n := 112) rfl (teq hc109_19).2 ?_
        refine Wk.iconst X18 hx (hb hby at_112) (n := 113) rfl (z := (1 : Int32)) rfl ?_
        refine Wk.goto X18 hx (hb hby at_113) (by decide) (n := 117) (by decide) ?_
        exact Wk.leave X18 (v := some (.int (1 : Int32))) (fun h => by rw [Bd.returns] at h; cases h) hlk e18 ⟨rfl, N18, K7⟩ (by decide) (by decide) (fun fs hr => retNz X18 hx (t := .boolean) rfl Bd.returns (by simp) (hb hby at_117) hr)
    ·
      refine Wk.icmpYes X7 hx (hb hby at_71) (feq hc71).2 (by decide) (n := 99) (by decide) ?_
      refine Wk.iconst X7 hx (hb hby at_99) (n := 100) rfl (z := (0 : Int32)) rfl ?_
      refine Wk.istore X7 hx (hb hby at_100) (n := 102) rfl (L' := #[.val (.int p1), .val (.int p2), .val (.int p3), .val (.int p4), .val (.int p5), .val (.int z_1), .val (.int z_2), .val (.int z_3), .val (.int z_4), .val (.int z_5), .val (.ref b6), .val (.int (0 : Int32))]) rfl ?_
      refine Wk.aload X7 hx (hb hby at_102) (n := 104) rfl rfl rfl ?_
      have f20 := ((O1.ext Ex6).keep J7 (allS (by omega) all0))
      obtain ⟨cq21, kq21, qn21a, qn21b, qn21c⟩ := isOf hZ rfl p7_0
      have cl21_ := fun (Ls : Array Slot) (hLs : Ls.size = c.maxLocals) => X7.virtualBack hx (y := (⟨"com/example/depeche/depeche/hl7/Separators", "isStandard", "()Z"⟩ : MethodName)) (z := (⟨"com/example/depeche/depeche/hl7/Separators", "isStandard", "()Z"⟩ : MethodName)) hown (mvT hZ (hw _ (List.mem_of_getElem? (i := 28) rfl))) (mvT hZ (hw _ (List.mem_of_getElem? (i := 29) rfl))) (notFace_of_selects (args := #[]) (mvT hZ (hw _ (List.mem_of_getElem? (i := 31) rfl)))) (mvT hZ (hw _ (List.mem_of_getElem? (i := 31) rfl))) (mvT hZ (hw _ (List.mem_of_getElem? (i := 30) rfl))) (by decide) (backOf (W := 0) (rmIsS l Z a0 hw [] b6 w1 z_1 z_2 z_3 z_4 z_5 T7.heap n0 (by omega) p7_1 p7_2 p7_3 p7_4 p7_5 S1 f20 G0 G1 G2 G3 G4) hZ (hw _ (List.mem_of_getElem? (i := 32) rfl)) (hw _ (List.mem_of_getElem? (i := 6) rfl)) (by decide) (by decide)) qn21a qn21c (g := mkF m 104 Ls [(.ref b6)]) rfl hLs (Steps.refl _) (argsL := []) (rest := []) (lenOf pd_3 rfl) rfl (by show 2 * 0 + _ ≤ _; exact Nat.le_of_eq rfl) (hb hby at_104) (fun _ _ => ⟨rfl, rfl, (by decide : 0 + 0 + 0 + 0 + 0 + 0 + 1 + 0 + 0 ≤ _), (by decide : 0 + 0 + 0 + 0 + 0 + 0 + 5 + 0 + 0 ≤ _)⟩)
      refine Wk.back (n := 107) (rc := 0) (rs := 0) (Q := Q_rmIsS Z b6 w1 z_1 z_2 z_3 z_4 z_5 T7.heap n0) (cl21_ _ (by rw [hml]; rfl)) fun vn21 T21 L21 X21 hQ21 => ?_
      clear cl21_
      obtain ⟨iv_21, rfl, M21, e21, hy_21, hn_21⟩ := hQ21
      have N21 := Fr.app N7 M21
      show Wk p e below s _ _ _ T21 (mkF m 107 _ [(.int iv_21)])
      refine Wk.iload X21 hx (hb hby at_107) (n := 109) rfl rfl ?_
      have hc109_22 : iv_21 = (0 : Int32) := hn_21 (fun q => hc71 q.2.1)
      refine Wk.icmpNo X21 hx (hb hby at_109) (n := 112) rfl (teq hc109_22).2 ?_
      refine Wk.iconst X21 hx (hb hby at_112) (n := 113) rfl (z := (1 : Int32)) rfl ?_
      refine Wk.goto X21 hx (hb hby at_113) (by decide) (n := 117) (by decide) ?_
      exact Wk.leave X21 (v := some (.int (1 : Int32))) (fun h => by rw [Bd.returns] at h; cases h) hlk e21 ⟨rfl, N21, K7⟩ (by decide) (by decide) (fun fs hr => retNz X21 hx (t := .boolean) rfl Bd.returns (by simp) (hb hby at_117) hr)
  ·
    refine Wk.icmpYes X7 hx (hb hby at_64) (feq hc64).2 (by decide) (n := 99) (by decide) ?_
    refine Wk.iconst X7 hx (hb hby at_99) (n := 100) rfl (z := (0 : Int32)) rfl ?_
    refine Wk.istore X7 hx (hb hby at_100) (n := 102) rfl (L' := #[.val (.int p1), .val (.int p2), .val (.int p3), .val (.int p4), .val (.int p5), .val (.int z_1), .val (.int z_2), .val (.int z_3), .val (.int z_4), .val (.int z_5), .val (.ref b6), .val (.int (0 : Int32))]) rfl ?_
    refine Wk.aload X7 hx (hb hby at_102) (n := 104) rfl rfl rfl ?_
    have f23 := ((O1.ext Ex6).keep J7 (allS (by omega) all0))
    obtain ⟨cq24, kq24, qn24a, qn24b, qn24c⟩ := isOf hZ rfl p7_0
    have cl24_ := fun (Ls : Array Slot) (hLs : Ls.size = c.maxLocals) => X7.virtualBack hx (y := (⟨"com/example/depeche/depeche/hl7/Separators", "isStandard", "()Z"⟩ : MethodName)) (z := (⟨"com/example/depeche/depeche/hl7/Separators", "isStandard", "()Z"⟩ : MethodName)) hown (mvT hZ (hw _ (List.mem_of_getElem? (i := 28) rfl))) (mvT hZ (hw _ (List.mem_of_getElem? (i := 29) rfl))) (notFace_of_selects (args := #[]) (mvT hZ (hw _ (List.mem_of_getElem? (i := 31) rfl)))) (mvT hZ (hw _ (List.mem_of_getElem? (i := 31) rfl))) (mvT hZ (hw _ (List.mem_of_getElem? (i := 30) rfl))) (by decide) (backOf (W := 0) (rmIsS l Z a0 hw [] b6 w1 z_1 z_2 z_3 z_4 z_5 T7.heap n0 (by omega) p7_1 p7_2 p7_3 p7_4 p7_5 S1 f23 G0 G1 G2 G3 G4) hZ (hw _ (List.mem_of_getElem? (i := 32) rfl)) (hw _ (List.mem_of_getElem? (i := 6) rfl)) (by decide) (by decide)) qn24a qn24c (g := mkF m 104 Ls [(.ref b6)]) rfl hLs (Steps.refl _) (argsL := []) (rest := []) (lenOf pd_3 rfl) rfl (by show 2 * 0 + _ ≤ _; exact Nat.le_of_eq rfl) (hb hby at_104) (fun _ _ => ⟨rfl, rfl, (by decide : 0 + 0 + 0 + 0 + 0 + 0 + 1 + 0 + 0 ≤ _), (by decide : 0 + 0 + 0 + 0 + 0 + 0 + 5 + 0 + 0 ≤ _)⟩)
    refine Wk.back (n := 107) (rc := 0) (rs := 0) (Q := Q_rmIsS Z b6 w1 z_1 z_2 z_3 z_4 z_5 T7.heap n0) (cl24_ _ (by rw [hml]; rfl)) fun vn24 T24 L24 X24 hQ24 => ?_
    clear cl24_
    obtain ⟨iv_24, rfl, M24, e24, hy_24, hn_24⟩ := hQ24
    have N24 := Fr.app N7 M24
    show Wk p e below s _ _ _ T24 (mkF m 107 _ [(.int iv_24)])
    refine Wk.iload X24 hx (hb hby at_107) (n := 109) rfl rfl ?_
    have hc109_25 : iv_24 = (0 : Int32) := hn_24 (fun q => hc64 q.1)
    refine Wk.icmpNo X24 hx (hb hby at_109) (n := 112) rfl (teq hc109_25).2 ?_
    refine Wk.iconst X24 hx (hb hby at_112) (n := 113) rfl (z := (1 : Int32)) rfl ?_
    refine Wk.goto X24 hx (hb hby at_113) (by decide) (n := 117) (by decide) ?_
    exact Wk.leave X24 (v := some (.int (1 : Int32))) (fun h => by rw [Bd.returns] at h; cases h) hlk e24 ⟨rfl, N24, K7⟩ (by decide) (by decide) (fun fs hr => retNz X24 hx (t := .boolean) rfl Bd.returns (by simp) (hb hby at_117) hr)
set_option maxRecDepth 65536 in
set_option maxHeartbeats 40000000 in
theorem comes_1 {Post : Tables → Env → Array Value → State → Outcome → State → Prop} (hpost : ∀ tb e args s v u, (limb_1_1.after args s (.returned v) u = true ∧ limb_1_2.after args s (.returned v) u = true ∧ True) → FrameEnd s (.returned v) u (Jvm.fieldLocs frame_1_writes args s ++ Jvm.arrayLocs frame_1_arrays args s ++ Jvm.staticLocs frame_1_statics s) 16 128 → Post tb e args s (.returned v) u) :
    ArmFor flags0 classFile x code maxLocals ret World_1 tables_1 room_1 Calls_1 rest_1 Pre_1 Post := by
  intro l hfl _ _ p e ha hc hk s m args below hf hA hF happ hP
  obtain ⟨hcalls, hrest, hpre⟩ := hP
  obtain ⟨-, -, -, hnamed, -, -, -, hat⟩ := (Spec.applies_iff hf).mp happ
  obtain ⟨hg, hn⟩ := and_e (Cond.before_iff.mp (show (Jvm.Cond.and given_1 narrow_1).before args s = true from hpre))
  obtain ⟨gc, gr⟩ := and_e hg
  obtain ⟨w0, w1, w2, w3, w4, rfl⟩ : ∃ w0 w1 w2 w3 w4 : Value, args = #[w0, w1, w2, w3, w4] := by
    have hs : args.size = 5 := by simpa [Cond.value, given_1] using gc
    obtain ⟨L⟩ := args
    match L, hs with
    | [w0, w1, w2, w3, w4], _ => exact ⟨w0, w1, w2, w3, w4, rfl⟩
  have hw := fun d (hd : d ∈ tables_1) => atoms_spec (ws := Jvm.Cond.code x code maxLocals ret :: tables_1) hat d (List.mem_cons_of_mem _ hd)
  have hfit : Fit s := fun {y c} hc i hi => by
    obtain ⟨ha, rfl⟩ := Array.getElem?_eq_some_iff.mp hc
    have q := List.all_eq_true.mp ((Array.all_eq_true_iff_forall_mem.mp hF) _ (Array.getElem_mem ha)) i (List.mem_range.mpr hi)
    simpa [Array.getElem?_eq_getElem hi] using q
  obtain ⟨g0, gr⟩ := and_e gr
  obtain ⟨i0, ei0⟩ := is_v g0
  obtain rfl : w0 = (.int i0) := Option.some.inj ei0
  obtain ⟨g1, gr⟩ := and_e gr
  obtain ⟨i1, ei1⟩ := is_v g1
  obtain rfl : w1 = (.int i1) := Option.some.inj ei1
  obtain ⟨g2, gr⟩ := and_e gr
  obtain ⟨i2, ei2⟩ := is_v g2
  obtain rfl : w2 = (.int i2) := Option.some.inj ei2
  obtain ⟨g3, gr⟩ := and_e gr
  obtain ⟨i3, ei3⟩ := is_v g3
  obtain rfl : w3 = (.int i3) := Option.some.inj ei3
  obtain ⟨i4, ei4⟩ := is_v gr
  obtain rfl : w4 = (.int i4) := Option.some.inj ei4
  obtain ⟨xS, hn⟩ := and_e hn
  obtain ⟨o0, hn⟩ := and_e hn
  obtain ⟨o1, hn⟩ := and_e hn
  obtain ⟨o2, hn⟩ := and_e hn
  obtain ⟨o3, hn⟩ := and_e hn
  have o4 := hn
  obtain ⟨w1, ew⟩ := exa_v xS
  have S1 := Sta.start ew (Or.inr ⟨hw _ (List.mem_of_getElem? (i := 6) rfl), hw _ (List.mem_of_getElem? (i := 34) rfl)⟩)
  have G0 := own_fld ew (Term.int_eval (124)) o0
  have G1 := own_fld ew (Term.int_eval (94)) o1
  have G2 := own_fld ew (Term.int_eval (126)) o2
  have G3 := own_fld ew (Term.int_eval (92)) o3
  have G4 := own_fld ew (Term.int_eval (38)) o4
  obtain ⟨n, o, h1, h2, h3, _, L, rfl, ⟨rfl, N, -⟩, hq⟩ := rm0 l s _ hw tables_1 i0 i1 i2 i3 i4 w1 s.heap s.heap.size (Nat.le_refl _) S1 (Old.start s) G0 G1 G2 G3 G4 p e ha hc hk s m _ below hf ((Spec.applies_iff_loose hf).mp happ).1 ⟨rfl, State.Warmed39.refl s, rfl⟩ trivial
  refine ⟨n, _, h1, h2, h3, hpost _ _ _ _ _ _ ⟨Cond.after_iff.mpr rfl, Cond.after_iff.mpr (eq_i res_at (Term.int_eval (1)) rfl), trivial⟩ ⟨hq.1, hq.2.1, (hq.2.2.sift fun y hy => Or.inr (N y hy)).mono (by decide) (by decide)⟩⟩
theorem main_1_1 : Claimed_1_1 := comes_1 fun _ _ _ _ _ _ h hF => ⟨h.1, hF⟩
theorem main_1_2 : Claimed_1_2 := comes_1 fun _ _ _ _ _ _ h hF => ⟨h.2.1, hF⟩
end Jvm.Pilot.@@N@@
namespace Jvm.Pilot.@@N@@
open Jvm Jvm.ClassFile Sem Op Lib Jvm.Free Jvm.Stand Jvm.Pilot.@@N@@.Jvm.D
/-! MADE BY PROGRAM (witnessworld.py) out of the Statement's table words and the real class files: 10 classes; the members and pool entries that the words name. The judged class is class 1, her method 2. -/
namespace start1
open Jvm.ClassFile
def u (s : String) : CpInfo := .utf8 (stringToUtf16 s)
/-- a pool by its gaps: so many unusable entries, then the entry; so many at the end -/
def gap : Nat → List CpInfo → List CpInfo
  | 0, r => r
  | n + 1, r => .unusable :: gap n r
def poolList (es : List (Nat × CpInfo)) (last : Nat) : List CpInfo := es.foldr (fun e r => gap e.1 (e.2 :: r)) (gap last [])
def pool (es : List (Nat × CpInfo)) (last : Nat) : Array CpInfo := ⟨poolList es last⟩
def fileOf (pool : Array CpInfo) (this : Nat) (attrs : Array Attribute := #[]) (ms : Array MethodInfo := #[]) (fl : Nat := 33) (sup : Nat := 0) (ifs : Array Nat := #[]) (fds : Array FieldInfo := #[]) : ClassFile where
  minorVersion := 0
  majorVersion := 65
  constantPool := pool
  accessFlags := fl
  thisClass := this
  superClass := sup
  interfaces := ifs
  fields := fds
  methods := ms
  attributes := attrs
def plain (name : String) (sup : Option ClassId) : Class where
  name := name
  kind := .ordinary
  loader := none
  accessFlags := 33
  super := sup
  interfaces := #[]
  cf := none
  fields := #[]
  methods := #[]
  instanceTypes := #[]
  staticTypes := #[]
  resolved := #[]
  callSites := []
  init := .initialized
  statics := none
  mirror := none

def pool0 : Array CpInfo := pool [(5, u "<init>"), (0, u "()V"), (1, .class_ 10), (1, u "java/lang/Object")] 113

def k0c0 : Code := { maxStack := 0, maxLocals := 1, code := object_method_1_code, exceptionTable := #[], attributes := #[] }
def k0m0 : Method := { name := "<init>", desc := "()V", sig := { parameters := [], returnType := none }, accessFlags := 1, code := some k0c0 }
/-- java/lang/Object -/
def k0 : Class := { plain "java/lang/Object" none with
  accessFlags := 33
  interfaces := #[]
  cf := some (fileOf pool0 8 #[] #[{ accessFlags := 1, nameIndex := 5, descriptorIndex := 6, attributes := #[] }] 33 0 #[] #[])
  fields := #[]
  methods := #[k0m0]
  instanceTypes := #[]
  staticTypes := #[]
  resolved := Array.replicate 124 none
  statics := none }

def pool1 : Array CpInfo := pool [(2, .class_ 4), (1, u "java/lang/Object"), (0, u "<init>"), (0, u "()V"), (0, .methodref 8 9), (0, .class_ 10), (0, .nameAndType 11 12), (0, u "com/example/depeche/depeche/hl7/SeparatorsIsStandardPinLaw"), (0, u "pick"), (0, u "(IC)C"), (0, .class_ 14), (0, u "com/example/depeche/depeche/hl7/Separators"), (0, .methodref 13 16), (0, .nameAndType 5 17), (0, u "(CCCCC)V"), (0, .methodref 13 19), (0, .nameAndType 20 21), (0, u "isStandard"), (0, u "()Z"), (3, u "law"), (0, u "(IIIII)Z")] 2

def k1m0 : Method := { name := "<init>", desc := "()V", sig := { parameters := [], returnType := none }, accessFlags := 1, code := none }
def k1c1 : Code := { maxStack := 2, maxLocals := 2, code := method_2_code, exceptionTable := #[], attributes := #[] }
def k1m1 : Method := { name := "pick", desc := "(IC)C", sig := { parameters := [.int, .char], returnType := some .char }, accessFlags := 10, code := some k1c1 }
def k1c2 : Code := { maxStack := 7, maxLocals := 12, code := code, exceptionTable := #[], attributes := #[] }
def k1m2 : Method := { name := "law", desc := "(IIIII)Z", sig := { parameters := [.int, .int, .int, .int, .int], returnType := some .boolean }, accessFlags := 9, code := some k1c2 }
/-- com/example/depeche/depeche/hl7/SeparatorsIsStandardPinLaw -/
def k1 : Class := { plain "com/example/depeche/depeche/hl7/SeparatorsIsStandardPinLaw" (some 0) with
  accessFlags := 49
  interfaces := #[]
  cf := some (fileOf pool1 8 #[] #[{ accessFlags := 1, nameIndex := 5, descriptorIndex := 6, attributes := #[] }, { accessFlags := 10, nameIndex := 11, descriptorIndex := 12, attributes := #[] }, { accessFlags := 9, nameIndex := 25, descriptorIndex := 26, attributes := #[] }] 49 2 #[] #[])
  fields := #[]
  methods := #[k1m0, k1m1, k1m2]
  instanceTypes := #[]
  staticTypes := #[]
  resolved := Array.replicate 29 none
  statics := none }

def pool2 : Array CpInfo := pool [(1, .methodref 2 3), (0, .class_ 4), (0, .nameAndType 5 6), (0, u "java/lang/Object"), (0, u "<init>"), (0, u "()V"), (0, .class_ 8), (0, u "java/lang/Record")] 13

def k2c0 : Code := { maxStack := 1, maxLocals := 1, code := jdk_30_method_1_code, exceptionTable := #[], attributes := #[] }
def k2m0 : Method := { name := "<init>", desc := "()V", sig := { parameters := [], returnType := none }, accessFlags := 4, code := some k2c0 }
/-- java/lang/Record -/
def k2 : Class := { plain "java/lang/Record" (some 0) with
  accessFlags := 1057
  interfaces := #[]
  cf := some (fileOf pool2 7 #[] #[{ accessFlags := 4, nameIndex := 5, descriptorIndex := 6, attributes := #[] }] 1057 2 #[] #[])
  fields := #[]
  methods := #[k2m0]
  instanceTypes := #[]
  staticTypes := #[]
  resolved := Array.replicate 22 none
  statics := none }

def pool3 : Array CpInfo := pool [(1, .methodref 2 3), (0, .class_ 4), (0, .nameAndType 5 6), (0, u "java/lang/Record"), (0, u "<init>"), (0, u "()V"), (0, .fieldref 8 9), (0, .class_ 10), (0, .nameAndType 11 12), (0, u "com/example/depeche/depeche/hl7/Separators"), (0, u "field"), (0, u "C"), (0, .fieldref 8 14), (0, .nameAndType 15 12), (0, u "component"), (0, .fieldref 8 17), (0, .nameAndType 18 12), (0, u "repetition"), (0, .fieldref 8 20), (0, .nameAndType 21 12), (0, u "escape"), (0, .fieldref 8 23), (0, .nameAndType 24 12), (0, u "subComponent"), (2, u "isStandard"), (0, u "()Z"), (15, .fieldref 8 45), (0, .nameAndType 46 47), (0, u "STANDARD"), (0, u "Lcom/example/depeche/depeche/hl7/Separators;"), (21, u "DELIMITERS"), (0, u "Ljava/lang/String;"), (25, u "(CCCCC)V"), (3, u "ESCAPES")] 45

def k3c0 : Code := { maxStack := 2, maxLocals := 6, code := prog_23_method_1_code, exceptionTable := #[], attributes := #[] }
def k3m0 : Method := { name := "<init>", desc := "(CCCCC)V", sig := { parameters := [.char, .char, .char, .char, .char], returnType := none }, accessFlags := 1, code := some k3c0 }
def k3c1 : Code := { maxStack := 2, maxLocals := 1, code := prog_23_method_4_code, exceptionTable := #[], attributes := #[] }
def k3m1 : Method := { name := "isStandard", desc := "()Z", sig := { parameters := [], returnType := some .boolean }, accessFlags := 1, code := some k3c1 }
/-- com/example/depeche/depeche/hl7/Separators -/
def k3 : Class := { plain "com/example/depeche/depeche/hl7/Separators" (some 2) with
  accessFlags := 49
  interfaces := #[]
  cf := some (fileOf pool3 8 #[] #[{ accessFlags := 1, nameIndex := 5, descriptorIndex := 96, attributes := #[] }, { accessFlags := 1, nameIndex := 27, descriptorIndex := 28, attributes := #[] }] 49 2 #[] #[{ accessFlags := 18, nameIndex := 11, descriptorIndex := 12, attributes := #[] }, { accessFlags := 18, nameIndex := 15, descriptorIndex := 12, attributes := #[] }, { accessFlags := 18, nameIndex := 18, descriptorIndex := 12, attributes := #[] }, { accessFlags := 18, nameIndex := 21, descriptorIndex := 12, attributes := #[] }, { accessFlags := 18, nameIndex := 24, descriptorIndex := 12, attributes := #[] }, { accessFlags := 25, nameIndex := 46, descriptorIndex := 47, attributes := #[] }, { accessFlags := 26, nameIndex := 69, descriptorIndex := 70, attributes := #[] }, { accessFlags := 26, nameIndex := 100, descriptorIndex := 70, attributes := #[] }])
  fields := #[{ name := "field", type := .char, accessFlags := 18, slot := 0, constantValue := 0 }, { name := "component", type := .char, accessFlags := 18, slot := 1, constantValue := 0 }, { name := "repetition", type := .char, accessFlags := 18, slot := 2, constantValue := 0 }, { name := "escape", type := .char, accessFlags := 18, slot := 3, constantValue := 0 }, { name := "subComponent", type := .char, accessFlags := 18, slot := 4, constantValue := 0 }, { name := "STANDARD", type := (.object "com/example/depeche/depeche/hl7/Separators"), accessFlags := 25, slot := 0, constantValue := 0 }, { name := "DELIMITERS", type := (.object "java/lang/String"), accessFlags := 26, slot := 1, constantValue := 0 }, { name := "ESCAPES", type := (.object "java/lang/String"), accessFlags := 26, slot := 2, constantValue := 0 }]
  methods := #[k3m0, k3m1]
  instanceTypes := #[.char, .char, .char, .char, .char]
  staticTypes := #[(.object "com/example/depeche/depeche/hl7/Separators"), (.object "java/lang/String"), (.object "java/lang/String")]
  resolved := Array.replicate 146 none
  statics := some 0 }

def pool4 : Array CpInfo := pool [(1, u "java/lang/Cloneable"), (0, .class_ 1), (0, u "java/lang/Object"), (0, .class_ 3)] 3

/-- java/lang/Cloneable -/
def k4 : Class := { plain "java/lang/Cloneable" (some 0) with
  accessFlags := 1537
  interfaces := #[]
  cf := some (fileOf pool4 2 #[] #[] 1537 4 #[] #[])
  fields := #[]
  methods := #[]
  instanceTypes := #[]
  staticTypes := #[]
  resolved := Array.replicate 8 none
  statics := none }

def pool5 : Array CpInfo := pool [(1, u "java/io/Serializable"), (0, .class_ 1), (0, u "java/lang/Object"), (0, .class_ 3)] 3

/-- java/io/Serializable -/
def k5 : Class := { plain "java/io/Serializable" (some 0) with
  accessFlags := 1537
  interfaces := #[]
  cf := some (fileOf pool5 2 #[] #[] 1537 4 #[] #[])
  fields := #[]
  methods := #[]
  instanceTypes := #[]
  staticTypes := #[]
  resolved := Array.replicate 8 none
  statics := none }

/-- the primitive byte -/
def k6 : Class := { plain "byte" none with kind := .primitive 'B', accessFlags := 0x411 }
/-- [B -/
def k7 : Class := { plain "[B" (some 0) with kind := .array 6 .byte, interfaces := #[4, 5], accessFlags := 1041 }

/-- the primitive int -/
def k8 : Class := { plain "int" none with kind := .primitive 'I', accessFlags := 0x411 }
/-- [I -/
def k9 : Class := { plain "[I" (some 0) with kind := .array 8 .int, interfaces := #[4, 5], accessFlags := 1041 }

def heap : Heap := #[{ cls := 3, slots := #[.ref 1, .null, .null], vm := .statics 3 },
  { cls := 3, slots := #[.int 124, .int 94, .int 126, .int 92, .int 38], vm := .none }]
def classes : Array Class := #[k0, k1, k2, k3, k4, k5, k6, k7, k8, k9]
def interned : List (Array UInt16 × Addr) := []
def slotsUsed : Nat := 8
def theMethod : MethodId := ⟨1, 2⟩
def args0 : Array Value := #[.int 5, .int 6, .int 7, .int 8, .int 9]
def aboutOver (below : List Frame) : State where
  vm := { classes := classes, interned := interned.toArray }
  heap := heap
  slotsUsed := slotsUsed
  threads := #[{ frames := .invoking theMethod args0 :: below }]
def below0 : List Frame := [.native { method := ⟨0, 0⟩, args := #[] }]
def about1 : State := aboutOver below0
def p0 : Program := .bare "" "" ""
def e0 : Env := launch0.env 0 0 0
theorem w_frames : about1.frames = Frame.invoking theMethod args0 :: below0 := rfl
set_option maxRecDepth 65536 in
theorem w_args : argsFit about1.vm theMethod args0 = true := by decide +kernel
set_option maxRecDepth 65536 in
theorem w_heap : heapFits about1 = true := by decide +kernel
set_option maxRecDepth 65536 in
theorem w_runnable : about1.curStatus? = some .runnable := by decide +kernel
set_option maxRecDepth 65536 in
theorem w_alone : about1.alone = true := by decide +kernel
set_option maxRecDepth 65536 in
theorem w_named : about1.methodNamed? x = some theMethod := by decide +kernel
set_option maxRecDepth 65536 in
theorem w_hears : about1.hears theMethod below0 = true := by decide +kernel
set_option maxRecDepth 65536 in
theorem w_ripe : about1.ripe theMethod args0 below0 = true := by decide +kernel
theorem w_running : about1.status = .running := rfl
set_option maxRecDepth 65536 in
theorem w_room : about1.hasRoom e0.platform room_1 = true :=
  launch0.hasRoom_least _ room_1 (by decide +kernel) (by decide +kernel) (by decide +kernel) (by decide +kernel) (by decide +kernel) (by decide +kernel)
theorem allAtoms_all (ts : List Jvm.Cond) (a : Array Jvm.Value) (st : Jvm.State) : (allAtoms ts).before a st = ts.all (fun c => c.before a st) := by
  induction ts with
  | nil => rfl
  | cons c t ih =>
    show (Jvm.Cond.and c (allAtoms t)).before a st = _
    rw [Jvm.Cond.before_and, ih, List.all_cons]
def words1 : List Jvm.Cond := Jvm.Cond.code x code maxLocals ret :: tables_1
/-- a 'code' word, met by the world's own term for the bytes: nothing is compared byte by byte -/
theorem code_word {y : MethodName} {bytes : ByteArray} {mx : Nat} {rt : Option FieldType} {a : Array Value} {s : State} {m : MethodId} {meth : Method} {c : Code} (h1 : s.methodNamed? y = some m) (h2 : s.vm.method? m = some meth) (h3 : meth.code = some c) (h4 : c.code = bytes)
    (h5 : (c.maxLocals == mx && c.exceptionTable.isEmpty && decide (c.maxStack ≤ mostOperands) && decide (meth.sig.returnType = rt) && !meth.locks && decide (parseMethodDescriptor y.desc = some meth.sig)) = true) : (Jvm.Cond.code y bytes mx rt).before a s = true := by
  simp only [Bool.and_eq_true, beq_iff_eq, Bool.not_eq_true', decide_eq_true_eq] at h5
  obtain ⟨⟨⟨⟨⟨g1, g2⟩, g3⟩, g4⟩, g5⟩, g6⟩ := h5
  simp [Cond.before, Cond.holds, Cond.value, h1, h2, h3, h4, g1, g2, g3, g4, g5, g6]
def isCode : Jvm.Cond → Bool
  | .code _ _ _ _ => true
  | _ => false
theorem all_split {L : List Jvm.Cond} {P : Jvm.Cond → Bool} (h1 : L.all (fun c => isCode c || P c) = true) (h2 : ∀ c ∈ L.filter isCode, P c = true) : L.all P = true := by
  refine List.all_eq_true.mpr fun c hc => ?_
  have h := List.all_eq_true.mp h1 c hc
  rcases Bool.eq_false_or_eq_true (isCode c) with hi | hi
  · exact h2 c (List.mem_filter.mpr ⟨hc, hi⟩)
  · simpa [hi] using h
set_option maxRecDepth 65536 in
theorem w_c0 : (Jvm.Cond.code x code maxLocals ret).before args0 about1 = true := code_word (m := ⟨1, 2⟩) (meth := k1m2) (c := k1c2) (by decide +kernel) rfl rfl rfl (by decide +kernel)
set_option maxRecDepth 65536 in
theorem w_c1 : (Jvm.Cond.code ({ cls := "com/example/depeche/depeche/hl7/SeparatorsIsStandardPinLaw", name := "pick", desc := "(IC)C" } : Jvm.MethodName) method_2_code (2 : Nat) (Option.some Jvm.ClassFile.FieldType.char)).before args0 about1 = true := code_word (m := ⟨1, 1⟩) (meth := k1m1) (c := k1c1) (by decide +kernel) rfl rfl rfl (by decide +kernel)
set_option maxRecDepth 65536 in
theorem w_c2 : (Jvm.Cond.code ({ cls := "com/example/depeche/depeche/hl7/Separators", name := "<init>", desc := "(CCCCC)V" } : Jvm.MethodName) prog_23_method_1_code (6 : Nat) (Option.none : Option Jvm.ClassFile.FieldType)).before args0 about1 = true := code_word (m := ⟨3, 0⟩) (meth := k3m0) (c := k3c0) (by decide +kernel) rfl rfl rfl (by decide +kernel)
set_option maxRecDepth 65536 in
theorem w_c3 : (Jvm.Cond.code ({ cls := "java/lang/Record", name := "<init>", desc := "()V" } : Jvm.MethodName) jdk_30_method_1_code (1 : Nat) (Option.none : Option Jvm.ClassFile.FieldType)).before args0 about1 = true := code_word (m := ⟨2, 0⟩) (meth := k2m0) (c := k2c0) (by decide +kernel) rfl rfl rfl (by decide +kernel)
set_option maxRecDepth 65536 in
theorem w_c4 : (Jvm.Cond.code ({ cls := "java/lang/Object", name := "<init>", desc := "()V" } : Jvm.MethodName) object_method_1_code (1 : Nat) (Option.none : Option Jvm.ClassFile.FieldType)).before args0 about1 = true := code_word (m := ⟨0, 0⟩) (meth := k0m0) (c := k0c0) (by decide +kernel) rfl rfl rfl (by decide +kernel)
set_option maxRecDepth 65536 in
theorem w_c5 : (Jvm.Cond.code ({ cls := "com/example/depeche/depeche/hl7/Separators", name := "isStandard", desc := "()Z" } : Jvm.MethodName) prog_23_method_4_code (1 : Nat) (Option.some Jvm.ClassFile.FieldType.boolean)).before args0 about1 = true := code_word (m := ⟨3, 1⟩) (meth := k3m1) (c := k3c1) (by decide +kernel) rfl rfl rfl (by decide +kernel)
def codes1 : List Jvm.Cond := [Jvm.Cond.code x code maxLocals ret, Jvm.Cond.code ({ cls := "com/example/depeche/depeche/hl7/SeparatorsIsStandardPinLaw", name := "pick", desc := "(IC)C" } : Jvm.MethodName) method_2_code (2 : Nat) (Option.some Jvm.ClassFile.FieldType.char), Jvm.Cond.code ({ cls := "com/example/depeche/depeche/hl7/Separators", name := "<init>", desc := "(CCCCC)V" } : Jvm.MethodName) prog_23_method_1_code (6 : Nat) (Option.none : Option Jvm.ClassFile.FieldType), Jvm.Cond.code ({ cls := "java/lang/Record", name := "<init>", desc := "()V" } : Jvm.MethodName) jdk_30_method_1_code (1 : Nat) (Option.none : Option Jvm.ClassFile.FieldType), Jvm.Cond.code ({ cls := "java/lang/Object", name := "<init>", desc := "()V" } : Jvm.MethodName) object_method_1_code (1 : Nat) (Option.none : Option Jvm.ClassFile.FieldType), Jvm.Cond.code ({ cls := "com/example/depeche/depeche/hl7/Separators", name := "isStandard", desc := "()Z" } : Jvm.MethodName) prog_23_method_4_code (1 : Nat) (Option.some Jvm.ClassFile.FieldType.boolean)]
set_option maxRecDepth 65536 in
theorem codes_eq : words1.filter isCode = codes1 := rfl
theorem w_codes : ∀ c ∈ words1.filter isCode, c.before args0 about1 = true := by
  rw [codes_eq]
  intro c hc
  simp only [codes1, List.mem_cons, List.not_mem_nil, or_false] at hc
  rcases hc with rfl | rfl | rfl | rfl | rfl | rfl
  · exact w_c0
  · exact w_c1
  · exact w_c2
  · exact w_c3
  · exact w_c4
  · exact w_c5
set_option maxRecDepth 65536 in
theorem w_t1 : (words1.take 24).all (fun c => isCode c || c.before args0 about1) = true := by decide +kernel
set_option maxRecDepth 65536 in
theorem w_t2 : (words1.drop 24).all (fun c => isCode c || c.before args0 about1) = true := by decide +kernel
theorem w_tables : (allAtoms (Jvm.Cond.code x code maxLocals ret :: tables_1)).before args0 about1 = true := by
  rw [allAtoms_all]
  show words1.all (fun c => c.before args0 about1) = true
  refine all_split ?_ w_codes
  rw [← List.take_append_drop 24 words1, List.all_append, w_t1, w_t2]
  rfl
set_option maxRecDepth 65536 in
theorem w_case : (Jvm.Cond.and given_1 narrow_1).before args0 about1 = true := by decide +kernel
theorem w_applies : (headSpec (Jvm.Cond.code x code maxLocals ret :: tables_1) room_1).applies x e0.platform about1 = true :=
  (Spec.applies_iff w_frames).mpr ⟨w_running, w_runnable, w_alone, w_named, w_hears, w_ripe, w_room, w_tables⟩
theorem atStart : AtStart classFile x code maxLocals ret World_1 tables_1 room_1 Calls_1 rest_1 Pre_1 launch0 p0 e0 about1 theMethod args0 below0 :=
  ⟨lists_1, trivial, launch0.admits_env _ _ _, launch0.least_env, fairChoices_fair.cas, fairChoices_fair.clock, w_frames, w_args, w_heap, w_applies, trivial, trivial, w_case⟩
end start1
theorem witness_1 : WitnessClaimed_1 := ⟨start1.p0, start1.e0, start1.about1, start1.theMethod, start1.args0, start1.below0, start1.atStart⟩
end Jvm.Pilot.@@N@@
