import JvmDerived
import JvmDerived.Pilot.@@N@@Statement
import JvmDerived.Pilot.@@N@@Code
set_option linter.unusedVariables false
set_option linter.unusedSimpArgs false
namespace Jvm.RoadKit
open Sem ClassFile Op Lib Jvm.Stand Jvm.Free Jvm.LawKit
section Own
variable {p : Program} {l : Launch} {e : Env} {R : Room} {s : State} {m : MethodId} {args : Array Value} {below : List Frame} {meth : Method} {c : Code} {T T' : State} {locs : List Loc} {cells slots : Nat} {g g' : JFrame} {Qf : Option Value → Heap → List Loc → Prop} {C S : Nat} {Z : State} {a0 : Array Value} {h : Heap} {pc n : Nat} {Ls : Array Slot} {sk : List Value}
theorem nz {a b : Addr} (h : ¬ @Eq Nat a b) : a ≠ b := h
theorem ny {a b : Nat} (h : a < b) : a < b := h
theorem nx {a b : Nat} (h : a = b) : a = b := h
theorem nw {a b : Nat} (h : ¬ a = b) : ¬ a = b := h
theorem retI (X : Stand p l e R s m args below meth c T locs cells slots) (hx : p.tables.exec = Jvm.exec) {z : Int32} {rest : List Value} (hret : meth.sig.returnType = some .int) (hd : decode c.code pc = .ok (.ireturn, 1)) {fs : List Frame}
    (hl : ∀ (f : JFrame) (acts : List Action), f.method = m → f.locked = none → f.entered = [] → (doReturn e (T.setTop f) acts (some (.int z))).1 = T.setFrames fs) : Steps p.tables e below (T.setTop (mkF m pc Ls (.int z :: rest))) (T.setFrames fs) := by
  have hm' : T.vm.method? m = some meth := X.method'
  have hn : narrow .int (.int z) = .int z := rfl
  show Steps p.tables e below (T.setTop { method := m, pc := pc, locals := Ls, stack := _ :: rest, locked := none }) _
  jvm_step X.here [X.here.top, hx, hd, hm', hret, hn]
  first | (intro acts; rw [hl _ acts rfl rfl rfl]) | rw [hl _ _ rfl rfl rfl]
  exact Steps.refl _
theorem retL (X : Stand p l e R s m args below meth c T locs cells slots) (hx : p.tables.exec = Jvm.exec) {z : Int64} {rest : List Value} (hret : meth.sig.returnType = some .long) (hd : decode c.code pc = .ok (.lreturn, 1)) {fs : List Frame}
    (hl : ∀ (f : JFrame) (acts : List Action), f.method = m → f.locked = none → f.entered = [] → (doReturn e (T.setTop f) acts (some (.long z))).1 = T.setFrames fs) : Steps p.tables e below (T.setTop (mkF m pc Ls (.long z :: rest))) (T.setFrames fs) := by
  have hm' : T.vm.method? m = some meth := X.method'
  show Steps p.tables e below (T.setTop { method := m, pc := pc, locals := Ls, stack := _ :: rest, locked := none }) _
  jvm_step X.here [X.here.top, hx, hd, hm', hret, narrow]
  first | (intro acts; rw [hl _ acts rfl rfl rfl]) | rw [hl _ _ rfl rfl rfl]
  exact Steps.refl _
theorem retA (X : Stand p l e R s m args below meth c T locs cells slots) (hx : p.tables.exec = Jvm.exec) {z : Value} {t : FieldType} {rest : List Value} (hz : z.isRef = true) (hret : meth.sig.returnType = some t) (ht : t.isReference = true) (hd : decode c.code pc = .ok (.areturn, 1)) {fs : List Frame}
    (hl : ∀ (f : JFrame) (acts : List Action), f.method = m → f.locked = none → f.entered = [] → (doReturn e (T.setTop f) acts (some z)).1 = T.setFrames fs) : Steps p.tables e below (T.setTop (mkF m pc Ls (z :: rest))) (T.setFrames fs) := by
  have hm' : T.vm.method? m = some meth := X.method'
  show Steps p.tables e below (T.setTop { method := m, pc := pc, locals := Ls, stack := _ :: rest, locked := none }) _
  jvm_step X.here [X.here.top, hx, hd, hm', hret, hz, ht]
  first | (intro acts; rw [hl _ acts rfl rfl rfl]) | rw [hl _ _ rfl rfl rfl]
  exact Steps.refl _
theorem retNz (X : Stand p l e R s m args below meth c T locs cells slots) (hx : p.tables.exec = Jvm.exec) {z z' : Int32} {t : FieldType} {rest : List Value} (hz : nar t z = z') (hret : meth.sig.returnType = some t) (ht : t = .boolean ∨ t = .byte ∨ t = .char ∨ t = .short)
    (hd : decode c.code pc = .ok (.ireturn, 1)) {fs : List Frame} (hl : ∀ (f : JFrame) (acts : List Action), f.method = m → f.locked = none → f.entered = [] → (doReturn e (T.setTop f) acts (some (.int z'))).1 = T.setFrames fs) :
    Steps p.tables e below (T.setTop (mkF m pc Ls (.int z :: rest))) (T.setFrames fs) := by
  subst hz
  exact retN X hx hret ht hd hl
/-- from here the body comes back, with what Qf says of the value, the heap and the places written -/
def Wk (p : Program) (e : Env) (below : List Frame) (s : State) (Qf : Option Value → Heap → List Loc → Prop) (C S : Nat) (T : State) (g : JFrame) : Prop :=
  ∃ s₂ o, Steps p.tables e below (T.setTop g) s₂ ∧ s₂.status = .running ∧ Ended s₂ below o ∧ ∃ v L, o = .returned v ∧ Qf v s₂.heap L ∧ FrameEnd s o s₂ L C S
theorem Wk.go (k : ∀ t, Steps p.tables e below (T'.setTop g') t → Steps p.tables e below (T.setTop g) t) (w : Wk p e below s Qf C S T' g') : Wk p e below s Qf C S T g := by
  obtain ⟨s₂, o, a, r⟩ := w
  exact ⟨s₂, o, k _ a, r⟩
theorem Wk.leave (X : Stand p l e R s m args below meth c T locs cells slots) {v : Option Value} (hv : meth.sig.returnType = none → v = none) (hlocks : meth.locks = false) (eT : T.heap = h) (hQ : Qf v h locs) (hC : cells ≤ C) (hS : slots ≤ S)
    (k : ∀ fs, (∀ (f : JFrame) (acts : List Action), f.method = m → f.locked = none → f.entered = [] → (doReturn e (T.setTop f) acts v).1 = T.setFrames fs) → Steps p.tables e below (T.setTop g) (T.setFrames fs)) : Wk p e below s Qf C S T g := by
  obtain ⟨fs, hr, hrun, hended, hW, hsame⟩ := X.leave hv hlocks
  subst eT
  exact ⟨_, _, k fs hr, hrun, hended, _, _, rfl, hQ, ⟨_, rfl⟩, hW, hsame.mono hC hS⟩
theorem Wk.aloadN (X : Stand p l e R s m args below meth c T locs cells slots) (hx : p.tables.exec = Jvm.exec) {k : Fin 4} {v : Value} (hd : decode c.code pc = .ok (.aload_n k, 1)) (hp : pc + 1 = n) (hl : Ls[k.val]? = some (.val v)) (hv : v.isRef = true) (w : Wk p e below s Qf C S T (mkF m n Ls (v :: sk))) : Wk p e below s Qf C S T (mkF m pc Ls sk) := by
  subst hp
  exact Wk.go (fun _ k => XS.aloadN X.here hx rfl hd hl hv k) w
theorem Wk.iloadN (X : Stand p l e R s m args below meth c T locs cells slots) (hx : p.tables.exec = Jvm.exec) {k : Fin 4} {v : Int32} (hd : decode c.code pc = .ok (.iload_n k, 1)) (hp : pc + 1 = n) (hl : Ls[k.val]? = some (.val (.int v))) (w : Wk p e below s Qf C S T (mkF m n Ls (.int v :: sk))) : Wk p e below s Qf C S T (mkF m pc Ls sk) := by
  subst hp
  exact Wk.go (fun _ k => XS.iloadN X.here hx rfl hd hl k) w
theorem Wk.lloadN (X : Stand p l e R s m args below meth c T locs cells slots) (hx : p.tables.exec = Jvm.exec) {k : Fin 4} {v : Int64} (hd : decode c.code pc = .ok (.lload_n k, 1)) (hp : pc + 1 = n) (hl : Ls[k.val]? = some (.val (.long v))) (w : Wk p e below s Qf C S T (mkF m n Ls (.long v :: sk))) : Wk p e below s Qf C S T (mkF m pc Ls sk) := by
  subst hp
  exact Wk.go (fun _ k => XS.lloadN X.here hx rfl hd hl k) w
theorem Wk.istoreN (X : Stand p l e R s m args below meth c T locs cells slots) (hx : p.tables.exec = Jvm.exec) {k : Fin 4} {v : Int32} {L' : Array Slot} (hd : decode c.code pc = .ok (.istore_n k, 1)) (hp : pc + 1 = n) (hl : storeLocals Ls k.val (.int v) = some L') (w : Wk p e below s Qf C S T (mkF m n L' sk)) : Wk p e below s Qf C S T (mkF m pc Ls (.int v :: sk)) := by
  subst hp
  exact Wk.go (fun _ k => XS.istoreN X.here hx rfl hd rfl hl k) w
theorem Wk.lstoreN (X : Stand p l e R s m args below meth c T locs cells slots) (hx : p.tables.exec = Jvm.exec) {k : Fin 4} {v : Int64} {L' : Array Slot} (hd : decode c.code pc = .ok (.lstore_n k, 1)) (hp : pc + 1 = n) (hl : storeLocals Ls k.val (.long v) = some L') (w : Wk p e below s Qf C S T (mkF m n L' sk)) : Wk p e below s Qf C S T (mkF m pc Ls (.long v :: sk)) := by
  subst hp
  exact Wk.go (fun _ k => XS.lstoreN X.here hx rfl hd rfl hl k) w
theorem Wk.astoreN (X : Stand p l e R s m args below meth c T locs cells slots) (hx : p.tables.exec = Jvm.exec) {k : Fin 4} {v : Value} {L' : Array Slot} (hd : decode c.code pc = .ok (.astore_n k, 1)) (hp : pc + 1 = n) (hv : v.isRef = true) (hl : storeLocals Ls k.val v = some L') (w : Wk p e below s Qf C S T (mkF m n L' sk)) : Wk p e below s Qf C S T (mkF m pc Ls (v :: sk)) := by
  subst hp
  exact Wk.go (fun _ k => XS.astoreN X.here hx rfl hd rfl hv hl k) w
theorem Wk.aload (X : Stand p l e R s m args below meth c T locs cells slots) (hx : p.tables.exec = Jvm.exec) {k : Nat} {v : Value} (hd : decode c.code pc = .ok (.aload k, 2)) (hp : pc + 2 = n) (hl : Ls[k]? = some (.val v)) (hv : v.isRef = true) (w : Wk p e below s Qf C S T (mkF m n Ls (v :: sk))) : Wk p e below s Qf C S T (mkF m pc Ls sk) := by
  subst hp
  exact Wk.go (fun _ k => XS.aload X.here hx rfl hd hl hv k) w
theorem Wk.iload (X : Stand p l e R s m args below meth c T locs cells slots) (hx : p.tables.exec = Jvm.exec) {k : Nat} {v : Int32} (hd : decode c.code pc = .ok (.iload k, 2)) (hp : pc + 2 = n) (hl : Ls[k]? = some (.val (.int v))) (w : Wk p e below s Qf C S T (mkF m n Ls (.int v :: sk))) : Wk p e below s Qf C S T (mkF m pc Ls sk) := by
  subst hp
  exact Wk.go (fun _ k => XS.iload X.here hx rfl hd hl k) w
theorem Wk.lload (X : Stand p l e R s m args below meth c T locs cells slots) (hx : p.tables.exec = Jvm.exec) {k : Nat} {v : Int64} (hd : decode c.code pc = .ok (.lload k, 2)) (hp : pc + 2 = n) (hl : Ls[k]? = some (.val (.long v))) (w : Wk p e below s Qf C S T (mkF m n Ls (.long v :: sk))) : Wk p e below s Qf C S T (mkF m pc Ls sk) := by
  subst hp
  exact Wk.go (fun _ k => XS.lload X.here hx rfl hd hl k) w
theorem Wk.istore (X : Stand p l e R s m args below meth c T locs cells slots) (hx : p.tables.exec = Jvm.exec) {k : Nat} {v : Int32} {L' : Array Slot} (hd : decode c.code pc = .ok (.istore k, 2)) (hp : pc + 2 = n) (hl : storeLocals Ls k (.int v) = some L') (w : Wk p e below s Qf C S T (mkF m n L' sk)) : Wk p e below s Qf C S T (mkF m pc Ls (.int v :: sk)) := by
  subst hp
  exact Wk.go (fun _ k => XS.istore X.here hx rfl hd rfl hl k) w
theorem Wk.lstore (X : Stand p l e R s m args below meth c T locs cells slots) (hx : p.tables.exec = Jvm.exec) {k : Nat} {v : Int64} {L' : Array Slot} (hd : decode c.code pc = .ok (.lstore k, 2)) (hp : pc + 2 = n) (hl : storeLocals Ls k (.long v) = some L') (w : Wk p e below s Qf C S T (mkF m n L' sk)) : Wk p e below s Qf C S T (mkF m pc Ls (.long v :: sk)) := by
  subst hp
  exact Wk.go (fun _ k => XS.lstore X.here hx rfl hd rfl hl k) w
theorem Wk.astore (X : Stand p l e R s m args below meth c T locs cells slots) (hx : p.tables.exec = Jvm.exec) {k : Nat} {v : Value} {L' : Array Slot} (hd : decode c.code pc = .ok (.astore k, 2)) (hp : pc + 2 = n) (hv : v.isRef = true) (hl : storeLocals Ls k v = some L') (w : Wk p e below s Qf C S T (mkF m n L' sk)) : Wk p e below s Qf C S T (mkF m pc Ls (v :: sk)) := by
  subst hp
  exact Wk.go (fun _ k => XS.astore X.here hx rfl hd rfl hv hl k) w
theorem Wk.iconst (X : Stand p l e R s m args below meth c T locs cells slots) (hx : p.tables.exec = Jvm.exec) {i : Int} {z : Int32} (hd : decode c.code pc = .ok (.iconst i, 1)) (hp : pc + 1 = n) (hz : Int32.ofInt i = z) (w : Wk p e below s Qf C S T (mkF m n Ls (.int z :: sk))) : Wk p e below s Qf C S T (mkF m pc Ls sk) := by
  subst hp; subst hz
  exact Wk.go (fun _ k => XS.iconst X.here hx rfl hd  k) w
theorem Wk.bipush (X : Stand p l e R s m args below meth c T locs cells slots) (hx : p.tables.exec = Jvm.exec) {i : Int} {z : Int32} (hd : decode c.code pc = .ok (.bipush i, 2)) (hp : pc + 2 = n) (hz : (Int8.ofInt i).toInt32 = z) (w : Wk p e below s Qf C S T (mkF m n Ls (.int z :: sk))) : Wk p e below s Qf C S T (mkF m pc Ls sk) := by
  subst hp; subst hz
  exact Wk.go (fun _ k => XS.bipush X.here hx rfl hd  k) w
theorem Wk.sipush (X : Stand p l e R s m args below meth c T locs cells slots) (hx : p.tables.exec = Jvm.exec) {i : Int} {z : Int32} (hd : decode c.code pc = .ok (.sipush i, 3)) (hp : pc + 3 = n) (hz : (Int16.ofInt i).toInt32 = z) (w : Wk p e below s Qf C S T (mkF m n Ls (.int z :: sk))) : Wk p e below s Qf C S T (mkF m pc Ls sk) := by
  subst hp; subst hz
  exact Wk.go (fun _ k => XS.sipush X.here hx rfl hd  k) w
theorem Wk.lconst (X : Stand p l e R s m args below meth c T locs cells slots) (hx : p.tables.exec = Jvm.exec) {k : Fin 2} {z : Int64} (hd : decode c.code pc = .ok (.lconst k, 1)) (hp : pc + 1 = n) (hz : Int64.ofNat k = z) (w : Wk p e below s Qf C S T (mkF m n Ls (.long z :: sk))) : Wk p e below s Qf C S T (mkF m pc Ls sk) := by
  subst hp; subst hz
  exact Wk.go (fun _ k => XS.lconst X.here hx rfl hd  k) w
theorem Wk.aconstNull (X : Stand p l e R s m args below meth c T locs cells slots) (hx : p.tables.exec = Jvm.exec)  (hd : decode c.code pc = .ok (.aconst_null, 1)) (hp : pc + 1 = n)  (w : Wk p e below s Qf C S T (mkF m n Ls (.null :: sk))) : Wk p e below s Qf C S T (mkF m pc Ls sk) := by
  subst hp
  exact Wk.go (fun _ k => XS.aconstNull X.here hx rfl hd  k) w
theorem Wk.iadd (X : Stand p l e R s m args below meth c T locs cells slots) (hx : p.tables.exec = Jvm.exec) {x y : Int32} (hd : decode c.code pc = .ok (.iadd, 1)) (hp : pc + 1 = n)  (w : Wk p e below s Qf C S T (mkF m n Ls (.int (x + y) :: sk))) : Wk p e below s Qf C S T (mkF m pc Ls (.int y :: .int x :: sk)) := by
  subst hp
  exact Wk.go (fun _ k => XS.iadd X.here hx rfl hd rfl k) w
theorem Wk.ladd (X : Stand p l e R s m args below meth c T locs cells slots) (hx : p.tables.exec = Jvm.exec) {x y : Int64} (hd : decode c.code pc = .ok (.ladd, 1)) (hp : pc + 1 = n)  (w : Wk p e below s Qf C S T (mkF m n Ls (.long (x + y) :: sk))) : Wk p e below s Qf C S T (mkF m pc Ls (.long y :: .long x :: sk)) := by
  subst hp
  exact Wk.go (fun _ k => XS.ladd X.here hx rfl hd rfl k) w
theorem Wk.isub (X : Stand p l e R s m args below meth c T locs cells slots) (hx : p.tables.exec = Jvm.exec) {x y : Int32} (hd : decode c.code pc = .ok (.isub, 1)) (hp : pc + 1 = n)  (w : Wk p e below s Qf C S T (mkF m n Ls (.int (x - y) :: sk))) : Wk p e below s Qf C S T (mkF m pc Ls (.int y :: .int x :: sk)) := by
  subst hp
  exact Wk.go (fun _ k => XS.isub X.here hx rfl hd rfl k) w
theorem Wk.lsub (X : Stand p l e R s m args below meth c T locs cells slots) (hx : p.tables.exec = Jvm.exec) {x y : Int64} (hd : decode c.code pc = .ok (.lsub, 1)) (hp : pc + 1 = n)  (w : Wk p e below s Qf C S T (mkF m n Ls (.long (x - y) :: sk))) : Wk p e below s Qf C S T (mkF m pc Ls (.long y :: .long x :: sk)) := by
  subst hp
  exact Wk.go (fun _ k => XS.lsub X.here hx rfl hd rfl k) w
theorem Wk.imul (X : Stand p l e R s m args below meth c T locs cells slots) (hx : p.tables.exec = Jvm.exec) {x y : Int32} (hd : decode c.code pc = .ok (.imul, 1)) (hp : pc + 1 = n)  (w : Wk p e below s Qf C S T (mkF m n Ls (.int (x * y) :: sk))) : Wk p e below s Qf C S T (mkF m pc Ls (.int y :: .int x :: sk)) := by
  subst hp
  exact Wk.go (fun _ k => XS.imul X.here hx rfl hd rfl k) w
theorem Wk.lmul (X : Stand p l e R s m args below meth c T locs cells slots) (hx : p.tables.exec = Jvm.exec) {x y : Int64} (hd : decode c.code pc = .ok (.lmul, 1)) (hp : pc + 1 = n)  (w : Wk p e below s Qf C S T (mkF m n Ls (.long (x * y) :: sk))) : Wk p e below s Qf C S T (mkF m pc Ls (.long y :: .long x :: sk)) := by
  subst hp
  exact Wk.go (fun _ k => XS.lmul X.here hx rfl hd rfl k) w
theorem Wk.iand (X : Stand p l e R s m args below meth c T locs cells slots) (hx : p.tables.exec = Jvm.exec) {x y : Int32} (hd : decode c.code pc = .ok (.iand, 1)) (hp : pc + 1 = n)  (w : Wk p e below s Qf C S T (mkF m n Ls (.int (x &&& y) :: sk))) : Wk p e below s Qf C S T (mkF m pc Ls (.int y :: .int x :: sk)) := by
  subst hp
  exact Wk.go (fun _ k => XS.iand X.here hx rfl hd rfl k) w
theorem Wk.land (X : Stand p l e R s m args below meth c T locs cells slots) (hx : p.tables.exec = Jvm.exec) {x y : Int64} (hd : decode c.code pc = .ok (.land, 1)) (hp : pc + 1 = n)  (w : Wk p e below s Qf C S T (mkF m n Ls (.long (x &&& y) :: sk))) : Wk p e below s Qf C S T (mkF m pc Ls (.long y :: .long x :: sk)) := by
  subst hp
  exact Wk.go (fun _ k => XS.land X.here hx rfl hd rfl k) w
theorem Wk.ior (X : Stand p l e R s m args below meth c T locs cells slots) (hx : p.tables.exec = Jvm.exec) {x y : Int32} (hd : decode c.code pc = .ok (.ior, 1)) (hp : pc + 1 = n)  (w : Wk p e below s Qf C S T (mkF m n Ls (.int (x ||| y) :: sk))) : Wk p e below s Qf C S T (mkF m pc Ls (.int y :: .int x :: sk)) := by
  subst hp
  exact Wk.go (fun _ k => XS.ior X.here hx rfl hd rfl k) w
theorem Wk.lor (X : Stand p l e R s m args below meth c T locs cells slots) (hx : p.tables.exec = Jvm.exec) {x y : Int64} (hd : decode c.code pc = .ok (.lor, 1)) (hp : pc + 1 = n)  (w : Wk p e below s Qf C S T (mkF m n Ls (.long (x ||| y) :: sk))) : Wk p e below s Qf C S T (mkF m pc Ls (.long y :: .long x :: sk)) := by
  subst hp
  exact Wk.go (fun _ k => XS.lor X.here hx rfl hd rfl k) w
theorem Wk.ixor (X : Stand p l e R s m args below meth c T locs cells slots) (hx : p.tables.exec = Jvm.exec) {x y : Int32} (hd : decode c.code pc = .ok (.ixor, 1)) (hp : pc + 1 = n)  (w : Wk p e below s Qf C S T (mkF m n Ls (.int (x ^^^ y) :: sk))) : Wk p e below s Qf C S T (mkF m pc Ls (.int y :: .int x :: sk)) := by
  subst hp
  exact Wk.go (fun _ k => XS.ixor X.here hx rfl hd rfl k) w
theorem Wk.lxor (X : Stand p l e R s m args below meth c T locs cells slots) (hx : p.tables.exec = Jvm.exec) {x y : Int64} (hd : decode c.code pc = .ok (.lxor, 1)) (hp : pc + 1 = n)  (w : Wk p e below s Qf C S T (mkF m n Ls (.long (x ^^^ y) :: sk))) : Wk p e below s Qf C S T (mkF m pc Ls (.long y :: .long x :: sk)) := by
  subst hp
  exact Wk.go (fun _ k => XS.lxor X.here hx rfl hd rfl k) w
theorem Wk.ineg (X : Stand p l e R s m args below meth c T locs cells slots) (hx : p.tables.exec = Jvm.exec) {x : Int32} (hd : decode c.code pc = .ok (.ineg, 1)) (hp : pc + 1 = n)  (w : Wk p e below s Qf C S T (mkF m n Ls (.int (-x) :: sk))) : Wk p e below s Qf C S T (mkF m pc Ls (.int x :: sk)) := by
  subst hp
  exact Wk.go (fun _ k => XS.ineg X.here hx rfl hd rfl k) w
theorem Wk.lneg (X : Stand p l e R s m args below meth c T locs cells slots) (hx : p.tables.exec = Jvm.exec) {x : Int64} (hd : decode c.code pc = .ok (.lneg, 1)) (hp : pc + 1 = n)  (w : Wk p e below s Qf C S T (mkF m n Ls (.long (-x) :: sk))) : Wk p e below s Qf C S T (mkF m pc Ls (.long x :: sk)) := by
  subst hp
  exact Wk.go (fun _ k => XS.lneg X.here hx rfl hd rfl k) w
theorem Wk.i2l (X : Stand p l e R s m args below meth c T locs cells slots) (hx : p.tables.exec = Jvm.exec) {x : Int32} (hd : decode c.code pc = .ok (.i2l, 1)) (hp : pc + 1 = n)  (w : Wk p e below s Qf C S T (mkF m n Ls (.long (x.toInt64) :: sk))) : Wk p e below s Qf C S T (mkF m pc Ls (.int x :: sk)) := by
  subst hp
  exact Wk.go (fun _ k => XS.i2l X.here hx rfl hd rfl k) w
theorem Wk.l2i (X : Stand p l e R s m args below meth c T locs cells slots) (hx : p.tables.exec = Jvm.exec) {x : Int64} (hd : decode c.code pc = .ok (.l2i, 1)) (hp : pc + 1 = n)  (w : Wk p e below s Qf C S T (mkF m n Ls (.int (x.toInt32) :: sk))) : Wk p e below s Qf C S T (mkF m pc Ls (.long x :: sk)) := by
  subst hp
  exact Wk.go (fun _ k => XS.l2i X.here hx rfl hd rfl k) w
theorem Wk.i2b (X : Stand p l e R s m args below meth c T locs cells slots) (hx : p.tables.exec = Jvm.exec) {x : Int32} (hd : decode c.code pc = .ok (.i2b, 1)) (hp : pc + 1 = n)  (w : Wk p e below s Qf C S T (mkF m n Ls (.int (x.toInt8.toInt32) :: sk))) : Wk p e below s Qf C S T (mkF m pc Ls (.int x :: sk)) := by
  subst hp
  exact Wk.go (fun _ k => XS.i2b X.here hx rfl hd rfl k) w
theorem Wk.i2s (X : Stand p l e R s m args below meth c T locs cells slots) (hx : p.tables.exec = Jvm.exec) {x : Int32} (hd : decode c.code pc = .ok (.i2s, 1)) (hp : pc + 1 = n)  (w : Wk p e below s Qf C S T (mkF m n Ls (.int (x.toInt16.toInt32) :: sk))) : Wk p e below s Qf C S T (mkF m pc Ls (.int x :: sk)) := by
  subst hp
  exact Wk.go (fun _ k => XS.i2s X.here hx rfl hd rfl k) w
theorem Wk.i2c (X : Stand p l e R s m args below meth c T locs cells slots) (hx : p.tables.exec = Jvm.exec) {x z : Int32} (hd : decode c.code pc = .ok (.i2c, 1)) (hp : pc + 1 = n) (hz : x.toUInt32.toUInt16.toUInt32.toInt32 = z) (w : Wk p e below s Qf C S T (mkF m n Ls (.int z :: sk))) : Wk p e below s Qf C S T (mkF m pc Ls (.int x :: sk)) := by
  subst hp; subst hz
  exact Wk.go (fun _ k => XS.i2c X.here hx rfl hd rfl k) w
theorem Wk.ishl (X : Stand p l e R s m args below meth c T locs cells slots) (hx : p.tables.exec = Jvm.exec) {x y : Int32} (hd : decode c.code pc = .ok (.ishl, 1)) (hp : pc + 1 = n)  (w : Wk p e below s Qf C S T (mkF m n Ls (.int (x <<< (y &&& 31)) :: sk))) : Wk p e below s Qf C S T (mkF m pc Ls (.int y :: .int x :: sk)) := by
  subst hp
  exact Wk.go (fun _ k => XS.ishl X.here hx rfl hd rfl k) w
theorem Wk.ishr (X : Stand p l e R s m args below meth c T locs cells slots) (hx : p.tables.exec = Jvm.exec) {x y : Int32} (hd : decode c.code pc = .ok (.ishr, 1)) (hp : pc + 1 = n)  (w : Wk p e below s Qf C S T (mkF m n Ls (.int (x >>> (y &&& 31)) :: sk))) : Wk p e below s Qf C S T (mkF m pc Ls (.int y :: .int x :: sk)) := by
  subst hp
  exact Wk.go (fun _ k => XS.ishr X.here hx rfl hd rfl k) w
theorem Wk.iushr (X : Stand p l e R s m args below meth c T locs cells slots) (hx : p.tables.exec = Jvm.exec) {x y : Int32} (hd : decode c.code pc = .ok (.iushr, 1)) (hp : pc + 1 = n)  (w : Wk p e below s Qf C S T (mkF m n Ls (.int ((x.toUInt32 >>> (y &&& 31).toUInt32).toInt32) :: sk))) : Wk p e below s Qf C S T (mkF m pc Ls (.int y :: .int x :: sk)) := by
  subst hp
  exact Wk.go (fun _ k => XS.iushr X.here hx rfl hd rfl k) w
theorem Wk.lshl (X : Stand p l e R s m args below meth c T locs cells slots) (hx : p.tables.exec = Jvm.exec) {x z : Int64} {y : Int32} (hd : decode c.code pc = .ok (.lshl, 1)) (hp : pc + 1 = n) (hz : (x <<< (y &&& 63).toInt64) = z) (w : Wk p e below s Qf C S T (mkF m n Ls (.long z :: sk))) : Wk p e below s Qf C S T (mkF m pc Ls (.int y :: .long x :: sk)) := by
  subst hp; subst hz
  exact Wk.go (fun _ k => XS.lshl X.here hx rfl hd rfl k) w
theorem Wk.lshr (X : Stand p l e R s m args below meth c T locs cells slots) (hx : p.tables.exec = Jvm.exec) {x z : Int64} {y : Int32} (hd : decode c.code pc = .ok (.lshr, 1)) (hp : pc + 1 = n) (hz : (x >>> (y &&& 63).toInt64) = z) (w : Wk p e below s Qf C S T (mkF m n Ls (.long z :: sk))) : Wk p e below s Qf C S T (mkF m pc Ls (.int y :: .long x :: sk)) := by
  subst hp; subst hz
  exact Wk.go (fun _ k => XS.lshr X.here hx rfl hd rfl k) w
theorem Wk.lushr (X : Stand p l e R s m args below meth c T locs cells slots) (hx : p.tables.exec = Jvm.exec) {x z : Int64} {y : Int32} (hd : decode c.code pc = .ok (.lushr, 1)) (hp : pc + 1 = n) (hz : (x.toUInt64 >>> (y &&& 63).toInt64.toUInt64).toInt64 = z) (w : Wk p e below s Qf C S T (mkF m n Ls (.long z :: sk))) : Wk p e below s Qf C S T (mkF m pc Ls (.int y :: .long x :: sk)) := by
  subst hp; subst hz
  exact Wk.go (fun _ k => XS.lushr X.here hx rfl hd rfl k) w
theorem Wk.lcmp (X : Stand p l e R s m args below meth c T locs cells slots) (hx : p.tables.exec = Jvm.exec) {x y : Int64} (hd : decode c.code pc = .ok (.lcmp, 1)) (hp : pc + 1 = n)  (w : Wk p e below s Qf C S T (mkF m n Ls (.int (lcmpW x y) :: sk))) : Wk p e below s Qf C S T (mkF m pc Ls (.long y :: .long x :: sk)) := by
  subst hp
  exact Wk.go (fun _ k => XS.lcmp X.here hx rfl hd rfl k) w
theorem Wk.idiv (X : Stand p l e R s m args below meth c T locs cells slots) (hx : p.tables.exec = Jvm.exec) {x y : Int32} (hd : decode c.code pc = .ok (.idiv, 1)) (hp : pc + 1 = n) (hy : y ≠ 0) (w : Wk p e below s Qf C S T (mkF m n Ls (.int (x / y) :: sk))) : Wk p e below s Qf C S T (mkF m pc Ls (.int y :: .int x :: sk)) := by
  subst hp
  exact Wk.go (fun _ k => XS.idiv X.here hx rfl hd rfl hy k) w
theorem Wk.ldiv (X : Stand p l e R s m args below meth c T locs cells slots) (hx : p.tables.exec = Jvm.exec) {x y : Int64} (hd : decode c.code pc = .ok (.ldiv, 1)) (hp : pc + 1 = n) (hy : y ≠ 0) (w : Wk p e below s Qf C S T (mkF m n Ls (.long (x / y) :: sk))) : Wk p e below s Qf C S T (mkF m pc Ls (.long y :: .long x :: sk)) := by
  subst hp
  exact Wk.go (fun _ k => XS.ldiv X.here hx rfl hd rfl hy k) w
theorem Wk.irem (X : Stand p l e R s m args below meth c T locs cells slots) (hx : p.tables.exec = Jvm.exec) {x y : Int32} (hd : decode c.code pc = .ok (.irem, 1)) (hp : pc + 1 = n) (hy : y ≠ 0) (w : Wk p e below s Qf C S T (mkF m n Ls (.int (x % y) :: sk))) : Wk p e below s Qf C S T (mkF m pc Ls (.int y :: .int x :: sk)) := by
  subst hp
  exact Wk.go (fun _ k => iremM X hx rfl hd rfl hy k) w
theorem Wk.lrem (X : Stand p l e R s m args below meth c T locs cells slots) (hx : p.tables.exec = Jvm.exec) {x y : Int64} (hd : decode c.code pc = .ok (.lrem, 1)) (hp : pc + 1 = n) (hy : y ≠ 0) (w : Wk p e below s Qf C S T (mkF m n Ls (.long (x - (x / y) * y) :: sk))) : Wk p e below s Qf C S T (mkF m pc Ls (.long y :: .long x :: sk)) := by
  subst hp
  exact Wk.go (fun _ k => XS.lrem X.here hx rfl hd rfl hy k) w
theorem Wk.iinc (X : Stand p l e R s m args below meth c T locs cells slots) (hx : p.tables.exec = Jvm.exec) {k : Nat} {cst : Int} {x : Int32} {L' : Array Slot} (hd : decode c.code pc = .ok (.iinc k cst, 3)) (hp : pc + 3 = n) (hl : Ls[k]? = some (.val (.int x))) (hl' : storeLocals Ls k (.int (x + Int32.ofInt cst)) = some L') (w : Wk p e below s Qf C S T (mkF m n L' sk)) : Wk p e below s Qf C S T (mkF m pc Ls sk) := by
  subst hp
  exact Wk.go (fun _ k => XS.iinc X.here hx rfl hd hl hl' k) w
theorem Wk.dup (X : Stand p l e R s m args below meth c T locs cells slots) (hx : p.tables.exec = Jvm.exec) {x : Value} (hd : decode c.code pc = .ok (.dup, 1)) (hp : pc + 1 = n) (hc : x.category = 1) (w : Wk p e below s Qf C S T (mkF m n Ls (x :: x :: sk))) : Wk p e below s Qf C S T (mkF m pc Ls (x :: sk)) := by
  subst hp
  exact Wk.go (fun _ k => XS.dup X.here hx rfl hd rfl hc k) w
theorem Wk.pop (X : Stand p l e R s m args below meth c T locs cells slots) (hx : p.tables.exec = Jvm.exec) {x : Value} (hd : decode c.code pc = .ok (.pop, 1)) (hp : pc + 1 = n) (hc : x.category = 1) (w : Wk p e below s Qf C S T (mkF m n Ls sk)) : Wk p e below s Qf C S T (mkF m pc Ls (x :: sk)) := by
  subst hp
  exact Wk.go (fun _ k => XS.pop X.here hx rfl hd rfl hc k) w
theorem Wk.dupX1 (X : Stand p l e R s m args below meth c T locs cells slots) (hx : p.tables.exec = Jvm.exec) {x y : Value} (hd : decode c.code pc = .ok (.dup_x1, 1)) (hp : pc + 1 = n) (hc : x.category = 1) (hc' : y.category = 1) (w : Wk p e below s Qf C S T (mkF m n Ls (x :: y :: x :: sk))) : Wk p e below s Qf C S T (mkF m pc Ls (x :: y :: sk)) := by
  subst hp
  exact Wk.go (fun _ k => XS.dupX1 X.here hx rfl hd rfl hc hc' k) w
theorem Wk.dup2 (X : Stand p l e R s m args below meth c T locs cells slots) (hx : p.tables.exec = Jvm.exec) {x y : Value} (hd : decode c.code pc = .ok (.dup2, 1)) (hp : pc + 1 = n) (hc : x.category = 1) (hc' : y.category = 1) (w : Wk p e below s Qf C S T (mkF m n Ls (x :: y :: x :: y :: sk))) : Wk p e below s Qf C S T (mkF m pc Ls (x :: y :: sk)) := by
  subst hp
  exact Wk.go (fun _ k => Jvm.Free.XT.dup2 X.here hx rfl hd rfl hc hc' k) w
theorem Wk.dup2L (X : Stand p l e R s m args below meth c T locs cells slots) (hx : p.tables.exec = Jvm.exec) {x : Int64} (hd : decode c.code pc = .ok (.dup2, 1)) (hp : pc + 1 = n)  (w : Wk p e below s Qf C S T (mkF m n Ls (.long x :: .long x :: sk))) : Wk p e below s Qf C S T (mkF m pc Ls (.long x :: sk)) := by
  subst hp
  exact Wk.go (fun _ k => Jvm.Free.XT.dup2L X.here hx rfl hd rfl k) w
theorem Wk.goto (X : Stand p l e R s m args below meth c T locs cells slots) (hx : p.tables.exec = Jvm.exec)  {o : Int} (hd : decode c.code pc = .ok (.goto o, 3))  (ho : 0 ≤ (pc : Int) + o) (hp : ((pc : Int) + o).toNat = n) (w : Wk p e below s Qf C S T (mkF m n Ls sk)) : Wk p e below s Qf C S T (mkF m pc Ls sk) := Wk.go (fun _ k => XS.goto X.here hx rfl rfl hd  ho hp k) w
theorem Wk.ifYes (X : Stand p l e R s m args below meth c T locs cells slots) (hx : p.tables.exec = Jvm.exec) {cd : ClassFile.Cond} {x : Int32} {o : Int} (hd : decode c.code pc = .ok (.ifCond cd o, 3)) (hc : ifCond.holds cd x = true) (ho : 0 ≤ (pc : Int) + o) (hp : ((pc : Int) + o).toNat = n) (w : Wk p e below s Qf C S T (mkF m n Ls sk)) : Wk p e below s Qf C S T (mkF m pc Ls (.int x :: sk)) := Wk.go (fun _ k => XS.ifYes X.here hx rfl rfl hd rfl hc ho hp k) w
theorem Wk.icmpYes (X : Stand p l e R s m args below meth c T locs cells slots) (hx : p.tables.exec = Jvm.exec) {cd : ClassFile.Cond} {x y : Int32} {o : Int} (hd : decode c.code pc = .ok (.if_icmp cd o, 3)) (hc : if_icmp.holds cd x y = true) (ho : 0 ≤ (pc : Int) + o) (hp : ((pc : Int) + o).toNat = n) (w : Wk p e below s Qf C S T (mkF m n Ls sk)) : Wk p e below s Qf C S T (mkF m pc Ls (.int y :: .int x :: sk)) := Wk.go (fun _ k => XS.icmpYes X.here hx rfl rfl hd rfl hc ho hp k) w
theorem Wk.ifnullYes (X : Stand p l e R s m args below meth c T locs cells slots) (hx : p.tables.exec = Jvm.exec)  {o : Int} (hd : decode c.code pc = .ok (.ifnull o, 3))  (ho : 0 ≤ (pc : Int) + o) (hp : ((pc : Int) + o).toNat = n) (w : Wk p e below s Qf C S T (mkF m n Ls sk)) : Wk p e below s Qf C S T (mkF m pc Ls (.null :: sk)) := Wk.go (fun _ k => XS.ifnullYes X.here hx rfl rfl hd rfl ho hp k) w
theorem Wk.ifnonnullYes (X : Stand p l e R s m args below meth c T locs cells slots) (hx : p.tables.exec = Jvm.exec) {b : Addr} {o : Int} (hd : decode c.code pc = .ok (.ifnonnull o, 3))  (ho : 0 ≤ (pc : Int) + o) (hp : ((pc : Int) + o).toNat = n) (w : Wk p e below s Qf C S T (mkF m n Ls sk)) : Wk p e below s Qf C S T (mkF m pc Ls (.ref b :: sk)) := Wk.go (fun _ k => XS.ifnonnullYes X.here hx rfl rfl hd rfl ho hp k) w
theorem Wk.ifNo (X : Stand p l e R s m args below meth c T locs cells slots) (hx : p.tables.exec = Jvm.exec) {cd : ClassFile.Cond} {o : Int} {x : Int32} (hd : decode c.code pc = .ok (.ifCond cd o, 3)) (hp : pc + 3 = n) (hc : ifCond.holds cd x = false) (w : Wk p e below s Qf C S T (mkF m n Ls sk)) : Wk p e below s Qf C S T (mkF m pc Ls (.int x :: sk)) := by
  subst hp
  exact Wk.go (fun _ k => XS.ifNo X.here hx rfl hd rfl hc k) w
theorem Wk.icmpNo (X : Stand p l e R s m args below meth c T locs cells slots) (hx : p.tables.exec = Jvm.exec) {cd : ClassFile.Cond} {o : Int} {x y : Int32} (hd : decode c.code pc = .ok (.if_icmp cd o, 3)) (hp : pc + 3 = n) (hc : if_icmp.holds cd x y = false) (w : Wk p e below s Qf C S T (mkF m n Ls sk)) : Wk p e below s Qf C S T (mkF m pc Ls (.int y :: .int x :: sk)) := by
  subst hp
  exact Wk.go (fun _ k => XS.icmpNo X.here hx rfl hd rfl hc k) w
theorem Wk.ifnullNo (X : Stand p l e R s m args below meth c T locs cells slots) (hx : p.tables.exec = Jvm.exec) {o : Int} {b : Addr} (hd : decode c.code pc = .ok (.ifnull o, 3)) (hp : pc + 3 = n)  (w : Wk p e below s Qf C S T (mkF m n Ls sk)) : Wk p e below s Qf C S T (mkF m pc Ls (.ref b :: sk)) := by
  subst hp
  exact Wk.go (fun _ k => XS.ifnullNo X.here hx rfl hd rfl k) w
theorem Wk.ifnonnullNo (X : Stand p l e R s m args below meth c T locs cells slots) (hx : p.tables.exec = Jvm.exec) {o : Int} (hd : decode c.code pc = .ok (.ifnonnull o, 3)) (hp : pc + 3 = n)  (w : Wk p e below s Qf C S T (mkF m n Ls sk)) : Wk p e below s Qf C S T (mkF m pc Ls (.null :: sk)) := by
  subst hp
  exact Wk.go (fun _ k => XS.ifnonnullNo X.here hx rfl hd rfl k) w
theorem Wk.acmp (X : Stand p l e R s m args below meth c T locs cells slots) (hx : p.tables.exec = Jvm.exec) {cd : ACond} {x y : Value} {same : Bool} {o : Int} (h1 : x.isRef = true) (h2 : y.isRef = true) (hd : decode c.code pc = .ok (.if_acmp cd o, 3)) (hq : decide (x = y) = same) (ho : 0 ≤ (pc : Int) + o) (hp : n = if acV cd same = true then ((pc : Int) + o).toNat else pc + 3) (w : Wk p e below s Qf C S T (mkF m n Ls sk)) : Wk p e below s Qf C S T (mkF m pc Ls (y :: x :: sk)) := Wk.go (fun _ k => RoadKit.acmp (g := mkF m pc Ls (y :: x :: sk)) X hx rfl h1 h2 rfl hd rfl hq ho hp k) w
theorem Wk.ldcInt (X : Stand p l e R s m args below meth c T locs cells slots) (hx : p.tables.exec = Jvm.exec) {own : String} {index : Nat} {v : Int32} (hown : s.vm.findClass own = some m.cls) (hc : (Cond.constant own index v).before args s = true) (hd : decode c.code pc = .ok (.ldc index, 2)) (hp : pc + 2 = n) (w : Wk p e below s Qf C S T (mkF m n Ls (.int v :: sk))) : Wk p e below s Qf C S T (mkF m pc Ls sk) := by
  subst hp
  exact Wk.go (X.ldcInt hx hown hc (g := mkF m pc Ls sk) rfl hd) w
theorem Wk.ldc2Long (X : Stand p l e R s m args below meth c T locs cells slots) (hx : p.tables.exec = Jvm.exec) {own : String} {index : Nat} {v : Int64} (hown : s.vm.findClass own = some m.cls) (hc : (Cond.constantLong own index v).before args s = true) (hd : decode c.code pc = .ok (.ldc2_w index, 3)) (hp : pc + 3 = n) (w : Wk p e below s Qf C S T (mkF m n Ls (.long v :: sk))) : Wk p e below s Qf C S T (mkF m pc Ls sk) := by
  subst hp
  exact Wk.go (X.ldc2Long hx hown hc (g := mkF m pc Ls sk) rfl hd) w
theorem Wk.newO (X : Stand p l e R s m args below meth c T locs cells slots) (hx : p.tables.exec = Jvm.exec) (hZ : Z.Warmed39 s.vm) {own K : String} {index k : Nat} (hown : s.vm.findClass own = some m.cls) (w : (Cond.classLink own index K).before a0 Z = true) (wi : (Cond.instantiable K k).before a0 Z = true) (wz : (Cond.initialized K).before a0 Z = true) (eT : T.heap = h) (hd : decode c.code pc = .ok (.new index, 3)) (hp : pc + 3 = n) (hc : cells + 1 ≤ R.cells) (hl : slots + k ≤ R.slots)
    (kk : ∀ (T' : State) (h' : Heap) (b : Addr), b = h.size → Stand p l e R s m args below meth c T' locs (cells + 1) (slots + k) → T'.heap = h' → Ext h h' → Exa Z h' b K → (∀ {O nm d : String} {ty : FieldType}, Laid Z a0 K O nm d → parseFieldDescriptor d = some ty → Fld Z h' b O nm d (defaultValue ty)) → Unt h' b → Wk p e below s Qf C S T' (mkF m n Ls (.ref b :: sk))) : Wk p e below s Qf C S T (mkF m pc Ls sk) := by
  subst hp
  obtain ⟨T', h', X', e', E', A', D', Y', st'⟩ := RoadKit.newO X hx hZ hown w wi wz eT (g := mkF m pc Ls sk) rfl hd hc hl
  exact Wk.go st' (kk T' h' _ rfl X' e' E' A' (fun L q => D' L q) Y')
theorem Wk.getF (X : Stand p l e R s m args below meth c T locs cells slots) (hx : p.tables.exec = Jvm.exec) (hZ : Z.Warmed39 s.vm) {own R0 O f d host : String} {index : Nat} (hown : s.vm.findClass own = some m.cls) (w : (Cond.fieldLink own index R0 f d).before a0 Z = true ∨ (Cond.fieldLinkNest own index R0 f d host).before a0 Z = true) (via : Via Z R0 O f d) (eT : T.heap = h) {a : Addr} {v : Value} (F : Fld Z h a O f d v) (hd : decode c.code pc = .ok (.getfield index, 3)) (hp : pc + 3 = n) (kk : ∀ T' : State, Stand p l e R s m args below meth c T' locs cells slots → T'.heap = h → Wk p e below s Qf C S T' (mkF m n Ls (v :: sk))) : Wk p e below s Qf C S T (mkF m pc Ls (.ref a :: sk)) := by
  subst hp
  obtain ⟨T', X', e', st'⟩ := RoadKit.getF X hx hZ hown w via eT F (g := mkF m pc Ls (.ref a :: sk)) rfl rfl hd
  exact Wk.go st' (kk T' X' e')
theorem Wk.getS (X : Stand p l e R s m args below meth c T locs cells slots) (hx : p.tables.exec = Jvm.exec) (hZ : Z.Warmed39 s.vm) {own R0 O f d host : String} {index : Nat} (hown : s.vm.findClass own = some m.cls) (w : (Cond.fieldLink own index R0 f d).before a0 Z = true ∨ (Cond.fieldLinkNest own index R0 f d host).before a0 Z = true) (via : Via Z R0 O f d) (eT : T.heap = h) {v : Value} (F : Sta Z h O f d v) (hd : decode c.code pc = .ok (.getstatic index, 3)) (hp : pc + 3 = n) (kk : ∀ T' : State, Stand p l e R s m args below meth c T' locs cells slots → T'.heap = h → Wk p e below s Qf C S T' (mkF m n Ls (v :: sk))) : Wk p e below s Qf C S T (mkF m pc Ls sk) := by
  subst hp
  obtain ⟨T', X', e', st'⟩ := RoadKit.getS2 X hx hZ hown w via eT F (g := mkF m pc Ls sk) rfl hd
  exact Wk.go st' (kk T' X' e')
theorem Wk.putF (X : Stand p l e R s m args below meth c T locs cells slots) (hx : p.tables.exec = Jvm.exec) (hZ : Z.Warmed39 s.vm) {own R0 O f d host : String} {index : Nat} (hown : s.vm.findClass own = some m.cls) (w : (Cond.fieldLink own index R0 f d).before a0 Z = true ∨ (Cond.fieldLinkNest own index R0 f d host).before a0 Z = true) (via : Via Z R0 O f d) (eT : T.heap = h) {K : String} {kk' : Nat} {ty : FieldType} {a : Addr} {v old : Value} (F : Fld Z h a O f d old) (E : Exa Z h a K) (L : (Cond.lays K O f d).before a0 Z = true ∨ ((Cond.laysFinal K O f d).before a0 Z = true ∧ own = O ∧ meth.name = "<init>")) (wi : (Cond.instantiable K kk').before a0 Z = true) (hty : parseFieldDescriptor d = some ty) (hn : narrow ty v = v) (hf : fits ty v = true) (hd : decode c.code pc = .ok (.putfield index, 3)) (hp : pc + 3 = n) (kk : ∀ (T' : State) (h' : Heap), Stand p l e R s m args below meth c T' (locs ++ [⟨a, slotOf Z O f d⟩]) cells slots → T'.heap = h' → Wr h h' a (slotOf Z O f d) v → Wk p e below s Qf C S T' (mkF m n Ls sk)) : Wk p e below s Qf C S T (mkF m pc Ls (v :: .ref a :: sk)) := by
  subst hp
  obtain ⟨T', h', X', e', W', st'⟩ := RoadKit.putF X hx hZ hown w via eT F E L wi hty hn hf (g := mkF m pc Ls (v :: .ref a :: sk)) rfl rfl hd
  exact Wk.go st' (kk T' h' X' e' W')
theorem Wk.putFN (X : Stand p l e R s m args below meth c T locs cells slots) (hx : p.tables.exec = Jvm.exec) (hZ : Z.Warmed39 s.vm) {own R0 O f d : String} {index : Nat} (hown : s.vm.findClass own = some m.cls) (w : (Cond.fieldLink own index R0 f d).before a0 Z = true) (via : Via Z R0 O f d) (eT : T.heap = h) {K : String} {kk' : Nat} {ty : FieldType} {a : Addr} {v old : Value} (F : Fld Z h a O f d old) (E : Exa Z h a K) (L : (Cond.lays K O f d).before a0 Z = true ∨ ((Cond.laysFinal K O f d).before a0 Z = true ∧ own = O ∧ meth.name = "<init>")) (wi : (Cond.instantiable K kk').before a0 Z = true) (hty : parseFieldDescriptor d = some ty) {v' : Value} (hn : narrow ty v = v') (hf : fits ty v' = true) (hd : decode c.code pc = .ok (.putfield index, 3)) (hp : pc + 3 = n) (kk : ∀ (T' : State) (h' : Heap), Stand p l e R s m args below meth c T' (locs ++ [⟨a, slotOf Z O f d⟩]) cells slots → T'.heap = h' → Wr h h' a (slotOf Z O f d) v' → Wk p e below s Qf C S T' (mkF m n Ls sk)) : Wk p e below s Qf C S T (mkF m pc Ls (v :: .ref a :: sk)) := by
  subst hp
  obtain ⟨T', h', X', e', W', st'⟩ := RoadKit.putFN X hx hZ hown w via eT F E L wi hty hn hf (g := mkF m pc Ls (v :: .ref a :: sk)) rfl rfl hd
  exact Wk.go st' (kk T' h' X' e' W')
theorem Wk.initO (X : Stand p l e R s m args below meth c T locs cells slots) (hx : p.tables.exec = Jvm.exec) (hZ : Z.Warmed39 s.vm) {own : String} {idx : Nat} (hown : s.vm.findClass own = some m.cls) (w1 : (Cond.methodLink own idx Lib.objectInit).before a0 Z = true) (w2 : (Cond.instanceMethod Lib.objectInit).before a0 Z = true) (w3 : (Cond.code Lib.objectInit ⟨#[0xb1]⟩ 1 none).before a0 Z = true) (eT : T.heap = h) (hsz : Ls.size = c.maxLocals) {a : Addr} (hd : decode c.code pc = .ok (.invokespecial idx, 3)) (hp : pc + 3 = n) (hf : 1 ≤ R.frames) {w : Nat} (hw : (sk.map fun v => v.category).sum ≤ w) (hl : w + 12 ≤ R.locals) (kk : ∀ T' : State, Stand p l e R s m args below meth c T' locs cells slots → T'.heap = h → Wk p e below s Qf C S T' (mkF m n Ls sk)) : Wk p e below s Qf C S T (mkF m pc Ls (.ref a :: sk)) := by
  subst hp
  obtain ⟨T', X', e', st'⟩ := RoadKit.initO X hx hZ hown w1 w2 w3 eT (g := mkF m pc Ls (.ref a :: sk)) rfl hsz rfl hd hf (W := w) (by show 2 * 0 + _ ≤ _; omega) hl
  exact Wk.go st' (kk T' X' e')
theorem Wk.newP (X : Stand p l e R s m args below meth c T locs cells slots) (hx : p.tables.exec = Jvm.exec) (hZ : Z.Warmed39 s.vm) {aty : ArrayType} (w : (Cond.arrayClass (newarray.typeOf aty)).before a0 Z = true) (eT : T.heap = h) (hd : decode c.code pc = .ok (.newarray aty, 2)) (hp : pc + 2 = n) {z : Int32} (hz : ¬ z < 0) {cap : Nat} (hcap : z.toNatClampNeg ≤ cap) (hb : cap * 8 ≤ 536870912) (hc : cells + 1 ≤ R.cells) (hl : slots + cap ≤ R.slots)
    (kk : ∀ (T' : State) (h' : Heap) (b : Addr) (cA : ClassId), b = h.size → Stand p l e R s m args below meth c T' locs (cells + 1) (slots + cap) → T'.heap = h' → Ext h h' → Arr Z h' b (newA cA (newarray.typeOf aty) z) (newarray.typeOf aty) → Wk p e below s Qf C S T' (mkF m n Ls (.ref b :: sk))) : Wk p e below s Qf C S T (mkF m pc Ls (.int z :: sk)) := by
  subst hp
  obtain ⟨T', h', cA, X', e', E', A', st'⟩ := RoadKit.newP X hx hZ w eT (g := mkF m pc Ls (.int z :: sk)) rfl hd rfl hz hcap hb hc hl
  exact Wk.go st' (kk T' h' _ cA rfl X' e' E' A')
theorem Wk.newR (X : Stand p l e R s m args below meth c T locs cells slots) (hx : p.tables.exec = Jvm.exec) (hZ : Z.Warmed39 s.vm) {own K : String} {index : Nat} (hown : s.vm.findClass own = some m.cls) (w1 : (Cond.classLink own index K).before a0 Z = true) (w2 : (Cond.arrayOver (.object K)).before a0 Z = true) (eT : T.heap = h) (hd : decode c.code pc = .ok (.anewarray index, 3)) (hp : pc + 3 = n) {z : Int32} (hz : ¬ z < 0) {cap : Nat} (hcap : z.toNatClampNeg ≤ cap) (hb : cap * 8 ≤ 536870912) (hc : cells + 1 ≤ R.cells) (hl : slots + cap ≤ R.slots)
    (kk : ∀ (T' : State) (h' : Heap) (b : Addr) (cA : ClassId), b = h.size → Stand p l e R s m args below meth c T' locs (cells + 1) (slots + cap) → T'.heap = h' → Ext h h' → Arr Z h' b (newA cA (.object K) z) (.object K) → Ovr Z cA K → Wk p e below s Qf C S T' (mkF m n Ls (.ref b :: sk))) : Wk p e below s Qf C S T (mkF m pc Ls (.int z :: sk)) := by
  subst hp
  obtain ⟨T', h', cA, X', e', E', A', O', st'⟩ := RoadKit.newR X hx hZ hown w1 w2 eT (g := mkF m pc Ls (.int z :: sk)) rfl hd rfl hz hcap hb hc hl
  exact Wk.go st' (kk T' h' _ cA rfl X' e' E' A' O')
theorem Wk.stI (X : Stand p l e R s m args below meth c T locs cells slots) (hx : p.tables.exec = Jvm.exec) (hZ : Z.Warmed39 s.vm) (eT : T.heap = h) {a : Addr} {cl : Cell} (A : Arr Z h a cl .int) {j : Int32} {x : Int32} (hj : ¬ (j < 0 ∨ cl.slots.size ≤ j.toNatClampNeg)) (hd : decode c.code pc = .ok (.iastore, 1)) (hp : pc + 1 = n) (kk : ∀ (T' : State) (h' : Heap), Stand p l e R s m args below meth c T' (locs ++ [⟨a, j.toNatClampNeg⟩]) cells slots → T'.heap = h' → Wr h h' a j.toNatClampNeg (.int x) → Wk p e below s Qf C S T' (mkF m n Ls sk)) : Wk p e below s Qf C S T (mkF m pc Ls ((.int x) :: .int j :: .ref a :: sk)) := by
  subst hp
  obtain ⟨T', h', X', e', W', st'⟩ := RoadKit.stI X hx hZ eT A hj (g := mkF m pc Ls ((.int x) :: .int j :: .ref a :: sk)) rfl rfl hd
  exact Wk.go st' (kk T' h' X' e' W')
theorem Wk.stC (X : Stand p l e R s m args below meth c T locs cells slots) (hx : p.tables.exec = Jvm.exec) (hZ : Z.Warmed39 s.vm) (eT : T.heap = h) {a : Addr} {cl : Cell} (A : Arr Z h a cl .char) {j : Int32} {x : Int32} (hj : ¬ (j < 0 ∨ cl.slots.size ≤ j.toNatClampNeg)) (hd : decode c.code pc = .ok (.castore, 1)) (hp : pc + 1 = n) (kk : ∀ (T' : State) (h' : Heap), Stand p l e R s m args below meth c T' (locs ++ [⟨a, j.toNatClampNeg⟩]) cells slots → T'.heap = h' → Wr h h' a j.toNatClampNeg (.int (nar .char x)) → Wk p e below s Qf C S T' (mkF m n Ls sk)) : Wk p e below s Qf C S T (mkF m pc Ls ((.int x) :: .int j :: .ref a :: sk)) := by
  subst hp
  obtain ⟨T', h', X', e', W', st'⟩ := RoadKit.stC X hx hZ eT A hj (g := mkF m pc Ls ((.int x) :: .int j :: .ref a :: sk)) rfl rfl hd
  exact Wk.go st' (kk T' h' X' e' W')
theorem Wk.stS (X : Stand p l e R s m args below meth c T locs cells slots) (hx : p.tables.exec = Jvm.exec) (hZ : Z.Warmed39 s.vm) (eT : T.heap = h) {a : Addr} {cl : Cell} (A : Arr Z h a cl .short) {j : Int32} {x : Int32} (hj : ¬ (j < 0 ∨ cl.slots.size ≤ j.toNatClampNeg)) (hd : decode c.code pc = .ok (.sastore, 1)) (hp : pc + 1 = n) (kk : ∀ (T' : State) (h' : Heap), Stand p l e R s m args below meth c T' (locs ++ [⟨a, j.toNatClampNeg⟩]) cells slots → T'.heap = h' → Wr h h' a j.toNatClampNeg (.int (nar .short x)) → Wk p e below s Qf C S T' (mkF m n Ls sk)) : Wk p e below s Qf C S T (mkF m pc Ls ((.int x) :: .int j :: .ref a :: sk)) := by
  subst hp
  obtain ⟨T', h', X', e', W', st'⟩ := RoadKit.stS X hx hZ eT A hj (g := mkF m pc Ls ((.int x) :: .int j :: .ref a :: sk)) rfl rfl hd
  exact Wk.go st' (kk T' h' X' e' W')
theorem Wk.stB (X : Stand p l e R s m args below meth c T locs cells slots) (hx : p.tables.exec = Jvm.exec) (hZ : Z.Warmed39 s.vm) (eT : T.heap = h) {a : Addr} {cl : Cell} (A : Arr Z h a cl .byte) {j : Int32} {x : Int32} (hj : ¬ (j < 0 ∨ cl.slots.size ≤ j.toNatClampNeg)) (hd : decode c.code pc = .ok (.bastore, 1)) (hp : pc + 1 = n) (kk : ∀ (T' : State) (h' : Heap), Stand p l e R s m args below meth c T' (locs ++ [⟨a, j.toNatClampNeg⟩]) cells slots → T'.heap = h' → Wr h h' a j.toNatClampNeg (.int (nar .byte x)) → Wk p e below s Qf C S T' (mkF m n Ls sk)) : Wk p e below s Qf C S T (mkF m pc Ls ((.int x) :: .int j :: .ref a :: sk)) := by
  subst hp
  obtain ⟨T', h', X', e', W', st'⟩ := RoadKit.stB X hx hZ eT A hj (g := mkF m pc Ls ((.int x) :: .int j :: .ref a :: sk)) rfl rfl hd
  exact Wk.go st' (kk T' h' X' e' W')
theorem Wk.stZ (X : Stand p l e R s m args below meth c T locs cells slots) (hx : p.tables.exec = Jvm.exec) (hZ : Z.Warmed39 s.vm) (eT : T.heap = h) {a : Addr} {cl : Cell} (A : Arr Z h a cl .boolean) {j : Int32} {x : Int32} (hj : ¬ (j < 0 ∨ cl.slots.size ≤ j.toNatClampNeg)) (hd : decode c.code pc = .ok (.bastore, 1)) (hp : pc + 1 = n) (kk : ∀ (T' : State) (h' : Heap), Stand p l e R s m args below meth c T' (locs ++ [⟨a, j.toNatClampNeg⟩]) cells slots → T'.heap = h' → Wr h h' a j.toNatClampNeg (.int (nar .boolean x)) → Wk p e below s Qf C S T' (mkF m n Ls sk)) : Wk p e below s Qf C S T (mkF m pc Ls ((.int x) :: .int j :: .ref a :: sk)) := by
  subst hp
  obtain ⟨T', h', X', e', W', st'⟩ := RoadKit.stZ X hx hZ eT A hj (g := mkF m pc Ls ((.int x) :: .int j :: .ref a :: sk)) rfl rfl hd
  exact Wk.go st' (kk T' h' X' e' W')
theorem Wk.stJ (X : Stand p l e R s m args below meth c T locs cells slots) (hx : p.tables.exec = Jvm.exec) (hZ : Z.Warmed39 s.vm) (eT : T.heap = h) {a : Addr} {cl : Cell} (A : Arr Z h a cl .long) {j : Int32} {x : Int64} (hj : ¬ (j < 0 ∨ cl.slots.size ≤ j.toNatClampNeg)) (hd : decode c.code pc = .ok (.lastore, 1)) (hp : pc + 1 = n) (kk : ∀ (T' : State) (h' : Heap), Stand p l e R s m args below meth c T' (locs ++ [⟨a, j.toNatClampNeg⟩]) cells slots → T'.heap = h' → Wr h h' a j.toNatClampNeg (.long x) → Wk p e below s Qf C S T' (mkF m n Ls sk)) : Wk p e below s Qf C S T (mkF m pc Ls ((.long x) :: .int j :: .ref a :: sk)) := by
  subst hp
  obtain ⟨T', h', X', e', W', st'⟩ := RoadKit.stJ X hx hZ eT A hj (g := mkF m pc Ls ((.long x) :: .int j :: .ref a :: sk)) rfl rfl hd
  exact Wk.go st' (kk T' h' X' e' W')
theorem Wk.stR (X : Stand p l e R s m args below meth c T locs cells slots) (hx : p.tables.exec = Jvm.exec) (hZ : Z.Warmed39 s.vm) (eT : T.heap = h) {a : Addr} {cl : Cell} {ty : FieldType} (A : Arr Z h a cl ty) {j : Int32} {v : Value} (hj : ¬ (j < 0 ∨ cl.slots.size ≤ j.toNatClampNeg)) (hty : ty.isReference = true) (F : Sto Z h a v) (hd : decode c.code pc = .ok (.aastore, 1)) (hp : pc + 1 = n) (kk : ∀ (T' : State) (h' : Heap), Stand p l e R s m args below meth c T' (locs ++ [⟨a, j.toNatClampNeg⟩]) cells slots → T'.heap = h' → Wr h h' a j.toNatClampNeg v → Wk p e below s Qf C S T' (mkF m n Ls sk)) : Wk p e below s Qf C S T (mkF m pc Ls (v :: .int j :: .ref a :: sk)) := by
  subst hp
  obtain ⟨T', h', X', e', W', st'⟩ := RoadKit.stR X hx hZ eT A hj hty F (g := mkF m pc Ls (v :: .int j :: .ref a :: sk)) rfl rfl hd
  exact Wk.go st' (kk T' h' X' e' W')
theorem Wk.iaload (X : Stand p l e R s m args below meth c T locs cells slots) (hx : p.tables.exec = Jvm.exec) (hZ : Z.Warmed39 s.vm) (eT : T.heap = h) {a : Addr} {cl : Cell} (A : Arr Z h a cl .int) {j : Int32} {v : Value} (hj : ¬ (j < 0 ∨ cl.slots.size ≤ j.toNatClampNeg)) (ha : cl.slots[j.toNatClampNeg]? = some v) (hd : decode c.code pc = .ok (.iaload, 1)) (hp : pc + 1 = n) (w : Wk p e below s Qf C S T (mkF m n Ls (v :: sk))) : Wk p e below s Qf C S T (mkF m pc Ls (.int j :: .ref a :: sk)) := by
  subst hp
  exact Wk.go (X.iaload hx (by rw [eT]; exact A.1) (State.isArrayOf_alike hZ.alike A.2.1) A.2.2 hj ha (g := mkF m pc Ls (.int j :: .ref a :: sk)) rfl rfl hd) w
theorem Wk.caload (X : Stand p l e R s m args below meth c T locs cells slots) (hx : p.tables.exec = Jvm.exec) (hZ : Z.Warmed39 s.vm) (eT : T.heap = h) {a : Addr} {cl : Cell} (A : Arr Z h a cl .char) {j : Int32} {v : Value} (hj : ¬ (j < 0 ∨ cl.slots.size ≤ j.toNatClampNeg)) (ha : cl.slots[j.toNatClampNeg]? = some v) (hd : decode c.code pc = .ok (.caload, 1)) (hp : pc + 1 = n) (w : Wk p e below s Qf C S T (mkF m n Ls (v :: sk))) : Wk p e below s Qf C S T (mkF m pc Ls (.int j :: .ref a :: sk)) := by
  subst hp
  exact Wk.go (X.caload hx (by rw [eT]; exact A.1) (State.isArrayOf_alike hZ.alike A.2.1) A.2.2 hj ha (g := mkF m pc Ls (.int j :: .ref a :: sk)) rfl rfl hd) w
theorem Wk.saload (X : Stand p l e R s m args below meth c T locs cells slots) (hx : p.tables.exec = Jvm.exec) (hZ : Z.Warmed39 s.vm) (eT : T.heap = h) {a : Addr} {cl : Cell} (A : Arr Z h a cl .short) {j : Int32} {v : Value} (hj : ¬ (j < 0 ∨ cl.slots.size ≤ j.toNatClampNeg)) (ha : cl.slots[j.toNatClampNeg]? = some v) (hd : decode c.code pc = .ok (.saload, 1)) (hp : pc + 1 = n) (w : Wk p e below s Qf C S T (mkF m n Ls (v :: sk))) : Wk p e below s Qf C S T (mkF m pc Ls (.int j :: .ref a :: sk)) := by
  subst hp
  exact Wk.go (X.saload hx (by rw [eT]; exact A.1) (State.isArrayOf_alike hZ.alike A.2.1) A.2.2 hj ha (g := mkF m pc Ls (.int j :: .ref a :: sk)) rfl rfl hd) w
theorem Wk.laload (X : Stand p l e R s m args below meth c T locs cells slots) (hx : p.tables.exec = Jvm.exec) (hZ : Z.Warmed39 s.vm) (eT : T.heap = h) {a : Addr} {cl : Cell} (A : Arr Z h a cl .long) {j : Int32} {v : Value} (hj : ¬ (j < 0 ∨ cl.slots.size ≤ j.toNatClampNeg)) (ha : cl.slots[j.toNatClampNeg]? = some v) (hd : decode c.code pc = .ok (.laload, 1)) (hp : pc + 1 = n) (w : Wk p e below s Qf C S T (mkF m n Ls (v :: sk))) : Wk p e below s Qf C S T (mkF m pc Ls (.int j :: .ref a :: sk)) := by
  subst hp
  exact Wk.go (X.laload hx (by rw [eT]; exact A.1) (State.isArrayOf_alike hZ.alike A.2.1) A.2.2 hj ha (g := mkF m pc Ls (.int j :: .ref a :: sk)) rfl rfl hd) w
theorem Wk.baloadBytes (X : Stand p l e R s m args below meth c T locs cells slots) (hx : p.tables.exec = Jvm.exec) (hZ : Z.Warmed39 s.vm) (eT : T.heap = h) {a : Addr} {cl : Cell} (A : Arr Z h a cl .byte) {j : Int32} {v : Value} (hj : ¬ (j < 0 ∨ cl.slots.size ≤ j.toNatClampNeg)) (ha : cl.slots[j.toNatClampNeg]? = some v) (hd : decode c.code pc = .ok (.baload, 1)) (hp : pc + 1 = n) (w : Wk p e below s Qf C S T (mkF m n Ls (v :: sk))) : Wk p e below s Qf C S T (mkF m pc Ls (.int j :: .ref a :: sk)) := by
  subst hp
  exact Wk.go (X.baloadBytes hx (by rw [eT]; exact A.1) (State.isArrayOf_alike hZ.alike A.2.1) A.2.2 hj ha (g := mkF m pc Ls (.int j :: .ref a :: sk)) rfl rfl hd) w
theorem Wk.aaload (X : Stand p l e R s m args below meth c T locs cells slots) (hx : p.tables.exec = Jvm.exec) (hZ : Z.Warmed39 s.vm) (eT : T.heap = h) {a : Addr} {cl : Cell} {ty : FieldType} (A : Arr Z h a cl ty) {j : Int32} {v : Value} (hty : ty.isReference = true) (hj : ¬ (j < 0 ∨ cl.slots.size ≤ j.toNatClampNeg)) (ha : cl.slots[j.toNatClampNeg]? = some v) (hd : decode c.code pc = .ok (.aaload, 1)) (hp : pc + 1 = n) (w : Wk p e below s Qf C S T (mkF m n Ls (v :: sk))) : Wk p e below s Qf C S T (mkF m pc Ls (.int j :: .ref a :: sk)) := by
  subst hp
  exact Wk.go (X.aaload hx (by rw [eT]; exact A.1) (State.isArrayOf_alike hZ.alike A.2.1) hty A.2.2 hj ha (g := mkF m pc Ls (.int j :: .ref a :: sk)) rfl rfl hd) w
theorem Wk.arrlen (X : Stand p l e R s m args below meth c T locs cells slots) (hx : p.tables.exec = Jvm.exec) (hZ : Z.Warmed39 s.vm) (eT : T.heap = h) {a : Addr} {cl : Cell} {ty : FieldType} {z : Int32} (A : Arr Z h a cl ty) (S' : cl.slots.size = z.toNatClampNeg) (hz : ¬ z < 0) (hd : decode c.code pc = .ok (.arraylength, 1)) (hp : pc + 1 = n) (w : Wk p e below s Qf C S T (mkF m n Ls (.int z :: sk))) : Wk p e below s Qf C S T (mkF m pc Ls (.ref a :: sk)) := by
  subst hp
  have q := X.arraylength hx (by rw [eT]; exact A.1) (State.isArrayOf_alike hZ.alike A.2.1) (g := mkF m pc Ls (.ref a :: sk)) rfl rfl hd
  rw [len_of S' hz] at q
  exact Wk.go q w
theorem Wk.castY (X : Stand p l e R s m args below meth c T locs cells slots) (hx : p.tables.exec = Jvm.exec) (hZ : Z.Warmed39 s.vm) {own K : String} {index : Nat} (hown : s.vm.findClass own = some m.cls) (w : (Cond.classLink own index K).before a0 Z = true) (eT : T.heap = h) {a : Addr} (F : Ins Z h a K true) (hd : decode c.code pc = .ok (.checkcast index, 3)) (hp : pc + 3 = n) (kk : ∀ T' : State, Stand p l e R s m args below meth c T' locs cells slots → T'.heap = h → Wk p e below s Qf C S T' (mkF m n Ls (.ref a :: sk))) : Wk p e below s Qf C S T (mkF m pc Ls (.ref a :: sk)) := by
  subst hp
  obtain ⟨T', X', e', st'⟩ := RoadKit.castY X hx hZ hown w eT F (g := mkF m pc Ls (.ref a :: sk)) rfl rfl hd
  exact Wk.go st' (kk T' X' e')
theorem Wk.instY (X : Stand p l e R s m args below meth c T locs cells slots) (hx : p.tables.exec = Jvm.exec) (hZ : Z.Warmed39 s.vm) {own K : String} {index : Nat} (hown : s.vm.findClass own = some m.cls) (w : (Cond.classLink own index K).before a0 Z = true) (eT : T.heap = h) {a : Addr} (F : Ins Z h a K true) (hd : decode c.code pc = .ok (.instanceof index, 3)) (hp : pc + 3 = n) (kk : ∀ T' : State, Stand p l e R s m args below meth c T' locs cells slots → T'.heap = h → Wk p e below s Qf C S T' (mkF m n Ls (.int 1 :: sk))) : Wk p e below s Qf C S T (mkF m pc Ls (.ref a :: sk)) := by
  subst hp
  obtain ⟨T', X', e', st'⟩ := RoadKit.instY X hx hZ hown w eT F (g := mkF m pc Ls (.ref a :: sk)) rfl rfl hd
  exact Wk.go st' (kk T' X' e')
theorem Wk.back {rc rs : Nat} {Q : Option Value → Heap → List Loc → Prop} {rest : List Value} (call : ∃ (v : Option Value) (vm₁ : Vm) (B : Pt), s.WarmedH vm₁ ∧ Stand p l e R s m args below meth c B.U B.locs B.cells B.slots ∧ (∃ L, Q v B.U.heap L ∧ B.locs = locs ++ L ∧ B.cells = cells + rc ∧ B.slots = slots + rs) ∧ Steps p.tables e below (T.setTop (mkF m pc Ls sk)) (B.U.setTop (mkF m n Ls (v.toList ++ rest)))) (kk : ∀ (v : Option Value) (T' : State) (L : List Loc), Stand p l e R s m args below meth c T' (locs ++ L) (cells + rc) (slots + rs) → Q v T'.heap L → Wk p e below s Qf C S T' (mkF m n Ls (v.toList ++ rest))) : Wk p e below s Qf C S T (mkF m pc Ls sk) := by
  obtain ⟨v, _, ⟨T', L', c', s'⟩, -, X', ⟨L, hQ, h1, h2, h3⟩, k⟩ := call
  dsimp only [Pt.U, Pt.locs, Pt.cells, Pt.slots] at X' h1 h2 h3 k hQ
  subst h1 h2 h3
  exact Wk.go (fun _ r => k.trans r) (kk v T' L X' hQ)
theorem Wk.backS {rc rs : Nat} {Q : Option Value → Heap → List Loc → Prop} {rest : List Value} (call : ∃ (v : Option Value) (vm₁ : Vm) (B : Pt), s.WarmedH vm₁ ∧ Stand p l e R s m args below meth c B.U B.locs B.cells B.slots ∧ (∃ L, Q v B.U.heap L ∧ B.locs = locs ++ L ∧ B.cells = cells + rc ∧ B.slots = slots + rs) ∧ ∀ target, Steps p.tables e below (B.U.setTop (mkF m n Ls (v.toList ++ rest))) target → Steps p.tables e below (T.setTop (mkF m pc Ls sk)) target) (kk : ∀ (v : Option Value) (T' : State) (L : List Loc), Stand p l e R s m args below meth c T' (locs ++ L) (cells + rc) (slots + rs) → Q v T'.heap L → Wk p e below s Qf C S T' (mkF m n Ls (v.toList ++ rest))) : Wk p e below s Qf C S T (mkF m pc Ls sk) := by
  obtain ⟨v, _, ⟨T', L', c', s'⟩, -, X', ⟨L, hQ, h1, h2, h3⟩, k⟩ := call
  dsimp only [Pt.U, Pt.locs, Pt.cells, Pt.slots] at X' h1 h2 h3 k hQ
  subst h1 h2 h3
  exact Wk.go k (kk v T' L X' hQ)
end Own
end Jvm.RoadKit
/- laws to paste: Road.backV (cut by pick.py; bodies as the Statement names them) -/
namespace Jvm.Pilot.@@N@@
namespace StrChars
open Jvm Sem ClassFile Op Lib Jvm.Stand Jvm.Free.XT Jvm.Free.ALB Jvm.Free.JM Jvm.Free
open Jvm.Lib.Cold (StaticIs)
/-- a char array whose places are chars -/
def Ch (a : Addr) (A : Cell) (U : State) : Prop := Arr .char a A U ∧ Typed .char A
theorem Ch.mv {a : Addr} {A : Cell} {U U' : State} (h : Ch a A U) (hal : U.vm.Alike U'.vm) (hh : U'.heap = U.heap) : Ch a A U' := ⟨h.1.mv hal hh, h.2⟩
theorem Ch.keep {a : Addr} {A : Cell} {U U' : State} (h : Ch a A U) (hal : U.vm.Alike U'.vm) (hk : U'.heap[a]? = some A) : Ch a A U' := ⟨h.1.keep hal hk, h.2⟩
/-- what place i of a char[]'s cell holds -/
def cv (A : Cell) (i : Nat) : Int32 := match A.slots[i]? with | some (.int x) => x | _ => 0
theorem Ch.get {a : Addr} {A : Cell} {U : State} (h : Ch a A U) {i : Nat} (hi : i < A.slots.size) : A.slots[i]? = some (.int (cv A i)) := by
  have e := Array.getElem?_eq_getElem hi
  have f := h.2 i _ e
  unfold cv; rw [e]
  generalize A.slots[i] = v at f
  cases v <;> simp [fits] at f ⊢
/-- the byte that i2b leaves of a char -/
def lo8 (x : Int32) : Int32 := x.toInt8.toInt32
theorem fits_lo8 (y : Int32) : fits .byte (.int (lo8 y)) = true := by
  have h1 := y.toInt8.le_toInt
  have h2 := y.toInt8.toInt_lt
  simp only [lo8, fits, Bool.and_eq_true, decide_eq_true_eq, Int32.le_iff_toInt_le, Int8.toInt_toInt32, show (-128 : Int32).toInt = -128 from by decide, show (127 : Int32).toInt = 127 from by decide]
  omega
/-- A' is A but that each place j of lo .. hi - 1 holds f j -/
def Laid (A A' : Cell) (lo hi : Nat) (f : Nat → Value) : Prop := A'.cls = A.cls ∧ A'.vm = A.vm ∧ A'.slots.size = A.slots.size ∧ ∀ i, A'.slots[i]? = if lo ≤ i ∧ i < hi then some (f i) else A.slots[i]?
theorem Laid.zero (A : Cell) (lo : Nat) (f : Nat → Value) : Laid A A lo (lo + 0) f := ⟨rfl, rfl, rfl, fun i => by rw [if_neg (by omega)]⟩
theorem Laid.step {A Ak : Cell} {lo k : Nat} {f : Nat → Value} {v : Value} (h : Laid A Ak lo k f) (hlo : lo ≤ k) (hk : k < Ak.slots.size) (hv : v = f k) : Laid A (Ak.setSlot k v) lo (k + 1) f := by
  refine ⟨h.1, h.2.1, by simpa [Cell.setSlot] using h.2.2.1, fun i => ?_⟩
  by_cases e : k = i
  · subst e; rw [Cell.slots_setSlot_self v hk, if_pos (by omega), hv]
  · rw [Cell.slots_setSlot_ne v e, h.2.2.2 i]
    by_cases q : lo ≤ i ∧ i < k
    · rw [if_pos q, if_pos (by omega)]
    · rw [if_neg q, if_neg (by omega)]
def U16 : String := "java/lang/StringUTF16"
namespace Cmp5
def yN : MethodName := ⟨"java/lang/StringUTF16", "compress", "([CI[BII)I"⟩
abbrev yB : ByteArray := jdk_52_method_21_code
theorem d0 : decode yB 0 = .ok (.iconst 0, 1) := by decide +kernel
theorem d1 : decode yB 1 = .ok (.istore 5, 2) := by decide +kernel
theorem d3 : decode yB 3 = .ok (.iload 5, 2) := by decide +kernel
theorem d5 : decode yB 5 = .ok (.iload 4, 2) := by decide +kernel
theorem d7 : decode yB 7 = .ok (.if_icmp (.ge) 37, 3) := by decide +kernel
theorem d10 : decode yB 10 = .ok (.aload_n 0, 1) := by decide +kernel
theorem d11 : decode yB 11 = .ok (.iload_n 1, 1) := by decide +kernel
theorem d12 : decode yB 12 = .ok (.caload, 1) := by decide +kernel
theorem d13 : decode yB 13 = .ok (.istore 6, 2) := by decide +kernel
theorem d15 : decode yB 15 = .ok (.iload 6, 2) := by decide +kernel
theorem d17 : decode yB 17 = .ok (.sipush 255, 3) := by decide +kernel
theorem d20 : decode yB 20 = .ok (.if_icmp (.le) 6, 3) := by decide +kernel
theorem d26 : decode yB 26 = .ok (.aload_n 2, 1) := by decide +kernel
theorem d27 : decode yB 27 = .ok (.iload_n 3, 1) := by decide +kernel
theorem d28 : decode yB 28 = .ok (.iload 6, 2) := by decide +kernel
theorem d30 : decode yB 30 = .ok (.i2b, 1) := by decide +kernel
theorem d31 : decode yB 31 = .ok (.bastore, 1) := by decide +kernel
theorem d32 : decode yB 32 = .ok (.iinc 1 1, 3) := by decide +kernel
theorem d35 : decode yB 35 = .ok (.iinc 3 1, 3) := by decide +kernel
theorem d38 : decode yB 38 = .ok (.iinc 5 1, 3) := by decide +kernel
theorem d41 : decode yB 41 = .ok (.goto (-38), 3) := by decide +kernel
theorem d44 : decode yB 44 = .ok (.iload 4, 2) := by decide +kernel
theorem d46 : decode yB 46 = .ok (.ireturn, 1) := by decide +kernel
def site : List Cond := []
def tab : Cond := tabOf yN yB 7 (some .int) site
def P (b : Addr) (A : Cell) (d : Addr) (B : Cell) (o q len : Nat) (args : Array Value) (s : State) : Prop := args = #[.ref b, .int (Int32.ofNat o), .ref d, .int (Int32.ofNat q), .int (Int32.ofNat len)] ∧ Ch b A s ∧ Arr .byte d B s ∧ b ≠ d ∧ o + len ≤ A.slots.size ∧ q + len ≤ B.slots.size ∧ ∀ i, i < len → ¬ 255 < cv A (o + i)
def E (b : Addr) (A : Cell) (d : Addr) (B : Cell) (o q len : Nat) (r : Option Value) (s u : State) : Prop := r = some (.int (Int32.ofNat len)) ∧ ∃ B', Put d B' s u ∧ Laid B B' q (q + len) (fun j => Value.int (lo8 (cv A (o + (j - q)))))
/-- no char of the range above 255: len; the places written hold each char's low byte -/
theorem law (l : Launch) (b : Addr) (A : Cell) (d : Addr) (B : Cell) (o q len : Nat) : Law l yN 5 5 0 0 yB 7 (some .int) site (P b A d B o q len) (E b A d B o q len) (copyLocs d q len) 0 0 := by
  refine Law.of_walk (plainFor_of_name (by decide +kernel)) (by decide +kernel) (by decide +kernel) (by decide) (fun _ _ h => by rw [h.1]; rfl) (fun _ U U' hal hh h => ⟨h.1, h.2.1.mv hal hh, h.2.2.1.mv hal hh, h.2.2.2⟩) (fun r U U' V V' h1 hal h2 h => ⟨h.1, h.2.elim fun B' q => ⟨B', q.1.mv h1 h2, q.2⟩⟩) ?_
  intro p e s m args below meth c s₁ X0 hexec hbytes hml hret hlk hnm hown hh0 W hP
  obtain ⟨rfl, hA, hB, hne, l1, l2, hp⟩ := hP
  have c1 : Steps p.tables e below (s₁.setTop (entryFrame m #[.ref b, .int (Int32.ofNat o), .ref d, .int (Int32.ofNat q), .int (Int32.ofNat len)] 7)) (s₁.setTop (mkF m 0 #[.val (.ref b), .val (.int (Int32.ofNat o)), .val (.ref d), .val (.int (Int32.ofNat q)), .val (.int (Int32.ofNat len)), .unset, .unset] [])) := entry rfl
  have hA0 := hA.1.mv X0.warmed.alike hh0
  have hB0 := hB.mv X0.warmed.alike hh0
  have a31 := hA.1.2.2.2
  have c2 : Steps p.tables e below (s₁.setTop (entryFrame m #[.ref b, .int (Int32.ofNat o), .ref d, .int (Int32.ofNat q), .int (Int32.ofNat len)] 7)) (s₁.setTop (mkF m 3 #[.val (.ref b), .val (.int (Int32.ofNat o)), .val (.ref d), .val (.int (Int32.ofNat q)), .val (.int (Int32.ofNat len)), .val (.int 0), .unset] [])) := c1.trans (by
    refine iconstV X0.here hexec rfl 0 (hb hbytes d0) (by decide) ?_
    refine XS.istore X0.here hexec rfl (hb hbytes d1) rfl rfl ?_
    exact Steps.refl _)
  have loop : ∀ (r i : Nat), i + r = len → ∀ (z : Slot), (z = .unset ∨ ∃ w, z = .val w ∧ w.category = 1) → ∀ (Tl : State) (Bk : Cell), Stand p l e { frames := 0, locals := 0, cells := 0, slots := 0 } s m #[.ref b, .int (Int32.ofNat o), .ref d, .int (Int32.ofNat q), .int (Int32.ofNat len)] below meth c Tl ([] ++ copyLocs d q i) 0 0 → Put d Bk s₁ Tl → Laid B Bk q (q + i) (fun j => Value.int (lo8 (cv A (o + (j - q))))) →
      Steps p.tables e below (s₁.setTop (entryFrame m #[.ref b, .int (Int32.ofNat o), .ref d, .int (Int32.ofNat q), .int (Int32.ofNat len)] 7)) (Tl.setTop (mkF m 3 #[.val (.ref b), .val (.int (Int32.ofNat (o + i))), .val (.ref d), .val (.int (Int32.ofNat (q + i))), .val (.int (Int32.ofNat len)), .val (.int (Int32.ofNat i)), z] [])) → ∃ (T' : State) (B' : Cell) (z' : Slot), Stand p l e { frames := 0, locals := 0, cells := 0, slots := 0 } s m #[.ref b, .int (Int32.ofNat o), .ref d, .int (Int32.ofNat q), .int (Int32.ofNat len)] below meth c T' ([] ++ copyLocs d q len) 0 0 ∧ Put d B' s₁ T' ∧ Laid B B' q (q + len) (fun j => Value.int (lo8 (cv A (o + (j - q))))) ∧
      Steps p.tables e below (s₁.setTop (entryFrame m #[.ref b, .int (Int32.ofNat o), .ref d, .int (Int32.ofNat q), .int (Int32.ofNat len)] 7)) (T'.setTop (mkF m 3 #[.val (.ref b), .val (.int (Int32.ofNat (o + len))), .val (.ref d), .val (.int (Int32.ofNat (q + len))), .val (.int (Int32.ofNat len)), .val (.int (Int32.ofNat len)), z'] [])) := by
    intro r
    induction r with
    | zero =>
      intro i hi z hz Tl Bk Xl pl fl cl
      have hil : i = len := by omega
      rw [hil] at Xl fl cl
      exact ⟨Tl, Bk, z, Xl, pl, fl, cl⟩
    | succ r ih =>
      intro i hi z hz Tl Bk Xl pl fl cl
      have all := X0.warmed.alike.symm.trans Xl.warmed.alike
      have hAl := hA0.keep all (pl.other hne hA0.1)
      have hBk := hB0.like all pl.1 fl.1 fl.2.1 fl.2.2.1
      have hlt : q + i < Bk.slots.size := by rw [fl.2.2.1]; omega
      have c3 : Steps p.tables e below (s₁.setTop (entryFrame m #[.ref b, .int (Int32.ofNat o), .ref d, .int (Int32.ofNat q), .int (Int32.ofNat len)] 7)) (Tl.setTop (mkF m 12 #[.val (.ref b), .val (.int (Int32.ofNat (o + i))), .val (.ref d), .val (.int (Int32.ofNat (q + i))), .val (.int (Int32.ofNat len)), .val (.int (Int32.ofNat i)), z] [.int (Int32.ofNat (o + i)), .ref b])) := cl.trans (by
        refine XS.iload Xl.here hexec rfl (hb hbytes d3) rfl ?_
        refine XS.iload Xl.here hexec rfl (hb hbytes d5) rfl ?_
        refine XS.icmpNo Xl.here hexec rfl (hb hbytes d7) rfl (ii_ge_f (lt32 (by omega) (by omega))) ?_
        refine XS.aloadN Xl.here hexec rfl (hb hbytes d10) rfl rfl ?_
        refine XS.iloadN Xl.here hexec rfl (hb hbytes d11) rfl ?_
        exact Steps.refl _)
      have c4 : Steps p.tables e below (s₁.setTop (entryFrame m #[.ref b, .int (Int32.ofNat o), .ref d, .int (Int32.ofNat q), .int (Int32.ofNat len)] 7)) (Tl.setTop (mkF m 13 #[.val (.ref b), .val (.int (Int32.ofNat (o + i))), .val (.ref d), .val (.int (Int32.ofNat (q + i))), .val (.int (Int32.ofNat len)), .val (.int (Int32.ofNat i)), z] [.int (cv A (o + i))])) := c3.trans (by
        refine Xl.aget hexec hAl rfl (hA.get (i := o + i) (by omega)) rfl rfl (hb hbytes d12) ?_
        exact Steps.refl _)
      have c5 : Steps p.tables e below (s₁.setTop (entryFrame m #[.ref b, .int (Int32.ofNat o), .ref d, .int (Int32.ofNat q), .int (Int32.ofNat len)] 7)) (Tl.setTop (mkF m 15 #[.val (.ref b), .val (.int (Int32.ofNat (o + i))), .val (.ref d), .val (.int (Int32.ofNat (q + i))), .val (.int (Int32.ofNat len)), .val (.int (Int32.ofNat i)), .val (.int (cv A (o + i)))] [])) := c4.trans (by
        refine XS.istoreS Xl.here hexec rfl (hb hbytes d13) rfl rfl hz ?_
        exact Steps.refl _)
      have c6 : Steps p.tables e below (s₁.setTop (entryFrame m #[.ref b, .int (Int32.ofNat o), .ref d, .int (Int32.ofNat q), .int (Int32.ofNat len)] 7)) (Tl.setTop (mkF m 31 #[.val (.ref b), .val (.int (Int32.ofNat (o + i))), .val (.ref d), .val (.int (Int32.ofNat (q + i))), .val (.int (Int32.ofNat len)), .val (.int (Int32.ofNat i)), .val (.int (cv A (o + i)))] [.int (lo8 (cv A (o + i))), .int (Int32.ofNat (q + i)), .ref d])) := c5.trans (by
        refine XS.iload Xl.here hexec rfl (hb hbytes d15) rfl ?_
        refine sipushV Xl.here hexec rfl 255 (hb hbytes d17) (by decide) ?_
        refine XS.icmpYes Xl.here hexec rfl (pc0 := 20) rfl (hb hbytes d20) rfl (ii_le_t (hp i (by omega))) (by decide) rfl ?_
        refine XS.aloadN Xl.here hexec rfl (hb hbytes d26) rfl rfl ?_
        refine XS.iloadN Xl.here hexec rfl (hb hbytes d27) rfl ?_
        refine XS.iload Xl.here hexec rfl (hb hbytes d28) rfl ?_
        refine i2b Xl.here hexec rfl (hb hbytes d30) rfl ?_
        exact Steps.refl _)
      obtain ⟨T7, X7, p7, st7⟩ := Xl.aput hexec hBk rfl hlt rfl (fits_lo8 (cv A (o + i))) (g := (mkF m 31 #[.val (.ref b), .val (.int (Int32.ofNat (o + i))), .val (.ref d), .val (.int (Int32.ofNat (q + i))), .val (.int (Int32.ofNat len)), .val (.int (Int32.ofNat i)), .val (.int (cv A (o + i)))] [.int (lo8 (cv A (o + i))), .int (Int32.ofNat (q + i)), .ref d])) rfl (rest := []) rfl (hb hbytes d31)
      have c8 : Steps p.tables e below (s₁.setTop (entryFrame m #[.ref b, .int (Int32.ofNat o), .ref d, .int (Int32.ofNat q), .int (Int32.ofNat len)] 7)) (T7.setTop (mkF m 32 #[.val (.ref b), .val (.int (Int32.ofNat (o + i))), .val (.ref d), .val (.int (Int32.ofNat (q + i))), .val (.int (Int32.ofNat len)), .val (.int (Int32.ofNat i)), .val (.int (cv A (o + i)))] [])) := c6.trans (st7 _ (Steps.refl _))
      have c9 : Steps p.tables e below (s₁.setTop (entryFrame m #[.ref b, .int (Int32.ofNat o), .ref d, .int (Int32.ofNat q), .int (Int32.ofNat len)] 7)) (T7.setTop (mkF m 3 #[.val (.ref b), .val (.int (Int32.ofNat (o + i) + 1)), .val (.ref d), .val (.int (Int32.ofNat (q + i) + 1)), .val (.int (Int32.ofNat len)), .val (.int (Int32.ofNat i + 1)), .val (.int (cv A (o + i)))] [])) := c8.trans (by
        refine iincV X7.here hexec rfl 1 (hb hbytes d32) (by decide) rfl rfl ?_
        refine iincV X7.here hexec rfl 1 (hb hbytes d35) (by decide) rfl rfl ?_
        refine iincV X7.here hexec rfl 1 (hb hbytes d38) (by decide) rfl rfl ?_
        refine XS.goto X7.here hexec rfl (pc0 := 41) rfl (hb hbytes d41) (by decide) rfl ?_
        exact Steps.refl _)
      have c10 : Steps p.tables e below (s₁.setTop (entryFrame m #[.ref b, .int (Int32.ofNat o), .ref d, .int (Int32.ofNat q), .int (Int32.ofNat len)] 7)) (T7.setTop (mkF m 3 #[.val (.ref b), .val (.int (Int32.ofNat (o + (i + 1)))), .val (.ref d), .val (.int (Int32.ofNat (q + (i + 1)))), .val (.int (Int32.ofNat len)), .val (.int (Int32.ofNat (i + 1))), .val (.int (cv A (o + i)))] [])) := by
        have := c9
        rw [succ32, succ32, succ32] at this
        exact this
      exact ih (i + 1) (by omega) _ (Or.inr ⟨_, rfl, rfl⟩) T7 _ (by rw [copyLocs_step, ← List.append_assoc]; exact X7) (pl.trans p7) (fl.step (by omega) hlt (by simp)) c10
  obtain ⟨T9, B9, z9, X9, p9, f9, g9⟩ := loop len 0 (by omega) .unset (Or.inl rfl) s₁ B (by simpa [copyLocs] using X0) ⟨hB0.1, fun _ _ => rfl, rfl⟩ (Laid.zero _ _ _) c2
  have c11 : Steps p.tables e below (s₁.setTop (entryFrame m #[.ref b, .int (Int32.ofNat o), .ref d, .int (Int32.ofNat q), .int (Int32.ofNat len)] 7)) (T9.setTop (mkF m 46 #[.val (.ref b), .val (.int (Int32.ofNat (o + len))), .val (.ref d), .val (.int (Int32.ofNat (q + len))), .val (.int (Int32.ofNat len)), .val (.int (Int32.ofNat len)), z9] [.int (Int32.ofNat len)])) := g9.trans (by
    refine XS.iload X9.here hexec rfl (hb hbytes d3) rfl ?_
    refine XS.iload X9.here hexec rfl (hb hbytes d5) rfl ?_
    refine XS.icmpYes X9.here hexec rfl (pc0 := 7) rfl (hb hbytes d7) rfl (ii_ge_t (nlt32 (by omega) (Nat.le_refl _))) (by decide) rfl ?_
    refine XS.iload X9.here hexec rfl (hb hbytes d44) rfl ?_
    exact Steps.refl _)
  exact ⟨T9, some (.int (Int32.ofNat len)), _, _, _, X9, by simp, rfl, rfl, (fun h => by cases h), ⟨rfl, B9, p9.from hh0, f9⟩, fun fs hl => c11.trans (X9.ireturnOut hexec hret rfl (Or.inl rfl) (hb hbytes d46) hl)⟩
end Cmp5
namespace Cmp3
def yN : MethodName := ⟨"java/lang/StringUTF16", "compress", "([CII)[B"⟩
abbrev yB : ByteArray := jdk_52_method_16_code
theorem d0 : decode yB 0 = .ok (.iload_n 2, 1) := by decide +kernel
theorem d1 : decode yB 1 = .ok (.newarray .byte, 2) := by decide +kernel
theorem d3 : decode yB 3 = .ok (.astore_n 3, 1) := by decide +kernel
theorem d4 : decode yB 4 = .ok (.aload_n 0, 1) := by decide +kernel
theorem d5 : decode yB 5 = .ok (.iload_n 1, 1) := by decide +kernel
theorem d6 : decode yB 6 = .ok (.aload_n 3, 1) := by decide +kernel
theorem d7 : decode yB 7 = .ok (.iconst 0, 1) := by decide +kernel
theorem d8 : decode yB 8 = .ok (.iload_n 2, 1) := by decide +kernel
theorem d9 : decode yB 9 = .ok (.invokestatic 115, 3) := by decide +kernel
theorem d12 : decode yB 12 = .ok (.istore 4, 2) := by decide +kernel
theorem d14 : decode yB 14 = .ok (.iload 4, 2) := by decide +kernel
theorem d16 : decode yB 16 = .ok (.iload_n 2, 1) := by decide +kernel
theorem d17 : decode yB 17 = .ok (.if_icmp (.eq) 40, 3) := by decide +kernel
theorem d57 : decode yB 57 = .ok (.aload_n 3, 1) := by decide +kernel
theorem d58 : decode yB 58 = .ok (.areturn, 1) := by decide +kernel
def site : List Cond := [.arrayClass .byte, Cmp5.tab] ++ staticW U16 115 Cmp5.yN
def tab : Cond := tabOf yN yB 6 (some (.array .byte)) site
def P (b : Addr) (A : Cell) (o len : Nat) (args : Array Value) (s : State) : Prop := args = #[.ref b, .int (Int32.ofNat o), .int (Int32.ofNat len)] ∧ Ch b A s ∧ o + len ≤ A.slots.size ∧ len ≤ 536870912 ∧ ∀ i, i < len → ¬ 255 < cv A (o + i)
def E (b : Addr) (A : Cell) (o len : Nat) (r : Option Value) (s u : State) : Prop := NewArr .byte "[B" len (fun j => .int (lo8 (cv A (o + j)))) r s u ∧ u.heap.size = s.heap.size + 1
/-- no char of the range above 255: a new byte[] of their low bytes -/
theorem law (l : Launch) (b : Addr) (A : Cell) (o len : Nat) : Law l yN 3 3 1 18 yB 6 (some (.array .byte)) site (P b A o len) (E b A o len) [] 1 len := by
  refine Law.of_walk (plainFor_of_name (by decide +kernel)) (by decide +kernel) (by decide +kernel) (by decide) (fun _ _ h => by rw [h.1]; rfl) (fun _ U U' hal hh h => ⟨h.1, h.2.1.mv hal hh, h.2.2⟩) (fun r U U' V V' h1 hal h2 h => ⟨NewArr.mv r U U' V V' h1 hal h2 h.1, by rw [h1, h2]; exact h.2⟩) ?_
  intro p e s m args below meth c s₁ X0 hexec hbytes hml hret hlk hnm hown hh0 W hP
  obtain ⟨rfl, hA, l1, l2, hp⟩ := hP
  have a31 := hA.1.2.2.2
  have c1 : Steps p.tables e below (s₁.setTop (entryFrame m #[.ref b, .int (Int32.ofNat o), .int (Int32.ofNat len)] 6)) (s₁.setTop (mkF m 0 #[.val (.ref b), .val (.int (Int32.ofNat o)), .val (.int (Int32.ofNat len)), .unset, .unset, .unset] [])) := entry rfl
  have c2 : Steps p.tables e below (s₁.setTop (entryFrame m #[.ref b, .int (Int32.ofNat o), .int (Int32.ofNat len)] 6)) (s₁.setTop (mkF m 1 #[.val (.ref b), .val (.int (Int32.ofNat o)), .val (.int (Int32.ofNat len)), .unset, .unset, .unset] [.int (Int32.ofNat len)])) := c1.trans (by
    refine XS.iloadN X0.here hexec rfl (hb hbytes d0) rfl ?_
    exact Steps.refl _)
  obtain ⟨T3, B3, X3, ba3, bs3, bv3, bh3, bf3, st3⟩ := X0.anew hexec (atype := .byte) (wk W (.arrayClass .byte)) rfl (by show len * 1 ≤ _; omega) (by omega) (g := (mkF m 1 #[.val (.ref b), .val (.int (Int32.ofNat o)), .val (.int (Int32.ofNat len)), .unset, .unset, .unset] [.int (Int32.ofNat len)])) rfl (hb hbytes d1) (rest := []) rfl (Nat.le_refl _) (by show 0 + len ≤ len; omega)
  rw [hh0] at ba3 st3
  have kp3 : XT.Kept s T3 := (XT.Kept.of_eq hh0).push bh3
  have hA3 := hA.keep X3.warmed.alike (kp3 _ _ hA.1.1)
  have hne : b ≠ s.heap.size := hA.1.ne
  have c4 : Steps p.tables e below (s₁.setTop (entryFrame m #[.ref b, .int (Int32.ofNat o), .int (Int32.ofNat len)] 6)) (T3.setTop (mkF m 3 #[.val (.ref b), .val (.int (Int32.ofNat o)), .val (.int (Int32.ofNat len)), .unset, .unset, .unset] [.ref s.heap.size])) := c2.trans (st3 _ (Steps.refl _))
  have c5 : Steps p.tables e below (s₁.setTop (entryFrame m #[.ref b, .int (Int32.ofNat o), .int (Int32.ofNat len)] 6)) (T3.setTop (mkF m 9 #[.val (.ref b), .val (.int (Int32.ofNat o)), .val (.int (Int32.ofNat len)), .val (.ref s.heap.size), .unset, .unset] [.int (Int32.ofNat len), .int 0, .ref s.heap.size, .int (Int32.ofNat o), .ref b])) := c4.trans (by
    refine XS.astoreN X3.here hexec rfl (hb hbytes d3) rfl rfl rfl ?_
    refine XS.aloadN X3.here hexec rfl (hb hbytes d4) rfl rfl ?_
    refine XS.iloadN X3.here hexec rfl (hb hbytes d5) rfl ?_
    refine XS.aloadN X3.here hexec rfl (hb hbytes d6) rfl rfl ?_
    refine iconstV X3.here hexec rfl 0 (hb hbytes d7) (by decide) ?_
    refine XS.iloadN X3.here hexec rfl (hb hbytes d8) rfl ?_
    exact Steps.refl _)
  obtain ⟨v6, T6, X6, E6, g6⟩ := X3.callS hexec (Cmp5.law l b A s.heap.size B3 o 0 len) hown (wks W (staticW U16 115 Cmp5.yN)) (wk W Cmp5.tab) (W := 0) (Nat.le_of_ble_eq_true rfl) (Nat.le_of_ble_eq_true rfl) (Nat.le_refl _) (by show 0 + len + 0 ≤ len; omega) (g := (mkF m 9 #[.val (.ref b), .val (.int (Int32.ofNat o)), .val (.int (Int32.ofNat len)), .val (.ref s.heap.size), .unset, .unset] [.int (Int32.ofNat len), .int (Int32.ofNat 0), .ref s.heap.size, .int (Int32.ofNat o), .ref b])) rfl (by rw [hml]; rfl) c5 (argsL := [.ref b, .int (Int32.ofNat o), .ref s.heap.size, .int (Int32.ofNat 0), .int (Int32.ofNat len)]) (rest := []) rfl rfl (by show 2 * 0 + 0 ≤ _; decide) (hb hbytes d9) (⟨rfl, hA3, ba3, hne, l1, by rw [bs3]; simp, hp⟩)
  obtain ⟨rfl, B6, p6, f6⟩ := E6
  have c7 : Steps p.tables e below (s₁.setTop (entryFrame m #[.ref b, .int (Int32.ofNat o), .int (Int32.ofNat len)] 6)) (T6.setTop (mkF m 12 #[.val (.ref b), .val (.int (Int32.ofNat o)), .val (.int (Int32.ofNat len)), .val (.ref s.heap.size), .unset, .unset] [.int (Int32.ofNat len)])) := g6
  have c8 : Steps p.tables e below (s₁.setTop (entryFrame m #[.ref b, .int (Int32.ofNat o), .int (Int32.ofNat len)] 6)) (T6.setTop (mkF m 58 #[.val (.ref b), .val (.int (Int32.ofNat o)), .val (.int (Int32.ofNat len)), .val (.ref s.heap.size), .val (.int (Int32.ofNat len)), .unset] [.ref s.heap.size])) := c7.trans (by
    refine XS.istore X6.here hexec rfl (hb hbytes d12) rfl rfl ?_
    refine XS.iload X6.here hexec rfl (hb hbytes d14) rfl ?_
    refine XS.iloadN X6.here hexec rfl (hb hbytes d16) rfl ?_
    refine XS.icmpYes X6.here hexec rfl (pc0 := 17) rfl (hb hbytes d17) rfl (ii_eq_t rfl) (by decide) rfl ?_
    refine XS.aloadN X6.here hexec rfl (hb hbytes d57) rfl rfl ?_
    exact Steps.refl _)
  have X8 := X6.wide (L' := []) (cells' := 1) (slots' := len) (fun x hx hlt => by
    simp only [List.nil_append, copyLocs, List.mem_map, List.mem_range] at hx
    obtain ⟨i, -, rfl⟩ := hx
    exact absurd hlt (Nat.lt_irrefl _)) (Nat.le_refl _) (by omega)
  exact ⟨T6, some (.ref s.heap.size), _, _, _, X8, rfl, rfl, rfl, (fun h => by cases h), ⟨⟨rfl, B6, ba3.like (X3.warmed.alike.symm.trans X6.warmed.alike) p6.1 f6.1 f6.2.1 f6.2.2.1, f6.2.1.trans bv3, by rw [X6.warmed.alike.findClass, f6.1]; exact bf3, by rw [f6.2.2.1, bs3]; simp, fun j hj => by rw [f6.2.2.2 j, if_pos (by omega)]; rfl, kp3.put p6 (Nat.le_refl _)⟩, by rw [p6.2.2, bh3, hh0]; simp⟩, fun fs hl => c8.trans (X8.areturnOut hexec rfl hret rfl (hb hbytes d58) hl)⟩
end Cmp3
namespace CodL
def yN : MethodName := ⟨"java/lang/StringUTF16", "coderFromArrayLen", "([BI)B"⟩
abbrev yB : ByteArray := jdk_52_method_15_code
theorem d0 : decode yB 0 = .ok (.iload_n 1, 1) := by decide +kernel
theorem d1 : decode yB 1 = .ok (.aload_n 0, 1) := by decide +kernel
theorem d2 : decode yB 2 = .ok (.arraylength, 1) := by decide +kernel
theorem d3 : decode yB 3 = .ok (.isub, 1) := by decide +kernel
theorem d4 : decode yB 4 = .ok (.bipush 31, 2) := by decide +kernel
theorem d6 : decode yB 6 = .ok (.iushr, 1) := by decide +kernel
theorem d7 : decode yB 7 = .ok (.i2b, 1) := by decide +kernel
theorem d8 : decode yB 8 = .ok (.ireturn, 1) := by decide +kernel
def site : List Cond := []
def tab : Cond := tabOf yN yB 2 (some .byte) site
def P (d : Addr) (B : Cell) (args : Array Value) (s : State) : Prop := args = #[.ref d, .int (Int32.ofNat B.slots.size)] ∧ Arr .byte d B s
def E (r : Option Value) (s u : State) : Prop := XT.PureE (some (.int 0)) r s u
/-- an array as long as the number of chars: LATIN1 -/
theorem law (l : Launch) (d : Addr) (B : Cell) : Law l yN 2 2 0 0 yB 2 (some .byte) site (P d B) E [] 0 0 := by
  refine Law.of_walk (plainFor_of_name (by decide +kernel)) (by decide +kernel) (by decide +kernel) (by decide) (fun _ _ h => by rw [h.1]; rfl) (fun _ U U' hal hh h => ⟨h.1, h.2.mv hal hh⟩) (fun r U U' V V' h1 hal h2 h => XT.PureE.mv r U U' V V' h1 hal h2 h) ?_
  intro p e s m args below meth c s₁ X0 hexec hbytes hml hret hlk hnm hown hh0 W hP
  obtain ⟨rfl, hB⟩ := hP
  have hB0 := hB.mv X0.warmed.alike hh0
  have c1 : Steps p.tables e below (s₁.setTop (entryFrame m #[.ref d, .int (Int32.ofNat B.slots.size)] 2)) (s₁.setTop (mkF m 0 #[.val (.ref d), .val (.int (Int32.ofNat B.slots.size))] [])) := entry rfl
  have c2 : Steps p.tables e below (s₁.setTop (entryFrame m #[.ref d, .int (Int32.ofNat B.slots.size)] 2)) (s₁.setTop (mkF m 2 #[.val (.ref d), .val (.int (Int32.ofNat B.slots.size))] [.ref d, .int (Int32.ofNat B.slots.size)])) := c1.trans (by
    refine XS.iloadN X0.here hexec rfl (hb hbytes d0) rfl ?_
    refine XS.aloadN X0.here hexec rfl (hb hbytes d1) rfl rfl ?_
    exact Steps.refl _)
  have c3 : Steps p.tables e below (s₁.setTop (entryFrame m #[.ref d, .int (Int32.ofNat B.slots.size)] 2)) (s₁.setTop (mkF m 8 #[.val (.ref d), .val (.int (Int32.ofNat B.slots.size))] [.int (lo8 (ushr (Int32.ofNat B.slots.size - Int32.ofNat B.slots.size) 31))])) := c2.trans (by
    refine X0.alen hexec hB0 rfl rfl (hb hbytes d2) ?_
    refine XS.isub X0.here hexec rfl (hb hbytes d3) rfl ?_
    refine bipushV X0.here hexec rfl 31 (hb hbytes d4) (by decide) ?_
    refine iushr X0.here hexec rfl (hb hbytes d6) rfl ?_
    refine i2b X0.here hexec rfl (hb hbytes d7) rfl ?_
    exact Steps.refl _)
  have e0 : lo8 (ushr (Int32.ofNat B.slots.size - Int32.ofNat B.slots.size) 31) = 0 := by rw [Int32.sub_self]; decide
  rw [e0] at c3
  exact ⟨s₁, some (.int 0), _, _, _, X0, rfl, rfl, rfl, (fun h => by cases h), ⟨rfl, hh0⟩, fun fs hl => c3.trans (X0.ireturnOut hexec hret rfl (Or.inr (Or.inr (Or.inl rfl))) (hb hbytes d8) hl)⟩
end CodL
/-- the String at a is Latin-1 over a new byte[] (the heap's one new cell): the low bytes of the len chars of A from o on; every cell but a is kept -/
def Got (a : Addr) (D : Cell) (fV fC : Field) (A : Cell) (o len : Nat) (r : Option Value) (s u : State) : Prop := r = none ∧ ∃ D' V : Cell, Blank "java/lang/String" a D' u ∧ Same D D' [fV.slot, fC.slot] ∧ D'.slots[fV.slot]? = some (.ref s.heap.size) ∧ D'.slots[fC.slot]? = some (.int 0) ∧ Arr .byte s.heap.size V u ∧ V.vm = .none ∧ u.vm.findClass "[B" = some V.cls ∧ V.slots.size = len ∧ (∀ j, j < len → V.slots[j]? = some (.int (lo8 (cv A (o + j))))) ∧ (∀ (y : Addr) (c : Cell), y ≠ a → s.heap[y]? = some c → u.heap[y]? = some c) ∧ u.heap.size = s.heap.size + 1
theorem Got.mv {a : Addr} {D A : Cell} {fV fC : Field} {o len : Nat} : ∀ r (U U' V V' : State), U'.heap = U.heap → V.vm.Alike V'.vm → V'.heap = V.heap → Got a D fV fC A o len r U V → Got a D fV fC A o len r U' V' :=
  fun r U U' V V' h1 hal h2 ⟨e0, D', X, a1, a2, a3, a4, a5, a6, a7, a8, a9, a10, a11⟩ => ⟨e0, D', X, a1.mv hal h2, a2, by rw [h1]; exact a3, a4, by rw [h1]; exact a5.mv hal h2, a6, by rw [hal.findClass]; exact a7, a8, a9, by rw [h1, h2]; exact a10, by rw [h1, h2]; exact a11⟩
namespace New4
def yN : MethodName := ⟨"java/lang/String", "<init>", "([CIILjava/lang/Void;)V"⟩
abbrev yB : ByteArray := jdk_42_method_149_code
theorem d0 : decode yB 0 = .ok (.aload_n 0, 1) := by decide +kernel
theorem d1 : decode yB 1 = .ok (.invokespecial 1, 3) := by decide +kernel
theorem d4 : decode yB 4 = .ok (.iload_n 3, 1) := by decide +kernel
theorem d5 : decode yB 5 = .ok (.ifCond (.ne) 22, 3) := by decide +kernel
theorem d27 : decode yB 27 = .ok (.getstatic 38, 3) := by decide +kernel
theorem d30 : decode yB 30 = .ok (.ifCond (.eq) 28, 3) := by decide +kernel
theorem d33 : decode yB 33 = .ok (.aload_n 1, 1) := by decide +kernel
theorem d34 : decode yB 34 = .ok (.iload_n 2, 1) := by decide +kernel
theorem d35 : decode yB 35 = .ok (.iload_n 3, 1) := by decide +kernel
theorem d36 : decode yB 36 = .ok (.invokestatic 177, 3) := by decide +kernel
theorem d39 : decode yB 39 = .ok (.astore 5, 2) := by decide +kernel
theorem d41 : decode yB 41 = .ok (.aload_n 0, 1) := by decide +kernel
theorem d42 : decode yB 42 = .ok (.aload 5, 2) := by decide +kernel
theorem d44 : decode yB 44 = .ok (.iload_n 3, 1) := by decide +kernel
theorem d45 : decode yB 45 = .ok (.invokestatic 47, 3) := by decide +kernel
theorem d48 : decode yB 48 = .ok (.putfield 15, 3) := by decide +kernel
theorem d51 : decode yB 51 = .ok (.aload_n 0, 1) := by decide +kernel
theorem d52 : decode yB 52 = .ok (.aload 5, 2) := by decide +kernel
theorem d54 : decode yB 54 = .ok (.putfield 9, 3) := by decide +kernel
theorem d57 : decode yB 57 = .ok (.return_, 1) := by decide +kernel
def site : List Cond := [.fieldLink "java/lang/String" 38 "java/lang/String" "COMPACT_STRINGS" "Z", Cmp3.tab, CodL.tab, .laysFinal "java/lang/String" "java/lang/String" "value" "[B", .fieldLink "java/lang/String" 9 "java/lang/String" "value" "[B", .laysFinal "java/lang/String" "java/lang/String" "coder" "B", .fieldLink "java/lang/String" 15 "java/lang/String" "coder" "B"] ++ objW "java/lang/String" 1 ++ staticW "java/lang/String" 177 Cmp3.yN ++ staticW "java/lang/String" 47 CodL.yN
def tab : Cond := tabOf yN yB 6 none site
def P (a : Addr) (D : Cell) (fV fC : Field) (b : Addr) (A : Cell) (z : Int32) (o len : Nat) (args : Array Value) (s : State) : Prop := args = #[.ref a, .ref b, .int (Int32.ofNat o), .int (Int32.ofNat len), .null] ∧ Blank "java/lang/String" a D s ∧ Found "java/lang/String" "value" "[B" fV s ∧ Found "java/lang/String" "coder" "B" fC s ∧ Ch b A s ∧ StaticIs s "java/lang/String" "COMPACT_STRINGS" "Z" (.int z) ∧ ¬ z = 0 ∧ 0 < len ∧ o + len ≤ A.slots.size ∧ len ≤ 536870912 ∧ ∀ i, i < len → ¬ 255 < cv A (o + i)
def E (a : Addr) (D : Cell) (fV fC : Field) (A : Cell) (o len : Nat) (r : Option Value) (s u : State) : Prop := Got a D fV fC A o len r s u
/-- len > 0, no char of the range above 255: a Latin-1 String of their low bytes -/
theorem law (l : Launch) (a : Addr) (D : Cell) (fV fC : Field) (b : Addr) (A : Cell) (z : Int32) (o len : Nat) : Law l yN 5 4 2 35 yB 6 none site (P a D fV fC b A z o len) (E a D fV fC A o len) [⟨a, fC.slot⟩, ⟨a, fV.slot⟩] 1 len := by
  refine Law.of_walk (plainFor_of_name (by decide +kernel)) (by decide +kernel) (by decide +kernel) (by decide) (fun _ _ h => by rw [h.1]; rfl) (fun _ U U' hal hh h => ⟨h.1, h.2.1.mv hal hh, h.2.2.1.al hal, h.2.2.2.1.al hal, h.2.2.2.2.1.mv hal hh, h.2.2.2.2.2.1.there hal hh, h.2.2.2.2.2.2⟩) (fun r U U' V V' h1 hal h2 h => Got.mv r U U' V V' h1 hal h2 h) ?_
  intro p e s m args below meth c s₁ X0 hexec hbytes hml hret hlk hnm hown hh0 W hP
  obtain ⟨rfl, hB, f1, f2, hA, s1, hz, l0, l1, l2, hp⟩ := hP
  have a31 := hA.1.2.2.2
  have c1 : Steps p.tables e below (s₁.setTop (entryFrame m #[.ref a, .ref b, .int (Int32.ofNat o), .int (Int32.ofNat len), .null] 6)) (s₁.setTop (mkF m 0 #[.val (.ref a), .val (.ref b), .val (.int (Int32.ofNat o)), .val (.int (Int32.ofNat len)), .val .null, .unset] [])) := entry rfl
  have c2 : Steps p.tables e below (s₁.setTop (entryFrame m #[.ref a, .ref b, .int (Int32.ofNat o), .int (Int32.ofNat len), .null] 6)) (s₁.setTop (mkF m 1 #[.val (.ref a), .val (.ref b), .val (.int (Int32.ofNat o)), .val (.int (Int32.ofNat len)), .val .null, .unset] [.ref a])) := c1.trans (by
    refine XS.aloadN X0.here hexec rfl (hb hbytes d0) rfl rfl ?_
    exact Steps.refl _)
  obtain ⟨T3, X3, q3, st3⟩ := X0.oinit hexec hown (wks W (objW "java/lang/String" 1)) (g := (mkF m 1 #[.val (.ref a), .val (.ref b), .val (.int (Int32.ofNat o)), .val (.int (Int32.ofNat len)), .val .null, .unset] [.ref a])) rfl (by rw [hml]; rfl) (rest := []) rfl (hb hbytes d1) (W := 0) (by show 2 * 0 + 0 ≤ _; decide) (Nat.le_of_ble_eq_true rfl) (Nat.le_of_ble_eq_true rfl)
  have hh3 := q3.trans hh0
  have c4 : Steps p.tables e below (s₁.setTop (entryFrame m #[.ref a, .ref b, .int (Int32.ofNat o), .int (Int32.ofNat len), .null] 6)) (T3.setTop (mkF m 27 #[.val (.ref a), .val (.ref b), .val (.int (Int32.ofNat o)), .val (.int (Int32.ofNat len)), .val .null, .unset] [])) := (c2.trans (st3 _ (Steps.refl _))).trans (by
    refine XS.iloadN X3.here hexec rfl (hb hbytes d4) rfl ?_
    refine XS.ifYes X3.here hexec rfl (pc0 := 5) rfl (hb hbytes d5) rfl (i0_ne_t (nz32 (by omega) l0)) (by decide) rfl ?_
    exact Steps.refl _)
  obtain ⟨T5, X5, q5, st5⟩ := X3.sget hexec hown (wk W (.fieldLink "java/lang/String" 38 "java/lang/String" "COMPACT_STRINGS" "Z")) s1 (fun _ _ h => by rw [hh3]; exact h) (g := (mkF m 27 #[.val (.ref a), .val (.ref b), .val (.int (Int32.ofNat o)), .val (.int (Int32.ofNat len)), .val .null, .unset] [])) rfl (hb hbytes d27)
  have hh5 := q5.trans hh3
  have c6 : Steps p.tables e below (s₁.setTop (entryFrame m #[.ref a, .ref b, .int (Int32.ofNat o), .int (Int32.ofNat len), .null] 6)) (T5.setTop (mkF m 30 #[.val (.ref a), .val (.ref b), .val (.int (Int32.ofNat o)), .val (.int (Int32.ofNat len)), .val .null, .unset] [.int z])) := c4.trans (st5 _ (Steps.refl _))
  have c7 : Steps p.tables e below (s₁.setTop (entryFrame m #[.ref a, .ref b, .int (Int32.ofNat o), .int (Int32.ofNat len), .null] 6)) (T5.setTop (mkF m 36 #[.val (.ref a), .val (.ref b), .val (.int (Int32.ofNat o)), .val (.int (Int32.ofNat len)), .val .null, .unset] [.int (Int32.ofNat len), .int (Int32.ofNat o), .ref b])) := c6.trans (by
    refine XS.ifNo X5.here hexec rfl (hb hbytes d30) rfl (i0_eq_f hz) ?_
    refine XS.aloadN X5.here hexec rfl (hb hbytes d33) rfl rfl ?_
    refine XS.iloadN X5.here hexec rfl (hb hbytes d34) rfl ?_
    refine XS.iloadN X5.here hexec rfl (hb hbytes d35) rfl ?_
    exact Steps.refl _)
  obtain ⟨v8, T8, X8, E8, g8⟩ := X5.callS hexec (Cmp3.law l b A o len) hown (wks W (staticW "java/lang/String" 177 Cmp3.yN)) (wk W Cmp3.tab) (W := 0) (Nat.le_of_ble_eq_true rfl) (Nat.le_of_ble_eq_true rfl) (Nat.le_refl _) (by show 0 + len ≤ len; omega) (g := (mkF m 36 #[.val (.ref a), .val (.ref b), .val (.int (Int32.ofNat o)), .val (.int (Int32.ofNat len)), .val .null, .unset] [.int (Int32.ofNat len), .int (Int32.ofNat o), .ref b])) rfl (by rw [hml]; rfl) c7 (argsL := [.ref b, .int (Int32.ofNat o), .int (Int32.ofNat len)]) (rest := []) rfl rfl (by show 2 * 0 + 0 ≤ _; decide) (hb hbytes d36) (⟨rfl, hA.mv X5.warmed.alike hh5, l1, l2, hp⟩)
  obtain ⟨e8, z8⟩ := E8
  obtain ⟨rfl, N, n1, n2, n3, n4, n5, n6⟩ := NewArr.mv _ T5 s _ _ hh5.symm (Vm.Alike.refl _) rfl e8
  rw [hh5] at z8
  have hB1 := hB.keep X8.warmed.alike (n6 _ _ hB.1)
  have hne : s.heap.size ≠ a := (Nat.ne_of_lt (Array.getElem?_eq_some_iff.mp hB.1).1).symm
  have c9 : Steps p.tables e below (s₁.setTop (entryFrame m #[.ref a, .ref b, .int (Int32.ofNat o), .int (Int32.ofNat len), .null] 6)) (T8.setTop (mkF m 39 #[.val (.ref a), .val (.ref b), .val (.int (Int32.ofNat o)), .val (.int (Int32.ofNat len)), .val .null, .unset] [.ref s.heap.size])) := g8
  have c10 : Steps p.tables e below (s₁.setTop (entryFrame m #[.ref a, .ref b, .int (Int32.ofNat o), .int (Int32.ofNat len), .null] 6)) (T8.setTop (mkF m 45 #[.val (.ref a), .val (.ref b), .val (.int (Int32.ofNat o)), .val (.int (Int32.ofNat len)), .val .null, .val (.ref s.heap.size)] [.int (Int32.ofNat N.slots.size), .ref s.heap.size, .ref a])) := by
    have hc : Steps p.tables e below (s₁.setTop (entryFrame m #[.ref a, .ref b, .int (Int32.ofNat o), .int (Int32.ofNat len), .null] 6)) (T8.setTop (mkF m 45 #[.val (.ref a), .val (.ref b), .val (.int (Int32.ofNat o)), .val (.int (Int32.ofNat len)), .val .null, .val (.ref s.heap.size)] [.int (Int32.ofNat len), .ref s.heap.size, .ref a])) := c9.trans (by
      refine XS.astore X8.here hexec rfl (hb hbytes d39) rfl rfl rfl ?_
      refine XS.aloadN X8.here hexec rfl (hb hbytes d41) rfl rfl ?_
      refine XS.aload X8.here hexec rfl (hb hbytes d42) rfl rfl ?_
      refine XS.iloadN X8.here hexec rfl (hb hbytes d44) rfl ?_
      exact Steps.refl _)
    rw [n4]; exact hc
  obtain ⟨v11, T11, X11, E11, g11⟩ := X8.callS hexec (CodL.law l s.heap.size N) hown (wks W (staticW "java/lang/String" 47 CodL.yN)) (wk W CodL.tab) (W := 1) (Nat.le_of_ble_eq_true rfl) (Nat.le_of_ble_eq_true rfl) (Nat.le_refl _) (by show 0 + len + 0 ≤ len; omega) (g := (mkF m 45 #[.val (.ref a), .val (.ref b), .val (.int (Int32.ofNat o)), .val (.int (Int32.ofNat len)), .val .null, .val (.ref s.heap.size)] [.int (Int32.ofNat N.slots.size), .ref s.heap.size, .ref a])) rfl (by rw [hml]; rfl) c10 (argsL := [.ref s.heap.size, .int (Int32.ofNat N.slots.size)]) (rest := [.ref a]) rfl rfl (by show 2 * 0 + (1 + 0) ≤ _; decide) (hb hbytes d45) (⟨rfl, n1⟩)
  obtain ⟨rfl, q11⟩ := E11
  have hB11 := hB1.mv (X8.warmed.alike.symm.trans X11.warmed.alike) q11
  have c12 : Steps p.tables e below (s₁.setTop (entryFrame m #[.ref a, .ref b, .int (Int32.ofNat o), .int (Int32.ofNat len), .null] 6)) (T11.setTop (mkF m 48 #[.val (.ref a), .val (.ref b), .val (.int (Int32.ofNat o)), .val (.int (Int32.ofNat len)), .val .null, .val (.ref s.heap.size)] [.int 0, .ref a])) := g11
  obtain ⟨T13, X13, p13, bl13, sl13, st13⟩ := X11.finit hexec hown (wk W (.fieldLink "java/lang/String" 15 "java/lang/String" "coder" "B")) (Or.inr ⟨_, (wk W (.laysFinal "java/lang/String" "java/lang/String" "coder" "B"))⟩) (Or.inl ⟨rfl, hnm⟩) f2 (Or.inl rfl) hB11 (t := .byte) (by decide +kernel) rfl (g := (mkF m 48 #[.val (.ref a), .val (.ref b), .val (.int (Int32.ofNat o)), .val (.int (Int32.ofNat len)), .val .null, .val (.ref s.heap.size)] [.int 0, .ref a])) rfl (rest := []) rfl (hb hbytes d48)
  have c14 : Steps p.tables e below (s₁.setTop (entryFrame m #[.ref a, .ref b, .int (Int32.ofNat o), .int (Int32.ofNat len), .null] 6)) (T13.setTop (mkF m 54 #[.val (.ref a), .val (.ref b), .val (.int (Int32.ofNat o)), .val (.int (Int32.ofNat len)), .val .null, .val (.ref s.heap.size)] [.ref s.heap.size, .ref a])) := (c12.trans (st13 _ (Steps.refl _))).trans (by
    refine XS.aloadN X13.here hexec rfl (hb hbytes d51) rfl rfl ?_
    refine XS.aload X13.here hexec rfl (hb hbytes d52) rfl rfl ?_
    exact Steps.refl _)
  obtain ⟨T15, X15, p15, bl15, sl15, st15⟩ := X13.finit hexec hown (wk W (.fieldLink "java/lang/String" 9 "java/lang/String" "value" "[B")) (Or.inr ⟨_, (wk W (.laysFinal "java/lang/String" "java/lang/String" "value" "[B"))⟩) (Or.inl ⟨rfl, hnm⟩) f1 (Or.inl rfl) bl13 (t := (.array .byte)) (by decide +kernel) rfl (g := (mkF m 54 #[.val (.ref a), .val (.ref b), .val (.int (Int32.ofNat o)), .val (.int (Int32.ofNat len)), .val .null, .val (.ref s.heap.size)] [.ref s.heap.size, .ref a])) rfl (rest := []) rfl (hb hbytes d54)
  have c16 : Steps p.tables e below (s₁.setTop (entryFrame m #[.ref a, .ref b, .int (Int32.ofNat o), .int (Int32.ofNat len), .null] 6)) (T15.setTop (mkF m 57 #[.val (.ref a), .val (.ref b), .val (.int (Int32.ofNat o)), .val (.int (Int32.ofNat len)), .val .null, .val (.ref s.heap.size)] [])) := c14.trans (st15 _ (Steps.refl _))
  have ap := apart (Or.inr ⟨_, (wk W (.laysFinal "java/lang/String" "java/lang/String" "value" "[B"))⟩) (Or.inr ⟨_, (wk W (.laysFinal "java/lang/String" "java/lang/String" "coder" "B"))⟩) f1 f2 (t₁ := .array .byte) (t₂ := .byte) (by decide +kernel) (by decide +kernel) (by decide)
  have al := X8.warmed.alike.symm.trans X15.warmed.alike
  have n7 : T11.heap[s.heap.size]? = some N := by rw [q11]; exact n1.1
  exact ⟨T15, none, _, _, _, X15, by simp, rfl, by omega, (fun _ => rfl), ⟨rfl, _, N, bl15, ((Same.refl D _).set _ (by simp)).set _ (by simp), sl15, (Cell.slots_setSlot_ne _ ap).trans sl13, n1.keep al (p15.other hne (p13.other hne n7)), n2, by rw [al.findClass]; exact n3, n4, n5, fun y c h1 h2 => p15.other h1 (p13.other h1 (by rw [q11]; exact n6 y c h2)), by rw [p15.2.2, p13.2.2, q11]; exact z8⟩, fun fs hl => c16.trans (X15.returnOut hexec hret (hb hbytes d57) hl)⟩
end New4
namespace New1
def yN : MethodName := ⟨"java/lang/String", "<init>", "([C)V"⟩
abbrev yB : ByteArray := jdk_42_method_3_code
theorem d0 : decode yB 0 = .ok (.aload_n 0, 1) := by decide +kernel
theorem d1 : decode yB 1 = .ok (.aload_n 1, 1) := by decide +kernel
theorem d2 : decode yB 2 = .ok (.iconst 0, 1) := by decide +kernel
theorem d3 : decode yB 3 = .ok (.aload_n 1, 1) := by decide +kernel
theorem d4 : decode yB 4 = .ok (.arraylength, 1) := by decide +kernel
theorem d5 : decode yB 5 = .ok (.aconst_null, 1) := by decide +kernel
theorem d6 : decode yB 6 = .ok (.invokespecial 27, 3) := by decide +kernel
theorem d9 : decode yB 9 = .ok (.return_, 1) := by decide +kernel
def site : List Cond := [New4.tab] ++ initW "java/lang/String" 27 New4.yN
def tab : Cond := tabOf yN yB 2 none site
def P (a : Addr) (D : Cell) (fV fC : Field) (b : Addr) (A : Cell) (z : Int32) (args : Array Value) (s : State) : Prop := args = #[.ref a, .ref b] ∧ Blank "java/lang/String" a D s ∧ Found "java/lang/String" "value" "[B" fV s ∧ Found "java/lang/String" "coder" "B" fC s ∧ Ch b A s ∧ StaticIs s "java/lang/String" "COMPACT_STRINGS" "Z" (.int z) ∧ ¬ z = 0 ∧ 0 < A.slots.size ∧ A.slots.size ≤ 536870912 ∧ ∀ i, i < A.slots.size → ¬ 255 < cv A i
def E (a : Addr) (D : Cell) (fV fC : Field) (A : Cell) (r : Option Value) (s u : State) : Prop := Got a D fV fC A 0 A.slots.size r s u
/-- new String(chars), not empty, no char above 255: a Latin-1 String of their low bytes -/
theorem law (l : Launch) (a : Addr) (D : Cell) (fV fC : Field) (b : Addr) (A : Cell) (z : Int32) : Law l yN 2 1 3 52 yB 2 none site (P a D fV fC b A z) (E a D fV fC A) [⟨a, fC.slot⟩, ⟨a, fV.slot⟩] 1 A.slots.size := by
  refine Law.of_walk (plainFor_of_name (by decide +kernel)) (by decide +kernel) (by decide +kernel) (by decide) (fun _ _ h => by rw [h.1]; rfl) (fun _ U U' hal hh h => ⟨h.1, h.2.1.mv hal hh, h.2.2.1.al hal, h.2.2.2.1.al hal, h.2.2.2.2.1.mv hal hh, h.2.2.2.2.2.1.there hal hh, h.2.2.2.2.2.2⟩) (fun r U U' V V' h1 hal h2 h => Got.mv r U U' V V' h1 hal h2 h) ?_
  intro p e s m args below meth c s₁ X0 hexec hbytes hml hret hlk hnm hown hh0 W hP
  obtain ⟨rfl, hB, f1, f2, hA, s1, hz, l0, l2, hp⟩ := hP
  have c1 : Steps p.tables e below (s₁.setTop (entryFrame m #[.ref a, .ref b] 2)) (s₁.setTop (mkF m 0 #[.val (.ref a), .val (.ref b)] [])) := entry rfl
  have c2 : Steps p.tables e below (s₁.setTop (entryFrame m #[.ref a, .ref b] 2)) (s₁.setTop (mkF m 6 #[.val (.ref a), .val (.ref b)] [.null, .int (Int32.ofNat A.slots.size), .int 0, .ref b, .ref a])) := c1.trans (by
    refine XS.aloadN X0.here hexec rfl (hb hbytes d0) rfl rfl ?_
    refine XS.aloadN X0.here hexec rfl (hb hbytes d1) rfl rfl ?_
    refine iconstV X0.here hexec rfl 0 (hb hbytes d2) (by decide) ?_
    refine XS.aloadN X0.here hexec rfl (hb hbytes d3) rfl rfl ?_
    refine X0.alen hexec (hA.1.mv X0.warmed.alike hh0) rfl rfl (hb hbytes d4) ?_
    refine XS.aconstNull X0.here hexec rfl (hb hbytes d5) ?_
    exact Steps.refl _)
  obtain ⟨v3, T3, X3, E3, g3⟩ := X0.callN hexec (New4.law l a D fV fC b A z 0 A.slots.size) rfl hown (wks W (initW "java/lang/String" 27 New4.yN)) (W New4.tab (by simp only [site, List.mem_cons, List.mem_append, true_or, or_true])) (W := 0) (Nat.le_of_ble_eq_true rfl) (Nat.le_of_ble_eq_true rfl) (Nat.le_refl _) (by show 0 + A.slots.size ≤ A.slots.size; omega) (g := (mkF m 6 #[.val (.ref a), .val (.ref b)] [.null, .int (Int32.ofNat A.slots.size), .int (Int32.ofNat 0), .ref b, .ref a])) rfl (by rw [hml]; rfl) c2 (argsL := [.ref b, .int (Int32.ofNat 0), .int (Int32.ofNat A.slots.size), .null]) (rest := []) rfl rfl (by show 2 * 0 + 0 ≤ _; decide) (hb hbytes d6) (⟨rfl, hB.mv X0.warmed.alike hh0, f1.al X0.warmed.alike, f2.al X0.warmed.alike, hA.mv X0.warmed.alike hh0, s1.there X0.warmed.alike hh0, hz, l0, by omega, l2, fun i hi => by rw [Nat.zero_add]; exact hp i hi⟩)
  have e0 := Got.mv _ s₁ s _ _ hh0.symm (Vm.Alike.refl _) rfl E3
  obtain rfl := e0.1
  have c4 : Steps p.tables e below (s₁.setTop (entryFrame m #[.ref a, .ref b] 2)) (T3.setTop (mkF m 9 #[.val (.ref a), .val (.ref b)] [])) := g3
  exact ⟨T3, none, _, _, _, X3, by simp, rfl, by omega, (fun _ => rfl), e0, fun fs hl => c4.trans (X3.returnOut hexec hret (hb hbytes d9) hl)⟩
theorem pays {l : Launch} {R : Room} {p : Program} {e : Env} {below : List Frame} {s : State} {sargs : Array Value} {len W : Nat} (a : Addr) (D : Cell) (fV fC : Field) (b : Addr) (A : Cell) (z : Int32) (htab : tab.before sargs s = true) (hfr : 4 ≤ R.frames) (hlo : W + 65 ≤ R.locals) :
    Back l R p e below s sargs yN len W (fun A₁ a₁ => A₁.cells + 1 ≤ R.cells ∧ A₁.slots + A.slots.size ≤ R.slots ∧ P a D fV fC b A z a₁ A₁.U) (fun A₁ _ v₁ B₁ => E a D fV fC A v₁ A₁.U B₁.U ∧ B₁.locs = A₁.locs ++ [⟨a, fC.slot⟩, ⟨a, fV.slot⟩] ∧ B₁.cells = A₁.cells + 1 ∧ B₁.slots = A₁.slots + A.slots.size) :=
  (law l a D fV fC b A z).pays htab hfr (by omega)
end New1
end StrChars
namespace StrChars.Road
open Jvm Sem ClassFile Op Lib Jvm.Stand Jvm.Free Jvm.Free.XT
open Jvm.Lib.Cold (StaticIs)
abbrev ST : String := "java/lang/String"
/-- every table word that New1's law asks, flat -/
abbrev words : List Jvm.Cond := [.code New1.yN New1.yB 2 none, .initialized ST, .methodLink ST 27 New4.yN, .instanceMethod New4.yN,
  .code New4.yN New4.yB 6 none, .fieldLink ST 38 ST "COMPACT_STRINGS" "Z", .laysFinal ST ST "value" "[B", .fieldLink ST 9 ST "value" "[B", .laysFinal ST ST "coder" "B", .fieldLink ST 15 ST "coder" "B",
  .methodLink ST 1 Lib.objectInit, .instanceMethod Lib.objectInit, .code Lib.objectInit ⟨#[0xb1]⟩ 1 none, .methodLink ST 177 Cmp3.yN, .static Cmp3.yN, .methodLink ST 47 CodL.yN, .static CodL.yN,
  .code Cmp3.yN Cmp3.yB 6 (some (.array .byte)), .initialized U16, .arrayClass .byte, .methodLink U16 115 Cmp5.yN, .static Cmp5.yN, .code Cmp5.yN Cmp5.yB 7 (some .int), .code CodL.yN CodL.yB 2 (some .byte)]
theorem tab_of {a : Array Value} {s : State} (h : ∀ w ∈ words, w.before a s = true) : New1.tab.before a s = true := by
  have h5 : Cmp5.tab.before a s = true := unparts (wk h (.code Cmp5.yN Cmp5.yB 7 (some .int))) (wks h (.initialized Cmp5.yN.cls :: Cmp5.site))
  have hc : CodL.tab.before a s = true := unparts (wk h (.code CodL.yN CodL.yB 2 (some .byte))) (wks h (.initialized CodL.yN.cls :: CodL.site))
  have q5 : ∀ w ∈ Cmp5.tab :: words, w.before a s = true := fun w hw => (List.mem_cons.mp hw).elim (fun e => e ▸ h5) (h w)
  have h3 : Cmp3.tab.before a s = true := unparts (wk q5 (.code Cmp3.yN Cmp3.yB 6 (some (.array .byte)))) (wks q5 (.initialized Cmp3.yN.cls :: Cmp3.site))
  have q3 : ∀ w ∈ Cmp3.tab :: CodL.tab :: words, w.before a s = true := fun w hw => (List.mem_cons.mp hw).elim (fun e => e ▸ h3) fun hw => (List.mem_cons.mp hw).elim (fun e => e ▸ hc) (h w)
  have h4 : New4.tab.before a s = true := unparts (wk q3 (.code New4.yN New4.yB 6 none)) (wks q3 (.initialized New4.yN.cls :: New4.site))
  have q4 : ∀ w ∈ New4.tab :: words, w.before a s = true := fun w hw => (List.mem_cons.mp hw).elim (fun e => e ▸ h4) (h w)
  exact unparts (wk q4 (.code New1.yN New1.yB 2 none)) (wks q4 (.initialized New1.yN.cls :: New1.site))
/-- the words ride from the start Z to the walk's own state -/
theorem moved {Z s : State} {a0 args : Array Value} (hZ : Z.Warmed39 s.vm) (hw : ∀ d ∈ words, d.before a0 Z = true) : ∀ d ∈ words, d.before args s = true := fun d hd => by
  have q := hw d hd
  have t : ∀ d ∈ words, d = .arrayClass .byte ∨ (d.onTables && d.keepsFace) = true := by decide +kernel
  rcases t d hd with rfl | t
  · exact RoadKit.mvA hZ q
  · exact RoadKit.mv hZ q t
/-- WHAT COMES BACK, over the tables of the start Z: h the heap at the call, h' behind it -/
def Q (Z : State) (x : Addr) (A : Cell) (h : Heap) (v : Option Value) (h' : Heap) (L : List Loc) : Prop := v = none ∧ (∀ y ∈ L, y.base = x) ∧ RoadKit.Keep h h' [x] ∧ h'.size = h.size + 1 ∧ RoadKit.Exa Z h' x ST ∧ RoadKit.Fld Z h' x ST "value" "[B" (.ref h.size) ∧ RoadKit.Fld Z h' x ST "coder" "B" (.int 0) ∧
  (∃ V : Cell, RoadKit.Arr Z h' h.size V .byte ∧ V.vm = .none ∧ Z.vm.findClass "[B" = some V.cls ∧ V.slots.size = A.slots.size ∧ ∀ j, j < A.slots.size → V.slots[j]? = some (.int (lo8 (cv A j)))) ∧
  ∀ (O n d : String) (w : Value), RoadKit.Fld Z h x O n d w → RoadKit.slotOf Z O n d ≠ RoadKit.slotOf Z ST "value" "[B" → RoadKit.slotOf Z O n d ≠ RoadKit.slotOf Z ST "coder" "B" → RoadKit.Fld Z h' x O n d w
/-- **new String(chars) AT A CALL, IN THE ROAD'S FORM**: for specialBack behind newO: x the fresh String, b the char[] with the cell A -/
theorem back {p : Program} {l : Launch} {e : Env} {R : Room} {s : State} {args : Array Value} {below : List Frame} {len W : Nat} {Z : State} {a0 : Array Value} {h : Heap} (hZ : Z.Warmed39 s.vm) (hw : ∀ d ∈ words, d.before a0 Z = true) {kI : Nat} (wi : (Jvm.Cond.instantiable ST kI).before a0 Z = true)
    {x b : Addr} {A : Cell} {z : Int32} {v0 c0 : Value} (E : RoadKit.Exa Z h x ST) (V : RoadKit.Fld Z h x ST "value" "[B" v0) (C : RoadKit.Fld Z h x ST "coder" "B" c0) (K : RoadKit.Arr Z h b A .char) (hty : Typed .char A) (S : RoadKit.Sta Z h ST "COMPACT_STRINGS" "Z" (.int z)) (hz : ¬ z = 0)
    (l0 : 0 < A.slots.size) (l2 : A.slots.size ≤ 536870912) (hp : ∀ i, i < A.slots.size → ¬ 255 < cv A i) (hfr : 4 ≤ R.frames) (hlo : W + 65 ≤ R.locals) :
    Back l R p e below s args New1.yN len W (fun P a => a = #[.ref x, .ref b] ∧ P.U.heap = h ∧ P.cells + 1 ≤ R.cells ∧ P.slots + A.slots.size ≤ R.slots)
      (fun P _ v B => ∃ L, Q Z x A h v B.U.heap L ∧ B.locs = P.locs ++ L ∧ B.cells = P.cells + 1 ∧ B.slots = P.slots + A.slots.size) := by
  intro m meth c P g ig mk a X hg hsize hdg hW hn hp'
  obtain ⟨rfl, rfl, r1, r2⟩ := hp'
  have al : Z.vm.Alike P.U.vm := hZ.alike.trans X.warmed.alike
  obtain ⟨D, cfV, kV, iV, fV, hD, gV, stV, knV, obV, asV, slV⟩ := id V
  obtain ⟨D', cfC, kC, iC, fC, hD', gC, stC, -, -, asC, slC⟩ := id C
  cases hD.symm.trans hD'
  obtain ⟨D2, kD, e1, e2, e3, e4, e5⟩ := id E
  cases hD.symm.trans e1
  obtain ⟨c2, k2, i1, i2, i3, -⟩ := Cond.instantiable_spec wi
  cases e2.symm.trans i1
  cases e3.symm.trans i2
  obtain ⟨kU, u1, u2⟩ := al.2.2 _ _ e3
  have hB : Blank ST x D P.U := ⟨hD, ⟨knV, fun q hq => by rw [hq] at obV; cases obV⟩, by rw [al.findClass]; exact e2, kU, u1, by rw [u2]; exact i3, by rw [u2]; exact e5 i3⟩
  have F1 : Found ST "value" "[B" fV P.U := ⟨SBG.found_only al ⟨cfV, kV, iV, gV⟩, stV⟩
  have F2 : Found ST "coder" "B" fC P.U := ⟨SBG.found_only al ⟨cfC, kC, iC, gC⟩, stC⟩
  have hA : Ch b A P.U := ⟨⟨K.1, State.isArrayOf_alike al K.2.1, K.2.2, by omega⟩, hty⟩
  have hS : StaticIs P.U ST "COMPACT_STRINGS" "Z" (.int z) := by
    obtain ⟨cfS, iS, kS, fS, st, cS, t1, t2, t3, t4, t5, t6, t7⟩ := S
    exact StaticIs.there (s := { Z with heap := P.U.heap }) ⟨cfS, iS, kS, fS, st, cS, t1, t2, t3, t4, t5, (fun q => by rw [q] at t6; cases t6), t7⟩ al rfl
  obtain ⟨v, B, X', ⟨⟨hv, E', V', q1, q2, q3, q4, q5, q6, q7, q8, q9, q10, q11⟩, hl, hc, hs⟩, st⟩ := New1.pays x D fV fC b A z (tab_of (moved hZ hw)) hfr hlo m meth c P g ig mk _ X hg hsize hdg hW hn ⟨r1, r2, rfl, hB, F1, F2, hA, hS, hz, l0, l2, hp⟩
  have al' : Z.vm.Alike B.U.vm := hZ.alike.trans X'.warmed.alike
  have hsz : E'.slots.size = D.slots.size := by
    obtain ⟨-, -, -, kB, w1, w2, w3⟩ := q1
    obtain ⟨kB', y1, y2⟩ := al'.2.2 _ _ e3
    rw [q2.2.1] at w1
    cases w1.symm.trans y1
    rw [w3, e5 i3, y2]
  refine ⟨v, B, X', ⟨_, ⟨hv, ?_, ⟨by omega, fun y cy hy hn' => q10 y cy (by simpa using hn') hy, fun y cy hy => ?_⟩, q11, ⟨E', _, q1.1, by rw [q2.2.1]; exact e2, by rw [q2.2.1]; exact e3, by rw [q2.1]; exact obV, fun _ => by rw [hsz]; exact e5 i3⟩,
    ⟨E', cfV, kV, iV, fV, q1.1, gV, stV, by rw [q2.1]; exact knV, by rw [q2.1]; exact obV, by rw [q2.2.1]; exact asV, q3⟩, ⟨E', cfC, kC, iC, fC, q1.1, gC, stC, by rw [q2.1]; exact knV, by rw [q2.1]; exact obV, by rw [q2.2.1]; exact asC, q4⟩,
    ⟨V', ⟨q5.1, State.isArrayOf_alike al'.symm q5.2.1, q5.2.2.1⟩, q6, by rw [← al'.findClass]; exact q7, q8, fun j hj => by have := q9 j hj; rwa [Nat.zero_add] at this⟩, fun O n d w F n1 n2 => ?_⟩, hl, hc, hs⟩, st⟩
  · intro y hy
    simp only [List.mem_cons, List.not_mem_nil, or_false] at hy
    rcases hy with rfl | rfl <;> rfl
  · by_cases q : y = x
    · subst q
      cases hD.symm.trans hy
      exact ⟨E', q1.1, q2.2.1, q2.1, hsz⟩
    · exact ⟨cy, q10 y cy q hy, rfl, rfl, rfl⟩
  · obtain ⟨D3, cf, k, i, f, g1, g2, g3, g4, g5, g6, g7⟩ := F
    cases hD.symm.trans g1
    simp only [RoadKit.slotOf, g2, gV, gC, Option.map_some, Option.getD_some] at n1 n2
    exact ⟨E', cf, k, i, f, q1.1, g2, g3, by rw [q2.1]; exact g4, by rw [q2.1]; exact g5, by rw [q2.2.1]; exact g6, by rw [q2.2.2 f.slot (by simp [n1, n2])]; exact g7⟩
end StrChars.Road
namespace StrChars.Road
open Jvm Sem ClassFile Op Lib Jvm.Stand Jvm.Free Jvm.Free.XT
/-- WHAT COMES BACK, the byte[] as a list of values -/
def QA (Z : State) (x : Addr) (zn : Int32) (cs : List Int32) (h : Heap) (v : Option Value) (h' : Heap) (L : List Loc) : Prop := v = none ∧ (∀ y ∈ L, y.base = x) ∧ RoadKit.Keep h h' [x] ∧ h'.size = h.size + 1 ∧ RoadKit.Exa Z h' x ST ∧ RoadKit.Fld Z h' x ST "value" "[B" (.ref h.size) ∧ RoadKit.Fld Z h' x ST "coder" "B" (.int 0) ∧
  (∃ kb, Z.vm.findClass "[B" = some kb ∧ RoadKit.Arv Z h' h.size kb .byte zn (cs.map fun c => .int (lo8 c)) (.int 0)) ∧
  ∀ (O n d : String) (w : Value), RoadKit.Fld Z h x O n d w → RoadKit.slotOf Z O n d ≠ RoadKit.slotOf Z ST "value" "[B" → RoadKit.slotOf Z O n d ≠ RoadKit.slotOf Z ST "coder" "B" → RoadKit.Fld Z h' x O n d w
/-- **new String(chars) AT A CALL, THE ARRAYS AS LISTS**: the char[] at b holds cs, not empty, no char above 255 -/
theorem backArv {p : Program} {l : Launch} {e : Env} {R : Room} {s : State} {args : Array Value} {below : List Frame} {len W : Nat} {Z : State} {a0 : Array Value} {h : Heap} (hZ : Z.Warmed39 s.vm) (hw : ∀ d ∈ words, d.before a0 Z = true) {kI : Nat} (wi : (Jvm.Cond.instantiable ST kI).before a0 Z = true)
    {x b : Addr} {k : ClassId} {zn z : Int32} {cs : List Int32} {dv v0 c0 : Value} (E : RoadKit.Exa Z h x ST) (V : RoadKit.Fld Z h x ST "value" "[B" v0) (C : RoadKit.Fld Z h x ST "coder" "B" c0) (K : RoadKit.Arv Z h b k .char zn (cs.map Value.int) dv) (S : RoadKit.Sta Z h ST "COMPACT_STRINGS" "Z" (.int z)) (hz : ¬ z = 0)
    (hlen : zn.toNatClampNeg = cs.length) (h0 : 0 < cs.length) (hbig : cs.length ≤ 536870912) (hall : ∀ c ∈ cs, ¬ 255 < c) (hfr : 4 ≤ R.frames) (hlo : W + 65 ≤ R.locals) :
    Back l R p e below s args New1.yN len W (fun P a => a = #[.ref x, .ref b] ∧ P.U.heap = h ∧ P.cells + 1 ≤ R.cells ∧ P.slots + cs.length ≤ R.slots)
      (fun P _ v B => ∃ L, QA Z x zn cs h v B.U.heap L ∧ B.locs = P.locs ++ L ∧ B.cells = P.cells + 1 ∧ B.slots = P.slots + cs.length) := by
  obtain ⟨A, K1, K2, K3, K4, K5, K6⟩ := K
  have e : A.slots.size = cs.length := K3.trans hlen
  have hat : ∀ (i : Nat) (hi : i < cs.length), A.slots[i]? = some (.int cs[i]) := fun i hi => by rw [K5 i (by omega)]; simp [List.getD_eq_getElem?_getD, hi]
  have hcv : ∀ (i : Nat) (hi : i < cs.length), cv A i = cs[i] := fun i hi => by unfold cv; rw [hat i hi]
  have hty : Typed .char A := fun i v hv => by
    have hi : i < A.slots.size := (Array.getElem?_eq_some_iff.mp hv).1
    have q := K5 i hi
    rw [hv] at q
    rw [Option.some.inj q]
    exact K6 i hi
  refine Back.mono (back hZ hw wi E V C K1 hty S hz (by omega) (by omega) (fun i hi => by rw [hcv i (by omega)]; exact hall _ (List.getElem_mem _)) hfr hlo) (fun P a hp => ⟨hp.1, hp.2.1, hp.2.2.1, by rw [e]; exact hp.2.2.2⟩) (fun P a v B hp hq => ?_)
  obtain ⟨L, ⟨q1, q2, q3, q4, q5, q6, q7, ⟨V', v1, v2, v3, v4, v5⟩, q9⟩, hl, hc, hs⟩ := hq
  refine ⟨L, ⟨q1, q2, q3, q4, q5, q6, q7, ⟨V'.cls, v3, V', v1, rfl, by rw [v4, e, hlen], K4, fun i hi => ?_, fun i hi => ?_⟩, q9⟩, hl, hc, by rw [hs, e]⟩
  · have hi' : i < cs.length := by omega
    rw [v5 i (by omega), hcv i hi']; simp [List.getD_eq_getElem?_getD, hi']
  · have hi' : i < cs.length := by omega
    simp only [List.getD_eq_getElem?_getD, List.getElem?_map, List.getElem?_eq_getElem hi', Option.map_some, Option.getD_some]
    exact fits_lo8 _
end StrChars.Road
namespace StrChars.Road
open Jvm Sem ClassFile Op Lib Jvm.Stand Jvm.Free Jvm.Free.XT
/-- WHAT COMES BACK, in the writer's own shape -/
def QV (Z : State) (x : Addr) (N : Int32) (bs : List Int32) (h : Heap) (n0 : Nat) (v : Option Value) (h' : Heap) (L : List Loc) : Prop := v = none ∧ RoadKit.Fr n0 L ∧ RoadKit.Keep h h' [x] ∧ RoadKit.Exa Z h' x ST ∧ RoadKit.Fld Z h' x ST "coder" "B" (.int 0) ∧
  ∃ (t : Addr) (kb : ClassId), n0 ≤ t ∧ h.size ≤ t ∧ ¬ t = x ∧ RoadKit.Fld Z h' x ST "value" "[B" (.ref t) ∧ RoadKit.Arv Z h' t kb .byte N (bs.map Value.int) (.int 0)
/-- **new String(chars) AT A CALL, FOR THE WRITER**: a char[] of n known ints, each 0 to 255 -/
theorem backV {p : Program} {l : Launch} {e : Env} {R : Room} {s : State} {args : Array Value} {below : List Frame} {len W : Nat} {Z : State} {a0 : Array Value} {h : Heap} (hZ : Z.Warmed39 s.vm) (hw : ∀ d ∈ words, d.before a0 Z = true) {kI : Nat} (wi : (Jvm.Cond.instantiable ST kI).before a0 Z = true)
    {x b : Addr} {kC : ClassId} {cs bs : List Int32} {d v0 c0 : Value} {z N : Int32} {n n0 : Nat} (hx0 : n0 ≤ x) (hh0 : n0 ≤ h.size) (E : RoadKit.Exa Z h x ST) (V : RoadKit.Fld Z h x ST "value" "[B" v0) (C : RoadKit.Fld Z h x ST "coder" "B" c0) (K : RoadKit.Arv Z h b kC .char N (cs.map Value.int) d) (S : RoadKit.Sta Z h ST "COMPACT_STRINGS" "Z" (.int z)) (hz : ¬ z = 0)
    (hn : cs.length = n) (hN : N = Int32.ofNat n) (l0 : 0 < n) (l2 : n ≤ 4000) (hp : ∀ c ∈ cs, ¬ c < 0 ∧ ¬ (255 : Int32) < c) (hb : bs = cs.map (fun c => c.toInt8.toInt32)) (hfr : 4 ≤ R.frames) (hlo : W + 65 ≤ R.locals) :
    Back l R p e below s args (⟨"java/lang/String", "<init>", "([C)V"⟩ : MethodName) len W (fun P a => a = #[.ref x, .ref b] ∧ P.U.heap = h ∧ P.cells + 1 ≤ R.cells ∧ P.slots + n ≤ R.slots)
      (fun P _ v B => ∃ L, QV Z x N bs h n0 v B.U.heap L ∧ B.locs = P.locs ++ L ∧ B.cells = P.cells + 1 ∧ B.slots = P.slots + n) := by
  subst hn hN hb
  refine Back.mono (backArv hZ hw wi E V C K S hz (n32 (by omega)) l0 (by omega) (fun c hc => (hp c hc).2) hfr hlo) (fun P a hp => hp) (fun P a v B hp hq => ?_)
  obtain ⟨L, ⟨q1, q2, q3, q4, q5, q6, q7, ⟨kb, v1, v2⟩, q9⟩, hl, hc, hs⟩ := hq
  exact ⟨L, ⟨q1, fun y hy => by rw [q2 y hy]; exact hx0, q3, q5, q7, h.size, kb, hh0, Nat.le_refl _, Nat.ne_of_gt E.lt, q6, by rw [List.map_map]; exact v2⟩, hl, hc, hs⟩
end StrChars.Road
end Jvm.Pilot.@@N@@
namespace Jvm.Pilot.@@N@@
open Jvm Jvm.ClassFile Sem Op Lib Jvm.Free Jvm.Stand Jvm.LawKit Jvm.RoadKit Bundle Jvm.Pilot.@@N@@.Jvm.D
theorem own_fld {args : Array Value} {s : State} {t u : Term} {C n d : String} {a : Addr} {z : Int32} (ev : t.eval args s none [] s = some (.ref a)) (hu : u.eval args s none [] s = some (.int z)) (h : (Jvm.Cond.eq (Term.field t C n d) u).value args s none s [] = some true) : Fld s s.heap a C n d (.int z) := by
  obtain ⟨x, y, h1, h2, -, k2⟩ := cmp_v (Or.inl h)
  rw [hu] at h2
  cases h2
  obtain ⟨x', rfl⟩ := k2
  have e2 : x' = z := gotT (P := x' = z) (by simp [Cond.value, h1, hu]) h
  subst e2
  rw [fld_at ev] at h1
  exact Fld.start h1
theorem own_fldL {args : Array Value} {s : State} {t : Term} {C n d : String} {a : Addr} {z : Int64} (ev : t.eval args s none [] s = some (.ref a)) (h : (Jvm.Cond.eq (Term.field t C n d) (Term.long z)).value args s none s [] = some true) : Fld s s.heap a C n d (.long z) := by
  obtain ⟨x, y, h1, h2, -, k2⟩ := cmp_v (Or.inl h)
  rw [long_at] at h2
  cases h2
  obtain ⟨x', rfl⟩ := k2
  have e2 : x' = z := gotT (eq_L h1 (long_at z)) h
  subst e2
  rw [fld_at ev] at h1
  exact Fld.start h1
theorem own_up {cs : List Int32} (h : ∀ c ∈ cs, ¬ c < 0 ∧ ¬ (255 : Int32) < c) : ∀ c ∈ cs, ¬ c < 0 ∧ ¬ (65535 : Int32) < c := fun c hc => ⟨(h c hc).1, fun q => (h c hc).2 (Int32.lt_trans (by decide) q)⟩
theorem own_c255 (x : Int32) : nar .char ((x &&& (255 : Int32)).toUInt32.toUInt16.toUInt32.toInt32) = (x &&& (255 : Int32)).toUInt32.toUInt16.toUInt32.toInt32 := by
  show ((x &&& (255 : Int32)).toUInt32.toUInt16.toUInt32.toInt32).toUInt32.toUInt16.toUInt32.toInt32 = _
  rw [i2c_mask, i2c_mask]
theorem own_r255 (x : Int32) : ¬ ((x &&& (255 : Int32)).toUInt32.toUInt16.toUInt32.toInt32) < 0 ∧ ¬ (255 : Int32) < ((x &&& (255 : Int32)).toUInt32.toUInt16.toUInt32.toInt32) := by
  rw [i2c_mask]
  have h := c_and x 255 (by decide)
  have e : (255 : Int32).toInt = 255 := rfl
  have e0 : (0 : Int32).toInt = 0 := rfl
  constructor <;> rw [Int32.lt_iff_toInt_lt] <;> omega
theorem own_ne0 {args : Array Value} {s : State} {t : Term} {z : Int32} (ev : t.eval args s none [] s = some (.int z)) (h : (Jvm.Cond.not (Jvm.Cond.eq t (Term.int (0 : Int32)))).value args s none s [] = some true) : ¬ z = 0 := by
  have h2 := not_v h
  exact gotF (P := z = 0) (by simp [Cond.value, ev, Term.eval]) h2
theorem own_len {args : Array Value} {s : State} {t : Term} {a : Addr} {c : Cell} {ty : FieldType} {z : Int32} (ev : t.eval args s none [] s = some (.ref a)) (A : Arr s s.heap a c ty) (h : (Jvm.Cond.eq (Term.length t) (Term.int z)).value args s none s [] = some true) : c.slots.size < 2 ^ 31 ∧ c.slots.size.toInt32 = z := by
  have hA := A.fin (Vm.Alike.refl _)
  by_cases q : c.slots.size < 2 ^ 31
  · exact ⟨q, gotT (Cond.eq_ints (len_f ev hA q) (Term.int_eval z)) h⟩
  · obtain ⟨x, y, h1, -⟩ := cmp_v (Or.inl h)
    simp [Term.eval, ev, hA, q] at h1
theorem own_narb (x : Int32) : nar .byte (x.toInt8.toInt32) = x.toInt8.toInt32 := by simp [nar]
theorem own_fitb {z : Int32} (h : nar .byte z = z) : fits .byte (.int z) = true := by
  rw [← h]
  exact fits_nar_byte _
theorem own_fitr {n : String} {v : Value} (h : v.isRef = true) : fits (.object n) v = true := by rcases ref_cases h with rfl | ⟨x, rfl⟩ <;> rfl
theorem own_narr {n : String} {v : Value} (h : v.isRef = true) : narrow (.object n) v = v := by rcases ref_cases h with rfl | ⟨x, rfl⟩ <;> rfl
theorem own_root {Z : State} {a0 : Array Value} {O K : String} {k : Nat} (w : (Jvm.Cond.noSuperclass O).before a0 Z = true) (wk : (Jvm.Cond.instantiable K k).before a0 Z = true) (hn : O ≠ K) : NS Z O K := by
  obtain ⟨c, kc, h1, h2, h3, -⟩ := Cond.noSuperclass_spec w
  obtain ⟨t, kt, g1, -⟩ := Cond.instantiable_spec wk
  refine ⟨c, t, h1, g1, fun fuel => ?_⟩
  cases fuel with
  | zero => rfl
  | succ f => simp [Vm.isSubclassAux, ids_ne h1 g1 hn, h2, h3]
theorem own_nota {Z : State} {a0 : Array Value} {C S K : String} {k : Nat} (w : (Jvm.Cond.superclass C S).before a0 Z = true) (wk : (Jvm.Cond.instantiable K k).before a0 Z = true) (n : NS Z C K) (hn : C ≠ K) : ∃ c t, Z.vm.findClass C = some c ∧ Z.vm.findClass K = some t ∧ Z.vm.assignable c t = false := by
  obtain ⟨c, t, h0, g0, n3⟩ := n
  obtain ⟨p, kc, kp, -, h2, -, -, h5, -⟩ := Cond.superclass_spec h0 w
  obtain ⟨t', kt, g1, g2, g3, g4, -⟩ := Cond.instantiable_spec wk
  cases g0.symm.trans g1
  have g5 : kt.isInterface = false := by cases hq : kt.isInterface <;> simp_all
  refine ⟨c, t, h0, g0, ?_⟩
  show Z.vm.assignableAux (255 + 1) c t = false
  simp [Vm.assignableAux, ids_ne h0 g0 hn, h2, g2, h5, g3, g5, Vm.isSubclass, n3]
theorem own_kind {k : Int32} (h0 : ¬ k < 0) (h1 : ¬ k = (0 : Int32)) (h2 : ¬ k = (1 : Int32)) : (1 : Int32) < k := by
  rw [Int32.lt_iff_toInt_lt] at h0 ⊢
  simp only [← Int32.toInt_inj] at h1 h2
  have e0 : (0 : Int32).toInt = 0 := rfl
  have e1 : (1 : Int32).toInt = 1 := rfl
  omega
theorem own_knn (x : Int32) : ¬ ((x &&& (2147483647 : Int32)) % (5 : Int32)) < 0 := by
  have h := (c_andS x 2147483647).2.2 (by decide)
  have h2 := (c_irem (x &&& 2147483647) 5 5 rfl).1 h
  rw [Int32.lt_iff_toInt_lt]
  have e0 : (0 : Int32).toInt = 0 := rfl
  omega
theorem own_fitz {z : Int32} (h : nar .boolean z = z) : fits .boolean (.int z) = true := by
  rw [← h]
  exact fits_nar_bool _
theorem own_ws : ∀ d ∈ StrChars.Road.words, d ∈ tables_1 := by decide +kernel
def Q_rmRec (Z : State) (a1 : Addr) (h0 : Heap) (n0 : Nat) (v : Option Value) (h : Heap) (L : List Loc) : Prop := v = none ∧ Fr n0 L ∧ h = h0
theorem ef_rmRec (m : MethodId) (x0 : Addr) : entryFrame m #[(.ref x0)] 1 = mkF m 0 #[.val (.ref x0)] [] := by first | (simp [entryFrame, mkF, argsToLocals, Value.category]; done) | rfl
theorem pn_java_lang_Record : plainName "java/lang/Record" = true := by first | (simp [plainName, overriddenIn]; done) | decide +kernel
theorem d_jdk_30_m1_0 : decode jdk_30_method_1_code 0 = .ok (.aload_n 0, 1) := by decide +kernel
theorem d_jdk_30_m1_1 : decode jdk_30_method_1_code 1 = .ok (.invokespecial 1, 3) := by decide +kernel
theorem d_jdk_30_m1_4 : decode jdk_30_method_1_code 4 = .ok (.return_, 1) := by decide +kernel
set_option maxRecDepth 65536 in
set_option maxHeartbeats 40000000 in
theorem rmRec (l : Launch) (Z : State) (a0 : Array Value) (hw : ∀ d ∈ tables_1, d.before a0 Z = true) (ws : List Jvm.Cond) (a1 : Addr) (h0 : Heap) (n0 : Nat) (Z0 : n0 ≤ h0.size) :
    MetFree l (⟨"java/lang/Record", "<init>", "()V"⟩ : MethodName) (head1 (Jvm.Cond.code (⟨"java/lang/Record", "<init>", "()V"⟩ : MethodName) jdk_30_method_1_code 1 none :: ws) ({ frames := 1, cells := 0, slots := 0, locals := 12 } : Room)) (fun a U => a = #[(.ref a1)] ∧ Z.Warmed39 U.vm ∧ U.heap = h0) (fun _ _ _ _ _ => True) (fun _ U o U' => ∃ v L, o = .returned v ∧ Q_rmRec Z a1 h0 n0 v U'.heap L ∧ FrameEnd U o U' L ({ frames := 1, cells := 0, slots := 0, locals := 12 } : Room).cells ({ frames := 1, cells := 0, slots := 0, locals := 12 } : Room).slots) := by
  refine MetFree.of_bodySF (plainFor_of_name pn_java_lang_Record) hisR ?_
  intro p e s m args below meth c s₁ Bd hml0 hP hK
  obtain ⟨rfl, hZ, hh⟩ := hP
  have hx := Bd.exec
  have hby := Bd.bytes
  have hlk := BodyLoose.notSynchronized Bd
  have hml : c.maxLocals = 1 := hml0
  have hown : s.vm.findClass "java/lang/Record" = some m.cls := findClass_of_methodNamed Bd.named
  have hnm := (name_of_methodNamed Bd.named Bd.method).1
  have X0 : Stand p l e ({ frames := 1, cells := 0, slots := 0, locals := 12 } : Room) s m #[(.ref a1)] below meth c s₁ [] 0 0 := Stand.of_body Bd
  have e0 : s₁.heap = h0 := by rw [← hh, Bd.state]; rfl
  have N0 := Fr.nil n0
  have K0 := Keep.refl h0 []
  clear hh
  show Wk p e below s (Q_rmRec Z a1 h0 n0) ({ frames := 1, cells := 0, slots := 0, locals := 12 } : Room).cells ({ frames := 1, cells := 0, slots := 0, locals := 12 } : Room).slots s₁ (entryFrame m #[(.ref a1)] 1)
  rw [ef_rmRec]
  refine Wk.aloadN X0 hx (hb hby d_jdk_30_m1_0) (n := 1) rfl rfl rfl ?_
  refine Wk.initO X0 hx hZ hown (hw _ (List.mem_of_getElem? (i := 47) rfl)) (hw _ (List.mem_of_getElem? (i := 12) rfl)) (hw _ (List.mem_of_getElem? (i := 13) rfl)) e0 (by rw [hml]; rfl) (hb hby d_jdk_30_m1_1) (n := 4) rfl (by decide) (w := 0) (Nat.le_of_eq rfl) (by decide) fun T1 X1 e1 => ?_
  exact Wk.leave X1 (v := none) (fun _ => rfl) hlk e1 ⟨rfl, N0, rfl⟩ (by decide) (by decide) (fun fs hr => X1.returnOut hx Bd.returns (hb hby d_jdk_30_m1_4) hr)
def Q_rmPI (Z : State) (a1 : Addr) (a2 : Addr) (p1 : Int32) (p2 : Int32) (u : Value) (u0 : Value) (u1 : Value) (u2 : Value) (u3 : Value) (h0 : Heap) (n0 : Nat) (v : Option Value) (h : Heap) (L : List Loc) : Prop := v = none ∧ Fr n0 L ∧ Keep h0 h [a1] ∧ Exa Z h a1 "com/example/depeche/depeche/profile/Path" ∧ Fld Z h a1 "com/example/depeche/depeche/profile/Path" "segment" "Ljava/lang/String;" (.ref a2) ∧ Fld Z h a1 "com/example/depeche/depeche/profile/Path" "field" "I" (.int p1) ∧ Fld Z h a1 "com/example/depeche/depeche/profile/Path" "component" "I" (.int p2) ∧ Fld Z h a1 "com/example/depeche/depeche/profile/Path" "mark" "Ljava/lang/String;" u
theorem ef_rmPI (m : MethodId) (x0 : Addr) (x1 : Addr) (x2 : Int32) (x3 : Int32) (x4 : Value) (hq4 : x4.isRef = true) : entryFrame m #[(.ref x0), (.ref x1), (.int x2), (.int x3), x4] 5 = mkF m 0 #[.val (.ref x0), .val (.ref x1), .val (.int x2), .val (.int x3), .val x4] [] := by rcases ref_cases hq4 with rfl | ⟨z4, rfl⟩ <;> first | (simp [entryFrame, mkF, argsToLocals, Value.category]; done) | rfl
theorem pn_com_example_depeche_depeche_profile_Path : plainName "com/example/depeche/depeche/profile/Path" = true := by first | (simp [plainName, overriddenIn]; done) | decide +kernel
theorem d_prog_68_m2_0 : decode prog_68_method_2_code 0 = .ok (.aload_n 0, 1) := by decide +kernel
theorem d_prog_68_m2_1 : decode prog_68_method_2_code 1 = .ok (.invokespecial 1, 3) := by decide +kernel
theorem pd_0 : parseMethodDescriptor "()V" = some ⟨[], none⟩ := by decide +kernel
theorem d_prog_68_m2_4 : decode prog_68_method_2_code 4 = .ok (.aload_n 0, 1) := by decide +kernel
theorem d_prog_68_m2_5 : decode prog_68_method_2_code 5 = .ok (.aload_n 1, 1) := by decide +kernel
theorem d_prog_68_m2_6 : decode prog_68_method_2_code 6 = .ok (.putfield 7, 3) := by decide +kernel
theorem d_prog_68_m2_9 : decode prog_68_method_2_code 9 = .ok (.aload_n 0, 1) := by decide +kernel
theorem d_prog_68_m2_10 : decode prog_68_method_2_code 10 = .ok (.iload_n 2, 1) := by decide +kernel
theorem d_prog_68_m2_11 : decode prog_68_method_2_code 11 = .ok (.putfield 13, 3) := by decide +kernel
theorem d_prog_68_m2_14 : decode prog_68_method_2_code 14 = .ok (.aload_n 0, 1) := by decide +kernel
theorem d_prog_68_m2_15 : decode prog_68_method_2_code 15 = .ok (.iload_n 3, 1) := by decide +kernel
theorem d_prog_68_m2_16 : decode prog_68_method_2_code 16 = .ok (.putfield 17, 3) := by decide +kernel
theorem d_prog_68_m2_19 : decode prog_68_method_2_code 19 = .ok (.aload_n 0, 1) := by decide +kernel
theorem d_prog_68_m2_20 : decode prog_68_method_2_code 20 = .ok (.aload 4, 2) := by decide +kernel
theorem d_prog_68_m2_22 : decode prog_68_method_2_code 22 = .ok (.putfield 20, 3) := by decide +kernel
theorem d_prog_68_m2_25 : decode prog_68_method_2_code 25 = .ok (.return_, 1) := by decide +kernel
set_option maxRecDepth 65536 in
set_option maxHeartbeats 40000000 in
theorem rmPI (l : Launch) (Z : State) (a0 : Array Value) (hw : ∀ d ∈ tables_1, d.before a0 Z = true) (ws : List Jvm.Cond) (a1 : Addr) (a2 : Addr) (p1 : Int32) (p2 : Int32) (u : Value) (u0 : Value) (u1 : Value) (u2 : Value) (u3 : Value) (h0 : Heap) (n0 : Nat) (Z0 : n0 ≤ h0.size) (E1 : Exa Z h0 a1 "com/example/depeche/depeche/profile/Path") (F0_ : Fld Z h0 a1 "com/example/depeche/depeche/profile/Path" "segment" "Ljava/lang/String;" u0) (F1_ : Fld Z h0 a1 "com/example/depeche/depeche/profile/Path" "field" "I" u1) (F2_ : Fld Z h0 a1 "com/example/depeche/depeche/profile/Path" "component" "I" u2) (F3_ : Fld Z h0 a1 "com/example/depeche/depeche/profile/Path" "mark" "Ljava/lang/String;" u3) (g1 : n0 ≤ a1) (hu : u.isRef = true) :
    MetFree l (⟨"com/example/depeche/depeche/profile/Path", "<init>", "(Ljava/lang/String;IILjava/lang/String;)V"⟩ : MethodName) (head1 (Jvm.Cond.code (⟨"com/example/depeche/depeche/profile/Path", "<init>", "(Ljava/lang/String;IILjava/lang/String;)V"⟩ : MethodName) prog_68_method_2_code 5 none :: ws) ({ frames := 2, cells := 0, slots := 0, locals := 24 } : Room)) (fun a U => a = #[(.ref a1), (.ref a2), (.int p1), (.int p2), u] ∧ Z.Warmed39 U.vm ∧ U.heap = h0) (fun _ _ _ _ _ => True) (fun _ U o U' => ∃ v L, o = .returned v ∧ Q_rmPI Z a1 a2 p1 p2 u u0 u1 u2 u3 h0 n0 v U'.heap L ∧ FrameEnd U o U' L ({ frames := 2, cells := 0, slots := 0, locals := 24 } : Room).cells ({ frames := 2, cells := 0, slots := 0, locals := 24 } : Room).slots) := by
  refine MetFree.of_bodySF (plainFor_of_name pn_com_example_depeche_depeche_profile_Path) hisR ?_
  intro p e s m args below meth c s₁ Bd hml0 hP hK
  obtain ⟨rfl, hZ, hh⟩ := hP
  have hx := Bd.exec
  have hby := Bd.bytes
  have hlk := BodyLoose.notSynchronized Bd
  have hml : c.maxLocals = 5 := hml0
  have hown : s.vm.findClass "com/example/depeche/depeche/profile/Path" = some m.cls := findClass_of_methodNamed Bd.named
  have hnm := (name_of_methodNamed Bd.named Bd.method).1
  have X0 : Stand p l e ({ frames := 2, cells := 0, slots := 0, locals := 24 } : Room) s m #[(.ref a1), (.ref a2), (.int p1), (.int p2), u] below meth c s₁ [] 0 0 := Stand.of_body Bd
  have e0 : s₁.heap = h0 := by rw [← hh, Bd.state]; rfl
  have N0 := Fr.nil n0
  have K0 := Keep.refl h0 [a1]
  clear hh
  show Wk p e below s (Q_rmPI Z a1 a2 p1 p2 u u0 u1 u2 u3 h0 n0) ({ frames := 2, cells := 0, slots := 0, locals := 24 } : Room).cells ({ frames := 2, cells := 0, slots := 0, locals := 24 } : Room).slots s₁ (entryFrame m #[(.ref a1), (.ref a2), (.int p1), (.int p2), u] 5)
  rw [ef_rmPI m a1 a2 p1 p2 u hu]
  have lt_E1 := ny E1.lt
  have lt_F0_ := ny F0_.lt
  have lt_F1_ := ny F1_.lt
  have lt_F2_ := ny F2_.lt
  have lt_F3_ := ny F3_.lt
  refine Wk.aloadN X0 hx (hb hby d_prog_68_m2_0) (n := 1) rfl rfl rfl ?_
  have cl1_ := fun (Ls : Array Slot) (hLs : Ls.size = c.maxLocals) => X0.specialBack hx (y := (⟨"java/lang/Record", "<init>", "()V"⟩ : MethodName)) rfl hown (mvT hZ (hw _ (List.mem_of_getElem? (i := 42) rfl))) (mvT hZ (hw _ (List.mem_of_getElem? (i := 43) rfl))) (mvT hZ (hw _ (List.mem_of_getElem? (i := 46) rfl))) (by decide) (backOf (W := 0) (rmRec l Z a0 hw [] a1 h0 n0 (by omega)) hZ (hw _ (List.mem_of_getElem? (i := 46) rfl)) (hw _ (List.mem_of_getElem? (i := 45) rfl)) (by decide) (by decide)) (g := mkF m 1 Ls [(.ref a1)]) rfl hLs (Steps.refl _) (a := a1) (argsL := []) (rest := []) (lenOf pd_0 rfl) rfl (by show 2 * 0 + _ ≤ _; exact Nat.le_of_eq rfl) (hb hby d_prog_68_m2_1) (fun _ _ => ⟨rfl, e0, (by decide : 0 + 0 ≤ _), (by decide : 0 + 0 ≤ _)⟩)
  refine Wk.back (n := 4) (rc := 0) (rs := 0) (Q := Q_rmRec Z a1 h0 n0) (cl1_ _ (by rw [hml]; rfl)) fun vn1 T1 L1 X1 hQ1 => ?_
  clear cl1_
  obtain ⟨rfl, M1, e1⟩ := hQ1
  have N1 := Fr.app N0 M1
  show Wk p e below s _ _ _ T1 (mkF m 4 _ [])
  refine Wk.aloadN X1 hx (hb hby d_prog_68_m2_4) (n := 5) rfl rfl rfl ?_
  refine Wk.aloadN X1 hx (hb hby d_prog_68_m2_5) (n := 6) rfl rfl rfl ?_
  refine Wk.putF X1 hx hZ hown (host := "") (Or.inl (hw _ (List.mem_of_getElem? (i := 48) rfl))) Via.refl e1 F0_ E1 (Or.inr ⟨(hw _ (List.mem_of_getElem? (i := 49) rfl)), rfl, hnm⟩) (hw _ (List.mem_of_getElem? (i := 37) rfl)) (ty := (.object "java/lang/String")) (by decide) rfl rfl (hb hby d_prog_68_m2_6) (n := 9) rfl fun T2 H2 X2 e2 Wn2 => ?_
  have sz2 := Wn2.size
  have Fn2 := F0_.same Wn2
  have K2 := K0.wr Wn2 (Or.inl (List.mem_of_getElem? (i := 0) rfl))
  have N2 := Fr.snoc X2 N1 (by omega)
  refine Wk.aloadN X2 hx (hb hby d_prog_68_m2_9) (n := 10) rfl rfl rfl ?_
  refine Wk.iloadN X2 hx (hb hby d_prog_68_m2_10) (n := 11) rfl rfl ?_
  have f3 := (F1_.other Wn2 (Or.inr (slot_ne (Or.inr (hw _ (List.mem_of_getElem? (i := 51) rfl))) (Or.inr (hw _ (List.mem_of_getElem? (i := 49) rfl))) (by decide) (t := .int) (t' := (.object "java/lang/String")) (by decide) (by decide))))
  have f4 := (E1.wr Wn2)
  refine Wk.putF X2 hx hZ hown (host := "") (Or.inl (hw _ (List.mem_of_getElem? (i := 50) rfl))) Via.refl e2 f3 f4 (Or.inr ⟨(hw _ (List.mem_of_getElem? (i := 51) rfl)), rfl, hnm⟩) (hw _ (List.mem_of_getElem? (i := 37) rfl)) (ty := .int) (by decide) rfl rfl (hb hby d_prog_68_m2_11) (n := 14) rfl fun T5 H5 X5 e5 Wn5 => ?_
  have sz5 := Wn5.size
  have Fn5 := f3.same Wn5
  have K5 := K2.wr Wn5 (Or.inl (List.mem_of_getElem? (i := 0) rfl))
  have N5 := Fr.snoc X5 N2 (by omega)
  refine Wk.aloadN X5 hx (hb hby d_prog_68_m2_14) (n := 15) rfl rfl rfl ?_
  refine Wk.iloadN X5 hx (hb hby d_prog_68_m2_15) (n := 16) rfl rfl ?_
  have f6 := ((F2_.other Wn2 (Or.inr (slot_ne (Or.inr (hw _ (List.mem_of_getElem? (i := 53) rfl))) (Or.inr (hw _ (List.mem_of_getElem? (i := 49) rfl))) (by decide) (t := .int) (t' := (.object "java/lang/String")) (by decide) (by decide)))).other Wn5 (Or.inr (slot_ne (Or.inr (hw _ (List.mem_of_getElem? (i := 53) rfl))) (Or.inr (hw _ (List.mem_of_getElem? (i := 51) rfl))) (by decide) (t := .int) (t' := .int) (by decide) (by decide))))
  have f7 := (f4.wr Wn5)
  refine Wk.putF X5 hx hZ hown (host := "") (Or.inl (hw _ (List.mem_of_getElem? (i := 52) rfl))) Via.refl e5 f6 f7 (Or.inr ⟨(hw _ (List.mem_of_getElem? (i := 53) rfl)), rfl, hnm⟩) (hw _ (List.mem_of_getElem? (i := 37) rfl)) (ty := .int) (by decide) rfl rfl (hb hby d_prog_68_m2_16) (n := 19) rfl fun T8 H8 X8 e8 Wn8 => ?_
  have sz8 := Wn8.size
  have Fn8 := f6.same Wn8
  have K8 := K5.wr Wn8 (Or.inl (List.mem_of_getElem? (i := 0) rfl))
  have N8 := Fr.snoc X8 N5 (by omega)
  refine Wk.aloadN X8 hx (hb hby d_prog_68_m2_19) (n := 20) rfl rfl rfl ?_
  refine Wk.aload X8 hx (hb hby d_prog_68_m2_20) (n := 22) rfl rfl hu ?_
  have f9 := (((F3_.other Wn2 (Or.inr (slot_ne (Or.inr (hw _ (List.mem_of_getElem? (i := 55) rfl))) (Or.inr (hw _ (List.mem_of_getElem? (i := 49) rfl))) (by decide) (t := (.object "java/lang/String")) (t' := (.object "java/lang/String")) (by decide) (by decide)))).other Wn5 (Or.inr (slot_ne (Or.inr (hw _ (List.mem_of_getElem? (i := 55) rfl))) (Or.inr (hw _ (List.mem_of_getElem? (i := 51) rfl))) (by decide) (t := (.object "java/lang/String")) (t' := .int) (by decide) (by decide)))).other Wn8 (Or.inr (slot_ne (Or.inr (hw _ (List.mem_of_getElem? (i := 55) rfl))) (Or.inr (hw _ (List.mem_of_getElem? (i := 53) rfl))) (by decide) (t := (.object "java/lang/String")) (t' := .int) (by decide) (by decide))))
  have f10 := (f7.wr Wn8)
  refine Wk.putF X8 hx hZ hown (host := "") (Or.inl (hw _ (List.mem_of_getElem? (i := 54) rfl))) Via.refl e8 f9 f10 (Or.inr ⟨(hw _ (List.mem_of_getElem? (i := 55) rfl)), rfl, hnm⟩) (hw _ (List.mem_of_getElem? (i := 37) rfl)) (ty := (.object "java/lang/String")) (by decide) (own_narr hu) (own_fitr hu) (hb hby d_prog_68_m2_22) (n := 25) rfl fun T11 H11 X11 e11 Wn11 => ?_
  have sz11 := Wn11.size
  have Fn11 := f9.same Wn11
  have K11 := K8.wr Wn11 (Or.inl (List.mem_of_getElem? (i := 0) rfl))
  have N11 := Fr.snoc X11 N8 (by omega)
  have f12 := (f10.wr Wn11)
  have f13 := (((Fn2.other Wn5 (Or.inr (slot_ne (Or.inr (hw _ (List.mem_of_getElem? (i := 49) rfl))) (Or.inr (hw _ (List.mem_of_getElem? (i := 51) rfl))) (by decide) (t := (.object "java/lang/String")) (t' := .int) (by decide) (by decide)))).other Wn8 (Or.inr (slot_ne (Or.inr (hw _ (List.mem_of_getElem? (i := 49) rfl))) (Or.inr (hw _ (List.mem_of_getElem? (i := 53) rfl))) (by decide) (t := (.object "java/lang/String")) (t' := .int) (by decide) (by decide)))).other Wn11 (Or.inr (slot_ne (Or.inr (hw _ (List.mem_of_getElem? (i := 49) rfl))) (Or.inr (hw _ (List.mem_of_getElem? (i := 55) rfl))) (by decide) (t := (.object "java/lang/String")) (t' := (.object "java/lang/String")) (by decide) (by decide))))
  have f14 := ((Fn5.other Wn8 (Or.inr (slot_ne (Or.inr (hw _ (List.mem_of_getElem? (i := 51) rfl))) (Or.inr (hw _ (List.mem_of_getElem? (i := 53) rfl))) (by decide) (t := .int) (t' := .int) (by decide) (by decide)))).other Wn11 (Or.inr (slot_ne (Or.inr (hw _ (List.mem_of_getElem? (i := 51) rfl))) (Or.inr (hw _ (List.mem_of_getElem? (i := 55) rfl))) (by decide) (t := .int) (t' := (.object "java/lang/String")) (by decide) (by decide))))
  have f15 := (Fn8.other Wn11 (Or.inr (slot_ne (Or.inr (hw _ (List.mem_of_getElem? (i := 53) rfl))) (Or.inr (hw _ (List.mem_of_getElem? (i := 55) rfl))) (by decide) (t := .int) (t' := (.object "java/lang/String")) (by decide) (by decide))))
  exact Wk.leave X11 (v := none) (fun _ => rfl) hlk e11 ⟨rfl, N11, K11, f12, f13, f14, f15, Fn11⟩ (by decide) (by decide) (fun fs hr => X11.returnOut hx Bd.returns (hb hby d_prog_68_m2_25) hr)
def Q_rmFI (Z : State) (a1 : Addr) (a2 : Addr) (u1 : Value) (h0 : Heap) (n0 : Nat) (v : Option Value) (h : Heap) (L : List Loc) : Prop := v = none ∧ Fr n0 L ∧ Keep h0 h [a1] ∧ Exa Z h a1 "com/example/depeche/depeche/profile/Value$Field" ∧ Fld Z h a1 "com/example/depeche/depeche/profile/Value$Field" "path" "Lcom/example/depeche/depeche/profile/Path;" (.ref a2)
theorem ef_rmFI (m : MethodId) (x0 : Addr) (x1 : Addr) : entryFrame m #[(.ref x0), (.ref x1)] 2 = mkF m 0 #[.val (.ref x0), .val (.ref x1)] [] := by first | (simp [entryFrame, mkF, argsToLocals, Value.category]; done) | rfl
theorem pn_com_example_depeche_depeche_profile_Value_Field : plainName "com/example/depeche/depeche/profile/Value$Field" = true := by first | (simp [plainName, overriddenIn]; done) | decide +kernel
theorem d_prog_95_m1_0 : decode prog_95_method_1_code 0 = .ok (.aload_n 0, 1) := by decide +kernel
theorem d_prog_95_m1_1 : decode prog_95_method_1_code 1 = .ok (.invokespecial 1, 3) := by decide +kernel
theorem d_prog_95_m1_4 : decode prog_95_method_1_code 4 = .ok (.aload_n 0, 1) := by decide +kernel
theorem d_prog_95_m1_5 : decode prog_95_method_1_code 5 = .ok (.aload_n 1, 1) := by decide +kernel
theorem d_prog_95_m1_6 : decode prog_95_method_1_code 6 = .ok (.putfield 7, 3) := by decide +kernel
theorem d_prog_95_m1_9 : decode prog_95_method_1_code 9 = .ok (.return_, 1) := by decide +kernel
set_option maxRecDepth 65536 in
set_option maxHeartbeats 40000000 in
theorem rmFI (l : Launch) (Z : State) (a0 : Array Value) (hw : ∀ d ∈ tables_1, d.before a0 Z = true) (ws : List Jvm.Cond) (a1 : Addr) (a2 : Addr) (u1 : Value) (h0 : Heap) (n0 : Nat) (Z0 : n0 ≤ h0.size) (E1 : Exa Z h0 a1 "com/example/depeche/depeche/profile/Value$Field") (F1 : Fld Z h0 a1 "com/example/depeche/depeche/profile/Value$Field" "path" "Lcom/example/depeche/depeche/profile/Path;" u1) (g1 : n0 ≤ a1) :
    MetFree l (⟨"com/example/depeche/depeche/profile/Value$Field", "<init>", "(Lcom/example/depeche/depeche/profile/Path;)V"⟩ : MethodName) (head1 (Jvm.Cond.code (⟨"com/example/depeche/depeche/profile/Value$Field", "<init>", "(Lcom/example/depeche/depeche/profile/Path;)V"⟩ : MethodName) prog_95_method_1_code 2 none :: ws) ({ frames := 2, cells := 0, slots := 0, locals := 24 } : Room)) (fun a U => a = #[(.ref a1), (.ref a2)] ∧ Z.Warmed39 U.vm ∧ U.heap = h0) (fun _ _ _ _ _ => True) (fun _ U o U' => ∃ v L, o = .returned v ∧ Q_rmFI Z a1 a2 u1 h0 n0 v U'.heap L ∧ FrameEnd U o U' L ({ frames := 2, cells := 0, slots := 0, locals := 24 } : Room).cells ({ frames := 2, cells := 0, slots := 0, locals := 24 } : Room).slots) := by
  refine MetFree.of_bodySF (plainFor_of_name pn_com_example_depeche_depeche_profile_Value_Field) hisR ?_
  intro p e s m args below meth c s₁ Bd hml0 hP hK
  obtain ⟨rfl, hZ, hh⟩ := hP
  have hx := Bd.exec
  have hby := Bd.bytes
  have hlk := BodyLoose.notSynchronized Bd
  have hml : c.maxLocals = 2 := hml0
  have hown : s.vm.findClass "com/example/depeche/depeche/profile/Value$Field" = some m.cls := findClass_of_methodNamed Bd.named
  have hnm := (name_of_methodNamed Bd.named Bd.method).1
  have X0 : Stand p l e ({ frames := 2, cells := 0, slots := 0, locals := 24 } : Room) s m #[(.ref a1), (.ref a2)] below meth c s₁ [] 0 0 := Stand.of_body Bd
  have e0 : s₁.heap = h0 := by rw [← hh, Bd.state]; rfl
  have N0 := Fr.nil n0
  have K0 := Keep.refl h0 [a1]
  clear hh
  show Wk p e below s (Q_rmFI Z a1 a2 u1 h0 n0) ({ frames := 2, cells := 0, slots := 0, locals := 24 } : Room).cells ({ frames := 2, cells := 0, slots := 0, locals := 24 } : Room).slots s₁ (entryFrame m #[(.ref a1), (.ref a2)] 2)
  rw [ef_rmFI]
  have lt_E1 := ny E1.lt
  have lt_F1 := ny F1.lt
  refine Wk.aloadN X0 hx (hb hby d_prog_95_m1_0) (n := 1) rfl rfl rfl ?_
  have cl1_ := fun (Ls : Array Slot) (hLs : Ls.size = c.maxLocals) => X0.specialBack hx (y := (⟨"java/lang/Record", "<init>", "()V"⟩ : MethodName)) rfl hown (mvT hZ (hw _ (List.mem_of_getElem? (i := 69) rfl))) (mvT hZ (hw _ (List.mem_of_getElem? (i := 43) rfl))) (mvT hZ (hw _ (List.mem_of_getElem? (i := 46) rfl))) (by decide) (backOf (W := 0) (rmRec l Z a0 hw [] a1 h0 n0 (by omega)) hZ (hw _ (List.mem_of_getElem? (i := 46) rfl)) (hw _ (List.mem_of_getElem? (i := 45) rfl)) (by decide) (by decide)) (g := mkF m 1 Ls [(.ref a1)]) rfl hLs (Steps.refl _) (a := a1) (argsL := []) (rest := []) (lenOf pd_0 rfl) rfl (by show 2 * 0 + _ ≤ _; exact Nat.le_of_eq rfl) (hb hby d_prog_95_m1_1) (fun _ _ => ⟨rfl, e0, (by decide : 0 + 0 ≤ _), (by decide : 0 + 0 ≤ _)⟩)
  refine Wk.back (n := 4) (rc := 0) (rs := 0) (Q := Q_rmRec Z a1 h0 n0) (cl1_ _ (by rw [hml]; rfl)) fun vn1 T1 L1 X1 hQ1 => ?_
  clear cl1_
  obtain ⟨rfl, M1, e1⟩ := hQ1
  have N1 := Fr.app N0 M1
  show Wk p e below s _ _ _ T1 (mkF m 4 _ [])
  refine Wk.aloadN X1 hx (hb hby d_prog_95_m1_4) (n := 5) rfl rfl rfl ?_
  refine Wk.aloadN X1 hx (hb hby d_prog_95_m1_5) (n := 6) rfl rfl rfl ?_
  refine Wk.putF X1 hx hZ hown (host := "") (Or.inl (hw _ (List.mem_of_getElem? (i := 70) rfl))) Via.refl e1 F1 E1 (Or.inr ⟨(hw _ (List.mem_of_getElem? (i := 71) rfl)), rfl, hnm⟩) (hw _ (List.mem_of_getElem? (i := 64) rfl)) (ty := (.object "com/example/depeche/depeche/profile/Path")) (by decide) rfl rfl (hb hby d_prog_95_m1_6) (n := 9) rfl fun T2 H2 X2 e2 Wn2 => ?_
  have sz2 := Wn2.size
  have Fn2 := F1.same Wn2
  have K2 := K0.wr Wn2 (Or.inl (List.mem_of_getElem? (i := 0) rfl))
  have N2 := Fr.snoc X2 N1 (by omega)
  have f3 := (E1.wr Wn2)
  exact Wk.leave X2 (v := none) (fun _ => rfl) hlk e2 ⟨rfl, N2, K2, f3, Fn2⟩ (by decide) (by decide) (fun fs hr => X2.returnOut hx Bd.returns (hb hby d_prog_95_m1_9) hr)
def Q_rmCtI (Z : State) (a1 : Addr) (a2 : Addr) (u1 : Value) (h0 : Heap) (n0 : Nat) (v : Option Value) (h : Heap) (L : List Loc) : Prop := v = none ∧ Fr n0 L ∧ Keep h0 h [a1] ∧ Exa Z h a1 "com/example/depeche/depeche/profile/Value$Count"
theorem ef_rmCtI (m : MethodId) (x0 : Addr) (x1 : Addr) : entryFrame m #[(.ref x0), (.ref x1)] 2 = mkF m 0 #[.val (.ref x0), .val (.ref x1)] [] := by first | (simp [entryFrame, mkF, argsToLocals, Value.category]; done) | rfl
theorem pn_com_example_depeche_depeche_profile_Value_Count : plainName "com/example/depeche/depeche/profile/Value$Count" = true := by first | (simp [plainName, overriddenIn]; done) | decide +kernel
theorem d_prog_94_m1_0 : decode prog_94_method_1_code 0 = .ok (.aload_n 0, 1) := by decide +kernel
theorem d_prog_94_m1_1 : decode prog_94_method_1_code 1 = .ok (.invokespecial 1, 3) := by decide +kernel
theorem d_prog_94_m1_4 : decode prog_94_method_1_code 4 = .ok (.aload_n 0, 1) := by decide +kernel
theorem d_prog_94_m1_5 : decode prog_94_method_1_code 5 = .ok (.aload_n 1, 1) := by decide +kernel
theorem d_prog_94_m1_6 : decode prog_94_method_1_code 6 = .ok (.putfield 7, 3) := by decide +kernel
theorem d_prog_94_m1_9 : decode prog_94_method_1_code 9 = .ok (.return_, 1) := by decide +kernel
set_option maxRecDepth 65536 in
set_option maxHeartbeats 40000000 in
theorem rmCtI (l : Launch) (Z : State) (a0 : Array Value) (hw : ∀ d ∈ tables_1, d.before a0 Z = true) (ws : List Jvm.Cond) (a1 : Addr) (a2 : Addr) (u1 : Value) (h0 : Heap) (n0 : Nat) (Z0 : n0 ≤ h0.size) (E1 : Exa Z h0 a1 "com/example/depeche/depeche/profile/Value$Count") (F1 : Fld Z h0 a1 "com/example/depeche/depeche/profile/Value$Count" "mark" "Ljava/lang/String;" u1) (g1 : n0 ≤ a1) :
    MetFree l (⟨"com/example/depeche/depeche/profile/Value$Count", "<init>", "(Ljava/lang/String;)V"⟩ : MethodName) (head1 (Jvm.Cond.code (⟨"com/example/depeche/depeche/profile/Value$Count", "<init>", "(Ljava/lang/String;)V"⟩ : MethodName) prog_94_method_1_code 2 none :: ws) ({ frames := 2, cells := 0, slots := 0, locals := 24 } : Room)) (fun a U => a = #[(.ref a1), (.ref a2)] ∧ Z.Warmed39 U.vm ∧ U.heap = h0) (fun _ _ _ _ _ => True) (fun _ U o U' => ∃ v L, o = .returned v ∧ Q_rmCtI Z a1 a2 u1 h0 n0 v U'.heap L ∧ FrameEnd U o U' L ({ frames := 2, cells := 0, slots := 0, locals := 24 } : Room).cells ({ frames := 2, cells := 0, slots := 0, locals := 24 } : Room).slots) := by
  refine MetFree.of_bodySF (plainFor_of_name pn_com_example_depeche_depeche_profile_Value_Count) hisR ?_
  intro p e s m args below meth c s₁ Bd hml0 hP hK
  obtain ⟨rfl, hZ, hh⟩ := hP
  have hx := Bd.exec
  have hby := Bd.bytes
  have hlk := BodyLoose.notSynchronized Bd
  have hml : c.maxLocals = 2 := hml0
  have hown : s.vm.findClass "com/example/depeche/depeche/profile/Value$Count" = some m.cls := findClass_of_methodNamed Bd.named
  have hnm := (name_of_methodNamed Bd.named Bd.method).1
  have X0 : Stand p l e ({ frames := 2, cells := 0, slots := 0, locals := 24 } : Room) s m #[(.ref a1), (.ref a2)] below meth c s₁ [] 0 0 := Stand.of_body Bd
  have e0 : s₁.heap = h0 := by rw [← hh, Bd.state]; rfl
  have N0 := Fr.nil n0
  have K0 := Keep.refl h0 [a1]
  clear hh
  show Wk p e below s (Q_rmCtI Z a1 a2 u1 h0 n0) ({ frames := 2, cells := 0, slots := 0, locals := 24 } : Room).cells ({ frames := 2, cells := 0, slots := 0, locals := 24 } : Room).slots s₁ (entryFrame m #[(.ref a1), (.ref a2)] 2)
  rw [ef_rmCtI]
  have lt_E1 := ny E1.lt
  have lt_F1 := ny F1.lt
  refine Wk.aloadN X0 hx (hb hby d_prog_94_m1_0) (n := 1) rfl rfl rfl ?_
  have cl1_ := fun (Ls : Array Slot) (hLs : Ls.size = c.maxLocals) => X0.specialBack hx (y := (⟨"java/lang/Record", "<init>", "()V"⟩ : MethodName)) rfl hown (mvT hZ (hw _ (List.mem_of_getElem? (i := 205) rfl))) (mvT hZ (hw _ (List.mem_of_getElem? (i := 43) rfl))) (mvT hZ (hw _ (List.mem_of_getElem? (i := 46) rfl))) (by decide) (backOf (W := 0) (rmRec l Z a0 hw [] a1 h0 n0 (by omega)) hZ (hw _ (List.mem_of_getElem? (i := 46) rfl)) (hw _ (List.mem_of_getElem? (i := 45) rfl)) (by decide) (by decide)) (g := mkF m 1 Ls [(.ref a1)]) rfl hLs (Steps.refl _) (a := a1) (argsL := []) (rest := []) (lenOf pd_0 rfl) rfl (by show 2 * 0 + _ ≤ _; exact Nat.le_of_eq rfl) (hb hby d_prog_94_m1_1) (fun _ _ => ⟨rfl, e0, (by decide : 0 + 0 ≤ _), (by decide : 0 + 0 ≤ _)⟩)
  refine Wk.back (n := 4) (rc := 0) (rs := 0) (Q := Q_rmRec Z a1 h0 n0) (cl1_ _ (by rw [hml]; rfl)) fun vn1 T1 L1 X1 hQ1 => ?_
  clear cl1_
  obtain ⟨rfl, M1, e1⟩ := hQ1
  have N1 := Fr.app N0 M1
  show Wk p e below s _ _ _ T1 (mkF m 4 _ [])
  refine Wk.aloadN X1 hx (hb hby d_prog_94_m1_4) (n := 5) rfl rfl rfl ?_
  refine Wk.aloadN X1 hx (hb hby d_prog_94_m1_5) (n := 6) rfl rfl rfl ?_
  refine Wk.putF X1 hx hZ hown (host := "") (Or.inl (hw _ (List.mem_of_getElem? (i := 206) rfl))) Via.refl e1 F1 E1 (Or.inr ⟨(hw _ (List.mem_of_getElem? (i := 207) rfl)), rfl, hnm⟩) (hw _ (List.mem_of_getElem? (i := 200) rfl)) (ty := (.object "java/lang/String")) (by decide) rfl rfl (hb hby d_prog_94_m1_6) (n := 9) rfl fun T2 H2 X2 e2 Wn2 => ?_
  have sz2 := Wn2.size
  have Fn2 := F1.same Wn2
  have K2 := K0.wr Wn2 (Or.inl (List.mem_of_getElem? (i := 0) rfl))
  have N2 := Fr.snoc X2 N1 (by omega)
  have f3 := (E1.wr Wn2)
  exact Wk.leave X2 (v := none) (fun _ => rfl) hlk e2 ⟨rfl, N2, K2, f3⟩ (by decide) (by decide) (fun fs hr => X2.returnOut hx Bd.returns (hb hby d_prog_94_m1_9) hr)
def Q_rmTI (Z : State) (a1 : Addr) (a2 : Addr) (u1 : Value) (h0 : Heap) (n0 : Nat) (v : Option Value) (h : Heap) (L : List Loc) : Prop := v = none ∧ Fr n0 L ∧ Keep h0 h [a1] ∧ Exa Z h a1 "com/example/depeche/depeche/profile/Value$Text"
theorem ef_rmTI (m : MethodId) (x0 : Addr) (x1 : Addr) : entryFrame m #[(.ref x0), (.ref x1)] 2 = mkF m 0 #[.val (.ref x0), .val (.ref x1)] [] := by first | (simp [entryFrame, mkF, argsToLocals, Value.category]; done) | rfl
theorem pn_com_example_depeche_depeche_profile_Value_Text : plainName "com/example/depeche/depeche/profile/Value$Text" = true := by first | (simp [plainName, overriddenIn]; done) | decide +kernel
theorem d_prog_98_m1_0 : decode prog_98_method_1_code 0 = .ok (.aload_n 0, 1) := by decide +kernel
theorem d_prog_98_m1_1 : decode prog_98_method_1_code 1 = .ok (.invokespecial 1, 3) := by decide +kernel
theorem d_prog_98_m1_4 : decode prog_98_method_1_code 4 = .ok (.aload_n 0, 1) := by decide +kernel
theorem d_prog_98_m1_5 : decode prog_98_method_1_code 5 = .ok (.aload_n 1, 1) := by decide +kernel
theorem d_prog_98_m1_6 : decode prog_98_method_1_code 6 = .ok (.putfield 7, 3) := by decide +kernel
theorem d_prog_98_m1_9 : decode prog_98_method_1_code 9 = .ok (.return_, 1) := by decide +kernel
set_option maxRecDepth 65536 in
set_option maxHeartbeats 40000000 in
theorem rmTI (l : Launch) (Z : State) (a0 : Array Value) (hw : ∀ d ∈ tables_1, d.before a0 Z = true) (ws : List Jvm.Cond) (a1 : Addr) (a2 : Addr) (u1 : Value) (h0 : Heap) (n0 : Nat) (Z0 : n0 ≤ h0.size) (E1 : Exa Z h0 a1 "com/example/depeche/depeche/profile/Value$Text") (F1 : Fld Z h0 a1 "com/example/depeche/depeche/profile/Value$Text" "text" "Ljava/lang/String;" u1) (g1 : n0 ≤ a1) :
    MetFree l (⟨"com/example/depeche/depeche/profile/Value$Text", "<init>", "(Ljava/lang/String;)V"⟩ : MethodName) (head1 (Jvm.Cond.code (⟨"com/example/depeche/depeche/profile/Value$Text", "<init>", "(Ljava/lang/String;)V"⟩ : MethodName) prog_98_method_1_code 2 none :: ws) ({ frames := 2, cells := 0, slots := 0, locals := 24 } : Room)) (fun a U => a = #[(.ref a1), (.ref a2)] ∧ Z.Warmed39 U.vm ∧ U.heap = h0) (fun _ _ _ _ _ => True) (fun _ U o U' => ∃ v L, o = .returned v ∧ Q_rmTI Z a1 a2 u1 h0 n0 v U'.heap L ∧ FrameEnd U o U' L ({ frames := 2, cells := 0, slots := 0, locals := 24 } : Room).cells ({ frames := 2, cells := 0, slots := 0, locals := 24 } : Room).slots) := by
  refine MetFree.of_bodySF (plainFor_of_name pn_com_example_depeche_depeche_profile_Value_Text) hisR ?_
  intro p e s m args below meth c s₁ Bd hml0 hP hK
  obtain ⟨rfl, hZ, hh⟩ := hP
  have hx := Bd.exec
  have hby := Bd.bytes
  have hlk := BodyLoose.notSynchronized Bd
  have hml : c.maxLocals = 2 := hml0
  have hown : s.vm.findClass "com/example/depeche/depeche/profile/Value$Text" = some m.cls := findClass_of_methodNamed Bd.named
  have hnm := (name_of_methodNamed Bd.named Bd.method).1
  have X0 : Stand p l e ({ frames := 2, cells := 0, slots := 0, locals := 24 } : Room) s m #[(.ref a1), (.ref a2)] below meth c s₁ [] 0 0 := Stand.of_body Bd
  have e0 : s₁.heap = h0 := by rw [← hh, Bd.state]; rfl
  have N0 := Fr.nil n0
  have K0 := Keep.refl h0 [a1]
  clear hh
  show Wk p e below s (Q_rmTI Z a1 a2 u1 h0 n0) ({ frames := 2, cells := 0, slots := 0, locals := 24 } : Room).cells ({ frames := 2, cells := 0, slots := 0, locals := 24 } : Room).slots s₁ (entryFrame m #[(.ref a1), (.ref a2)] 2)
  rw [ef_rmTI]
  have lt_E1 := ny E1.lt
  have lt_F1 := ny F1.lt
  refine Wk.aloadN X0 hx (hb hby d_prog_98_m1_0) (n := 1) rfl rfl rfl ?_
  have cl1_ := fun (Ls : Array Slot) (hLs : Ls.size = c.maxLocals) => X0.specialBack hx (y := (⟨"java/lang/Record", "<init>", "()V"⟩ : MethodName)) rfl hown (mvT hZ (hw _ (List.mem_of_getElem? (i := 131) rfl))) (mvT hZ (hw _ (List.mem_of_getElem? (i := 43) rfl))) (mvT hZ (hw _ (List.mem_of_getElem? (i := 46) rfl))) (by decide) (backOf (W := 0) (rmRec l Z a0 hw [] a1 h0 n0 (by omega)) hZ (hw _ (List.mem_of_getElem? (i := 46) rfl)) (hw _ (List.mem_of_getElem? (i := 45) rfl)) (by decide) (by decide)) (g := mkF m 1 Ls [(.ref a1)]) rfl hLs (Steps.refl _) (a := a1) (argsL := []) (rest := []) (lenOf pd_0 rfl) rfl (by show 2 * 0 + _ ≤ _; exact Nat.le_of_eq rfl) (hb hby d_prog_98_m1_1) (fun _ _ => ⟨rfl, e0, (by decide : 0 + 0 ≤ _), (by decide : 0 + 0 ≤ _)⟩)
  refine Wk.back (n := 4) (rc := 0) (rs := 0) (Q := Q_rmRec Z a1 h0 n0) (cl1_ _ (by rw [hml]; rfl)) fun vn1 T1 L1 X1 hQ1 => ?_
  clear cl1_
  obtain ⟨rfl, M1, e1⟩ := hQ1
  have N1 := Fr.app N0 M1
  show Wk p e below s _ _ _ T1 (mkF m 4 _ [])
  refine Wk.aloadN X1 hx (hb hby d_prog_98_m1_4) (n := 5) rfl rfl rfl ?_
  refine Wk.aloadN X1 hx (hb hby d_prog_98_m1_5) (n := 6) rfl rfl rfl ?_
  refine Wk.putF X1 hx hZ hown (host := "") (Or.inl (hw _ (List.mem_of_getElem? (i := 132) rfl))) Via.refl e1 F1 E1 (Or.inr ⟨(hw _ (List.mem_of_getElem? (i := 133) rfl)), rfl, hnm⟩) (hw _ (List.mem_of_getElem? (i := 126) rfl)) (ty := (.object "java/lang/String")) (by decide) rfl rfl (hb hby d_prog_98_m1_6) (n := 9) rfl fun T2 H2 X2 e2 Wn2 => ?_
  have sz2 := Wn2.size
  have Fn2 := F1.same Wn2
  have K2 := K0.wr Wn2 (Or.inl (List.mem_of_getElem? (i := 0) rfl))
  have N2 := Fr.snoc X2 N1 (by omega)
  have f3 := (E1.wr Wn2)
  exact Wk.leave X2 (v := none) (fun _ => rfl) hlk e2 ⟨rfl, N2, K2, f3⟩ (by decide) (by decide) (fun fs hr => X2.returnOut hx Bd.returns (hb hby d_prog_98_m1_9) hr)
def Q_rmOI (Z : State) (a1 : Addr) (h0 : Heap) (n0 : Nat) (v : Option Value) (h : Heap) (L : List Loc) : Prop := v = none ∧ Fr n0 L ∧ h = h0
theorem ef_rmOI (m : MethodId) (x0 : Addr) : entryFrame m #[(.ref x0)] 1 = mkF m 0 #[.val (.ref x0)] [] := by first | (simp [entryFrame, mkF, argsToLocals, Value.category]; done) | rfl
theorem pn_com_example_depeche_depeche_profile_Value_Occurrence : plainName "com/example/depeche/depeche/profile/Value$Occurrence" = true := by first | (simp [plainName, overriddenIn]; done) | decide +kernel
theorem d_prog_96_m1_0 : decode prog_96_method_1_code 0 = .ok (.aload_n 0, 1) := by decide +kernel
theorem d_prog_96_m1_1 : decode prog_96_method_1_code 1 = .ok (.invokespecial 1, 3) := by decide +kernel
theorem d_prog_96_m1_4 : decode prog_96_method_1_code 4 = .ok (.return_, 1) := by decide +kernel
set_option maxRecDepth 65536 in
set_option maxHeartbeats 40000000 in
theorem rmOI (l : Launch) (Z : State) (a0 : Array Value) (hw : ∀ d ∈ tables_1, d.before a0 Z = true) (ws : List Jvm.Cond) (a1 : Addr) (h0 : Heap) (n0 : Nat) (Z0 : n0 ≤ h0.size) :
    MetFree l (⟨"com/example/depeche/depeche/profile/Value$Occurrence", "<init>", "()V"⟩ : MethodName) (head1 (Jvm.Cond.code (⟨"com/example/depeche/depeche/profile/Value$Occurrence", "<init>", "()V"⟩ : MethodName) prog_96_method_1_code 1 none :: ws) ({ frames := 2, cells := 0, slots := 0, locals := 24 } : Room)) (fun a U => a = #[(.ref a1)] ∧ Z.Warmed39 U.vm ∧ U.heap = h0) (fun _ _ _ _ _ => True) (fun _ U o U' => ∃ v L, o = .returned v ∧ Q_rmOI Z a1 h0 n0 v U'.heap L ∧ FrameEnd U o U' L ({ frames := 2, cells := 0, slots := 0, locals := 24 } : Room).cells ({ frames := 2, cells := 0, slots := 0, locals := 24 } : Room).slots) := by
  refine MetFree.of_bodySF (plainFor_of_name pn_com_example_depeche_depeche_profile_Value_Occurrence) hisR ?_
  intro p e s m args below meth c s₁ Bd hml0 hP hK
  obtain ⟨rfl, hZ, hh⟩ := hP
  have hx := Bd.exec
  have hby := Bd.bytes
  have hlk := BodyLoose.notSynchronized Bd
  have hml : c.maxLocals = 1 := hml0
  have hown : s.vm.findClass "com/example/depeche/depeche/profile/Value$Occurrence" = some m.cls := findClass_of_methodNamed Bd.named
  have hnm := (name_of_methodNamed Bd.named Bd.method).1
  have X0 : Stand p l e ({ frames := 2, cells := 0, slots := 0, locals := 24 } : Room) s m #[(.ref a1)] below meth c s₁ [] 0 0 := Stand.of_body Bd
  have e0 : s₁.heap = h0 := by rw [← hh, Bd.state]; rfl
  have N0 := Fr.nil n0
  have K0 := Keep.refl h0 []
  clear hh
  show Wk p e below s (Q_rmOI Z a1 h0 n0) ({ frames := 2, cells := 0, slots := 0, locals := 24 } : Room).cells ({ frames := 2, cells := 0, slots := 0, locals := 24 } : Room).slots s₁ (entryFrame m #[(.ref a1)] 1)
  rw [ef_rmOI]
  refine Wk.aloadN X0 hx (hb hby d_prog_96_m1_0) (n := 1) rfl rfl rfl ?_
  have cl1_ := fun (Ls : Array Slot) (hLs : Ls.size = c.maxLocals) => X0.specialBack hx (y := (⟨"java/lang/Record", "<init>", "()V"⟩ : MethodName)) rfl hown (mvT hZ (hw _ (List.mem_of_getElem? (i := 144) rfl))) (mvT hZ (hw _ (List.mem_of_getElem? (i := 43) rfl))) (mvT hZ (hw _ (List.mem_of_getElem? (i := 46) rfl))) (by decide) (backOf (W := 0) (rmRec l Z a0 hw [] a1 h0 n0 (by omega)) hZ (hw _ (List.mem_of_getElem? (i := 46) rfl)) (hw _ (List.mem_of_getElem? (i := 45) rfl)) (by decide) (by decide)) (g := mkF m 1 Ls [(.ref a1)]) rfl hLs (Steps.refl _) (a := a1) (argsL := []) (rest := []) (lenOf pd_0 rfl) rfl (by show 2 * 0 + _ ≤ _; exact Nat.le_of_eq rfl) (hb hby d_prog_96_m1_1) (fun _ _ => ⟨rfl, e0, (by decide : 0 + 0 ≤ _), (by decide : 0 + 0 ≤ _)⟩)
  refine Wk.back (n := 4) (rc := 0) (rs := 0) (Q := Q_rmRec Z a1 h0 n0) (cl1_ _ (by rw [hml]; rfl)) fun vn1 T1 L1 X1 hQ1 => ?_
  clear cl1_
  obtain ⟨rfl, M1, e1⟩ := hQ1
  have N1 := Fr.app N0 M1
  show Wk p e below s _ _ _ T1 (mkF m 4 _ [])
  exact Wk.leave X1 (v := none) (fun _ => rfl) hlk e1 ⟨rfl, N1, rfl⟩ (by decide) (by decide) (fun fs hr => X1.returnOut hx Bd.returns (hb hby d_prog_96_m1_4) hr)
def Q_rmCpN (Z : State) (a1 : Addr) (h0 : Heap) (n0 : Nat) (v : Option Value) (h : Heap) (L : List Loc) : Prop := v = some (.ref a1) ∧ Fr n0 L ∧ h = h0
theorem ef_rmCpN (m : MethodId) (x0 : Addr) : entryFrame m #[(.ref x0)] 1 = mkF m 0 #[.val (.ref x0)] [] := by first | (simp [entryFrame, mkF, argsToLocals, Value.category]; done) | rfl
theorem pn_java_util_Set : plainName "java/util/Set" = true := by first | (simp [plainName, overriddenIn]; done) | decide +kernel
theorem d_jdk_96_m29_0 : decode jdk_96_method_29_code 0 = .ok (.aload_n 0, 1) := by decide +kernel
theorem d_jdk_96_m29_1 : decode jdk_96_method_29_code 1 = .ok (.instanceof 31, 3) := by decide +kernel
theorem d_jdk_96_m29_4 : decode jdk_96_method_29_code 4 = .ok (.ifCond .eq 8, 3) := by decide +kernel
theorem d_jdk_96_m29_7 : decode jdk_96_method_29_code 7 = .ok (.aload_n 0, 1) := by decide +kernel
theorem d_jdk_96_m29_8 : decode jdk_96_method_29_code 8 = .ok (.checkcast 33, 3) := by decide +kernel
theorem d_jdk_96_m29_11 : decode jdk_96_method_29_code 11 = .ok (.areturn, 1) := by decide +kernel
set_option maxRecDepth 65536 in
set_option maxHeartbeats 40000000 in
theorem rmCpN (l : Launch) (Z : State) (a0 : Array Value) (hw : ∀ d ∈ tables_1, d.before a0 Z = true) (ws : List Jvm.Cond) (a1 : Addr) (h0 : Heap) (n0 : Nat) (Z0 : n0 ≤ h0.size) (E1 : Exa Z h0 a1 "java/util/ImmutableCollections$SetN") :
    MetFree l (⟨"java/util/Set", "copyOf", "(Ljava/util/Collection;)Ljava/util/Set;"⟩ : MethodName) (head1 (Jvm.Cond.code (⟨"java/util/Set", "copyOf", "(Ljava/util/Collection;)Ljava/util/Set;"⟩ : MethodName) jdk_96_method_29_code 1 (some (.object "java/util/Set")) :: ws) ({ frames := 0, cells := 0, slots := 0, locals := 0 } : Room)) (fun a U => a = #[(.ref a1)] ∧ Z.Warmed39 U.vm ∧ U.heap = h0) (fun _ _ _ _ _ => True) (fun _ U o U' => ∃ v L, o = .returned v ∧ Q_rmCpN Z a1 h0 n0 v U'.heap L ∧ FrameEnd U o U' L ({ frames := 0, cells := 0, slots := 0, locals := 0 } : Room).cells ({ frames := 0, cells := 0, slots := 0, locals := 0 } : Room).slots) := by
  refine MetFree.of_bodySF (plainFor_of_name pn_java_util_Set) hisR ?_
  intro p e s m args below meth c s₁ Bd hml0 hP hK
  obtain ⟨rfl, hZ, hh⟩ := hP
  have hx := Bd.exec
  have hby := Bd.bytes
  have hlk := BodyLoose.notSynchronized Bd
  have hml : c.maxLocals = 1 := hml0
  have hown : s.vm.findClass "java/util/Set" = some m.cls := findClass_of_methodNamed Bd.named
  have hnm := (name_of_methodNamed Bd.named Bd.method).1
  have X0 : Stand p l e ({ frames := 0, cells := 0, slots := 0, locals := 0 } : Room) s m #[(.ref a1)] below meth c s₁ [] 0 0 := Stand.of_body Bd
  have e0 : s₁.heap = h0 := by rw [← hh, Bd.state]; rfl
  have N0 := Fr.nil n0
  have K0 := Keep.refl h0 []
  clear hh
  show Wk p e below s (Q_rmCpN Z a1 h0 n0) ({ frames := 0, cells := 0, slots := 0, locals := 0 } : Room).cells ({ frames := 0, cells := 0, slots := 0, locals := 0 } : Room).slots s₁ (entryFrame m #[(.ref a1)] 1)
  rw [ef_rmCpN]
  have lt_E1 := ny E1.lt
  refine Wk.aloadN X0 hx (hb hby d_jdk_96_m29_0) (n := 1) rfl rfl rfl ?_
  refine Wk.instY X0 hx hZ hown (hw _ (List.mem_of_getElem? (i := 79) rfl)) e0 (Ins.of_exa E1 (hw _ (List.mem_of_getElem? (i := 80) rfl))) (hb hby d_jdk_96_m29_1) (n := 4) rfl fun T1 X1 e1 => ?_
  have hc4_2 : ¬ ((1 : Int32) = (0 : Int32)) := by decide
  refine Wk.ifNo X1 hx (hb hby d_jdk_96_m29_4) (n := 7) rfl ((if0 _ _).trans (feq hc4_2).1) ?_
  refine Wk.aloadN X1 hx (hb hby d_jdk_96_m29_7) (n := 8) rfl rfl rfl ?_
  refine Wk.castY X1 hx hZ hown (hw _ (List.mem_of_getElem? (i := 81) rfl)) e1 (Ins.of_exa E1 (hw _ (List.mem_of_getElem? (i := 82) rfl))) (hb hby d_jdk_96_m29_8) (n := 11) rfl fun T3 X3 e3 => ?_
  exact Wk.leave X3 (v := some (.ref a1)) (fun h => by rw [Bd.returns] at h; cases h) hlk e3 ⟨rfl, N0, rfl⟩ (by decide) (by decide) (fun fs hr => retA X3 hx rfl Bd.returns rfl (hb hby d_jdk_96_m29_11) hr)
def Q_rmC1N (Z : State) (a1 : Addr) (y1 : Addr) (v1 : Addr) (p1 : Int32) (u0 : Value) (u1 : Value) (u2 : Value) (h0 : Heap) (n0 : Nat) (v : Option Value) (h : Heap) (L : List Loc) : Prop := v = none ∧ Fr n0 L ∧ Keep h0 h [a1] ∧ Exa Z h a1 "com/example/depeche/depeche/profile/Condition" ∧ Fld Z h a1 "com/example/depeche/depeche/profile/Condition" "subject" "Lcom/example/depeche/depeche/profile/Value$Source;" (.ref y1)
theorem ef_rmC1N (m : MethodId) (x0 : Addr) (x1 : Addr) (x2 : Addr) (x3 : Int32) : entryFrame m #[(.ref x0), (.ref x1), (.ref x2), (.int x3)] 4 = mkF m 0 #[.val (.ref x0), .val (.ref x1), .val (.ref x2), .val (.int x3)] [] := by first | (simp [entryFrame, mkF, argsToLocals, Value.category]; done) | rfl
theorem pn_com_example_depeche_depeche_profile_Condition : plainName "com/example/depeche/depeche/profile/Condition" = true := by first | (simp [plainName, overriddenIn]; done) | decide +kernel
theorem d_prog_44_m1_0 : decode prog_44_method_1_code 0 = .ok (.aload_n 0, 1) := by decide +kernel
theorem d_prog_44_m1_1 : decode prog_44_method_1_code 1 = .ok (.invokespecial 1, 3) := by decide +kernel
theorem d_prog_44_m1_4 : decode prog_44_method_1_code 4 = .ok (.aload_n 2, 1) := by decide +kernel
theorem d_prog_44_m1_5 : decode prog_44_method_1_code 5 = .ok (.invokestatic 7, 3) := by decide +kernel
theorem pd_1 : parseMethodDescriptor "(Ljava/util/Collection;)Ljava/util/Set;" = some ⟨[(.object "java/util/Collection")], some (.object "java/util/Set")⟩ := by decide +kernel
theorem d_prog_44_m1_8 : decode prog_44_method_1_code 8 = .ok (.astore_n 2, 1) := by decide +kernel
theorem d_prog_44_m1_9 : decode prog_44_method_1_code 9 = .ok (.aload_n 0, 1) := by decide +kernel
theorem d_prog_44_m1_10 : decode prog_44_method_1_code 10 = .ok (.aload_n 1, 1) := by decide +kernel
theorem d_prog_44_m1_11 : decode prog_44_method_1_code 11 = .ok (.putfield 13, 3) := by decide +kernel
theorem d_prog_44_m1_14 : decode prog_44_method_1_code 14 = .ok (.aload_n 0, 1) := by decide +kernel
theorem d_prog_44_m1_15 : decode prog_44_method_1_code 15 = .ok (.aload_n 2, 1) := by decide +kernel
theorem d_prog_44_m1_16 : decode prog_44_method_1_code 16 = .ok (.putfield 19, 3) := by decide +kernel
theorem d_prog_44_m1_19 : decode prog_44_method_1_code 19 = .ok (.aload_n 0, 1) := by decide +kernel
theorem d_prog_44_m1_20 : decode prog_44_method_1_code 20 = .ok (.iload_n 3, 1) := by decide +kernel
theorem d_prog_44_m1_21 : decode prog_44_method_1_code 21 = .ok (.putfield 23, 3) := by decide +kernel
theorem d_prog_44_m1_24 : decode prog_44_method_1_code 24 = .ok (.return_, 1) := by decide +kernel
set_option maxRecDepth 65536 in
set_option maxHeartbeats 40000000 in
theorem rmC1N (l : Launch) (Z : State) (a0 : Array Value) (hw : ∀ d ∈ tables_1, d.before a0 Z = true) (ws : List Jvm.Cond) (a1 : Addr) (y1 : Addr) (v1 : Addr) (p1 : Int32) (u0 : Value) (u1 : Value) (u2 : Value) (h0 : Heap) (n0 : Nat) (Z0 : n0 ≤ h0.size) (E1 : Exa Z h0 a1 "com/example/depeche/depeche/profile/Condition") (Ev : Exa Z h0 v1 "java/util/ImmutableCollections$SetN") (Fc0 : Fld Z h0 a1 "com/example/depeche/depeche/profile/Condition" "subject" "Lcom/example/depeche/depeche/profile/Value$Source;" u0) (Fc1 : Fld Z h0 a1 "com/example/depeche/depeche/profile/Condition" "values" "Ljava/util/Set;" u1) (Fc2 : Fld Z h0 a1 "com/example/depeche/depeche/profile/Condition" "negated" "Z" u2) (g1 : n0 ≤ a1) (hb1 : nar .boolean p1 = p1) :
    MetFree l (⟨"com/example/depeche/depeche/profile/Condition", "<init>", "(Lcom/example/depeche/depeche/profile/Value$Source;Ljava/util/Set;Z)V"⟩ : MethodName) (head1 (Jvm.Cond.code (⟨"com/example/depeche/depeche/profile/Condition", "<init>", "(Lcom/example/depeche/depeche/profile/Value$Source;Ljava/util/Set;Z)V"⟩ : MethodName) prog_44_method_1_code 4 none :: ws) ({ frames := 2, cells := 0, slots := 0, locals := 24 } : Room)) (fun a U => a = #[(.ref a1), (.ref y1), (.ref v1), (.int p1)] ∧ Z.Warmed39 U.vm ∧ U.heap = h0) (fun _ _ _ _ _ => True) (fun _ U o U' => ∃ v L, o = .returned v ∧ Q_rmC1N Z a1 y1 v1 p1 u0 u1 u2 h0 n0 v U'.heap L ∧ FrameEnd U o U' L ({ frames := 2, cells := 0, slots := 0, locals := 24 } : Room).cells ({ frames := 2, cells := 0, slots := 0, locals := 24 } : Room).slots) := by
  refine MetFree.of_bodySF (plainFor_of_name pn_com_example_depeche_depeche_profile_Condition) hisR ?_
  intro p e s m args below meth c s₁ Bd hml0 hP hK
  obtain ⟨rfl, hZ, hh⟩ := hP
  have hx := Bd.exec
  have hby := Bd.bytes
  have hlk := BodyLoose.notSynchronized Bd
  have hml : c.maxLocals = 4 := hml0
  have hown : s.vm.findClass "com/example/depeche/depeche/profile/Condition" = some m.cls := findClass_of_methodNamed Bd.named
  have hnm := (name_of_methodNamed Bd.named Bd.method).1
  have X0 : Stand p l e ({ frames := 2, cells := 0, slots := 0, locals := 24 } : Room) s m #[(.ref a1), (.ref y1), (.ref v1), (.int p1)] below meth c s₁ [] 0 0 := Stand.of_body Bd
  have e0 : s₁.heap = h0 := by rw [← hh, Bd.state]; rfl
  have N0 := Fr.nil n0
  have K0 := Keep.refl h0 [a1]
  clear hh
  show Wk p e below s (Q_rmC1N Z a1 y1 v1 p1 u0 u1 u2 h0 n0) ({ frames := 2, cells := 0, slots := 0, locals := 24 } : Room).cells ({ frames := 2, cells := 0, slots := 0, locals := 24 } : Room).slots s₁ (entryFrame m #[(.ref a1), (.ref y1), (.ref v1), (.int p1)] 4)
  rw [ef_rmC1N]
  have lt_E1 := ny E1.lt
  have lt_Ev := ny Ev.lt
  have lt_Fc0 := ny Fc0.lt
  have lt_Fc1 := ny Fc1.lt
  have lt_Fc2 := ny Fc2.lt
  refine Wk.aloadN X0 hx (hb hby d_prog_44_m1_0) (n := 1) rfl rfl rfl ?_
  have cl1_ := fun (Ls : Array Slot) (hLs : Ls.size = c.maxLocals) => X0.specialBack hx (y := (⟨"java/lang/Record", "<init>", "()V"⟩ : MethodName)) rfl hown (mvT hZ (hw _ (List.mem_of_getElem? (i := 75) rfl))) (mvT hZ (hw _ (List.mem_of_getElem? (i := 43) rfl))) (mvT hZ (hw _ (List.mem_of_getElem? (i := 46) rfl))) (by decide) (backOf (W := 0) (rmRec l Z a0 hw [] a1 h0 n0 (by omega)) hZ (hw _ (List.mem_of_getElem? (i := 46) rfl)) (hw _ (List.mem_of_getElem? (i := 45) rfl)) (by decide) (by decide)) (g := mkF m 1 Ls [(.ref a1)]) rfl hLs (Steps.refl _) (a := a1) (argsL := []) (rest := []) (lenOf pd_0 rfl) rfl (by show 2 * 0 + _ ≤ _; exact Nat.le_of_eq rfl) (hb hby d_prog_44_m1_1) (fun _ _ => ⟨rfl, e0, (by decide : 0 + 0 ≤ _), (by decide : 0 + 0 ≤ _)⟩)
  refine Wk.back (n := 4) (rc := 0) (rs := 0) (Q := Q_rmRec Z a1 h0 n0) (cl1_ _ (by rw [hml]; rfl)) fun vn1 T1 L1 X1 hQ1 => ?_
  clear cl1_
  obtain ⟨rfl, M1, e1⟩ := hQ1
  have N1 := Fr.app N0 M1
  show Wk p e below s _ _ _ T1 (mkF m 4 _ [])
  refine Wk.aloadN X1 hx (hb hby d_prog_44_m1_4) (n := 5) rfl rfl rfl ?_
  have cl2_ := fun (Ls : Array Slot) (hLs : Ls.size = c.maxLocals) => Jvm.LawKit.callS X1 hx (y := (⟨"java/util/Set", "copyOf", "(Ljava/util/Collection;)Ljava/util/Set;"⟩ : MethodName)) hown (mvT hZ (hw _ (List.mem_of_getElem? (i := 76) rfl))) (mvT hZ (hw _ (List.mem_of_getElem? (i := 77) rfl))) (mvT hZ (hw _ (List.mem_of_getElem? (i := 32) rfl))) (mvT hZ (hw _ (List.mem_of_getElem? (i := 78) rfl))) (by decide) (backOf (W := 0) (rmCpN l Z a0 hw [] v1 h0 n0 (by omega) Ev) hZ (hw _ (List.mem_of_getElem? (i := 78) rfl)) (hw _ (List.mem_of_getElem? (i := 32) rfl)) (by decide) (by decide)) (g := mkF m 5 Ls [(.ref v1)]) rfl hLs (argsL := [(.ref v1)]) (rest := []) (lenOf pd_1 rfl) rfl (by show 2 * 0 + _ ≤ _; exact Nat.le_of_eq rfl) (hb hby d_prog_44_m1_5) (fun _ _ => ⟨rfl, e1, (by decide : 0 + 0 + 0 ≤ _), (by decide : 0 + 0 + 0 ≤ _)⟩)
  refine Wk.backS (n := 8) (rc := 0) (rs := 0) (Q := Q_rmCpN Z v1 h0 n0) (cl2_ _ (by rw [hml]; rfl)) fun vn2 T2 L2 X2 hQ2 => ?_
  clear cl2_
  obtain ⟨rfl, M2, e2⟩ := hQ2
  have N2 := Fr.app N1 M2
  show Wk p e below s _ _ _ T2 (mkF m 8 _ [(.ref v1)])
  refine Wk.astoreN X2 hx (hb hby d_prog_44_m1_8) (n := 9) rfl rfl (L' := #[.val (.ref a1), .val (.ref y1), .val (.ref v1), .val (.int p1)]) rfl ?_
  refine Wk.aloadN X2 hx (hb hby d_prog_44_m1_9) (n := 10) rfl rfl rfl ?_
  refine Wk.aloadN X2 hx (hb hby d_prog_44_m1_10) (n := 11) rfl rfl rfl ?_
  refine Wk.putF X2 hx hZ hown (host := "") (Or.inl (hw _ (List.mem_of_getElem? (i := 83) rfl))) Via.refl e2 Fc0 E1 (Or.inr ⟨(hw _ (List.mem_of_getElem? (i := 84) rfl)), rfl, hnm⟩) (hw _ (List.mem_of_getElem? (i := 58) rfl)) (ty := (.object "com/example/depeche/depeche/profile/Value$Source")) (by decide) rfl rfl (hb hby d_prog_44_m1_11) (n := 14) rfl fun T3 H3 X3 e3 Wn3 => ?_
  have sz3 := Wn3.size
  have Fn3 := Fc0.same Wn3
  have K3 := K0.wr Wn3 (Or.inl (List.mem_of_getElem? (i := 0) rfl))
  have N3 := Fr.snoc X3 N2 (by omega)
  refine Wk.aloadN X3 hx (hb hby d_prog_44_m1_14) (n := 15) rfl rfl rfl ?_
  refine Wk.aloadN X3 hx (hb hby d_prog_44_m1_15) (n := 16) rfl rfl rfl ?_
  have f4 := (Fc1.other Wn3 (Or.inr (slot_ne (Or.inr (hw _ (List.mem_of_getElem? (i := 86) rfl))) (Or.inr (hw _ (List.mem_of_getElem? (i := 84) rfl))) (by decide) (t := (.object "java/util/Set")) (t' := (.object "com/example/depeche/depeche/profile/Value$Source")) (by decide) (by decide))))
  have f5 := (E1.wr Wn3)
  refine Wk.putF X3 hx hZ hown (host := "") (Or.inl (hw _ (List.mem_of_getElem? (i := 85) rfl))) Via.refl e3 f4 f5 (Or.inr ⟨(hw _ (List.mem_of_getElem? (i := 86) rfl)), rfl, hnm⟩) (hw _ (List.mem_of_getElem? (i := 58) rfl)) (ty := (.object "java/util/Set")) (by decide) rfl rfl (hb hby d_prog_44_m1_16) (n := 19) rfl fun T6 H6 X6 e6 Wn6 => ?_
  have sz6 := Wn6.size
  have Fn6 := f4.same Wn6
  have K6 := K3.wr Wn6 (Or.inl (List.mem_of_getElem? (i := 0) rfl))
  have N6 := Fr.snoc X6 N3 (by omega)
  refine Wk.aloadN X6 hx (hb hby d_prog_44_m1_19) (n := 20) rfl rfl rfl ?_
  refine Wk.iloadN X6 hx (hb hby d_prog_44_m1_20) (n := 21) rfl rfl ?_
  have f7 := ((Fc2.other Wn3 (Or.inr (slot_ne (Or.inr (hw _ (List.mem_of_getElem? (i := 88) rfl))) (Or.inr (hw _ (List.mem_of_getElem? (i := 84) rfl))) (by decide) (t := .boolean) (t' := (.object "com/example/depeche/depeche/profile/Value$Source")) (by decide) (by decide)))).other Wn6 (Or.inr (slot_ne (Or.inr (hw _ (List.mem_of_getElem? (i := 88) rfl))) (Or.inr (hw _ (List.mem_of_getElem? (i := 86) rfl))) (by decide) (t := .boolean) (t' := (.object "java/util/Set")) (by decide) (by decide))))
  have f8 := (f5.wr Wn6)
  refine Wk.putFN X6 hx hZ hown (hw _ (List.mem_of_getElem? (i := 87) rfl)) Via.refl e6 f7 f8 (Or.inr ⟨(hw _ (List.mem_of_getElem? (i := 88) rfl)), rfl, hnm⟩) (hw _ (List.mem_of_getElem? (i := 58) rfl)) (ty := .boolean) (by decide) (v' := (.int p1)) (congrArg Value.int hb1) (own_fitz hb1) (hb hby d_prog_44_m1_21) (n := 24) rfl fun T9 H9 X9 e9 Wn9 => ?_
  have sz9 := Wn9.size
  have Fn9 := f7.same Wn9
  have K9 := K6.wr Wn9 (Or.inl (List.mem_of_getElem? (i := 0) rfl))
  have N9 := Fr.snoc X9 N6 (by omega)
  have f10 := (f8.wr Wn9)
  have f11 := ((Fn3.other Wn6 (Or.inr (slot_ne (Or.inr (hw _ (List.mem_of_getElem? (i := 84) rfl))) (Or.inr (hw _ (List.mem_of_getElem? (i := 86) rfl))) (by decide) (t := (.object "com/example/depeche/depeche/profile/Value$Source")) (t' := (.object "java/util/Set")) (by decide) (by decide)))).other Wn9 (Or.inr (slot_ne (Or.inr (hw _ (List.mem_of_getElem? (i := 84) rfl))) (Or.inr (hw _ (List.mem_of_getElem? (i := 88) rfl))) (by decide) (t := (.object "com/example/depeche/depeche/profile/Value$Source")) (t' := .boolean) (by decide) (by decide))))
  exact Wk.leave X9 (v := none) (fun _ => rfl) hlk e9 ⟨rfl, N9, K9, f10, f11⟩ (by decide) (by decide) (fun fs hr => X9.returnOut hx Bd.returns (hb hby d_prog_44_m1_24) hr)
def Q_rmC2N (Z : State) (a1 : Addr) (y1 : Addr) (v1 : Addr) (p1 : Int32) (u0 : Value) (u1 : Value) (u2 : Value) (h0 : Heap) (n0 : Nat) (v : Option Value) (h : Heap) (L : List Loc) : Prop := ∃ (y : Addr), v = none ∧ Fr n0 L ∧ Keep h0 h [a1] ∧ Exa Z h a1 "com/example/depeche/depeche/profile/Condition" ∧ Fld Z h a1 "com/example/depeche/depeche/profile/Condition" "subject" "Lcom/example/depeche/depeche/profile/Value$Source;" (.ref y) ∧ Exa Z h y "com/example/depeche/depeche/profile/Value$Field" ∧ Fld Z h y "com/example/depeche/depeche/profile/Value$Field" "path" "Lcom/example/depeche/depeche/profile/Path;" (.ref y1)
theorem ef_rmC2N (m : MethodId) (x0 : Addr) (x1 : Addr) (x2 : Addr) (x3 : Int32) : entryFrame m #[(.ref x0), (.ref x1), (.ref x2), (.int x3)] 4 = mkF m 0 #[.val (.ref x0), .val (.ref x1), .val (.ref x2), .val (.int x3)] [] := by first | (simp [entryFrame, mkF, argsToLocals, Value.category]; done) | rfl
theorem d_prog_44_m2_0 : decode prog_44_method_2_code 0 = .ok (.aload_n 0, 1) := by decide +kernel
theorem d_prog_44_m2_1 : decode prog_44_method_2_code 1 = .ok (.new 27, 3) := by decide +kernel
theorem d_prog_44_m2_4 : decode prog_44_method_2_code 4 = .ok (.dup, 1) := by decide +kernel
theorem d_prog_44_m2_5 : decode prog_44_method_2_code 5 = .ok (.aload_n 1, 1) := by decide +kernel
theorem d_prog_44_m2_6 : decode prog_44_method_2_code 6 = .ok (.invokespecial 29, 3) := by decide +kernel
theorem pd_2 : parseMethodDescriptor "(Lcom/example/depeche/depeche/profile/Path;)V" = some ⟨[(.object "com/example/depeche/depeche/profile/Path")], none⟩ := by decide +kernel
theorem d_prog_44_m2_9 : decode prog_44_method_2_code 9 = .ok (.aload_n 2, 1) := by decide +kernel
theorem d_prog_44_m2_10 : decode prog_44_method_2_code 10 = .ok (.iload_n 3, 1) := by decide +kernel
theorem d_prog_44_m2_11 : decode prog_44_method_2_code 11 = .ok (.invokespecial 32, 3) := by decide +kernel
theorem pd_3 : parseMethodDescriptor "(Lcom/example/depeche/depeche/profile/Value$Source;Ljava/util/Set;Z)V" = some ⟨[(.object "com/example/depeche/depeche/profile/Value$Source"), (.object "java/util/Set"), .boolean], none⟩ := by decide +kernel
theorem d_prog_44_m2_14 : decode prog_44_method_2_code 14 = .ok (.return_, 1) := by decide +kernel
set_option maxRecDepth 65536 in
set_option maxHeartbeats 40000000 in
theorem rmC2N (l : Launch) (Z : State) (a0 : Array Value) (hw : ∀ d ∈ tables_1, d.before a0 Z = true) (ws : List Jvm.Cond) (a1 : Addr) (y1 : Addr) (v1 : Addr) (p1 : Int32) (u0 : Value) (u1 : Value) (u2 : Value) (h0 : Heap) (n0 : Nat) (Z0 : n0 ≤ h0.size) (E1 : Exa Z h0 a1 "com/example/depeche/depeche/profile/Condition") (Ev : Exa Z h0 v1 "java/util/ImmutableCollections$SetN") (Fc0 : Fld Z h0 a1 "com/example/depeche/depeche/profile/Condition" "subject" "Lcom/example/depeche/depeche/profile/Value$Source;" u0) (Fc1 : Fld Z h0 a1 "com/example/depeche/depeche/profile/Condition" "values" "Ljava/util/Set;" u1) (Fc2 : Fld Z h0 a1 "com/example/depeche/depeche/profile/Condition" "negated" "Z" u2) (g1 : n0 ≤ a1) (hb1 : nar .boolean p1 = p1) :
    MetFree l (⟨"com/example/depeche/depeche/profile/Condition", "<init>", "(Lcom/example/depeche/depeche/profile/Path;Ljava/util/Set;Z)V"⟩ : MethodName) (head1 (Jvm.Cond.code (⟨"com/example/depeche/depeche/profile/Condition", "<init>", "(Lcom/example/depeche/depeche/profile/Path;Ljava/util/Set;Z)V"⟩ : MethodName) prog_44_method_2_code 4 none :: ws) ({ frames := 3, cells := 1, slots := 1, locals := 39 } : Room)) (fun a U => a = #[(.ref a1), (.ref y1), (.ref v1), (.int p1)] ∧ Z.Warmed39 U.vm ∧ U.heap = h0) (fun _ _ _ _ _ => True) (fun _ U o U' => ∃ v L, o = .returned v ∧ Q_rmC2N Z a1 y1 v1 p1 u0 u1 u2 h0 n0 v U'.heap L ∧ FrameEnd U o U' L ({ frames := 3, cells := 1, slots := 1, locals := 39 } : Room).cells ({ frames := 3, cells := 1, slots := 1, locals := 39 } : Room).slots) := by
  refine MetFree.of_bodySF (plainFor_of_name pn_com_example_depeche_depeche_profile_Condition) hisR ?_
  intro p e s m args below meth c s₁ Bd hml0 hP hK
  obtain ⟨rfl, hZ, hh⟩ := hP
  have hx := Bd.exec
  have hby := Bd.bytes
  have hlk := BodyLoose.notSynchronized Bd
  have hml : c.maxLocals = 4 := hml0
  have hown : s.vm.findClass "com/example/depeche/depeche/profile/Condition" = some m.cls := findClass_of_methodNamed Bd.named
  have hnm := (name_of_methodNamed Bd.named Bd.method).1
  have X0 : Stand p l e ({ frames := 3, cells := 1, slots := 1, locals := 39 } : Room) s m #[(.ref a1), (.ref y1), (.ref v1), (.int p1)] below meth c s₁ [] 0 0 := Stand.of_body Bd
  have e0 : s₁.heap = h0 := by rw [← hh, Bd.state]; rfl
  have N0 := Fr.nil n0
  have K0 := Keep.refl h0 [a1]
  clear hh
  show Wk p e below s (Q_rmC2N Z a1 y1 v1 p1 u0 u1 u2 h0 n0) ({ frames := 3, cells := 1, slots := 1, locals := 39 } : Room).cells ({ frames := 3, cells := 1, slots := 1, locals := 39 } : Room).slots s₁ (entryFrame m #[(.ref a1), (.ref y1), (.ref v1), (.int p1)] 4)
  rw [ef_rmC2N]
  have lt_E1 := ny E1.lt
  have lt_Ev := ny Ev.lt
  have lt_Fc0 := ny Fc0.lt
  have lt_Fc1 := ny Fc1.lt
  have lt_Fc2 := ny Fc2.lt
  refine Wk.aloadN X0 hx (hb hby d_prog_44_m2_0) (n := 1) rfl rfl rfl ?_
  refine Wk.newO X0 hx hZ hown (hw _ (List.mem_of_getElem? (i := 63) rfl)) (hw _ (List.mem_of_getElem? (i := 64) rfl)) (hw _ (List.mem_of_getElem? (i := 65) rfl)) e0 (hb hby d_prog_44_m2_1) (n := 4) rfl (by decide) (by decide) fun T1 H1 b1 gn1 X1 e1 Ex1 An1 Dn1 Yn1 => ?_
  have gn1 := nx gn1
  have sz1 := Ex1.1
  have lt1 := ny An1.lt
  have K1 := K0.ext Ex1
  have Fn1_path : Fld Z H1 b1 "com/example/depeche/depeche/profile/Value$Field" "path" "Lcom/example/depeche/depeche/profile/Path;" .null := Dn1 (Or.inr (hw _ (List.mem_of_getElem? (i := 71) rfl))) (ty := (.object "com/example/depeche/depeche/profile/Path")) (by decide)
  refine Wk.dup X1 hx (hb hby d_prog_44_m2_4) (n := 5) rfl rfl ?_
  refine Wk.aloadN X1 hx (hb hby d_prog_44_m2_5) (n := 6) rfl rfl rfl ?_
  have cl2_ := fun (Ls : Array Slot) (hLs : Ls.size = c.maxLocals) => X1.specialBack hx (y := (⟨"com/example/depeche/depeche/profile/Value$Field", "<init>", "(Lcom/example/depeche/depeche/profile/Path;)V"⟩ : MethodName)) rfl hown (mvT hZ (hw _ (List.mem_of_getElem? (i := 66) rfl))) (mvT hZ (hw _ (List.mem_of_getElem? (i := 67) rfl))) (mvT hZ (hw _ (List.mem_of_getElem? (i := 68) rfl))) (by decide) (backOf (W := 2) (rmFI l Z a0 hw [] b1 y1 .null H1 n0 (by omega) An1 Fn1_path (by omega)) hZ (hw _ (List.mem_of_getElem? (i := 68) rfl)) (hw _ (List.mem_of_getElem? (i := 65) rfl)) (by decide) (by decide)) (g := mkF m 6 Ls [(.ref y1), (.ref b1), (.ref b1), (.ref a1)]) rfl hLs (Steps.refl _) (a := b1) (argsL := [(.ref y1)]) (rest := [(.ref b1), (.ref a1)]) (lenOf pd_2 rfl) rfl (by show 2 * 0 + _ ≤ _; exact Nat.le_of_eq rfl) (hb hby d_prog_44_m2_6) (fun _ _ => ⟨rfl, e1, (by decide : 0 + 1 + 0 ≤ _), (by decide : 0 + 1 + 0 ≤ _)⟩)
  refine Wk.back (n := 9) (rc := 0) (rs := 0) (Q := Q_rmFI Z b1 y1 .null H1 n0) (cl2_ _ (by rw [hml]; rfl)) fun vn2 T2 L2 X2 hQ2 => ?_
  clear cl2_
  obtain ⟨rfl, M2, J2, p2_0, p2_1⟩ := hQ2
  have N2 := Fr.app N0 M2
  have sz2 := J2.1
  have K2 := K1.trans J2 (allS (Or.inr (by omega)) all0)
  have lt_p2_0 := ny p2_0.lt
  show Wk p e below s _ _ _ T2 (mkF m 9 _ [(.ref b1), (.ref a1)])
  refine Wk.aloadN X2 hx (hb hby d_prog_44_m2_9) (n := 10) rfl rfl rfl ?_
  refine Wk.iloadN X2 hx (hb hby d_prog_44_m2_10) (n := 11) rfl rfl ?_
  have f3 := ((E1.ext Ex1).keep J2)
  have f4 := ((Ev.ext Ex1).keep J2)
  have f5 := ((Fc0.ext Ex1).keep J2 (ninS (nz (by omega)) nin0))
  have f6 := ((Fc1.ext Ex1).keep J2 (ninS (nz (by omega)) nin0))
  have f7 := ((Fc2.ext Ex1).keep J2 (ninS (nz (by omega)) nin0))
  have cl8_ := fun (Ls : Array Slot) (hLs : Ls.size = c.maxLocals) => X2.specialBack hx (y := (⟨"com/example/depeche/depeche/profile/Condition", "<init>", "(Lcom/example/depeche/depeche/profile/Value$Source;Ljava/util/Set;Z)V"⟩ : MethodName)) rfl hown (mvT hZ (hw _ (List.mem_of_getElem? (i := 72) rfl))) (mvT hZ (hw _ (List.mem_of_getElem? (i := 73) rfl))) (mvT hZ (hw _ (List.mem_of_getElem? (i := 74) rfl))) (by decide) (backOf (W := 0) (rmC1N l Z a0 hw [] a1 b1 v1 p1 u0 u1 u2 T2.heap n0 (by omega) f3 f4 f5 f6 f7 (by omega) hb1) hZ (hw _ (List.mem_of_getElem? (i := 74) rfl)) (hw _ (List.mem_of_getElem? (i := 59) rfl)) (by decide) (by decide)) (g := mkF m 11 Ls [(.int p1), (.ref v1), (.ref b1), (.ref a1)]) rfl hLs (Steps.refl _) (a := a1) (argsL := [(.ref b1), (.ref v1), (.int p1)]) (rest := []) (lenOf pd_3 rfl) rfl (by show 2 * 0 + _ ≤ _; exact Nat.le_of_eq rfl) (hb hby d_prog_44_m2_11) (fun _ _ => ⟨rfl, rfl, (by decide : 0 + 1 + 0 + 0 ≤ _), (by decide : 0 + 1 + 0 + 0 ≤ _)⟩)
  refine Wk.back (n := 14) (rc := 0) (rs := 0) (Q := Q_rmC1N Z a1 b1 v1 p1 u0 u1 u2 T2.heap n0) (cl8_ _ (by rw [hml]; rfl)) fun vn8 T8 L8 X8 hQ8 => ?_
  clear cl8_
  obtain ⟨rfl, M8, J8, p8_0, p8_1⟩ := hQ8
  have N8 := Fr.app N2 M8
  have sz8 := J8.1
  have K8 := K2.trans J8 (allS (Or.inl (List.mem_of_getElem? (i := 0) rfl)) all0)
  have lt_p8_0 := ny p8_0.lt
  show Wk p e below s _ _ _ T8 (mkF m 14 _ [])
  have f9 := (p2_0.keep J8)
  have f10 := (p2_1.keep J8 (ninS (nz (by omega)) nin0))
  exact Wk.leave X8 (v := none) (fun _ => rfl) hlk rfl ⟨b1, rfl, N8, K8, p8_0, p8_1, f9, f10⟩ (by decide) (by decide) (fun fs hr => X8.returnOut hx Bd.returns (hb hby d_prog_44_m2_14) hr)
def Q_rmCpT (Z : State) (a1 : Addr) (h0 : Heap) (n0 : Nat) (v : Option Value) (h : Heap) (L : List Loc) : Prop := v = some (.ref a1) ∧ Fr n0 L ∧ h = h0
theorem ef_rmCpT (m : MethodId) (x0 : Addr) : entryFrame m #[(.ref x0)] 1 = mkF m 0 #[.val (.ref x0)] [] := by first | (simp [entryFrame, mkF, argsToLocals, Value.category]; done) | rfl
set_option maxRecDepth 65536 in
set_option maxHeartbeats 40000000 in
theorem rmCpT (l : Launch) (Z : State) (a0 : Array Value) (hw : ∀ d ∈ tables_1, d.before a0 Z = true) (ws : List Jvm.Cond) (a1 : Addr) (h0 : Heap) (n0 : Nat) (Z0 : n0 ≤ h0.size) (E1 : Exa Z h0 a1 "java/util/ImmutableCollections$Set12") :
    MetFree l (⟨"java/util/Set", "copyOf", "(Ljava/util/Collection;)Ljava/util/Set;"⟩ : MethodName) (head1 (Jvm.Cond.code (⟨"java/util/Set", "copyOf", "(Ljava/util/Collection;)Ljava/util/Set;"⟩ : MethodName) jdk_96_method_29_code 1 (some (.object "java/util/Set")) :: ws) ({ frames := 0, cells := 0, slots := 0, locals := 0 } : Room)) (fun a U => a = #[(.ref a1)] ∧ Z.Warmed39 U.vm ∧ U.heap = h0) (fun _ _ _ _ _ => True) (fun _ U o U' => ∃ v L, o = .returned v ∧ Q_rmCpT Z a1 h0 n0 v U'.heap L ∧ FrameEnd U o U' L ({ frames := 0, cells := 0, slots := 0, locals := 0 } : Room).cells ({ frames := 0, cells := 0, slots := 0, locals := 0 } : Room).slots) := by
  refine MetFree.of_bodySF (plainFor_of_name pn_java_util_Set) hisR ?_
  intro p e s m args below meth c s₁ Bd hml0 hP hK
  obtain ⟨rfl, hZ, hh⟩ := hP
  have hx := Bd.exec
  have hby := Bd.bytes
  have hlk := BodyLoose.notSynchronized Bd
  have hml : c.maxLocals = 1 := hml0
  have hown : s.vm.findClass "java/util/Set" = some m.cls := findClass_of_methodNamed Bd.named
  have hnm := (name_of_methodNamed Bd.named Bd.method).1
  have X0 : Stand p l e ({ frames := 0, cells := 0, slots := 0, locals := 0 } : Room) s m #[(.ref a1)] below meth c s₁ [] 0 0 := Stand.of_body Bd
  have e0 : s₁.heap = h0 := by rw [← hh, Bd.state]; rfl
  have N0 := Fr.nil n0
  have K0 := Keep.refl h0 []
  clear hh
  show Wk p e below s (Q_rmCpT Z a1 h0 n0) ({ frames := 0, cells := 0, slots := 0, locals := 0 } : Room).cells ({ frames := 0, cells := 0, slots := 0, locals := 0 } : Room).slots s₁ (entryFrame m #[(.ref a1)] 1)
  rw [ef_rmCpT]
  have lt_E1 := ny E1.lt
  refine Wk.aloadN X0 hx (hb hby d_jdk_96_m29_0) (n := 1) rfl rfl rfl ?_
  refine Wk.instY X0 hx hZ hown (hw _ (List.mem_of_getElem? (i := 79) rfl)) e0 (Ins.of_exa E1 (hw _ (List.mem_of_getElem? (i := 173) rfl))) (hb hby d_jdk_96_m29_1) (n := 4) rfl fun T1 X1 e1 => ?_
  have hc4_2 : ¬ ((1 : Int32) = (0 : Int32)) := by decide
  refine Wk.ifNo X1 hx (hb hby d_jdk_96_m29_4) (n := 7) rfl ((if0 _ _).trans (feq hc4_2).1) ?_
  refine Wk.aloadN X1 hx (hb hby d_jdk_96_m29_7) (n := 8) rfl rfl rfl ?_
  refine Wk.castY X1 hx hZ hown (hw _ (List.mem_of_getElem? (i := 81) rfl)) e1 (Ins.of_exa E1 (hw _ (List.mem_of_getElem? (i := 198) rfl))) (hb hby d_jdk_96_m29_8) (n := 11) rfl fun T3 X3 e3 => ?_
  exact Wk.leave X3 (v := some (.ref a1)) (fun h => by rw [Bd.returns] at h; cases h) hlk e3 ⟨rfl, N0, rfl⟩ (by decide) (by decide) (fun fs hr => retA X3 hx rfl Bd.returns rfl (hb hby d_jdk_96_m29_11) hr)
def Q_rmC1T (Z : State) (a1 : Addr) (y1 : Addr) (v1 : Addr) (p1 : Int32) (u0 : Value) (u1 : Value) (u2 : Value) (h0 : Heap) (n0 : Nat) (v : Option Value) (h : Heap) (L : List Loc) : Prop := v = none ∧ Fr n0 L ∧ Keep h0 h [a1] ∧ Exa Z h a1 "com/example/depeche/depeche/profile/Condition" ∧ Fld Z h a1 "com/example/depeche/depeche/profile/Condition" "subject" "Lcom/example/depeche/depeche/profile/Value$Source;" (.ref y1)
theorem ef_rmC1T (m : MethodId) (x0 : Addr) (x1 : Addr) (x2 : Addr) (x3 : Int32) : entryFrame m #[(.ref x0), (.ref x1), (.ref x2), (.int x3)] 4 = mkF m 0 #[.val (.ref x0), .val (.ref x1), .val (.ref x2), .val (.int x3)] [] := by first | (simp [entryFrame, mkF, argsToLocals, Value.category]; done) | rfl
set_option maxRecDepth 65536 in
set_option maxHeartbeats 40000000 in
theorem rmC1T (l : Launch) (Z : State) (a0 : Array Value) (hw : ∀ d ∈ tables_1, d.before a0 Z = true) (ws : List Jvm.Cond) (a1 : Addr) (y1 : Addr) (v1 : Addr) (p1 : Int32) (u0 : Value) (u1 : Value) (u2 : Value) (h0 : Heap) (n0 : Nat) (Z0 : n0 ≤ h0.size) (E1 : Exa Z h0 a1 "com/example/depeche/depeche/profile/Condition") (Ev : Exa Z h0 v1 "java/util/ImmutableCollections$Set12") (Fc0 : Fld Z h0 a1 "com/example/depeche/depeche/profile/Condition" "subject" "Lcom/example/depeche/depeche/profile/Value$Source;" u0) (Fc1 : Fld Z h0 a1 "com/example/depeche/depeche/profile/Condition" "values" "Ljava/util/Set;" u1) (Fc2 : Fld Z h0 a1 "com/example/depeche/depeche/profile/Condition" "negated" "Z" u2) (g1 : n0 ≤ a1) (hb1 : nar .boolean p1 = p1) :
    MetFree l (⟨"com/example/depeche/depeche/profile/Condition", "<init>", "(Lcom/example/depeche/depeche/profile/Value$Source;Ljava/util/Set;Z)V"⟩ : MethodName) (head1 (Jvm.Cond.code (⟨"com/example/depeche/depeche/profile/Condition", "<init>", "(Lcom/example/depeche/depeche/profile/Value$Source;Ljava/util/Set;Z)V"⟩ : MethodName) prog_44_method_1_code 4 none :: ws) ({ frames := 2, cells := 0, slots := 0, locals := 24 } : Room)) (fun a U => a = #[(.ref a1), (.ref y1), (.ref v1), (.int p1)] ∧ Z.Warmed39 U.vm ∧ U.heap = h0) (fun _ _ _ _ _ => True) (fun _ U o U' => ∃ v L, o = .returned v ∧ Q_rmC1T Z a1 y1 v1 p1 u0 u1 u2 h0 n0 v U'.heap L ∧ FrameEnd U o U' L ({ frames := 2, cells := 0, slots := 0, locals := 24 } : Room).cells ({ frames := 2, cells := 0, slots := 0, locals := 24 } : Room).slots) := by
  refine MetFree.of_bodySF (plainFor_of_name pn_com_example_depeche_depeche_profile_Condition) hisR ?_
  intro p e s m args below meth c s₁ Bd hml0 hP hK
  obtain ⟨rfl, hZ, hh⟩ := hP
  have hx := Bd.exec
  have hby := Bd.bytes
  have hlk := BodyLoose.notSynchronized Bd
  have hml : c.maxLocals = 4 := hml0
  have hown : s.vm.findClass "com/example/depeche/depeche/profile/Condition" = some m.cls := findClass_of_methodNamed Bd.named
  have hnm := (name_of_methodNamed Bd.named Bd.method).1
  have X0 : Stand p l e ({ frames := 2, cells := 0, slots := 0, locals := 24 } : Room) s m #[(.ref a1), (.ref y1), (.ref v1), (.int p1)] below meth c s₁ [] 0 0 := Stand.of_body Bd
  have e0 : s₁.heap = h0 := by rw [← hh, Bd.state]; rfl
  have N0 := Fr.nil n0
  have K0 := Keep.refl h0 [a1]
  clear hh
  show Wk p e below s (Q_rmC1T Z a1 y1 v1 p1 u0 u1 u2 h0 n0) ({ frames := 2, cells := 0, slots := 0, locals := 24 } : Room).cells ({ frames := 2, cells := 0, slots := 0, locals := 24 } : Room).slots s₁ (entryFrame m #[(.ref a1), (.ref y1), (.ref v1), (.int p1)] 4)
  rw [ef_rmC1T]
  have lt_E1 := ny E1.lt
  have lt_Ev := ny Ev.lt
  have lt_Fc0 := ny Fc0.lt
  have lt_Fc1 := ny Fc1.lt
  have lt_Fc2 := ny Fc2.lt
  refine Wk.aloadN X0 hx (hb hby d_prog_44_m1_0) (n := 1) rfl rfl rfl ?_
  have cl1_ := fun (Ls : Array Slot) (hLs : Ls.size = c.maxLocals) => X0.specialBack hx (y := (⟨"java/lang/Record", "<init>", "()V"⟩ : MethodName)) rfl hown (mvT hZ (hw _ (List.mem_of_getElem? (i := 75) rfl))) (mvT hZ (hw _ (List.mem_of_getElem? (i := 43) rfl))) (mvT hZ (hw _ (List.mem_of_getElem? (i := 46) rfl))) (by decide) (backOf (W := 0) (rmRec l Z a0 hw [] a1 h0 n0 (by omega)) hZ (hw _ (List.mem_of_getElem? (i := 46) rfl)) (hw _ (List.mem_of_getElem? (i := 45) rfl)) (by decide) (by decide)) (g := mkF m 1 Ls [(.ref a1)]) rfl hLs (Steps.refl _) (a := a1) (argsL := []) (rest := []) (lenOf pd_0 rfl) rfl (by show 2 * 0 + _ ≤ _; exact Nat.le_of_eq rfl) (hb hby d_prog_44_m1_1) (fun _ _ => ⟨rfl, e0, (by decide : 0 + 0 ≤ _), (by decide : 0 + 0 ≤ _)⟩)
  refine Wk.back (n := 4) (rc := 0) (rs := 0) (Q := Q_rmRec Z a1 h0 n0) (cl1_ _ (by rw [hml]; rfl)) fun vn1 T1 L1 X1 hQ1 => ?_
  clear cl1_
  obtain ⟨rfl, M1, e1⟩ := hQ1
  have N1 := Fr.app N0 M1
  show Wk p e below s _ _ _ T1 (mkF m 4 _ [])
  refine Wk.aloadN X1 hx (hb hby d_prog_44_m1_4) (n := 5) rfl rfl rfl ?_
  have cl2_ := fun (Ls : Array Slot) (hLs : Ls.size = c.maxLocals) => Jvm.LawKit.callS X1 hx (y := (⟨"java/util/Set", "copyOf", "(Ljava/util/Collection;)Ljava/util/Set;"⟩ : MethodName)) hown (mvT hZ (hw _ (List.mem_of_getElem? (i := 76) rfl))) (mvT hZ (hw _ (List.mem_of_getElem? (i := 77) rfl))) (mvT hZ (hw _ (List.mem_of_getElem? (i := 32) rfl))) (mvT hZ (hw _ (List.mem_of_getElem? (i := 78) rfl))) (by decide) (backOf (W := 0) (rmCpT l Z a0 hw [] v1 h0 n0 (by omega) Ev) hZ (hw _ (List.mem_of_getElem? (i := 78) rfl)) (hw _ (List.mem_of_getElem? (i := 32) rfl)) (by decide) (by decide)) (g := mkF m 5 Ls [(.ref v1)]) rfl hLs (argsL := [(.ref v1)]) (rest := []) (lenOf pd_1 rfl) rfl (by show 2 * 0 + _ ≤ _; exact Nat.le_of_eq rfl) (hb hby d_prog_44_m1_5) (fun _ _ => ⟨rfl, e1, (by decide : 0 + 0 + 0 ≤ _), (by decide : 0 + 0 + 0 ≤ _)⟩)
  refine Wk.backS (n := 8) (rc := 0) (rs := 0) (Q := Q_rmCpT Z v1 h0 n0) (cl2_ _ (by rw [hml]; rfl)) fun vn2 T2 L2 X2 hQ2 => ?_
  clear cl2_
  obtain ⟨rfl, M2, e2⟩ := hQ2
  have N2 := Fr.app N1 M2
  show Wk p e below s _ _ _ T2 (mkF m 8 _ [(.ref v1)])
  refine Wk.astoreN X2 hx (hb hby d_prog_44_m1_8) (n := 9) rfl rfl (L' := #[.val (.ref a1), .val (.ref y1), .val (.ref v1), .val (.int p1)]) rfl ?_
  refine Wk.aloadN X2 hx (hb hby d_prog_44_m1_9) (n := 10) rfl rfl rfl ?_
  refine Wk.aloadN X2 hx (hb hby d_prog_44_m1_10) (n := 11) rfl rfl rfl ?_
  refine Wk.putF X2 hx hZ hown (host := "") (Or.inl (hw _ (List.mem_of_getElem? (i := 83) rfl))) Via.refl e2 Fc0 E1 (Or.inr ⟨(hw _ (List.mem_of_getElem? (i := 84) rfl)), rfl, hnm⟩) (hw _ (List.mem_of_getElem? (i := 58) rfl)) (ty := (.object "com/example/depeche/depeche/profile/Value$Source")) (by decide) rfl rfl (hb hby d_prog_44_m1_11) (n := 14) rfl fun T3 H3 X3 e3 Wn3 => ?_
  have sz3 := Wn3.size
  have Fn3 := Fc0.same Wn3
  have K3 := K0.wr Wn3 (Or.inl (List.mem_of_getElem? (i := 0) rfl))
  have N3 := Fr.snoc X3 N2 (by omega)
  refine Wk.aloadN X3 hx (hb hby d_prog_44_m1_14) (n := 15) rfl rfl rfl ?_
  refine Wk.aloadN X3 hx (hb hby d_prog_44_m1_15) (n := 16) rfl rfl rfl ?_
  have f4 := (Fc1.other Wn3 (Or.inr (slot_ne (Or.inr (hw _ (List.mem_of_getElem? (i := 86) rfl))) (Or.inr (hw _ (List.mem_of_getElem? (i := 84) rfl))) (by decide) (t := (.object "java/util/Set")) (t' := (.object "com/example/depeche/depeche/profile/Value$Source")) (by decide) (by decide))))
  have f5 := (E1.wr Wn3)
  refine Wk.putF X3 hx hZ hown (host := "") (Or.inl (hw _ (List.mem_of_getElem? (i := 85) rfl))) Via.refl e3 f4 f5 (Or.inr ⟨(hw _ (List.mem_of_getElem? (i := 86) rfl)), rfl, hnm⟩) (hw _ (List.mem_of_getElem? (i := 58) rfl)) (ty := (.object "java/util/Set")) (by decide) rfl rfl (hb hby d_prog_44_m1_16) (n := 19) rfl fun T6 H6 X6 e6 Wn6 => ?_
  have sz6 := Wn6.size
  have Fn6 := f4.same Wn6
  have K6 := K3.wr Wn6 (Or.inl (List.mem_of_getElem? (i := 0) rfl))
  have N6 := Fr.snoc X6 N3 (by omega)
  refine Wk.aloadN X6 hx (hb hby d_prog_44_m1_19) (n := 20) rfl rfl rfl ?_
  refine Wk.iloadN X6 hx (hb hby d_prog_44_m1_20) (n := 21) rfl rfl ?_
  have f7 := ((Fc2.other Wn3 (Or.inr (slot_ne (Or.inr (hw _ (List.mem_of_getElem? (i := 88) rfl))) (Or.inr (hw _ (List.mem_of_getElem? (i := 84) rfl))) (by decide) (t := .boolean) (t' := (.object "com/example/depeche/depeche/profile/Value$Source")) (by decide) (by decide)))).other Wn6 (Or.inr (slot_ne (Or.inr (hw _ (List.mem_of_getElem? (i := 88) rfl))) (Or.inr (hw _ (List.mem_of_getElem? (i := 86) rfl))) (by decide) (t := .boolean) (t' := (.object "java/util/Set")) (by decide) (by decide))))
  have f8 := (f5.wr Wn6)
  refine Wk.putFN X6 hx hZ hown (hw _ (List.mem_of_getElem? (i := 87) rfl)) Via.refl e6 f7 f8 (Or.inr ⟨(hw _ (List.mem_of_getElem? (i := 88) rfl)), rfl, hnm⟩) (hw _ (List.mem_of_getElem? (i := 58) rfl)) (ty := .boolean) (by decide) (v' := (.int p1)) (congrArg Value.int hb1) (own_fitz hb1) (hb hby d_prog_44_m1_21) (n := 24) rfl fun T9 H9 X9 e9 Wn9 => ?_
  have sz9 := Wn9.size
  have Fn9 := f7.same Wn9
  have K9 := K6.wr Wn9 (Or.inl (List.mem_of_getElem? (i := 0) rfl))
  have N9 := Fr.snoc X9 N6 (by omega)
  have f10 := (f8.wr Wn9)
  have f11 := ((Fn3.other Wn6 (Or.inr (slot_ne (Or.inr (hw _ (List.mem_of_getElem? (i := 84) rfl))) (Or.inr (hw _ (List.mem_of_getElem? (i := 86) rfl))) (by decide) (t := (.object "com/example/depeche/depeche/profile/Value$Source")) (t' := (.object "java/util/Set")) (by decide) (by decide)))).other Wn9 (Or.inr (slot_ne (Or.inr (hw _ (List.mem_of_getElem? (i := 84) rfl))) (Or.inr (hw _ (List.mem_of_getElem? (i := 88) rfl))) (by decide) (t := (.object "com/example/depeche/depeche/profile/Value$Source")) (t' := .boolean) (by decide) (by decide))))
  exact Wk.leave X9 (v := none) (fun _ => rfl) hlk e9 ⟨rfl, N9, K9, f10, f11⟩ (by decide) (by decide) (fun fs hr => X9.returnOut hx Bd.returns (hb hby d_prog_44_m1_24) hr)
def Q_rmC2T (Z : State) (a1 : Addr) (y1 : Addr) (v1 : Addr) (p1 : Int32) (u0 : Value) (u1 : Value) (u2 : Value) (h0 : Heap) (n0 : Nat) (v : Option Value) (h : Heap) (L : List Loc) : Prop := ∃ (y : Addr), v = none ∧ Fr n0 L ∧ Keep h0 h [a1] ∧ Exa Z h a1 "com/example/depeche/depeche/profile/Condition" ∧ Fld Z h a1 "com/example/depeche/depeche/profile/Condition" "subject" "Lcom/example/depeche/depeche/profile/Value$Source;" (.ref y) ∧ Exa Z h y "com/example/depeche/depeche/profile/Value$Field" ∧ Fld Z h y "com/example/depeche/depeche/profile/Value$Field" "path" "Lcom/example/depeche/depeche/profile/Path;" (.ref y1)
theorem ef_rmC2T (m : MethodId) (x0 : Addr) (x1 : Addr) (x2 : Addr) (x3 : Int32) : entryFrame m #[(.ref x0), (.ref x1), (.ref x2), (.int x3)] 4 = mkF m 0 #[.val (.ref x0), .val (.ref x1), .val (.ref x2), .val (.int x3)] [] := by first | (simp [entryFrame, mkF, argsToLocals, Value.category]; done) | rfl
set_option maxRecDepth 65536 in
set_option maxHeartbeats 40000000 in
theorem rmC2T (l : Launch) (Z : State) (a0 : Array Value) (hw : ∀ d ∈ tables_1, d.before a0 Z = true) (ws : List Jvm.Cond) (a1 : Addr) (y1 : Addr) (v1 : Addr) (p1 : Int32) (u0 : Value) (u1 : Value) (u2 : Value) (h0 : Heap) (n0 : Nat) (Z0 : n0 ≤ h0.size) (E1 : Exa Z h0 a1 "com/example/depeche/depeche/profile/Condition") (Ev : Exa Z h0 v1 "java/util/ImmutableCollections$Set12") (Fc0 : Fld Z h0 a1 "com/example/depeche/depeche/profile/Condition" "subject" "Lcom/example/depeche/depeche/profile/Value$Source;" u0) (Fc1 : Fld Z h0 a1 "com/example/depeche/depeche/profile/Condition" "values" "Ljava/util/Set;" u1) (Fc2 : Fld Z h0 a1 "com/example/depeche/depeche/profile/Condition" "negated" "Z" u2) (g1 : n0 ≤ a1) (hb1 : nar .boolean p1 = p1) :
    MetFree l (⟨"com/example/depeche/depeche/profile/Condition", "<init>", "(Lcom/example/depeche/depeche/profile/Path;Ljava/util/Set;Z)V"⟩ : MethodName) (head1 (Jvm.Cond.code (⟨"com/example/depeche/depeche/profile/Condition", "<init>", "(Lcom/example/depeche/depeche/profile/Path;Ljava/util/Set;Z)V"⟩ : MethodName) prog_44_method_2_code 4 none :: ws) ({ frames := 3, cells := 1, slots := 1, locals := 39 } : Room)) (fun a U => a = #[(.ref a1), (.ref y1), (.ref v1), (.int p1)] ∧ Z.Warmed39 U.vm ∧ U.heap = h0) (fun _ _ _ _ _ => True) (fun _ U o U' => ∃ v L, o = .returned v ∧ Q_rmC2T Z a1 y1 v1 p1 u0 u1 u2 h0 n0 v U'.heap L ∧ FrameEnd U o U' L ({ frames := 3, cells := 1, slots := 1, locals := 39 } : Room).cells ({ frames := 3, cells := 1, slots := 1, locals := 39 } : Room).slots) := by
  refine MetFree.of_bodySF (plainFor_of_name pn_com_example_depeche_depeche_profile_Condition) hisR ?_
  intro p e s m args below meth c s₁ Bd hml0 hP hK
  obtain ⟨rfl, hZ, hh⟩ := hP
  have hx := Bd.exec
  have hby := Bd.bytes
  have hlk := BodyLoose.notSynchronized Bd
  have hml : c.maxLocals = 4 := hml0
  have hown : s.vm.findClass "com/example/depeche/depeche/profile/Condition" = some m.cls := findClass_of_methodNamed Bd.named
  have hnm := (name_of_methodNamed Bd.named Bd.method).1
  have X0 : Stand p l e ({ frames := 3, cells := 1, slots := 1, locals := 39 } : Room) s m #[(.ref a1), (.ref y1), (.ref v1), (.int p1)] below meth c s₁ [] 0 0 := Stand.of_body Bd
  have e0 : s₁.heap = h0 := by rw [← hh, Bd.state]; rfl
  have N0 := Fr.nil n0
  have K0 := Keep.refl h0 [a1]
  clear hh
  show Wk p e below s (Q_rmC2T Z a1 y1 v1 p1 u0 u1 u2 h0 n0) ({ frames := 3, cells := 1, slots := 1, locals := 39 } : Room).cells ({ frames := 3, cells := 1, slots := 1, locals := 39 } : Room).slots s₁ (entryFrame m #[(.ref a1), (.ref y1), (.ref v1), (.int p1)] 4)
  rw [ef_rmC2T]
  have lt_E1 := ny E1.lt
  have lt_Ev := ny Ev.lt
  have lt_Fc0 := ny Fc0.lt
  have lt_Fc1 := ny Fc1.lt
  have lt_Fc2 := ny Fc2.lt
  refine Wk.aloadN X0 hx (hb hby d_prog_44_m2_0) (n := 1) rfl rfl rfl ?_
  refine Wk.newO X0 hx hZ hown (hw _ (List.mem_of_getElem? (i := 63) rfl)) (hw _ (List.mem_of_getElem? (i := 64) rfl)) (hw _ (List.mem_of_getElem? (i := 65) rfl)) e0 (hb hby d_prog_44_m2_1) (n := 4) rfl (by decide) (by decide) fun T1 H1 b1 gn1 X1 e1 Ex1 An1 Dn1 Yn1 => ?_
  have gn1 := nx gn1
  have sz1 := Ex1.1
  have lt1 := ny An1.lt
  have K1 := K0.ext Ex1
  have Fn1_path : Fld Z H1 b1 "com/example/depeche/depeche/profile/Value$Field" "path" "Lcom/example/depeche/depeche/profile/Path;" .null := Dn1 (Or.inr (hw _ (List.mem_of_getElem? (i := 71) rfl))) (ty := (.object "com/example/depeche/depeche/profile/Path")) (by decide)
  refine Wk.dup X1 hx (hb hby d_prog_44_m2_4) (n := 5) rfl rfl ?_
  refine Wk.aloadN X1 hx (hb hby d_prog_44_m2_5) (n := 6) rfl rfl rfl ?_
  have cl2_ := fun (Ls : Array Slot) (hLs : Ls.size = c.maxLocals) => X1.specialBack hx (y := (⟨"com/example/depeche/depeche/profile/Value$Field", "<init>", "(Lcom/example/depeche/depeche/profile/Path;)V"⟩ : MethodName)) rfl hown (mvT hZ (hw _ (List.mem_of_getElem? (i := 66) rfl))) (mvT hZ (hw _ (List.mem_of_getElem? (i := 67) rfl))) (mvT hZ (hw _ (List.mem_of_getElem? (i := 68) rfl))) (by decide) (backOf (W := 2) (rmFI l Z a0 hw [] b1 y1 .null H1 n0 (by omega) An1 Fn1_path (by omega)) hZ (hw _ (List.mem_of_getElem? (i := 68) rfl)) (hw _ (List.mem_of_getElem? (i := 65) rfl)) (by decide) (by decide)) (g := mkF m 6 Ls [(.ref y1), (.ref b1), (.ref b1), (.ref a1)]) rfl hLs (Steps.refl _) (a := b1) (argsL := [(.ref y1)]) (rest := [(.ref b1), (.ref a1)]) (lenOf pd_2 rfl) rfl (by show 2 * 0 + _ ≤ _; exact Nat.le_of_eq rfl) (hb hby d_prog_44_m2_6) (fun _ _ => ⟨rfl, e1, (by decide : 0 + 1 + 0 ≤ _), (by decide : 0 + 1 + 0 ≤ _)⟩)
  refine Wk.back (n := 9) (rc := 0) (rs := 0) (Q := Q_rmFI Z b1 y1 .null H1 n0) (cl2_ _ (by rw [hml]; rfl)) fun vn2 T2 L2 X2 hQ2 => ?_
  clear cl2_
  obtain ⟨rfl, M2, J2, p2_0, p2_1⟩ := hQ2
  have N2 := Fr.app N0 M2
  have sz2 := J2.1
  have K2 := K1.trans J2 (allS (Or.inr (by omega)) all0)
  have lt_p2_0 := ny p2_0.lt
  show Wk p e below s _ _ _ T2 (mkF m 9 _ [(.ref b1), (.ref a1)])
  refine Wk.aloadN X2 hx (hb hby d_prog_44_m2_9) (n := 10) rfl rfl rfl ?_
  refine Wk.iloadN X2 hx (hb hby d_prog_44_m2_10) (n := 11) rfl rfl ?_
  have f3 := ((E1.ext Ex1).keep J2)
  have f4 := ((Ev.ext Ex1).keep J2)
  have f5 := ((Fc0.ext Ex1).keep J2 (ninS (nz (by omega)) nin0))
  have f6 := ((Fc1.ext Ex1).keep J2 (ninS (nz (by omega)) nin0))
  have f7 := ((Fc2.ext Ex1).keep J2 (ninS (nz (by omega)) nin0))
  have cl8_ := fun (Ls : Array Slot) (hLs : Ls.size = c.maxLocals) => X2.specialBack hx (y := (⟨"com/example/depeche/depeche/profile/Condition", "<init>", "(Lcom/example/depeche/depeche/profile/Value$Source;Ljava/util/Set;Z)V"⟩ : MethodName)) rfl hown (mvT hZ (hw _ (List.mem_of_getElem? (i := 72) rfl))) (mvT hZ (hw _ (List.mem_of_getElem? (i := 73) rfl))) (mvT hZ (hw _ (List.mem_of_getElem? (i := 74) rfl))) (by decide) (backOf (W := 0) (rmC1T l Z a0 hw [] a1 b1 v1 p1 u0 u1 u2 T2.heap n0 (by omega) f3 f4 f5 f6 f7 (by omega) hb1) hZ (hw _ (List.mem_of_getElem? (i := 74) rfl)) (hw _ (List.mem_of_getElem? (i := 59) rfl)) (by decide) (by decide)) (g := mkF m 11 Ls [(.int p1), (.ref v1), (.ref b1), (.ref a1)]) rfl hLs (Steps.refl _) (a := a1) (argsL := [(.ref b1), (.ref v1), (.int p1)]) (rest := []) (lenOf pd_3 rfl) rfl (by show 2 * 0 + _ ≤ _; exact Nat.le_of_eq rfl) (hb hby d_prog_44_m2_11) (fun _ _ => ⟨rfl, rfl, (by decide : 0 + 1 + 0 + 0 ≤ _), (by decide : 0 + 1 + 0 + 0 ≤ _)⟩)
  refine Wk.back (n := 14) (rc := 0) (rs := 0) (Q := Q_rmC1T Z a1 b1 v1 p1 u0 u1 u2 T2.heap n0) (cl8_ _ (by rw [hml]; rfl)) fun vn8 T8 L8 X8 hQ8 => ?_
  clear cl8_
  obtain ⟨rfl, M8, J8, p8_0, p8_1⟩ := hQ8
  have N8 := Fr.app N2 M8
  have sz8 := J8.1
  have K8 := K2.trans J8 (allS (Or.inl (List.mem_of_getElem? (i := 0) rfl)) all0)
  have lt_p8_0 := ny p8_0.lt
  show Wk p e below s _ _ _ T8 (mkF m 14 _ [])
  have f9 := (p2_0.keep J8)
  have f10 := (p2_1.keep J8 (ninS (nz (by omega)) nin0))
  exact Wk.leave X8 (v := none) (fun _ => rfl) hlk rfl ⟨b1, rfl, N8, K8, p8_0, p8_1, f9, f10⟩ (by decide) (by decide) (fun fs hr => X8.returnOut hx Bd.returns (hb hby d_prog_44_m2_14) hr)
def Q_rmFPa (Z : State) (a1 : Addr) (a2 : Addr) (h0 : Heap) (n0 : Nat) (v : Option Value) (h : Heap) (L : List Loc) : Prop := v = some (.ref a2) ∧ Fr n0 L ∧ h = h0
theorem ef_rmFPa (m : MethodId) (x0 : Addr) : entryFrame m #[(.ref x0)] 1 = mkF m 0 #[.val (.ref x0)] [] := by first | (simp [entryFrame, mkF, argsToLocals, Value.category]; done) | rfl
theorem d_prog_95_m6_0 : decode prog_95_method_6_code 0 = .ok (.aload_n 0, 1) := by decide +kernel
theorem d_prog_95_m6_1 : decode prog_95_method_6_code 1 = .ok (.getfield 7, 3) := by decide +kernel
theorem d_prog_95_m6_4 : decode prog_95_method_6_code 4 = .ok (.areturn, 1) := by decide +kernel
set_option maxRecDepth 65536 in
set_option maxHeartbeats 40000000 in
theorem rmFPa (l : Launch) (Z : State) (a0 : Array Value) (hw : ∀ d ∈ tables_1, d.before a0 Z = true) (ws : List Jvm.Cond) (a1 : Addr) (a2 : Addr) (h0 : Heap) (n0 : Nat) (Z0 : n0 ≤ h0.size) (F1 : Fld Z h0 a1 "com/example/depeche/depeche/profile/Value$Field" "path" "Lcom/example/depeche/depeche/profile/Path;" (.ref a2)) :
    MetFree l (⟨"com/example/depeche/depeche/profile/Value$Field", "path", "()Lcom/example/depeche/depeche/profile/Path;"⟩ : MethodName) (head1 (Jvm.Cond.code (⟨"com/example/depeche/depeche/profile/Value$Field", "path", "()Lcom/example/depeche/depeche/profile/Path;"⟩ : MethodName) prog_95_method_6_code 1 (some (.object "com/example/depeche/depeche/profile/Path")) :: ws) ({ frames := 0, cells := 0, slots := 0, locals := 0 } : Room)) (fun a U => a = #[(.ref a1)] ∧ Z.Warmed39 U.vm ∧ U.heap = h0) (fun _ _ _ _ _ => True) (fun _ U o U' => ∃ v L, o = .returned v ∧ Q_rmFPa Z a1 a2 h0 n0 v U'.heap L ∧ FrameEnd U o U' L ({ frames := 0, cells := 0, slots := 0, locals := 0 } : Room).cells ({ frames := 0, cells := 0, slots := 0, locals := 0 } : Room).slots) := by
  refine MetFree.of_bodySF (plainFor_of_name pn_com_example_depeche_depeche_profile_Value_Field) hisR ?_
  intro p e s m args below meth c s₁ Bd hml0 hP hK
  obtain ⟨rfl, hZ, hh⟩ := hP
  have hx := Bd.exec
  have hby := Bd.bytes
  have hlk := BodyLoose.notSynchronized Bd
  have hml : c.maxLocals = 1 := hml0
  have hown : s.vm.findClass "com/example/depeche/depeche/profile/Value$Field" = some m.cls := findClass_of_methodNamed Bd.named
  have hnm := (name_of_methodNamed Bd.named Bd.method).1
  have X0 : Stand p l e ({ frames := 0, cells := 0, slots := 0, locals := 0 } : Room) s m #[(.ref a1)] below meth c s₁ [] 0 0 := Stand.of_body Bd
  have e0 : s₁.heap = h0 := by rw [← hh, Bd.state]; rfl
  have N0 := Fr.nil n0
  have K0 := Keep.refl h0 []
  clear hh
  show Wk p e below s (Q_rmFPa Z a1 a2 h0 n0) ({ frames := 0, cells := 0, slots := 0, locals := 0 } : Room).cells ({ frames := 0, cells := 0, slots := 0, locals := 0 } : Room).slots s₁ (entryFrame m #[(.ref a1)] 1)
  rw [ef_rmFPa]
  have lt_F1 := ny F1.lt
  refine Wk.aloadN X0 hx (hb hby d_prog_95_m6_0) (n := 1) rfl rfl rfl ?_
  refine Wk.getF X0 hx hZ hown (host := "") (Or.inl (hw _ (List.mem_of_getElem? (i := 70) rfl))) Via.refl e0 F1 (hb hby d_prog_95_m6_1) (n := 4) rfl fun T1 X1 e1 => ?_
  exact Wk.leave X1 (v := some (.ref a2)) (fun h => by rw [Bd.returns] at h; cases h) hlk e1 ⟨rfl, N0, rfl⟩ (by decide) (by decide) (fun fs hr => retA X1 hx rfl Bd.returns rfl (hb hby d_prog_95_m6_4) hr)
def Q_rmPtF (Z : State) (a1 : Addr) (y1 : Addr) (a2 : Addr) (h0 : Heap) (n0 : Nat) (v : Option Value) (h : Heap) (L : List Loc) : Prop := v = some (.ref a2) ∧ Fr n0 L ∧ h = h0
theorem ef_rmPtF (m : MethodId) (x0 : Addr) : entryFrame m #[(.ref x0)] 3 = mkF m 0 #[.val (.ref x0), .unset, .unset] [] := by first | (simp [entryFrame, mkF, argsToLocals, Value.category]; done) | rfl
theorem d_prog_44_m3_0 : decode prog_44_method_3_code 0 = .ok (.aload_n 0, 1) := by decide +kernel
theorem d_prog_44_m3_1 : decode prog_44_method_3_code 1 = .ok (.getfield 13, 3) := by decide +kernel
theorem d_prog_44_m3_4 : decode prog_44_method_3_code 4 = .ok (.astore_n 2, 1) := by decide +kernel
theorem d_prog_44_m3_5 : decode prog_44_method_3_code 5 = .ok (.aload_n 2, 1) := by decide +kernel
theorem d_prog_44_m3_6 : decode prog_44_method_3_code 6 = .ok (.instanceof 27, 3) := by decide +kernel
theorem d_prog_44_m3_9 : decode prog_44_method_3_code 9 = .ok (.ifCond .eq 15, 3) := by decide +kernel
theorem d_prog_44_m3_12 : decode prog_44_method_3_code 12 = .ok (.aload_n 2, 1) := by decide +kernel
theorem d_prog_44_m3_13 : decode prog_44_method_3_code 13 = .ok (.checkcast 27, 3) := by decide +kernel
theorem d_prog_44_m3_16 : decode prog_44_method_3_code 16 = .ok (.astore_n 1, 1) := by decide +kernel
theorem d_prog_44_m3_17 : decode prog_44_method_3_code 17 = .ok (.aload_n 1, 1) := by decide +kernel
theorem d_prog_44_m3_18 : decode prog_44_method_3_code 18 = .ok (.invokevirtual 35, 3) := by decide +kernel
theorem pd_4 : parseMethodDescriptor "()Lcom/example/depeche/depeche/profile/Path;" = some ⟨[], some (.object "com/example/depeche/depeche/profile/Path")⟩ := by decide +kernel
theorem d_prog_44_m3_21 : decode prog_44_method_3_code 21 = .ok (.goto 4, 3) := by decide +kernel
theorem d_prog_44_m3_25 : decode prog_44_method_3_code 25 = .ok (.areturn, 1) := by decide +kernel
set_option maxRecDepth 65536 in
set_option maxHeartbeats 40000000 in
theorem rmPtF (l : Launch) (Z : State) (a0 : Array Value) (hw : ∀ d ∈ tables_1, d.before a0 Z = true) (ws : List Jvm.Cond) (a1 : Addr) (y1 : Addr) (a2 : Addr) (h0 : Heap) (n0 : Nat) (Z0 : n0 ≤ h0.size) (F1 : Fld Z h0 a1 "com/example/depeche/depeche/profile/Condition" "subject" "Lcom/example/depeche/depeche/profile/Value$Source;" (.ref y1)) (E2 : Exa Z h0 y1 "com/example/depeche/depeche/profile/Value$Field") (F2 : Fld Z h0 y1 "com/example/depeche/depeche/profile/Value$Field" "path" "Lcom/example/depeche/depeche/profile/Path;" (.ref a2)) :
    MetFree l (⟨"com/example/depeche/depeche/profile/Condition", "path", "()Lcom/example/depeche/depeche/profile/Path;"⟩ : MethodName) (head1 (Jvm.Cond.code (⟨"com/example/depeche/depeche/profile/Condition", "path", "()Lcom/example/depeche/depeche/profile/Path;"⟩ : MethodName) prog_44_method_3_code 3 (some (.object "com/example/depeche/depeche/profile/Path")) :: ws) ({ frames := 1, cells := 0, slots := 0, locals := 12 } : Room)) (fun a U => a = #[(.ref a1)] ∧ Z.Warmed39 U.vm ∧ U.heap = h0) (fun _ _ _ _ _ => True) (fun _ U o U' => ∃ v L, o = .returned v ∧ Q_rmPtF Z a1 y1 a2 h0 n0 v U'.heap L ∧ FrameEnd U o U' L ({ frames := 1, cells := 0, slots := 0, locals := 12 } : Room).cells ({ frames := 1, cells := 0, slots := 0, locals := 12 } : Room).slots) := by
  refine MetFree.of_bodySF (plainFor_of_name pn_com_example_depeche_depeche_profile_Condition) hisR ?_
  intro p e s m args below meth c s₁ Bd hml0 hP hK
  obtain ⟨rfl, hZ, hh⟩ := hP
  have hx := Bd.exec
  have hby := Bd.bytes
  have hlk := BodyLoose.notSynchronized Bd
  have hml : c.maxLocals = 3 := hml0
  have hown : s.vm.findClass "com/example/depeche/depeche/profile/Condition" = some m.cls := findClass_of_methodNamed Bd.named
  have hnm := (name_of_methodNamed Bd.named Bd.method).1
  have X0 : Stand p l e ({ frames := 1, cells := 0, slots := 0, locals := 12 } : Room) s m #[(.ref a1)] below meth c s₁ [] 0 0 := Stand.of_body Bd
  have e0 : s₁.heap = h0 := by rw [← hh, Bd.state]; rfl
  have N0 := Fr.nil n0
  have K0 := Keep.refl h0 []
  clear hh
  show Wk p e below s (Q_rmPtF Z a1 y1 a2 h0 n0) ({ frames := 1, cells := 0, slots := 0, locals := 12 } : Room).cells ({ frames := 1, cells := 0, slots := 0, locals := 12 } : Room).slots s₁ (entryFrame m #[(.ref a1)] 3)
  rw [ef_rmPtF]
  have lt_F1 := ny F1.lt
  have lt_E2 := ny E2.lt
  have lt_F2 := ny F2.lt
  refine Wk.aloadN X0 hx (hb hby d_prog_44_m3_0) (n := 1) rfl rfl rfl ?_
  refine Wk.getF X0 hx hZ hown (host := "") (Or.inl (hw _ (List.mem_of_getElem? (i := 83) rfl))) Via.refl e0 F1 (hb hby d_prog_44_m3_1) (n := 4) rfl fun T1 X1 e1 => ?_
  refine Wk.astoreN X1 hx (hb hby d_prog_44_m3_4) (n := 5) rfl rfl (L' := #[.val (.ref a1), .unset, .val (.ref y1)]) rfl ?_
  refine Wk.aloadN X1 hx (hb hby d_prog_44_m3_5) (n := 6) rfl rfl rfl ?_
  refine Wk.instY X1 hx hZ hown (hw _ (List.mem_of_getElem? (i := 63) rfl)) e1 (Ins.self E2) (hb hby d_prog_44_m3_6) (n := 9) rfl fun T2 X2 e2 => ?_
  have hc9_3 : ¬ ((1 : Int32) = (0 : Int32)) := by decide
  refine Wk.ifNo X2 hx (hb hby d_prog_44_m3_9) (n := 12) rfl ((if0 _ _).trans (feq hc9_3).1) ?_
  refine Wk.aloadN X2 hx (hb hby d_prog_44_m3_12) (n := 13) rfl rfl rfl ?_
  refine Wk.castY X2 hx hZ hown (hw _ (List.mem_of_getElem? (i := 63) rfl)) e2 (Ins.self E2) (hb hby d_prog_44_m3_13) (n := 16) rfl fun T4 X4 e4 => ?_
  refine Wk.astoreN X4 hx (hb hby d_prog_44_m3_16) (n := 17) rfl rfl (L' := #[.val (.ref a1), .val (.ref y1), .val (.ref y1)]) rfl ?_
  refine Wk.aloadN X4 hx (hb hby d_prog_44_m3_17) (n := 18) rfl rfl rfl ?_
  obtain ⟨cq5, kq5, qn5a, qn5b, qn5c⟩ := isOf hZ e4 E2
  have cl5_ := fun (Ls : Array Slot) (hLs : Ls.size = c.maxLocals) => X4.virtualBack hx (y := (⟨"com/example/depeche/depeche/profile/Value$Field", "path", "()Lcom/example/depeche/depeche/profile/Path;"⟩ : MethodName)) (z := (⟨"com/example/depeche/depeche/profile/Value$Field", "path", "()Lcom/example/depeche/depeche/profile/Path;"⟩ : MethodName)) hown (mvT hZ (hw _ (List.mem_of_getElem? (i := 95) rfl))) (mvT hZ (hw _ (List.mem_of_getElem? (i := 96) rfl))) (notFace_of_selects (args := #[]) (mvT hZ (hw _ (List.mem_of_getElem? (i := 98) rfl)))) (mvT hZ (hw _ (List.mem_of_getElem? (i := 98) rfl))) (mvT hZ (hw _ (List.mem_of_getElem? (i := 97) rfl))) (by decide) (backOf (W := 0) (rmFPa l Z a0 hw [] y1 a2 h0 n0 (by omega) F2) hZ (hw _ (List.mem_of_getElem? (i := 99) rfl)) (hw _ (List.mem_of_getElem? (i := 65) rfl)) (by decide) (by decide)) qn5a qn5c (g := mkF m 18 Ls [(.ref y1)]) rfl hLs (Steps.refl _) (argsL := []) (rest := []) (lenOf pd_4 rfl) rfl (by show 2 * 0 + _ ≤ _; exact Nat.le_of_eq rfl) (hb hby d_prog_44_m3_18) (fun _ _ => ⟨rfl, e4, (by decide : 0 + 0 ≤ _), (by decide : 0 + 0 ≤ _)⟩)
  refine Wk.back (n := 21) (rc := 0) (rs := 0) (Q := Q_rmFPa Z y1 a2 h0 n0) (cl5_ _ (by rw [hml]; rfl)) fun vn5 T5 L5 X5 hQ5 => ?_
  clear cl5_
  obtain ⟨rfl, M5, e5⟩ := hQ5
  have N5 := Fr.app N0 M5
  show Wk p e below s _ _ _ T5 (mkF m 21 _ [(.ref a2)])
  refine Wk.goto X5 hx (hb hby d_prog_44_m3_21) (by decide) (n := 25) (by decide) ?_
  exact Wk.leave X5 (v := some (.ref a2)) (fun h => by rw [Bd.returns] at h; cases h) hlk e5 ⟨rfl, N5, rfl⟩ (by decide) (by decide) (fun fs hr => retA X5 hx rfl Bd.returns rfl (hb hby d_prog_44_m3_25) hr)
def Q_rmPtN (Z : State) (a1 : Addr) (y1 : Addr) (Cy : String) (h0 : Heap) (n0 : Nat) (v : Option Value) (h : Heap) (L : List Loc) : Prop := v = some .null ∧ Fr n0 L ∧ h = h0
theorem ef_rmPtN (m : MethodId) (x0 : Addr) : entryFrame m #[(.ref x0)] 3 = mkF m 0 #[.val (.ref x0), .unset, .unset] [] := by first | (simp [entryFrame, mkF, argsToLocals, Value.category]; done) | rfl
theorem d_prog_44_m3_24 : decode prog_44_method_3_code 24 = .ok (.aconst_null, 1) := by decide +kernel
set_option maxRecDepth 65536 in
set_option maxHeartbeats 40000000 in
theorem rmPtN (l : Launch) (Z : State) (a0 : Array Value) (hw : ∀ d ∈ tables_1, d.before a0 Z = true) (ws : List Jvm.Cond) (a1 : Addr) (y1 : Addr) (Cy : String) (h0 : Heap) (n0 : Nat) (Z0 : n0 ≤ h0.size) (F1 : Fld Z h0 a1 "com/example/depeche/depeche/profile/Condition" "subject" "Lcom/example/depeche/depeche/profile/Value$Source;" (.ref y1)) (Ey : Exa Z h0 y1 Cy) (hno : ∃ c t, Z.vm.findClass Cy = some c ∧ Z.vm.findClass "com/example/depeche/depeche/profile/Value$Field" = some t ∧ Z.vm.assignable c t = false) :
    MetFree l (⟨"com/example/depeche/depeche/profile/Condition", "path", "()Lcom/example/depeche/depeche/profile/Path;"⟩ : MethodName) (head1 (Jvm.Cond.code (⟨"com/example/depeche/depeche/profile/Condition", "path", "()Lcom/example/depeche/depeche/profile/Path;"⟩ : MethodName) prog_44_method_3_code 3 (some (.object "com/example/depeche/depeche/profile/Path")) :: ws) ({ frames := 0, cells := 0, slots := 0, locals := 0 } : Room)) (fun a U => a = #[(.ref a1)] ∧ Z.Warmed39 U.vm ∧ U.heap = h0) (fun _ _ _ _ _ => True) (fun _ U o U' => ∃ v L, o = .returned v ∧ Q_rmPtN Z a1 y1 Cy h0 n0 v U'.heap L ∧ FrameEnd U o U' L ({ frames := 0, cells := 0, slots := 0, locals := 0 } : Room).cells ({ frames := 0, cells := 0, slots := 0, locals := 0 } : Room).slots) := by
  refine MetFree.of_bodySF (plainFor_of_name pn_com_example_depeche_depeche_profile_Condition) hisR ?_
  intro p e s m args below meth c s₁ Bd hml0 hP hK
  obtain ⟨rfl, hZ, hh⟩ := hP
  have hx := Bd.exec
  have hby := Bd.bytes
  have hlk := BodyLoose.notSynchronized Bd
  have hml : c.maxLocals = 3 := hml0
  have hown : s.vm.findClass "com/example/depeche/depeche/profile/Condition" = some m.cls := findClass_of_methodNamed Bd.named
  have hnm := (name_of_methodNamed Bd.named Bd.method).1
  have X0 : Stand p l e ({ frames := 0, cells := 0, slots := 0, locals := 0 } : Room) s m #[(.ref a1)] below meth c s₁ [] 0 0 := Stand.of_body Bd
  have e0 : s₁.heap = h0 := by rw [← hh, Bd.state]; rfl
  have N0 := Fr.nil n0
  have K0 := Keep.refl h0 []
  clear hh
  show Wk p e below s (Q_rmPtN Z a1 y1 Cy h0 n0) ({ frames := 0, cells := 0, slots := 0, locals := 0 } : Room).cells ({ frames := 0, cells := 0, slots := 0, locals := 0 } : Room).slots s₁ (entryFrame m #[(.ref a1)] 3)
  rw [ef_rmPtN]
  have lt_F1 := ny F1.lt
  refine Wk.aloadN X0 hx (hb hby d_prog_44_m3_0) (n := 1) rfl rfl rfl ?_
  refine Wk.getF X0 hx hZ hown (host := "") (Or.inl (hw _ (List.mem_of_getElem? (i := 83) rfl))) Via.refl e0 F1 (hb hby d_prog_44_m3_1) (n := 4) rfl fun T1 X1 e1 => ?_
  refine Wk.astoreN X1 hx (hb hby d_prog_44_m3_4) (n := 5) rfl rfl (L' := #[.val (.ref a1), .unset, .val (.ref y1)]) rfl ?_
  refine Wk.aloadN X1 hx (hb hby d_prog_44_m3_5) (n := 6) rfl rfl rfl ?_
  obtain ⟨T3, X3, e3, st3⟩ := instNo X1 hx hZ hown (hw _ (List.mem_of_getElem? (i := 63) rfl)) e1 Ey hno (g := mkF m 6 #[.val (.ref a1), .unset, .val (.ref y1)] [(.ref y1)]) rfl rfl (hb hby d_prog_44_m3_6)
  refine Wk.go st3 ?_
  show Wk p e below s _ _ _ T3 (mkF m 9 _ [(.int (0 : Int32))])
  have hc9_4 : (0 : Int32) = (0 : Int32) := rfl
  refine Wk.ifYes X3 hx (hb hby d_prog_44_m3_9) ((if0 _ _).trans (teq hc9_4).1) (by decide) (n := 24) (by decide) ?_
  refine Wk.aconstNull X3 hx (hb hby d_prog_44_m3_24) (n := 25) rfl ?_
  exact Wk.leave X3 (v := some .null) (fun h => by rw [Bd.returns] at h; cases h) hlk e3 ⟨rfl, N0, rfl⟩ (by decide) (by decide) (fun fs hr => retA X3 hx rfl Bd.returns rfl (hb hby d_prog_44_m3_25) hr)
def Q_rmGm (Z : State) (a1 : Addr) (u : Value) (h0 : Heap) (n0 : Nat) (v : Option Value) (h : Heap) (L : List Loc) : Prop := v = some u ∧ Fr n0 L ∧ h = h0
theorem ef_rmGm (m : MethodId) (x0 : Addr) : entryFrame m #[(.ref x0)] 1 = mkF m 0 #[.val (.ref x0)] [] := by first | (simp [entryFrame, mkF, argsToLocals, Value.category]; done) | rfl
theorem d_prog_68_m14_0 : decode prog_68_method_14_code 0 = .ok (.aload_n 0, 1) := by decide +kernel
theorem d_prog_68_m14_1 : decode prog_68_method_14_code 1 = .ok (.getfield 20, 3) := by decide +kernel
theorem d_prog_68_m14_4 : decode prog_68_method_14_code 4 = .ok (.areturn, 1) := by decide +kernel
set_option maxRecDepth 65536 in
set_option maxHeartbeats 40000000 in
theorem rmGm (l : Launch) (Z : State) (a0 : Array Value) (hw : ∀ d ∈ tables_1, d.before a0 Z = true) (ws : List Jvm.Cond) (a1 : Addr) (u : Value) (h0 : Heap) (n0 : Nat) (Z0 : n0 ≤ h0.size) (F1 : Fld Z h0 a1 "com/example/depeche/depeche/profile/Path" "mark" "Ljava/lang/String;" u) (hu : u.isRef = true) :
    MetFree l (⟨"com/example/depeche/depeche/profile/Path", "mark", "()Ljava/lang/String;"⟩ : MethodName) (head1 (Jvm.Cond.code (⟨"com/example/depeche/depeche/profile/Path", "mark", "()Ljava/lang/String;"⟩ : MethodName) prog_68_method_14_code 1 (some (.object "java/lang/String")) :: ws) ({ frames := 0, cells := 0, slots := 0, locals := 0 } : Room)) (fun a U => a = #[(.ref a1)] ∧ Z.Warmed39 U.vm ∧ U.heap = h0) (fun _ _ _ _ _ => True) (fun _ U o U' => ∃ v L, o = .returned v ∧ Q_rmGm Z a1 u h0 n0 v U'.heap L ∧ FrameEnd U o U' L ({ frames := 0, cells := 0, slots := 0, locals := 0 } : Room).cells ({ frames := 0, cells := 0, slots := 0, locals := 0 } : Room).slots) := by
  refine MetFree.of_bodySF (plainFor_of_name pn_com_example_depeche_depeche_profile_Path) hisR ?_
  intro p e s m args below meth c s₁ Bd hml0 hP hK
  obtain ⟨rfl, hZ, hh⟩ := hP
  have hx := Bd.exec
  have hby := Bd.bytes
  have hlk := BodyLoose.notSynchronized Bd
  have hml : c.maxLocals = 1 := hml0
  have hown : s.vm.findClass "com/example/depeche/depeche/profile/Path" = some m.cls := findClass_of_methodNamed Bd.named
  have hnm := (name_of_methodNamed Bd.named Bd.method).1
  have X0 : Stand p l e ({ frames := 0, cells := 0, slots := 0, locals := 0 } : Room) s m #[(.ref a1)] below meth c s₁ [] 0 0 := Stand.of_body Bd
  have e0 : s₁.heap = h0 := by rw [← hh, Bd.state]; rfl
  have N0 := Fr.nil n0
  have K0 := Keep.refl h0 []
  clear hh
  show Wk p e below s (Q_rmGm Z a1 u h0 n0) ({ frames := 0, cells := 0, slots := 0, locals := 0 } : Room).cells ({ frames := 0, cells := 0, slots := 0, locals := 0 } : Room).slots s₁ (entryFrame m #[(.ref a1)] 1)
  rw [ef_rmGm]
  have lt_F1 := ny F1.lt
  refine Wk.aloadN X0 hx (hb hby d_prog_68_m14_0) (n := 1) rfl rfl rfl ?_
  refine Wk.getF X0 hx hZ hown (host := "") (Or.inl (hw _ (List.mem_of_getElem? (i := 54) rfl))) Via.refl e0 F1 (hb hby d_prog_68_m14_1) (n := 4) rfl fun T1 X1 e1 => ?_
  exact Wk.leave X1 (v := some u) (fun h => by rw [Bd.returns] at h; cases h) hlk e1 ⟨rfl, N0, rfl⟩ (by decide) (by decide) (fun fs hr => retA X1 hx hu Bd.returns rfl (hb hby d_prog_68_m14_4) hr)
def Q_rmGs (Z : State) (a1 : Addr) (a2 : Addr) (h0 : Heap) (n0 : Nat) (v : Option Value) (h : Heap) (L : List Loc) : Prop := v = some (.ref a2) ∧ Fr n0 L ∧ h = h0
theorem ef_rmGs (m : MethodId) (x0 : Addr) : entryFrame m #[(.ref x0)] 1 = mkF m 0 #[.val (.ref x0)] [] := by first | (simp [entryFrame, mkF, argsToLocals, Value.category]; done) | rfl
theorem d_prog_68_m11_0 : decode prog_68_method_11_code 0 = .ok (.aload_n 0, 1) := by decide +kernel
theorem d_prog_68_m11_1 : decode prog_68_method_11_code 1 = .ok (.getfield 7, 3) := by decide +kernel
theorem d_prog_68_m11_4 : decode prog_68_method_11_code 4 = .ok (.areturn, 1) := by decide +kernel
set_option maxRecDepth 65536 in
set_option maxHeartbeats 40000000 in
theorem rmGs (l : Launch) (Z : State) (a0 : Array Value) (hw : ∀ d ∈ tables_1, d.before a0 Z = true) (ws : List Jvm.Cond) (a1 : Addr) (a2 : Addr) (h0 : Heap) (n0 : Nat) (Z0 : n0 ≤ h0.size) (F1 : Fld Z h0 a1 "com/example/depeche/depeche/profile/Path" "segment" "Ljava/lang/String;" (.ref a2)) :
    MetFree l (⟨"com/example/depeche/depeche/profile/Path", "segment", "()Ljava/lang/String;"⟩ : MethodName) (head1 (Jvm.Cond.code (⟨"com/example/depeche/depeche/profile/Path", "segment", "()Ljava/lang/String;"⟩ : MethodName) prog_68_method_11_code 1 (some (.object "java/lang/String")) :: ws) ({ frames := 0, cells := 0, slots := 0, locals := 0 } : Room)) (fun a U => a = #[(.ref a1)] ∧ Z.Warmed39 U.vm ∧ U.heap = h0) (fun _ _ _ _ _ => True) (fun _ U o U' => ∃ v L, o = .returned v ∧ Q_rmGs Z a1 a2 h0 n0 v U'.heap L ∧ FrameEnd U o U' L ({ frames := 0, cells := 0, slots := 0, locals := 0 } : Room).cells ({ frames := 0, cells := 0, slots := 0, locals := 0 } : Room).slots) := by
  refine MetFree.of_bodySF (plainFor_of_name pn_com_example_depeche_depeche_profile_Path) hisR ?_
  intro p e s m args below meth c s₁ Bd hml0 hP hK
  obtain ⟨rfl, hZ, hh⟩ := hP
  have hx := Bd.exec
  have hby := Bd.bytes
  have hlk := BodyLoose.notSynchronized Bd
  have hml : c.maxLocals = 1 := hml0
  have hown : s.vm.findClass "com/example/depeche/depeche/profile/Path" = some m.cls := findClass_of_methodNamed Bd.named
  have hnm := (name_of_methodNamed Bd.named Bd.method).1
  have X0 : Stand p l e ({ frames := 0, cells := 0, slots := 0, locals := 0 } : Room) s m #[(.ref a1)] below meth c s₁ [] 0 0 := Stand.of_body Bd
  have e0 : s₁.heap = h0 := by rw [← hh, Bd.state]; rfl
  have N0 := Fr.nil n0
  have K0 := Keep.refl h0 []
  clear hh
  show Wk p e below s (Q_rmGs Z a1 a2 h0 n0) ({ frames := 0, cells := 0, slots := 0, locals := 0 } : Room).cells ({ frames := 0, cells := 0, slots := 0, locals := 0 } : Room).slots s₁ (entryFrame m #[(.ref a1)] 1)
  rw [ef_rmGs]
  have lt_F1 := ny F1.lt
  refine Wk.aloadN X0 hx (hb hby d_prog_68_m11_0) (n := 1) rfl rfl rfl ?_
  refine Wk.getF X0 hx hZ hown (host := "") (Or.inl (hw _ (List.mem_of_getElem? (i := 48) rfl))) Via.refl e0 F1 (hb hby d_prog_68_m11_1) (n := 4) rfl fun T1 X1 e1 => ?_
  exact Wk.leave X1 (v := some (.ref a2)) (fun h => by rw [Bd.returns] at h; cases h) hlk e1 ⟨rfl, N0, rfl⟩ (by decide) (by decide) (fun fs hr => retA X1 hx rfl Bd.returns rfl (hb hby d_prog_68_m11_4) hr)
def Q_rmGf (Z : State) (a1 : Addr) (p1 : Int32) (h0 : Heap) (n0 : Nat) (v : Option Value) (h : Heap) (L : List Loc) : Prop := v = some (.int p1) ∧ Fr n0 L ∧ h = h0
theorem ef_rmGf (m : MethodId) (x0 : Addr) : entryFrame m #[(.ref x0)] 1 = mkF m 0 #[.val (.ref x0)] [] := by first | (simp [entryFrame, mkF, argsToLocals, Value.category]; done) | rfl
theorem d_prog_68_m12_0 : decode prog_68_method_12_code 0 = .ok (.aload_n 0, 1) := by decide +kernel
theorem d_prog_68_m12_1 : decode prog_68_method_12_code 1 = .ok (.getfield 13, 3) := by decide +kernel
theorem d_prog_68_m12_4 : decode prog_68_method_12_code 4 = .ok (.ireturn, 1) := by decide +kernel
set_option maxRecDepth 65536 in
set_option maxHeartbeats 40000000 in
theorem rmGf (l : Launch) (Z : State) (a0 : Array Value) (hw : ∀ d ∈ tables_1, d.before a0 Z = true) (ws : List Jvm.Cond) (a1 : Addr) (p1 : Int32) (h0 : Heap) (n0 : Nat) (Z0 : n0 ≤ h0.size) (F1 : Fld Z h0 a1 "com/example/depeche/depeche/profile/Path" "field" "I" (.int p1)) :
    MetFree l (⟨"com/example/depeche/depeche/profile/Path", "field", "()I"⟩ : MethodName) (head1 (Jvm.Cond.code (⟨"com/example/depeche/depeche/profile/Path", "field", "()I"⟩ : MethodName) prog_68_method_12_code 1 (some .int) :: ws) ({ frames := 0, cells := 0, slots := 0, locals := 0 } : Room)) (fun a U => a = #[(.ref a1)] ∧ Z.Warmed39 U.vm ∧ U.heap = h0) (fun _ _ _ _ _ => True) (fun _ U o U' => ∃ v L, o = .returned v ∧ Q_rmGf Z a1 p1 h0 n0 v U'.heap L ∧ FrameEnd U o U' L ({ frames := 0, cells := 0, slots := 0, locals := 0 } : Room).cells ({ frames := 0, cells := 0, slots := 0, locals := 0 } : Room).slots) := by
  refine MetFree.of_bodySF (plainFor_of_name pn_com_example_depeche_depeche_profile_Path) hisR ?_
  intro p e s m args below meth c s₁ Bd hml0 hP hK
  obtain ⟨rfl, hZ, hh⟩ := hP
  have hx := Bd.exec
  have hby := Bd.bytes
  have hlk := BodyLoose.notSynchronized Bd
  have hml : c.maxLocals = 1 := hml0
  have hown : s.vm.findClass "com/example/depeche/depeche/profile/Path" = some m.cls := findClass_of_methodNamed Bd.named
  have hnm := (name_of_methodNamed Bd.named Bd.method).1
  have X0 : Stand p l e ({ frames := 0, cells := 0, slots := 0, locals := 0 } : Room) s m #[(.ref a1)] below meth c s₁ [] 0 0 := Stand.of_body Bd
  have e0 : s₁.heap = h0 := by rw [← hh, Bd.state]; rfl
  have N0 := Fr.nil n0
  have K0 := Keep.refl h0 []
  clear hh
  show Wk p e below s (Q_rmGf Z a1 p1 h0 n0) ({ frames := 0, cells := 0, slots := 0, locals := 0 } : Room).cells ({ frames := 0, cells := 0, slots := 0, locals := 0 } : Room).slots s₁ (entryFrame m #[(.ref a1)] 1)
  rw [ef_rmGf]
  have lt_F1 := ny F1.lt
  refine Wk.aloadN X0 hx (hb hby d_prog_68_m12_0) (n := 1) rfl rfl rfl ?_
  refine Wk.getF X0 hx hZ hown (host := "") (Or.inl (hw _ (List.mem_of_getElem? (i := 50) rfl))) Via.refl e0 F1 (hb hby d_prog_68_m12_1) (n := 4) rfl fun T1 X1 e1 => ?_
  exact Wk.leave X1 (v := some (.int p1)) (fun h => by rw [Bd.returns] at h; cases h) hlk e1 ⟨rfl, N0, rfl⟩ (by decide) (by decide) (fun fs hr => retI X1 hx Bd.returns (hb hby d_prog_68_m12_4) hr)
def Q_rmGc (Z : State) (a1 : Addr) (p1 : Int32) (h0 : Heap) (n0 : Nat) (v : Option Value) (h : Heap) (L : List Loc) : Prop := v = some (.int p1) ∧ Fr n0 L ∧ h = h0
theorem ef_rmGc (m : MethodId) (x0 : Addr) : entryFrame m #[(.ref x0)] 1 = mkF m 0 #[.val (.ref x0)] [] := by first | (simp [entryFrame, mkF, argsToLocals, Value.category]; done) | rfl
theorem d_prog_68_m13_0 : decode prog_68_method_13_code 0 = .ok (.aload_n 0, 1) := by decide +kernel
theorem d_prog_68_m13_1 : decode prog_68_method_13_code 1 = .ok (.getfield 17, 3) := by decide +kernel
theorem d_prog_68_m13_4 : decode prog_68_method_13_code 4 = .ok (.ireturn, 1) := by decide +kernel
set_option maxRecDepth 65536 in
set_option maxHeartbeats 40000000 in
theorem rmGc (l : Launch) (Z : State) (a0 : Array Value) (hw : ∀ d ∈ tables_1, d.before a0 Z = true) (ws : List Jvm.Cond) (a1 : Addr) (p1 : Int32) (h0 : Heap) (n0 : Nat) (Z0 : n0 ≤ h0.size) (F1 : Fld Z h0 a1 "com/example/depeche/depeche/profile/Path" "component" "I" (.int p1)) :
    MetFree l (⟨"com/example/depeche/depeche/profile/Path", "component", "()I"⟩ : MethodName) (head1 (Jvm.Cond.code (⟨"com/example/depeche/depeche/profile/Path", "component", "()I"⟩ : MethodName) prog_68_method_13_code 1 (some .int) :: ws) ({ frames := 0, cells := 0, slots := 0, locals := 0 } : Room)) (fun a U => a = #[(.ref a1)] ∧ Z.Warmed39 U.vm ∧ U.heap = h0) (fun _ _ _ _ _ => True) (fun _ U o U' => ∃ v L, o = .returned v ∧ Q_rmGc Z a1 p1 h0 n0 v U'.heap L ∧ FrameEnd U o U' L ({ frames := 0, cells := 0, slots := 0, locals := 0 } : Room).cells ({ frames := 0, cells := 0, slots := 0, locals := 0 } : Room).slots) := by
  refine MetFree.of_bodySF (plainFor_of_name pn_com_example_depeche_depeche_profile_Path) hisR ?_
  intro p e s m args below meth c s₁ Bd hml0 hP hK
  obtain ⟨rfl, hZ, hh⟩ := hP
  have hx := Bd.exec
  have hby := Bd.bytes
  have hlk := BodyLoose.notSynchronized Bd
  have hml : c.maxLocals = 1 := hml0
  have hown : s.vm.findClass "com/example/depeche/depeche/profile/Path" = some m.cls := findClass_of_methodNamed Bd.named
  have hnm := (name_of_methodNamed Bd.named Bd.method).1
  have X0 : Stand p l e ({ frames := 0, cells := 0, slots := 0, locals := 0 } : Room) s m #[(.ref a1)] below meth c s₁ [] 0 0 := Stand.of_body Bd
  have e0 : s₁.heap = h0 := by rw [← hh, Bd.state]; rfl
  have N0 := Fr.nil n0
  have K0 := Keep.refl h0 []
  clear hh
  show Wk p e below s (Q_rmGc Z a1 p1 h0 n0) ({ frames := 0, cells := 0, slots := 0, locals := 0 } : Room).cells ({ frames := 0, cells := 0, slots := 0, locals := 0 } : Room).slots s₁ (entryFrame m #[(.ref a1)] 1)
  rw [ef_rmGc]
  have lt_F1 := ny F1.lt
  refine Wk.aloadN X0 hx (hb hby d_prog_68_m13_0) (n := 1) rfl rfl rfl ?_
  refine Wk.getF X0 hx hZ hown (host := "") (Or.inl (hw _ (List.mem_of_getElem? (i := 52) rfl))) Via.refl e0 F1 (hb hby d_prog_68_m13_1) (n := 4) rfl fun T1 X1 e1 => ?_
  exact Wk.leave X1 (v := some (.int p1)) (fun h => by rw [Bd.returns] at h; cases h) hlk e1 ⟨rfl, N0, rfl⟩ (by decide) (by decide) (fun fs hr => retI X1 hx Bd.returns (hb hby d_prog_68_m13_4) hr)
def Q_rmEq (Z : State) (a1 : Addr) (h0 : Heap) (n0 : Nat) (v : Option Value) (h : Heap) (L : List Loc) : Prop := v = some (.int (1 : Int32)) ∧ Fr n0 L ∧ h = h0
theorem ef_rmEq (m : MethodId) (x0 : Addr) (x1 : Addr) : entryFrame m #[(.ref x0), (.ref x1)] 3 = mkF m 0 #[.val (.ref x0), .val (.ref x1), .unset] [] := by first | (simp [entryFrame, mkF, argsToLocals, Value.category]; done) | rfl
theorem pn_java_lang_String : plainName "java/lang/String" = true := by first | (simp [plainName, overriddenIn]; done) | decide +kernel
theorem d_jdk_42_m66_0 : decode jdk_42_method_66_code 0 = .ok (.aload_n 0, 1) := by decide +kernel
theorem d_jdk_42_m66_1 : decode jdk_42_method_66_code 1 = .ok (.aload_n 1, 1) := by decide +kernel
theorem d_jdk_42_m66_2 : decode jdk_42_method_66_code 2 = .ok (.if_acmp .ne 5, 3) := by decide +kernel
theorem d_jdk_42_m66_5 : decode jdk_42_method_66_code 5 = .ok (.iconst 1, 1) := by decide +kernel
theorem d_jdk_42_m66_6 : decode jdk_42_method_66_code 6 = .ok (.ireturn, 1) := by decide +kernel
set_option maxRecDepth 65536 in
set_option maxHeartbeats 40000000 in
theorem rmEq (l : Launch) (Z : State) (a0 : Array Value) (hw : ∀ d ∈ tables_1, d.before a0 Z = true) (ws : List Jvm.Cond) (a1 : Addr) (h0 : Heap) (n0 : Nat) (Z0 : n0 ≤ h0.size) :
    MetFree l (⟨"java/lang/String", "equals", "(Ljava/lang/Object;)Z"⟩ : MethodName) (head1 (Jvm.Cond.code (⟨"java/lang/String", "equals", "(Ljava/lang/Object;)Z"⟩ : MethodName) jdk_42_method_66_code 3 (some .boolean) :: ws) ({ frames := 0, cells := 0, slots := 0, locals := 0 } : Room)) (fun a U => a = #[(.ref a1), (.ref a1)] ∧ Z.Warmed39 U.vm ∧ U.heap = h0) (fun _ _ _ _ _ => True) (fun _ U o U' => ∃ v L, o = .returned v ∧ Q_rmEq Z a1 h0 n0 v U'.heap L ∧ FrameEnd U o U' L ({ frames := 0, cells := 0, slots := 0, locals := 0 } : Room).cells ({ frames := 0, cells := 0, slots := 0, locals := 0 } : Room).slots) := by
  refine MetFree.of_bodySF (plainFor_of_name pn_java_lang_String) hisR ?_
  intro p e s m args below meth c s₁ Bd hml0 hP hK
  obtain ⟨rfl, hZ, hh⟩ := hP
  have hx := Bd.exec
  have hby := Bd.bytes
  have hlk := BodyLoose.notSynchronized Bd
  have hml : c.maxLocals = 3 := hml0
  have hown : s.vm.findClass "java/lang/String" = some m.cls := findClass_of_methodNamed Bd.named
  have hnm := (name_of_methodNamed Bd.named Bd.method).1
  have X0 : Stand p l e ({ frames := 0, cells := 0, slots := 0, locals := 0 } : Room) s m #[(.ref a1), (.ref a1)] below meth c s₁ [] 0 0 := Stand.of_body Bd
  have e0 : s₁.heap = h0 := by rw [← hh, Bd.state]; rfl
  have N0 := Fr.nil n0
  have K0 := Keep.refl h0 []
  clear hh
  show Wk p e below s (Q_rmEq Z a1 h0 n0) ({ frames := 0, cells := 0, slots := 0, locals := 0 } : Room).cells ({ frames := 0, cells := 0, slots := 0, locals := 0 } : Room).slots s₁ (entryFrame m #[(.ref a1), (.ref a1)] 3)
  rw [ef_rmEq]
  refine Wk.aloadN X0 hx (hb hby d_jdk_42_m66_0) (n := 1) rfl rfl rfl ?_
  refine Wk.aloadN X0 hx (hb hby d_jdk_42_m66_1) (n := 2) rfl rfl rfl ?_
  refine Wk.acmp X0 hx rfl rfl (hb hby d_jdk_42_m66_2) (same := true) (decide_eq_true rfl) (by decide) (n := 5) (by decide) ?_
  refine Wk.iconst X0 hx (hb hby d_jdk_42_m66_5) (n := 6) rfl (z := (1 : Int32)) rfl ?_
  exact Wk.leave X0 (v := some (.int (1 : Int32))) (fun h => by rw [Bd.returns] at h; cases h) hlk e0 ⟨rfl, N0, rfl⟩ (by decide) (by decide) (fun fs hr => retNz X0 hx (t := .boolean) rfl Bd.returns (by simp) (hb hby d_jdk_42_m66_6) hr)
def Q_rmCE (Z : State) (p1 : Int32) (h0 : Heap) (n0 : Nat) (v : Option Value) (h : Heap) (L : List Loc) : Prop := v = some (.int (1 : Int32)) ∧ Fr n0 L ∧ h = h0
theorem ef_rmCE (m : MethodId) (x0 : Int32) : entryFrame m #[(.int x0)] 1 = mkF m 0 #[.val (.int x0)] [] := by first | (simp [entryFrame, mkF, argsToLocals, Value.category]; done) | rfl
theorem pn_java_lang_StringLatin1 : plainName "java/lang/StringLatin1" = true := by first | (simp [plainName, overriddenIn]; done) | decide +kernel
theorem d_jdk_43_m3_0 : decode jdk_43_method_3_code 0 = .ok (.iload_n 0, 1) := by decide +kernel
theorem d_jdk_43_m3_1 : decode jdk_43_method_3_code 1 = .ok (.sipush 255, 3) := by decide +kernel
theorem d_jdk_43_m3_4 : decode jdk_43_method_3_code 4 = .ok (.if_icmp .gt 7, 3) := by decide +kernel
theorem d_jdk_43_m3_7 : decode jdk_43_method_3_code 7 = .ok (.iconst 1, 1) := by decide +kernel
theorem d_jdk_43_m3_8 : decode jdk_43_method_3_code 8 = .ok (.goto 4, 3) := by decide +kernel
theorem d_jdk_43_m3_12 : decode jdk_43_method_3_code 12 = .ok (.ireturn, 1) := by decide +kernel
set_option maxRecDepth 65536 in
set_option maxHeartbeats 40000000 in
theorem rmCE (l : Launch) (Z : State) (a0 : Array Value) (hw : ∀ d ∈ tables_1, d.before a0 Z = true) (ws : List Jvm.Cond) (p1 : Int32) (h0 : Heap) (n0 : Nat) (Z0 : n0 ≤ h0.size) (h1 : ¬ (255 : Int32) < p1) :
    MetFree l (⟨"java/lang/StringLatin1", "canEncode", "(C)Z"⟩ : MethodName) (head1 (Jvm.Cond.code (⟨"java/lang/StringLatin1", "canEncode", "(C)Z"⟩ : MethodName) jdk_43_method_3_code 1 (some .boolean) :: ws) ({ frames := 0, cells := 0, slots := 0, locals := 0 } : Room)) (fun a U => a = #[(.int p1)] ∧ Z.Warmed39 U.vm ∧ U.heap = h0) (fun _ _ _ _ _ => True) (fun _ U o U' => ∃ v L, o = .returned v ∧ Q_rmCE Z p1 h0 n0 v U'.heap L ∧ FrameEnd U o U' L ({ frames := 0, cells := 0, slots := 0, locals := 0 } : Room).cells ({ frames := 0, cells := 0, slots := 0, locals := 0 } : Room).slots) := by
  refine MetFree.of_bodySF (plainFor_of_name pn_java_lang_StringLatin1) hisR ?_
  intro p e s m args below meth c s₁ Bd hml0 hP hK
  obtain ⟨rfl, hZ, hh⟩ := hP
  have hx := Bd.exec
  have hby := Bd.bytes
  have hlk := BodyLoose.notSynchronized Bd
  have hml : c.maxLocals = 1 := hml0
  have hown : s.vm.findClass "java/lang/StringLatin1" = some m.cls := findClass_of_methodNamed Bd.named
  have hnm := (name_of_methodNamed Bd.named Bd.method).1
  have X0 : Stand p l e ({ frames := 0, cells := 0, slots := 0, locals := 0 } : Room) s m #[(.int p1)] below meth c s₁ [] 0 0 := Stand.of_body Bd
  have e0 : s₁.heap = h0 := by rw [← hh, Bd.state]; rfl
  have N0 := Fr.nil n0
  have K0 := Keep.refl h0 []
  clear hh
  show Wk p e below s (Q_rmCE Z p1 h0 n0) ({ frames := 0, cells := 0, slots := 0, locals := 0 } : Room).cells ({ frames := 0, cells := 0, slots := 0, locals := 0 } : Room).slots s₁ (entryFrame m #[(.int p1)] 1)
  rw [ef_rmCE]
  refine Wk.iloadN X0 hx (hb hby d_jdk_43_m3_0) (n := 1) rfl rfl ?_
  refine Wk.sipush X0 hx (hb hby d_jdk_43_m3_1) (n := 4) rfl (z := (255 : Int32)) rfl ?_
  have hc4_1 : ¬ ((255 : Int32) < p1) := h1
  refine Wk.icmpNo X0 hx (hb hby d_jdk_43_m3_4) (n := 7) rfl (flt hc4_1).2.2.1 ?_
  refine Wk.iconst X0 hx (hb hby d_jdk_43_m3_7) (n := 8) rfl (z := (1 : Int32)) rfl ?_
  refine Wk.goto X0 hx (hb hby d_jdk_43_m3_8) (by decide) (n := 12) (by decide) ?_
  exact Wk.leave X0 (v := some (.int (1 : Int32))) (fun h => by rw [Bd.returns] at h; cases h) hlk e0 ⟨rfl, N0, rfl⟩ (by decide) (by decide) (fun fs hr => retNz X0 hx (t := .boolean) rfl Bd.returns (by simp) (hb hby d_jdk_43_m3_12) hr)
def Q_rmTB (Z : State) (p1 : Int32) (h0 : Heap) (n0 : Nat) (v : Option Value) (h : Heap) (L : List Loc) : Prop := ∃ (t : Addr) (kb : ClassId), v = some (.ref t) ∧ Fr n0 L ∧ Keep h0 h [] ∧ Arv Z h t kb .byte (1 : Int32) [(.int p1.toInt8.toInt32)] (.int (0 : Int32)) ∧ (h0.size ≤ t)
theorem ef_rmTB (m : MethodId) (x0 : Int32) : entryFrame m #[(.int x0)] 1 = mkF m 0 #[.val (.int x0)] [] := by first | (simp [entryFrame, mkF, argsToLocals, Value.category]; done) | rfl
theorem d_jdk_43_m46_0 : decode jdk_43_method_46_code 0 = .ok (.iconst 1, 1) := by decide +kernel
theorem d_jdk_43_m46_1 : decode jdk_43_method_46_code 1 = .ok (.newarray .byte, 2) := by decide +kernel
theorem d_jdk_43_m46_3 : decode jdk_43_method_46_code 3 = .ok (.dup, 1) := by decide +kernel
theorem d_jdk_43_m46_4 : decode jdk_43_method_46_code 4 = .ok (.iconst 0, 1) := by decide +kernel
theorem d_jdk_43_m46_5 : decode jdk_43_method_46_code 5 = .ok (.iload_n 0, 1) := by decide +kernel
theorem d_jdk_43_m46_6 : decode jdk_43_method_46_code 6 = .ok (.i2b, 1) := by decide +kernel
theorem d_jdk_43_m46_7 : decode jdk_43_method_46_code 7 = .ok (.bastore, 1) := by decide +kernel
theorem d_jdk_43_m46_8 : decode jdk_43_method_46_code 8 = .ok (.areturn, 1) := by decide +kernel
set_option maxRecDepth 65536 in
set_option maxHeartbeats 40000000 in
theorem rmTB (l : Launch) (Z : State) (a0 : Array Value) (hw : ∀ d ∈ tables_1, d.before a0 Z = true) (ws : List Jvm.Cond) (p1 : Int32) (h0 : Heap) (n0 : Nat) (Z0 : n0 ≤ h0.size) :
    MetFree l (⟨"java/lang/StringLatin1", "toBytes", "(C)[B"⟩ : MethodName) (head1 (Jvm.Cond.code (⟨"java/lang/StringLatin1", "toBytes", "(C)[B"⟩ : MethodName) jdk_43_method_46_code 1 (some (.array .byte)) :: ws) ({ frames := 0, cells := 1, slots := 1, locals := 0 } : Room)) (fun a U => a = #[(.int p1)] ∧ Z.Warmed39 U.vm ∧ U.heap = h0) (fun _ _ _ _ _ => True) (fun _ U o U' => ∃ v L, o = .returned v ∧ Q_rmTB Z p1 h0 n0 v U'.heap L ∧ FrameEnd U o U' L ({ frames := 0, cells := 1, slots := 1, locals := 0 } : Room).cells ({ frames := 0, cells := 1, slots := 1, locals := 0 } : Room).slots) := by
  refine MetFree.of_bodySF (plainFor_of_name pn_java_lang_StringLatin1) hisR ?_
  intro p e s m args below meth c s₁ Bd hml0 hP hK
  obtain ⟨rfl, hZ, hh⟩ := hP
  have hx := Bd.exec
  have hby := Bd.bytes
  have hlk := BodyLoose.notSynchronized Bd
  have hml : c.maxLocals = 1 := hml0
  have hown : s.vm.findClass "java/lang/StringLatin1" = some m.cls := findClass_of_methodNamed Bd.named
  have hnm := (name_of_methodNamed Bd.named Bd.method).1
  have X0 : Stand p l e ({ frames := 0, cells := 1, slots := 1, locals := 0 } : Room) s m #[(.int p1)] below meth c s₁ [] 0 0 := Stand.of_body Bd
  have e0 : s₁.heap = h0 := by rw [← hh, Bd.state]; rfl
  have N0 := Fr.nil n0
  have K0 := Keep.refl h0 []
  clear hh
  show Wk p e below s (Q_rmTB Z p1 h0 n0) ({ frames := 0, cells := 1, slots := 1, locals := 0 } : Room).cells ({ frames := 0, cells := 1, slots := 1, locals := 0 } : Room).slots s₁ (entryFrame m #[(.int p1)] 1)
  rw [ef_rmTB]
  refine Wk.iconst X0 hx (hb hby d_jdk_43_m46_0) (n := 1) rfl (z := (1 : Int32)) rfl ?_
  refine Wk.newP X0 hx hZ (hw _ (List.mem_of_getElem? (i := 19) rfl)) e0 (hb hby d_jdk_43_m46_1) (n := 3) rfl (by decide) (cap := 1) (by decide) (by decide) (by decide) (by decide) fun T1 H1 b1 k1 gn1 X1 e1 Ex1 An1 => ?_
  have gn1 := nx gn1
  have sz1 := Ex1.1
  have K1 := K0.ext Ex1
  have Vn1 : Arv Z H1 b1 k1 .byte (1 : Int32) [(.int (0 : Int32))] (.int (0 : Int32)) := (Arv.new An1 (by decide)).pad (pad_rep [] (.int (0 : Int32)) 1)
  have lt1 := ny Vn1.lt
  refine Wk.dup X1 hx (hb hby d_jdk_43_m46_3) (n := 4) rfl rfl ?_
  refine Wk.iconst X1 hx (hb hby d_jdk_43_m46_4) (n := 5) rfl (z := (0 : Int32)) rfl ?_
  refine Wk.iloadN X1 hx (hb hby d_jdk_43_m46_5) (n := 6) rfl rfl ?_
  refine Wk.i2b X1 hx (hb hby d_jdk_43_m46_6) (n := 7) rfl ?_
  obtain ⟨cl2, Ar2, qn2, Sz2, N_2, H_2, Gn2⟩ := id Vn1
  have hin2 : ¬ ((0 : Int32) < 0 ∨ cl2.slots.size ≤ ((0 : Int32)).toNatClampNeg) := inb_of Sz2 ⟨by decide, by decide⟩
  refine Wk.stB X1 hx hZ e1 Ar2 hin2 (hb hby d_jdk_43_m46_7) (n := 8) rfl fun T2 H2 X2 e2 Wn2 => ?_
  have Vn2 := Arv.set Ar2 qn2 Sz2 N_2 H_2 Gn2 (fits_nar_byte _) Wn2 0 rfl (Nat.le_of_ble_eq_true rfl)
  have Un2 : Arv Z H2 b1 k1 .byte (1 : Int32) [(.int p1.toInt8.toInt32)] (.int (0 : Int32)) := (by have q := Vn2; rw [show p1.toInt8.toInt32.toInt8.toInt32 = p1.toInt8.toInt32 from own_narb p1] at q; exact q)
  have sz2 := Wn2.size
  have K2 := K1.wr Wn2 (Or.inr (by omega))
  have N2 := Fr.snoc X2 N0 (by omega)
  exact Wk.leave X2 (v := some (.ref b1)) (fun h => by rw [Bd.returns] at h; cases h) hlk e2 ⟨b1, k1, rfl, N2, K2, Un2, (by omega)⟩ (by decide) (by decide) (fun fs hr => retA X2 hx rfl Bd.returns rfl (hb hby d_jdk_43_m46_8) hr)
def Q_rmSI (Z : State) (a1 : Addr) (a2 : Addr) (p1 : Int32) (u1 : Value) (u2 : Value) (h0 : Heap) (n0 : Nat) (v : Option Value) (h : Heap) (L : List Loc) : Prop := v = none ∧ Fr n0 L ∧ Keep h0 h [a1] ∧ Exa Z h a1 "java/lang/String" ∧ Fld Z h a1 "java/lang/String" "value" "[B" (.ref a2) ∧ Fld Z h a1 "java/lang/String" "coder" "B" (.int p1)
theorem ef_rmSI (m : MethodId) (x0 : Addr) (x1 : Addr) (x2 : Int32) : entryFrame m #[(.ref x0), (.ref x1), (.int x2)] 3 = mkF m 0 #[.val (.ref x0), .val (.ref x1), .val (.int x2)] [] := by first | (simp [entryFrame, mkF, argsToLocals, Value.category]; done) | rfl
theorem d_jdk_42_m151_0 : decode jdk_42_method_151_code 0 = .ok (.aload_n 0, 1) := by decide +kernel
theorem d_jdk_42_m151_1 : decode jdk_42_method_151_code 1 = .ok (.invokespecial 1, 3) := by decide +kernel
theorem d_jdk_42_m151_4 : decode jdk_42_method_151_code 4 = .ok (.aload_n 0, 1) := by decide +kernel
theorem d_jdk_42_m151_5 : decode jdk_42_method_151_code 5 = .ok (.aload_n 1, 1) := by decide +kernel
theorem d_jdk_42_m151_6 : decode jdk_42_method_151_code 6 = .ok (.putfield 9, 3) := by decide +kernel
theorem d_jdk_42_m151_9 : decode jdk_42_method_151_code 9 = .ok (.aload_n 0, 1) := by decide +kernel
theorem d_jdk_42_m151_10 : decode jdk_42_method_151_code 10 = .ok (.iload_n 2, 1) := by decide +kernel
theorem d_jdk_42_m151_11 : decode jdk_42_method_151_code 11 = .ok (.putfield 15, 3) := by decide +kernel
theorem d_jdk_42_m151_14 : decode jdk_42_method_151_code 14 = .ok (.return_, 1) := by decide +kernel
set_option maxRecDepth 65536 in
set_option maxHeartbeats 40000000 in
theorem rmSI (l : Launch) (Z : State) (a0 : Array Value) (hw : ∀ d ∈ tables_1, d.before a0 Z = true) (ws : List Jvm.Cond) (a1 : Addr) (a2 : Addr) (p1 : Int32) (u1 : Value) (u2 : Value) (h0 : Heap) (n0 : Nat) (Z0 : n0 ≤ h0.size) (E1 : Exa Z h0 a1 "java/lang/String") (F1 : Fld Z h0 a1 "java/lang/String" "value" "[B" u1) (F2 : Fld Z h0 a1 "java/lang/String" "coder" "B" u2) (g1 : n0 ≤ a1) (hb1 : nar .byte p1 = p1) :
    MetFree l (⟨"java/lang/String", "<init>", "([BB)V"⟩ : MethodName) (head1 (Jvm.Cond.code (⟨"java/lang/String", "<init>", "([BB)V"⟩ : MethodName) jdk_42_method_151_code 3 none :: ws) ({ frames := 1, cells := 0, slots := 0, locals := 12 } : Room)) (fun a U => a = #[(.ref a1), (.ref a2), (.int p1)] ∧ Z.Warmed39 U.vm ∧ U.heap = h0) (fun _ _ _ _ _ => True) (fun _ U o U' => ∃ v L, o = .returned v ∧ Q_rmSI Z a1 a2 p1 u1 u2 h0 n0 v U'.heap L ∧ FrameEnd U o U' L ({ frames := 1, cells := 0, slots := 0, locals := 12 } : Room).cells ({ frames := 1, cells := 0, slots := 0, locals := 12 } : Room).slots) := by
  refine MetFree.of_bodySF (plainFor_of_name pn_java_lang_String) hisR ?_
  intro p e s m args below meth c s₁ Bd hml0 hP hK
  obtain ⟨rfl, hZ, hh⟩ := hP
  have hx := Bd.exec
  have hby := Bd.bytes
  have hlk := BodyLoose.notSynchronized Bd
  have hml : c.maxLocals = 3 := hml0
  have hown : s.vm.findClass "java/lang/String" = some m.cls := findClass_of_methodNamed Bd.named
  have hnm := (name_of_methodNamed Bd.named Bd.method).1
  have X0 : Stand p l e ({ frames := 1, cells := 0, slots := 0, locals := 12 } : Room) s m #[(.ref a1), (.ref a2), (.int p1)] below meth c s₁ [] 0 0 := Stand.of_body Bd
  have e0 : s₁.heap = h0 := by rw [← hh, Bd.state]; rfl
  have N0 := Fr.nil n0
  have K0 := Keep.refl h0 [a1]
  clear hh
  show Wk p e below s (Q_rmSI Z a1 a2 p1 u1 u2 h0 n0) ({ frames := 1, cells := 0, slots := 0, locals := 12 } : Room).cells ({ frames := 1, cells := 0, slots := 0, locals := 12 } : Room).slots s₁ (entryFrame m #[(.ref a1), (.ref a2), (.int p1)] 3)
  rw [ef_rmSI]
  have lt_E1 := ny E1.lt
  have lt_F1 := ny F1.lt
  have lt_F2 := ny F2.lt
  refine Wk.aloadN X0 hx (hb hby d_jdk_42_m151_0) (n := 1) rfl rfl rfl ?_
  refine Wk.initO X0 hx hZ hown (hw _ (List.mem_of_getElem? (i := 11) rfl)) (hw _ (List.mem_of_getElem? (i := 12) rfl)) (hw _ (List.mem_of_getElem? (i := 13) rfl)) e0 (by rw [hml]; rfl) (hb hby d_jdk_42_m151_1) (n := 4) rfl (by decide) (w := 0) (Nat.le_of_eq rfl) (by decide) fun T1 X1 e1 => ?_
  refine Wk.aloadN X1 hx (hb hby d_jdk_42_m151_4) (n := 5) rfl rfl rfl ?_
  refine Wk.aloadN X1 hx (hb hby d_jdk_42_m151_5) (n := 6) rfl rfl rfl ?_
  refine Wk.putF X1 hx hZ hown (host := "") (Or.inl (hw _ (List.mem_of_getElem? (i := 28) rfl))) Via.refl e1 F1 E1 (Or.inr ⟨(hw _ (List.mem_of_getElem? (i := 29) rfl)), rfl, hnm⟩) (hw _ (List.mem_of_getElem? (i := 2) rfl)) (ty := (.array .byte)) (by decide) rfl rfl (hb hby d_jdk_42_m151_6) (n := 9) rfl fun T2 H2 X2 e2 Wn2 => ?_
  have sz2 := Wn2.size
  have Fn2 := F1.same Wn2
  have K2 := K0.wr Wn2 (Or.inl (List.mem_of_getElem? (i := 0) rfl))
  have N2 := Fr.snoc X2 N0 (by omega)
  refine Wk.aloadN X2 hx (hb hby d_jdk_42_m151_9) (n := 10) rfl rfl rfl ?_
  refine Wk.iloadN X2 hx (hb hby d_jdk_42_m151_10) (n := 11) rfl rfl ?_
  have f3 := (F2.other Wn2 (Or.inr (slot_ne (Or.inr (hw _ (List.mem_of_getElem? (i := 27) rfl))) (Or.inr (hw _ (List.mem_of_getElem? (i := 29) rfl))) (by decide) (t := .byte) (t' := (.array .byte)) (by decide) (by decide))))
  have f4 := (E1.wr Wn2)
  refine Wk.putFN X2 hx hZ hown (hw _ (List.mem_of_getElem? (i := 26) rfl)) Via.refl e2 f3 f4 (Or.inr ⟨(hw _ (List.mem_of_getElem? (i := 27) rfl)), rfl, hnm⟩) (hw _ (List.mem_of_getElem? (i := 2) rfl)) (ty := .byte) (by decide) (v' := (.int p1)) (congrArg Value.int hb1) (own_fitb hb1) (hb hby d_jdk_42_m151_11) (n := 14) rfl fun T5 H5 X5 e5 Wn5 => ?_
  have sz5 := Wn5.size
  have Fn5 := f3.same Wn5
  have K5 := K2.wr Wn5 (Or.inl (List.mem_of_getElem? (i := 0) rfl))
  have N5 := Fr.snoc X5 N2 (by omega)
  have f6 := (f4.wr Wn5)
  have f7 := (Fn2.other Wn5 (Or.inr (slot_ne (Or.inr (hw _ (List.mem_of_getElem? (i := 29) rfl))) (Or.inr (hw _ (List.mem_of_getElem? (i := 27) rfl))) (by decide) (t := (.array .byte)) (t' := .byte) (by decide) (by decide))))
  exact Wk.leave X5 (v := none) (fun _ => rfl) hlk e5 ⟨rfl, N5, K5, f6, f7, Fn5⟩ (by decide) (by decide) (fun fs hr => X5.returnOut hx Bd.returns (hb hby d_jdk_42_m151_14) hr)
def Q_rmSVO (Z : State) (p1 : Int32) (zc : Int32) (h0 : Heap) (n0 : Nat) (v : Option Value) (h : Heap) (L : List Loc) : Prop := ∃ (r : Addr) (t : Addr) (kb : ClassId), v = some (.ref r) ∧ Fr n0 L ∧ Keep h0 h [] ∧ Exa Z h r "java/lang/String" ∧ Fld Z h r "java/lang/String" "value" "[B" (.ref t) ∧ Fld Z h r "java/lang/String" "coder" "B" (.int (0 : Int32)) ∧ Arv Z h t kb .byte (1 : Int32) [(.int p1.toInt8.toInt32)] (.int (0 : Int32)) ∧ (h0.size ≤ r) ∧ (h0.size ≤ t)
theorem ef_rmSVO (m : MethodId) (x0 : Int32) : entryFrame m #[(.int x0)] 1 = mkF m 0 #[.val (.int x0)] [] := by first | (simp [entryFrame, mkF, argsToLocals, Value.category]; done) | rfl
theorem d_jdk_42_m139_0 : decode jdk_42_method_139_code 0 = .ok (.getstatic 38, 3) := by decide +kernel
theorem d_jdk_42_m139_3 : decode jdk_42_method_139_code 3 = .ok (.ifCond .eq 23, 3) := by decide +kernel
theorem d_jdk_42_m139_6 : decode jdk_42_method_139_code 6 = .ok (.iload_n 0, 1) := by decide +kernel
theorem d_jdk_42_m139_7 : decode jdk_42_method_139_code 7 = .ok (.invokestatic 1015, 3) := by decide +kernel
theorem pd_5 : parseMethodDescriptor "(C)Z" = some ⟨[.char], some .boolean⟩ := by decide +kernel
theorem d_jdk_42_m139_10 : decode jdk_42_method_139_code 10 = .ok (.ifCond .eq 16, 3) := by decide +kernel
theorem d_jdk_42_m139_13 : decode jdk_42_method_139_code 13 = .ok (.new 10, 3) := by decide +kernel
theorem d_jdk_42_m139_16 : decode jdk_42_method_139_code 16 = .ok (.dup, 1) := by decide +kernel
theorem d_jdk_42_m139_17 : decode jdk_42_method_139_code 17 = .ok (.iload_n 0, 1) := by decide +kernel
theorem d_jdk_42_m139_18 : decode jdk_42_method_139_code 18 = .ok (.invokestatic 1018, 3) := by decide +kernel
theorem pd_6 : parseMethodDescriptor "(C)[B" = some ⟨[.char], some (.array .byte)⟩ := by decide +kernel
theorem d_jdk_42_m139_21 : decode jdk_42_method_139_code 21 = .ok (.iconst 0, 1) := by decide +kernel
theorem d_jdk_42_m139_22 : decode jdk_42_method_139_code 22 = .ok (.invokespecial 209, 3) := by decide +kernel
theorem pd_7 : parseMethodDescriptor "([BB)V" = some ⟨[(.array .byte), .byte], none⟩ := by decide +kernel
theorem d_jdk_42_m139_25 : decode jdk_42_method_139_code 25 = .ok (.areturn, 1) := by decide +kernel
set_option maxRecDepth 65536 in
set_option maxHeartbeats 40000000 in
theorem rmSVO (l : Launch) (Z : State) (a0 : Array Value) (hw : ∀ d ∈ tables_1, d.before a0 Z = true) (ws : List Jvm.Cond) (p1 : Int32) (zc : Int32) (h0 : Heap) (n0 : Nat) (Z0 : n0 ≤ h0.size) (S4 : Sta Z Z.heap "java/lang/String" "COMPACT_STRINGS" "Z" (.int zc)) (O1 : Old Z n0 h0) (hCS : ¬ zc = 0) (h1 : ¬ (255 : Int32) < p1) :
    MetFree l (⟨"java/lang/String", "valueOf", "(C)Ljava/lang/String;"⟩ : MethodName) (head1 (Jvm.Cond.code (⟨"java/lang/String", "valueOf", "(C)Ljava/lang/String;"⟩ : MethodName) jdk_42_method_139_code 1 (some (.object "java/lang/String")) :: ws) ({ frames := 2, cells := 2, slots := 5, locals := 27 } : Room)) (fun a U => a = #[(.int p1)] ∧ Z.Warmed39 U.vm ∧ U.heap = h0) (fun _ _ _ _ _ => True) (fun _ U o U' => ∃ v L, o = .returned v ∧ Q_rmSVO Z p1 zc h0 n0 v U'.heap L ∧ FrameEnd U o U' L ({ frames := 2, cells := 2, slots := 5, locals := 27 } : Room).cells ({ frames := 2, cells := 2, slots := 5, locals := 27 } : Room).slots) := by
  refine MetFree.of_bodySF (plainFor_of_name pn_java_lang_String) hisR ?_
  intro p e s m args below meth c s₁ Bd hml0 hP hK
  obtain ⟨rfl, hZ, hh⟩ := hP
  have hx := Bd.exec
  have hby := Bd.bytes
  have hlk := BodyLoose.notSynchronized Bd
  have hml : c.maxLocals = 1 := hml0
  have hown : s.vm.findClass "java/lang/String" = some m.cls := findClass_of_methodNamed Bd.named
  have hnm := (name_of_methodNamed Bd.named Bd.method).1
  have X0 : Stand p l e ({ frames := 2, cells := 2, slots := 5, locals := 27 } : Room) s m #[(.int p1)] below meth c s₁ [] 0 0 := Stand.of_body Bd
  have e0 : s₁.heap = h0 := by rw [← hh, Bd.state]; rfl
  have N0 := Fr.nil n0
  have K0 := Keep.refl h0 []
  clear hh
  show Wk p e below s (Q_rmSVO Z p1 zc h0 n0) ({ frames := 2, cells := 2, slots := 5, locals := 27 } : Room).cells ({ frames := 2, cells := 2, slots := 5, locals := 27 } : Room).slots s₁ (entryFrame m #[(.int p1)] 1)
  rw [ef_rmSVO]
  refine Wk.getS X0 hx hZ hown (host := "") (Or.inl (hw _ (List.mem_of_getElem? (i := 14) rfl))) Via.refl e0 (Sta.ext O1.2 S4) (hb hby d_jdk_42_m139_0) (n := 3) rfl fun T1 X1 e1 => ?_
  have hc3_2 : ¬ (zc = (0 : Int32)) := hCS
  refine Wk.ifNo X1 hx (hb hby d_jdk_42_m139_3) (n := 6) rfl ((if0 _ _).trans (feq hc3_2).1) ?_
  refine Wk.iloadN X1 hx (hb hby d_jdk_42_m139_6) (n := 7) rfl rfl ?_
  have cl3_ := fun (Ls : Array Slot) (hLs : Ls.size = c.maxLocals) => Jvm.LawKit.callS X1 hx (y := (⟨"java/lang/StringLatin1", "canEncode", "(C)Z"⟩ : MethodName)) hown (mvT hZ (hw _ (List.mem_of_getElem? (i := 149) rfl))) (mvT hZ (hw _ (List.mem_of_getElem? (i := 150) rfl))) (mvT hZ (hw _ (List.mem_of_getElem? (i := 151) rfl))) (mvT hZ (hw _ (List.mem_of_getElem? (i := 152) rfl))) (by decide) (backOf (W := 0) (rmCE l Z a0 hw [] p1 h0 n0 (by omega) h1) hZ (hw _ (List.mem_of_getElem? (i := 152) rfl)) (hw _ (List.mem_of_getElem? (i := 151) rfl)) (by decide) (by decide)) (g := mkF m 7 Ls [(.int p1)]) rfl hLs (argsL := [(.int p1)]) (rest := []) (lenOf pd_5 rfl) rfl (by show 2 * 0 + _ ≤ _; exact Nat.le_of_eq rfl) (hb hby d_jdk_42_m139_7) (fun _ _ => ⟨rfl, e1, (by decide : 0 + 0 ≤ _), (by decide : 0 + 0 ≤ _)⟩)
  refine Wk.backS (n := 10) (rc := 0) (rs := 0) (Q := Q_rmCE Z p1 h0 n0) (cl3_ _ (by rw [hml]; rfl)) fun vn3 T3 L3 X3 hQ3 => ?_
  clear cl3_
  obtain ⟨rfl, M3, e3⟩ := hQ3
  have N3 := Fr.app N0 M3
  show Wk p e below s _ _ _ T3 (mkF m 10 _ [(.int (1 : Int32))])
  have hc10_4 : ¬ ((1 : Int32) = (0 : Int32)) := by decide
  refine Wk.ifNo X3 hx (hb hby d_jdk_42_m139_10) (n := 13) rfl ((if0 _ _).trans (feq hc10_4).1) ?_
  refine Wk.newO X3 hx hZ hown (hw _ (List.mem_of_getElem? (i := 153) rfl)) (hw _ (List.mem_of_getElem? (i := 2) rfl)) (hw _ (List.mem_of_getElem? (i := 3) rfl)) e3 (hb hby d_jdk_42_m139_13) (n := 16) rfl (by decide) (by decide) fun T5 H5 b5 gn5 X5 e5 Ex5 An5 Dn5 Yn5 => ?_
  have gn5 := nx gn5
  have sz5 := Ex5.1
  have lt5 := ny An5.lt
  have K5 := K0.ext Ex5
  have Fn5_coder : Fld Z H5 b5 "java/lang/String" "coder" "B" (.int (0 : Int32)) := Dn5 (Or.inr (hw _ (List.mem_of_getElem? (i := 27) rfl))) (ty := .byte) (by decide)
  have Fn5_value : Fld Z H5 b5 "java/lang/String" "value" "[B" .null := Dn5 (Or.inr (hw _ (List.mem_of_getElem? (i := 29) rfl))) (ty := (.array .byte)) (by decide)
  refine Wk.dup X5 hx (hb hby d_jdk_42_m139_16) (n := 17) rfl rfl ?_
  refine Wk.iloadN X5 hx (hb hby d_jdk_42_m139_17) (n := 18) rfl rfl ?_
  have cl6_ := fun (Ls : Array Slot) (hLs : Ls.size = c.maxLocals) => Jvm.LawKit.callS X5 hx (y := (⟨"java/lang/StringLatin1", "toBytes", "(C)[B"⟩ : MethodName)) hown (mvT hZ (hw _ (List.mem_of_getElem? (i := 154) rfl))) (mvT hZ (hw _ (List.mem_of_getElem? (i := 155) rfl))) (mvT hZ (hw _ (List.mem_of_getElem? (i := 151) rfl))) (mvT hZ (hw _ (List.mem_of_getElem? (i := 156) rfl))) (by decide) (backOf (W := 2) (rmTB l Z a0 hw [] p1 H5 n0 (by omega)) hZ (hw _ (List.mem_of_getElem? (i := 156) rfl)) (hw _ (List.mem_of_getElem? (i := 151) rfl)) (by decide) (by decide)) (g := mkF m 18 Ls [(.int p1), (.ref b5), (.ref b5)]) rfl hLs (argsL := [(.int p1)]) (rest := [(.ref b5), (.ref b5)]) (lenOf pd_6 rfl) rfl (by show 2 * 0 + _ ≤ _; exact Nat.le_of_eq rfl) (hb hby d_jdk_42_m139_18) (fun _ _ => ⟨rfl, e5, (by decide : 0 + 0 + 1 + 1 ≤ _), (by decide : 0 + 0 + 4 + 1 ≤ _)⟩)
  refine Wk.backS (n := 21) (rc := 1) (rs := 1) (Q := Q_rmTB Z p1 H5 n0) (cl6_ _ (by rw [hml]; rfl)) fun vn6 T6 L6 X6 hQ6 => ?_
  clear cl6_
  obtain ⟨t_6, kb_6, rfl, M6, J6, p6_0, gt_6⟩ := hQ6
  have N6 := Fr.app N3 M6
  have sz6 := J6.1
  have K6 := K5.trans J6 (fun x hx => nomatch hx)
  have lt_p6_0 := ny p6_0.lt
  show Wk p e below s _ _ _ T6 (mkF m 21 _ [(.ref t_6), (.ref b5), (.ref b5)])
  refine Wk.iconst X6 hx (hb hby d_jdk_42_m139_21) (n := 22) rfl (z := (0 : Int32)) rfl ?_
  have f7 := (An5.keep J6)
  have f8 := (Fn5_value.keep J6 nin0)
  have f9 := (Fn5_coder.keep J6 nin0)
  have cl10_ := fun (Ls : Array Slot) (hLs : Ls.size = c.maxLocals) => X6.specialBack hx (y := (⟨"java/lang/String", "<init>", "([BB)V"⟩ : MethodName)) rfl hown (mvT hZ (hw _ (List.mem_of_getElem? (i := 157) rfl))) (mvT hZ (hw _ (List.mem_of_getElem? (i := 158) rfl))) (mvT hZ (hw _ (List.mem_of_getElem? (i := 159) rfl))) (by decide) (backOf (W := 1) (rmSI l Z a0 hw [] b5 t_6 (0 : Int32) .null (.int (0 : Int32)) T6.heap n0 (by omega) f7 f8 f9 (by omega) rfl) hZ (hw _ (List.mem_of_getElem? (i := 159) rfl)) (hw _ (List.mem_of_getElem? (i := 3) rfl)) (by decide) (by decide)) (g := mkF m 22 Ls [(.int (0 : Int32)), (.ref t_6), (.ref b5), (.ref b5)]) rfl hLs (Steps.refl _) (a := b5) (argsL := [(.ref t_6), (.int (0 : Int32))]) (rest := [(.ref b5)]) (lenOf pd_7 rfl) rfl (by show 2 * 0 + _ ≤ _; exact Nat.le_of_eq rfl) (hb hby d_jdk_42_m139_22) (fun _ _ => ⟨rfl, rfl, (by decide : 0 + 0 + 1 + 1 + 0 ≤ _), (by decide : 0 + 0 + 4 + 1 + 0 ≤ _)⟩)
  refine Wk.back (n := 25) (rc := 0) (rs := 0) (Q := Q_rmSI Z b5 t_6 (0 : Int32) .null (.int (0 : Int32)) T6.heap n0) (cl10_ _ (by rw [hml]; rfl)) fun vn10 T10 L10 X10 hQ10 => ?_
  clear cl10_
  obtain ⟨rfl, M10, J10, p10_0, p10_1, p10_2⟩ := hQ10
  have N10 := Fr.app N6 M10
  have sz10 := J10.1
  have K10 := K6.trans J10 (allS (Or.inr (by omega)) all0)
  have lt_p10_0 := ny p10_0.lt
  show Wk p e below s _ _ _ T10 (mkF m 25 _ [(.ref b5)])
  have f11 := (p6_0.keep J10 (ninS (nz (by omega)) nin0))
  exact Wk.leave X10 (v := some (.ref b5)) (fun h => by rw [Bd.returns] at h; cases h) hlk rfl ⟨b5, t_6, kb_6, rfl, N10, K10, p10_0, p10_1, p10_2, f11, (by omega), (by omega)⟩ (by decide) (by decide) (fun fs hr => retA X10 hx rfl Bd.returns rfl (hb hby d_jdk_42_m139_25) hr)
def Q_rmSO0 (Z : State) (w1 : Addr) (h0 : Heap) (n0 : Nat) (v : Option Value) (h : Heap) (L : List Loc) : Prop := v = some (.ref w1) ∧ Fr n0 L ∧ h = h0
theorem ef_rmSO0 (m : MethodId)  : entryFrame m #[] 0 = mkF m 0 #[] [] := by first | (simp [entryFrame, mkF, argsToLocals, Value.category]; done) | rfl
theorem d_jdk_96_m17_0 : decode jdk_96_method_17_code 0 = .ok (.getstatic 9, 3) := by decide +kernel
theorem d_jdk_96_m17_3 : decode jdk_96_method_17_code 3 = .ok (.areturn, 1) := by decide +kernel
set_option maxRecDepth 65536 in
set_option maxHeartbeats 40000000 in
theorem rmSO0 (l : Launch) (Z : State) (a0 : Array Value) (hw : ∀ d ∈ tables_1, d.before a0 Z = true) (ws : List Jvm.Cond) (w1 : Addr) (h0 : Heap) (n0 : Nat) (Z0 : n0 ≤ h0.size) (S1 : Sta Z Z.heap "java/util/ImmutableCollections" "EMPTY_SET" "Ljava/util/ImmutableCollections$SetN;" (.ref w1)) (O1 : Old Z n0 h0) :
    MetFree l (⟨"java/util/Set", "of", "()Ljava/util/Set;"⟩ : MethodName) (head1 (Jvm.Cond.code (⟨"java/util/Set", "of", "()Ljava/util/Set;"⟩ : MethodName) jdk_96_method_17_code 0 (some (.object "java/util/Set")) :: ws) ({ frames := 0, cells := 0, slots := 0, locals := 0 } : Room)) (fun a U => a = #[] ∧ Z.Warmed39 U.vm ∧ U.heap = h0) (fun _ _ _ _ _ => True) (fun _ U o U' => ∃ v L, o = .returned v ∧ Q_rmSO0 Z w1 h0 n0 v U'.heap L ∧ FrameEnd U o U' L ({ frames := 0, cells := 0, slots := 0, locals := 0 } : Room).cells ({ frames := 0, cells := 0, slots := 0, locals := 0 } : Room).slots) := by
  refine MetFree.of_bodySF (plainFor_of_name pn_java_util_Set) hisR ?_
  intro p e s m args below meth c s₁ Bd hml0 hP hK
  obtain ⟨rfl, hZ, hh⟩ := hP
  have hx := Bd.exec
  have hby := Bd.bytes
  have hlk := BodyLoose.notSynchronized Bd
  have hml : c.maxLocals = 0 := hml0
  have hown : s.vm.findClass "java/util/Set" = some m.cls := findClass_of_methodNamed Bd.named
  have hnm := (name_of_methodNamed Bd.named Bd.method).1
  have X0 : Stand p l e ({ frames := 0, cells := 0, slots := 0, locals := 0 } : Room) s m #[] below meth c s₁ [] 0 0 := Stand.of_body Bd
  have e0 : s₁.heap = h0 := by rw [← hh, Bd.state]; rfl
  have N0 := Fr.nil n0
  have K0 := Keep.refl h0 []
  clear hh
  show Wk p e below s (Q_rmSO0 Z w1 h0 n0) ({ frames := 0, cells := 0, slots := 0, locals := 0 } : Room).cells ({ frames := 0, cells := 0, slots := 0, locals := 0 } : Room).slots s₁ (entryFrame m #[] 0)
  rw [ef_rmSO0]
  refine Wk.getS X0 hx hZ hown (host := "") (Or.inl (hw _ (List.mem_of_getElem? (i := 34) rfl))) Via.refl e0 (Sta.ext O1.2 S1) (hb hby d_jdk_96_m17_0) (n := 3) rfl fun T1 X1 e1 => ?_
  exact Wk.leave X1 (v := some (.ref w1)) (fun h => by rw [Bd.returns] at h; cases h) hlk e1 ⟨rfl, N0, rfl⟩ (by decide) (by decide) (fun fs hr => retA X1 hx rfl Bd.returns rfl (hb hby d_jdk_96_m17_3) hr)
def Q_rmACo (Z : State) (a1 : Addr) (h0 : Heap) (n0 : Nat) (v : Option Value) (h : Heap) (L : List Loc) : Prop := v = none ∧ Fr n0 L ∧ h = h0
theorem ef_rmACo (m : MethodId) (x0 : Addr) : entryFrame m #[(.ref x0)] 1 = mkF m 0 #[.val (.ref x0)] [] := by first | (simp [entryFrame, mkF, argsToLocals, Value.category]; done) | rfl
theorem pn_java_util_AbstractCollection : plainName "java/util/AbstractCollection" = true := by first | (simp [plainName, overriddenIn]; done) | decide +kernel
theorem d_jdk_22_m1_0 : decode jdk_22_method_1_code 0 = .ok (.aload_n 0, 1) := by decide +kernel
theorem d_jdk_22_m1_1 : decode jdk_22_method_1_code 1 = .ok (.invokespecial 1, 3) := by decide +kernel
theorem d_jdk_22_m1_4 : decode jdk_22_method_1_code 4 = .ok (.return_, 1) := by decide +kernel
set_option maxRecDepth 65536 in
set_option maxHeartbeats 40000000 in
theorem rmACo (l : Launch) (Z : State) (a0 : Array Value) (hw : ∀ d ∈ tables_1, d.before a0 Z = true) (ws : List Jvm.Cond) (a1 : Addr) (h0 : Heap) (n0 : Nat) (Z0 : n0 ≤ h0.size) :
    MetFree l (⟨"java/util/AbstractCollection", "<init>", "()V"⟩ : MethodName) (head1 (Jvm.Cond.code (⟨"java/util/AbstractCollection", "<init>", "()V"⟩ : MethodName) jdk_22_method_1_code 1 none :: ws) ({ frames := 1, cells := 0, slots := 0, locals := 12 } : Room)) (fun a U => a = #[(.ref a1)] ∧ Z.Warmed39 U.vm ∧ U.heap = h0) (fun _ _ _ _ _ => True) (fun _ U o U' => ∃ v L, o = .returned v ∧ Q_rmACo Z a1 h0 n0 v U'.heap L ∧ FrameEnd U o U' L ({ frames := 1, cells := 0, slots := 0, locals := 12 } : Room).cells ({ frames := 1, cells := 0, slots := 0, locals := 12 } : Room).slots) := by
  refine MetFree.of_bodySF (plainFor_of_name pn_java_util_AbstractCollection) hisR ?_
  intro p e s m args below meth c s₁ Bd hml0 hP hK
  obtain ⟨rfl, hZ, hh⟩ := hP
  have hx := Bd.exec
  have hby := Bd.bytes
  have hlk := BodyLoose.notSynchronized Bd
  have hml : c.maxLocals = 1 := hml0
  have hown : s.vm.findClass "java/util/AbstractCollection" = some m.cls := findClass_of_methodNamed Bd.named
  have hnm := (name_of_methodNamed Bd.named Bd.method).1
  have X0 : Stand p l e ({ frames := 1, cells := 0, slots := 0, locals := 12 } : Room) s m #[(.ref a1)] below meth c s₁ [] 0 0 := Stand.of_body Bd
  have e0 : s₁.heap = h0 := by rw [← hh, Bd.state]; rfl
  have N0 := Fr.nil n0
  have K0 := Keep.refl h0 []
  clear hh
  show Wk p e below s (Q_rmACo Z a1 h0 n0) ({ frames := 1, cells := 0, slots := 0, locals := 12 } : Room).cells ({ frames := 1, cells := 0, slots := 0, locals := 12 } : Room).slots s₁ (entryFrame m #[(.ref a1)] 1)
  rw [ef_rmACo]
  refine Wk.aloadN X0 hx (hb hby d_jdk_22_m1_0) (n := 1) rfl rfl rfl ?_
  refine Wk.initO X0 hx hZ hown (hw _ (List.mem_of_getElem? (i := 188) rfl)) (hw _ (List.mem_of_getElem? (i := 12) rfl)) (hw _ (List.mem_of_getElem? (i := 13) rfl)) e0 (by rw [hml]; rfl) (hb hby d_jdk_22_m1_1) (n := 4) rfl (by decide) (w := 0) (Nat.le_of_eq rfl) (by decide) fun T1 X1 e1 => ?_
  exact Wk.leave X1 (v := none) (fun _ => rfl) hlk e1 ⟨rfl, N0, rfl⟩ (by decide) (by decide) (fun fs hr => X1.returnOut hx Bd.returns (hb hby d_jdk_22_m1_4) hr)
def Q_rmAIC (Z : State) (a1 : Addr) (h0 : Heap) (n0 : Nat) (v : Option Value) (h : Heap) (L : List Loc) : Prop := v = none ∧ Fr n0 L ∧ h = h0
theorem ef_rmAIC (m : MethodId) (x0 : Addr) : entryFrame m #[(.ref x0)] 1 = mkF m 0 #[.val (.ref x0)] [] := by first | (simp [entryFrame, mkF, argsToLocals, Value.category]; done) | rfl
theorem pn_java_util_ImmutableCollections_AbstractImmutableCollection : plainName "java/util/ImmutableCollections$AbstractImmutableCollection" = true := by first | (simp [plainName, overriddenIn]; done) | decide +kernel
theorem d_jdk_47_m1_0 : decode jdk_47_method_1_code 0 = .ok (.aload_n 0, 1) := by decide +kernel
theorem d_jdk_47_m1_1 : decode jdk_47_method_1_code 1 = .ok (.invokespecial 1, 3) := by decide +kernel
theorem d_jdk_47_m1_4 : decode jdk_47_method_1_code 4 = .ok (.return_, 1) := by decide +kernel
set_option maxRecDepth 65536 in
set_option maxHeartbeats 40000000 in
theorem rmAIC (l : Launch) (Z : State) (a0 : Array Value) (hw : ∀ d ∈ tables_1, d.before a0 Z = true) (ws : List Jvm.Cond) (a1 : Addr) (h0 : Heap) (n0 : Nat) (Z0 : n0 ≤ h0.size) :
    MetFree l (⟨"java/util/ImmutableCollections$AbstractImmutableCollection", "<init>", "()V"⟩ : MethodName) (head1 (Jvm.Cond.code (⟨"java/util/ImmutableCollections$AbstractImmutableCollection", "<init>", "()V"⟩ : MethodName) jdk_47_method_1_code 1 none :: ws) ({ frames := 2, cells := 0, slots := 0, locals := 24 } : Room)) (fun a U => a = #[(.ref a1)] ∧ Z.Warmed39 U.vm ∧ U.heap = h0) (fun _ _ _ _ _ => True) (fun _ U o U' => ∃ v L, o = .returned v ∧ Q_rmAIC Z a1 h0 n0 v U'.heap L ∧ FrameEnd U o U' L ({ frames := 2, cells := 0, slots := 0, locals := 24 } : Room).cells ({ frames := 2, cells := 0, slots := 0, locals := 24 } : Room).slots) := by
  refine MetFree.of_bodySF (plainFor_of_name pn_java_util_ImmutableCollections_AbstractImmutableCollection) hisR ?_
  intro p e s m args below meth c s₁ Bd hml0 hP hK
  obtain ⟨rfl, hZ, hh⟩ := hP
  have hx := Bd.exec
  have hby := Bd.bytes
  have hlk := BodyLoose.notSynchronized Bd
  have hml : c.maxLocals = 1 := hml0
  have hown : s.vm.findClass "java/util/ImmutableCollections$AbstractImmutableCollection" = some m.cls := findClass_of_methodNamed Bd.named
  have hnm := (name_of_methodNamed Bd.named Bd.method).1
  have X0 : Stand p l e ({ frames := 2, cells := 0, slots := 0, locals := 24 } : Room) s m #[(.ref a1)] below meth c s₁ [] 0 0 := Stand.of_body Bd
  have e0 : s₁.heap = h0 := by rw [← hh, Bd.state]; rfl
  have N0 := Fr.nil n0
  have K0 := Keep.refl h0 []
  clear hh
  show Wk p e below s (Q_rmAIC Z a1 h0 n0) ({ frames := 2, cells := 0, slots := 0, locals := 24 } : Room).cells ({ frames := 2, cells := 0, slots := 0, locals := 24 } : Room).slots s₁ (entryFrame m #[(.ref a1)] 1)
  rw [ef_rmAIC]
  refine Wk.aloadN X0 hx (hb hby d_jdk_47_m1_0) (n := 1) rfl rfl rfl ?_
  have cl1_ := fun (Ls : Array Slot) (hLs : Ls.size = c.maxLocals) => X0.specialBack hx (y := (⟨"java/util/AbstractCollection", "<init>", "()V"⟩ : MethodName)) rfl hown (mvT hZ (hw _ (List.mem_of_getElem? (i := 182) rfl))) (mvT hZ (hw _ (List.mem_of_getElem? (i := 183) rfl))) (mvT hZ (hw _ (List.mem_of_getElem? (i := 187) rfl))) (by decide) (backOf (W := 0) (rmACo l Z a0 hw [] a1 h0 n0 (by omega)) hZ (hw _ (List.mem_of_getElem? (i := 187) rfl)) (hw _ (List.mem_of_getElem? (i := 186) rfl)) (by decide) (by decide)) (g := mkF m 1 Ls [(.ref a1)]) rfl hLs (Steps.refl _) (a := a1) (argsL := []) (rest := []) (lenOf pd_0 rfl) rfl (by show 2 * 0 + _ ≤ _; exact Nat.le_of_eq rfl) (hb hby d_jdk_47_m1_1) (fun _ _ => ⟨rfl, e0, (by decide : 0 + 0 ≤ _), (by decide : 0 + 0 ≤ _)⟩)
  refine Wk.back (n := 4) (rc := 0) (rs := 0) (Q := Q_rmACo Z a1 h0 n0) (cl1_ _ (by rw [hml]; rfl)) fun vn1 T1 L1 X1 hQ1 => ?_
  clear cl1_
  obtain ⟨rfl, M1, e1⟩ := hQ1
  have N1 := Fr.app N0 M1
  show Wk p e below s _ _ _ T1 (mkF m 4 _ [])
  exact Wk.leave X1 (v := none) (fun _ => rfl) hlk e1 ⟨rfl, N1, rfl⟩ (by decide) (by decide) (fun fs hr => X1.returnOut hx Bd.returns (hb hby d_jdk_47_m1_4) hr)
def Q_rmAIS (Z : State) (a1 : Addr) (h0 : Heap) (n0 : Nat) (v : Option Value) (h : Heap) (L : List Loc) : Prop := v = none ∧ Fr n0 L ∧ h = h0
theorem ef_rmAIS (m : MethodId) (x0 : Addr) : entryFrame m #[(.ref x0)] 1 = mkF m 0 #[.val (.ref x0)] [] := by first | (simp [entryFrame, mkF, argsToLocals, Value.category]; done) | rfl
theorem pn_java_util_ImmutableCollections_AbstractImmutableSet : plainName "java/util/ImmutableCollections$AbstractImmutableSet" = true := by first | (simp [plainName, overriddenIn]; done) | decide +kernel
theorem d_jdk_100_m1_0 : decode jdk_100_method_1_code 0 = .ok (.aload_n 0, 1) := by decide +kernel
theorem d_jdk_100_m1_1 : decode jdk_100_method_1_code 1 = .ok (.invokespecial 1, 3) := by decide +kernel
theorem d_jdk_100_m1_4 : decode jdk_100_method_1_code 4 = .ok (.return_, 1) := by decide +kernel
set_option maxRecDepth 65536 in
set_option maxHeartbeats 40000000 in
theorem rmAIS (l : Launch) (Z : State) (a0 : Array Value) (hw : ∀ d ∈ tables_1, d.before a0 Z = true) (ws : List Jvm.Cond) (a1 : Addr) (h0 : Heap) (n0 : Nat) (Z0 : n0 ≤ h0.size) :
    MetFree l (⟨"java/util/ImmutableCollections$AbstractImmutableSet", "<init>", "()V"⟩ : MethodName) (head1 (Jvm.Cond.code (⟨"java/util/ImmutableCollections$AbstractImmutableSet", "<init>", "()V"⟩ : MethodName) jdk_100_method_1_code 1 none :: ws) ({ frames := 3, cells := 0, slots := 0, locals := 36 } : Room)) (fun a U => a = #[(.ref a1)] ∧ Z.Warmed39 U.vm ∧ U.heap = h0) (fun _ _ _ _ _ => True) (fun _ U o U' => ∃ v L, o = .returned v ∧ Q_rmAIS Z a1 h0 n0 v U'.heap L ∧ FrameEnd U o U' L ({ frames := 3, cells := 0, slots := 0, locals := 36 } : Room).cells ({ frames := 3, cells := 0, slots := 0, locals := 36 } : Room).slots) := by
  refine MetFree.of_bodySF (plainFor_of_name pn_java_util_ImmutableCollections_AbstractImmutableSet) hisR ?_
  intro p e s m args below meth c s₁ Bd hml0 hP hK
  obtain ⟨rfl, hZ, hh⟩ := hP
  have hx := Bd.exec
  have hby := Bd.bytes
  have hlk := BodyLoose.notSynchronized Bd
  have hml : c.maxLocals = 1 := hml0
  have hown : s.vm.findClass "java/util/ImmutableCollections$AbstractImmutableSet" = some m.cls := findClass_of_methodNamed Bd.named
  have hnm := (name_of_methodNamed Bd.named Bd.method).1
  have X0 : Stand p l e ({ frames := 3, cells := 0, slots := 0, locals := 36 } : Room) s m #[(.ref a1)] below meth c s₁ [] 0 0 := Stand.of_body Bd
  have e0 : s₁.heap = h0 := by rw [← hh, Bd.state]; rfl
  have N0 := Fr.nil n0
  have K0 := Keep.refl h0 []
  clear hh
  show Wk p e below s (Q_rmAIS Z a1 h0 n0) ({ frames := 3, cells := 0, slots := 0, locals := 36 } : Room).cells ({ frames := 3, cells := 0, slots := 0, locals := 36 } : Room).slots s₁ (entryFrame m #[(.ref a1)] 1)
  rw [ef_rmAIS]
  refine Wk.aloadN X0 hx (hb hby d_jdk_100_m1_0) (n := 1) rfl rfl rfl ?_
  have cl1_ := fun (Ls : Array Slot) (hLs : Ls.size = c.maxLocals) => X0.specialBack hx (y := (⟨"java/util/ImmutableCollections$AbstractImmutableCollection", "<init>", "()V"⟩ : MethodName)) rfl hown (mvT hZ (hw _ (List.mem_of_getElem? (i := 176) rfl))) (mvT hZ (hw _ (List.mem_of_getElem? (i := 177) rfl))) (mvT hZ (hw _ (List.mem_of_getElem? (i := 181) rfl))) (by decide) (backOf (W := 0) (rmAIC l Z a0 hw [] a1 h0 n0 (by omega)) hZ (hw _ (List.mem_of_getElem? (i := 181) rfl)) (hw _ (List.mem_of_getElem? (i := 180) rfl)) (by decide) (by decide)) (g := mkF m 1 Ls [(.ref a1)]) rfl hLs (Steps.refl _) (a := a1) (argsL := []) (rest := []) (lenOf pd_0 rfl) rfl (by show 2 * 0 + _ ≤ _; exact Nat.le_of_eq rfl) (hb hby d_jdk_100_m1_1) (fun _ _ => ⟨rfl, e0, (by decide : 0 + 0 ≤ _), (by decide : 0 + 0 ≤ _)⟩)
  refine Wk.back (n := 4) (rc := 0) (rs := 0) (Q := Q_rmAIC Z a1 h0 n0) (cl1_ _ (by rw [hml]; rfl)) fun vn1 T1 L1 X1 hQ1 => ?_
  clear cl1_
  obtain ⟨rfl, M1, e1⟩ := hQ1
  have N1 := Fr.app N0 M1
  show Wk p e below s _ _ _ T1 (mkF m 4 _ [])
  exact Wk.leave X1 (v := none) (fun _ => rfl) hlk e1 ⟨rfl, N1, rfl⟩ (by decide) (by decide) (fun fs hr => X1.returnOut hx Bd.returns (hb hby d_jdk_100_m1_4) hr)
def Q_rmRN (Z : State) (a1 : Addr) (h0 : Heap) (n0 : Nat) (v : Option Value) (h : Heap) (L : List Loc) : Prop := v = some (.ref a1) ∧ Fr n0 L ∧ h = h0
theorem ef_rmRN (m : MethodId) (x0 : Addr) : entryFrame m #[(.ref x0)] 1 = mkF m 0 #[.val (.ref x0)] [] := by first | (simp [entryFrame, mkF, argsToLocals, Value.category]; done) | rfl
theorem pn_java_util_Objects : plainName "java/util/Objects" = true := by first | (simp [plainName, overriddenIn]; done) | decide +kernel
theorem d_jdk_31_m10_0 : decode jdk_31_method_10_code 0 = .ok (.aload_n 0, 1) := by decide +kernel
theorem d_jdk_31_m10_1 : decode jdk_31_method_10_code 1 = .ok (.ifnonnull 11, 3) := by decide +kernel
theorem d_jdk_31_m10_12 : decode jdk_31_method_10_code 12 = .ok (.aload_n 0, 1) := by decide +kernel
theorem d_jdk_31_m10_13 : decode jdk_31_method_10_code 13 = .ok (.areturn, 1) := by decide +kernel
set_option maxRecDepth 65536 in
set_option maxHeartbeats 40000000 in
theorem rmRN (l : Launch) (Z : State) (a0 : Array Value) (hw : ∀ d ∈ tables_1, d.before a0 Z = true) (ws : List Jvm.Cond) (a1 : Addr) (h0 : Heap) (n0 : Nat) (Z0 : n0 ≤ h0.size) :
    MetFree l (⟨"java/util/Objects", "requireNonNull", "(Ljava/lang/Object;)Ljava/lang/Object;"⟩ : MethodName) (head1 (Jvm.Cond.code (⟨"java/util/Objects", "requireNonNull", "(Ljava/lang/Object;)Ljava/lang/Object;"⟩ : MethodName) jdk_31_method_10_code 1 (some (.object "java/lang/Object")) :: ws) ({ frames := 0, cells := 0, slots := 0, locals := 0 } : Room)) (fun a U => a = #[(.ref a1)] ∧ Z.Warmed39 U.vm ∧ U.heap = h0) (fun _ _ _ _ _ => True) (fun _ U o U' => ∃ v L, o = .returned v ∧ Q_rmRN Z a1 h0 n0 v U'.heap L ∧ FrameEnd U o U' L ({ frames := 0, cells := 0, slots := 0, locals := 0 } : Room).cells ({ frames := 0, cells := 0, slots := 0, locals := 0 } : Room).slots) := by
  refine MetFree.of_bodySF (plainFor_of_name pn_java_util_Objects) hisR ?_
  intro p e s m args below meth c s₁ Bd hml0 hP hK
  obtain ⟨rfl, hZ, hh⟩ := hP
  have hx := Bd.exec
  have hby := Bd.bytes
  have hlk := BodyLoose.notSynchronized Bd
  have hml : c.maxLocals = 1 := hml0
  have hown : s.vm.findClass "java/util/Objects" = some m.cls := findClass_of_methodNamed Bd.named
  have hnm := (name_of_methodNamed Bd.named Bd.method).1
  have X0 : Stand p l e ({ frames := 0, cells := 0, slots := 0, locals := 0 } : Room) s m #[(.ref a1)] below meth c s₁ [] 0 0 := Stand.of_body Bd
  have e0 : s₁.heap = h0 := by rw [← hh, Bd.state]; rfl
  have N0 := Fr.nil n0
  have K0 := Keep.refl h0 []
  clear hh
  show Wk p e below s (Q_rmRN Z a1 h0 n0) ({ frames := 0, cells := 0, slots := 0, locals := 0 } : Room).cells ({ frames := 0, cells := 0, slots := 0, locals := 0 } : Room).slots s₁ (entryFrame m #[(.ref a1)] 1)
  rw [ef_rmRN]
  refine Wk.aloadN X0 hx (hb hby d_jdk_31_m10_0) (n := 1) rfl rfl rfl ?_
  refine Wk.ifnonnullYes X0 hx (hb hby d_jdk_31_m10_1) (by decide) (n := 12) (by decide) ?_
  refine Wk.aloadN X0 hx (hb hby d_jdk_31_m10_12) (n := 13) rfl rfl rfl ?_
  exact Wk.leave X0 (v := some (.ref a1)) (fun h => by rw [Bd.returns] at h; cases h) hlk e0 ⟨rfl, N0, rfl⟩ (by decide) (by decide) (fun fs hr => retA X0 hx rfl Bd.returns rfl (hb hby d_jdk_31_m10_13) hr)
def Q_rmS12I (Z : State) (a1 : Addr) (a2 : Addr) (u1 : Value) (u2 : Value) (wm : Addr) (h0 : Heap) (n0 : Nat) (v : Option Value) (h : Heap) (L : List Loc) : Prop := v = none ∧ Fr n0 L ∧ Keep h0 h [a1] ∧ Exa Z h a1 "java/util/ImmutableCollections$Set12"
theorem ef_rmS12I (m : MethodId) (x0 : Addr) (x1 : Addr) : entryFrame m #[(.ref x0), (.ref x1)] 2 = mkF m 0 #[.val (.ref x0), .val (.ref x1)] [] := by first | (simp [entryFrame, mkF, argsToLocals, Value.category]; done) | rfl
theorem pn_java_util_ImmutableCollections_Set12 : plainName "java/util/ImmutableCollections$Set12" = true := by first | (simp [plainName, overriddenIn]; done) | decide +kernel
theorem d_jdk_101_m1_0 : decode jdk_101_method_1_code 0 = .ok (.aload_n 0, 1) := by decide +kernel
theorem d_jdk_101_m1_1 : decode jdk_101_method_1_code 1 = .ok (.invokespecial 1, 3) := by decide +kernel
theorem d_jdk_101_m1_4 : decode jdk_101_method_1_code 4 = .ok (.aload_n 0, 1) := by decide +kernel
theorem d_jdk_101_m1_5 : decode jdk_101_method_1_code 5 = .ok (.aload_n 1, 1) := by decide +kernel
theorem d_jdk_101_m1_6 : decode jdk_101_method_1_code 6 = .ok (.invokestatic 7, 3) := by decide +kernel
theorem pd_8 : parseMethodDescriptor "(Ljava/lang/Object;)Ljava/lang/Object;" = some ⟨[(.object "java/lang/Object")], some (.object "java/lang/Object")⟩ := by decide +kernel
theorem d_jdk_101_m1_9 : decode jdk_101_method_1_code 9 = .ok (.putfield 13, 3) := by decide +kernel
theorem d_jdk_101_m1_12 : decode jdk_101_method_1_code 12 = .ok (.aload_n 0, 1) := by decide +kernel
theorem d_jdk_101_m1_13 : decode jdk_101_method_1_code 13 = .ok (.getstatic 19, 3) := by decide +kernel
theorem d_jdk_101_m1_16 : decode jdk_101_method_1_code 16 = .ok (.putfield 24, 3) := by decide +kernel
theorem d_jdk_101_m1_19 : decode jdk_101_method_1_code 19 = .ok (.return_, 1) := by decide +kernel
set_option maxRecDepth 65536 in
set_option maxHeartbeats 40000000 in
theorem rmS12I (l : Launch) (Z : State) (a0 : Array Value) (hw : ∀ d ∈ tables_1, d.before a0 Z = true) (ws : List Jvm.Cond) (a1 : Addr) (a2 : Addr) (u1 : Value) (u2 : Value) (wm : Addr) (h0 : Heap) (n0 : Nat) (Z0 : n0 ≤ h0.size) (E1 : Exa Z h0 a1 "java/util/ImmutableCollections$Set12") (F1 : Fld Z h0 a1 "java/util/ImmutableCollections$Set12" "e0" "Ljava/lang/Object;" u1) (F2 : Fld Z h0 a1 "java/util/ImmutableCollections$Set12" "e1" "Ljava/lang/Object;" u2) (S2 : Sta Z Z.heap "java/util/ImmutableCollections" "EMPTY" "Ljava/lang/Object;" (.ref wm)) (O1 : Old Z n0 h0) (g1 : n0 ≤ a1) :
    MetFree l (⟨"java/util/ImmutableCollections$Set12", "<init>", "(Ljava/lang/Object;)V"⟩ : MethodName) (head1 (Jvm.Cond.code (⟨"java/util/ImmutableCollections$Set12", "<init>", "(Ljava/lang/Object;)V"⟩ : MethodName) jdk_101_method_1_code 2 none :: ws) ({ frames := 4, cells := 0, slots := 0, locals := 48 } : Room)) (fun a U => a = #[(.ref a1), (.ref a2)] ∧ Z.Warmed39 U.vm ∧ U.heap = h0) (fun _ _ _ _ _ => True) (fun _ U o U' => ∃ v L, o = .returned v ∧ Q_rmS12I Z a1 a2 u1 u2 wm h0 n0 v U'.heap L ∧ FrameEnd U o U' L ({ frames := 4, cells := 0, slots := 0, locals := 48 } : Room).cells ({ frames := 4, cells := 0, slots := 0, locals := 48 } : Room).slots) := by
  refine MetFree.of_bodySF (plainFor_of_name pn_java_util_ImmutableCollections_Set12) hisR ?_
  intro p e s m args below meth c s₁ Bd hml0 hP hK
  obtain ⟨rfl, hZ, hh⟩ := hP
  have hx := Bd.exec
  have hby := Bd.bytes
  have hlk := BodyLoose.notSynchronized Bd
  have hml : c.maxLocals = 2 := hml0
  have hown : s.vm.findClass "java/util/ImmutableCollections$Set12" = some m.cls := findClass_of_methodNamed Bd.named
  have hnm := (name_of_methodNamed Bd.named Bd.method).1
  have X0 : Stand p l e ({ frames := 4, cells := 0, slots := 0, locals := 48 } : Room) s m #[(.ref a1), (.ref a2)] below meth c s₁ [] 0 0 := Stand.of_body Bd
  have e0 : s₁.heap = h0 := by rw [← hh, Bd.state]; rfl
  have N0 := Fr.nil n0
  have K0 := Keep.refl h0 [a1]
  clear hh
  show Wk p e below s (Q_rmS12I Z a1 a2 u1 u2 wm h0 n0) ({ frames := 4, cells := 0, slots := 0, locals := 48 } : Room).cells ({ frames := 4, cells := 0, slots := 0, locals := 48 } : Room).slots s₁ (entryFrame m #[(.ref a1), (.ref a2)] 2)
  rw [ef_rmS12I]
  have lt_E1 := ny E1.lt
  have lt_F1 := ny F1.lt
  have lt_F2 := ny F2.lt
  refine Wk.aloadN X0 hx (hb hby d_jdk_101_m1_0) (n := 1) rfl rfl rfl ?_
  have cl1_ := fun (Ls : Array Slot) (hLs : Ls.size = c.maxLocals) => X0.specialBack hx (y := (⟨"java/util/ImmutableCollections$AbstractImmutableSet", "<init>", "()V"⟩ : MethodName)) rfl hown (mvT hZ (hw _ (List.mem_of_getElem? (i := 170) rfl))) (mvT hZ (hw _ (List.mem_of_getElem? (i := 171) rfl))) (mvT hZ (hw _ (List.mem_of_getElem? (i := 175) rfl))) (by decide) (backOf (W := 0) (rmAIS l Z a0 hw [] a1 h0 n0 (by omega)) hZ (hw _ (List.mem_of_getElem? (i := 175) rfl)) (hw _ (List.mem_of_getElem? (i := 174) rfl)) (by decide) (by decide)) (g := mkF m 1 Ls [(.ref a1)]) rfl hLs (Steps.refl _) (a := a1) (argsL := []) (rest := []) (lenOf pd_0 rfl) rfl (by show 2 * 0 + _ ≤ _; exact Nat.le_of_eq rfl) (hb hby d_jdk_101_m1_1) (fun _ _ => ⟨rfl, e0, (by decide : 0 + 0 ≤ _), (by decide : 0 + 0 ≤ _)⟩)
  refine Wk.back (n := 4) (rc := 0) (rs := 0) (Q := Q_rmAIS Z a1 h0 n0) (cl1_ _ (by rw [hml]; rfl)) fun vn1 T1 L1 X1 hQ1 => ?_
  clear cl1_
  obtain ⟨rfl, M1, e1⟩ := hQ1
  have N1 := Fr.app N0 M1
  show Wk p e below s _ _ _ T1 (mkF m 4 _ [])
  refine Wk.aloadN X1 hx (hb hby d_jdk_101_m1_4) (n := 5) rfl rfl rfl ?_
  refine Wk.aloadN X1 hx (hb hby d_jdk_101_m1_5) (n := 6) rfl rfl rfl ?_
  have cl2_ := fun (Ls : Array Slot) (hLs : Ls.size = c.maxLocals) => Jvm.LawKit.callS X1 hx (y := (⟨"java/util/Objects", "requireNonNull", "(Ljava/lang/Object;)Ljava/lang/Object;"⟩ : MethodName)) hown (mvT hZ (hw _ (List.mem_of_getElem? (i := 189) rfl))) (mvT hZ (hw _ (List.mem_of_getElem? (i := 190) rfl))) (mvT hZ (hw _ (List.mem_of_getElem? (i := 191) rfl))) (mvT hZ (hw _ (List.mem_of_getElem? (i := 192) rfl))) (by decide) (backOf (W := 1) (rmRN l Z a0 hw [] a2 h0 n0 (by omega)) hZ (hw _ (List.mem_of_getElem? (i := 192) rfl)) (hw _ (List.mem_of_getElem? (i := 191) rfl)) (by decide) (by decide)) (g := mkF m 6 Ls [(.ref a2), (.ref a1)]) rfl hLs (argsL := [(.ref a2)]) (rest := [(.ref a1)]) (lenOf pd_8 rfl) rfl (by show 2 * 0 + _ ≤ _; exact Nat.le_of_eq rfl) (hb hby d_jdk_101_m1_6) (fun _ _ => ⟨rfl, e1, (by decide : 0 + 0 + 0 ≤ _), (by decide : 0 + 0 + 0 ≤ _)⟩)
  refine Wk.backS (n := 9) (rc := 0) (rs := 0) (Q := Q_rmRN Z a2 h0 n0) (cl2_ _ (by rw [hml]; rfl)) fun vn2 T2 L2 X2 hQ2 => ?_
  clear cl2_
  obtain ⟨rfl, M2, e2⟩ := hQ2
  have N2 := Fr.app N1 M2
  show Wk p e below s _ _ _ T2 (mkF m 9 _ [(.ref a2), (.ref a1)])
  refine Wk.putF X2 hx hZ hown (host := "") (Or.inl (hw _ (List.mem_of_getElem? (i := 193) rfl))) Via.refl e2 F1 E1 (Or.inr ⟨(hw _ (List.mem_of_getElem? (i := 194) rfl)), rfl, hnm⟩) (hw _ (List.mem_of_getElem? (i := 164) rfl)) (ty := (.object "java/lang/Object")) (by decide) rfl rfl (hb hby d_jdk_101_m1_9) (n := 12) rfl fun T3 H3 X3 e3 Wn3 => ?_
  have sz3 := Wn3.size
  have Fn3 := F1.same Wn3
  have K3 := K0.wr Wn3 (Or.inl (List.mem_of_getElem? (i := 0) rfl))
  have N3 := Fr.snoc X3 N2 (by omega)
  refine Wk.aloadN X3 hx (hb hby d_jdk_101_m1_12) (n := 13) rfl rfl rfl ?_
  have f4 := (O1.wr Wn3 (by omega))
  refine Wk.getS X3 hx hZ hown (Or.inr (hw _ (List.mem_of_getElem? (i := 195) rfl))) Via.refl e3 (Sta.ext f4.2 S2) (hb hby d_jdk_101_m1_13) (n := 16) rfl fun T5 X5 e5 => ?_
  have f6 := (F2.other Wn3 (Or.inr (slot_ne (Or.inr (hw _ (List.mem_of_getElem? (i := 197) rfl))) (Or.inr (hw _ (List.mem_of_getElem? (i := 194) rfl))) (by decide) (t := (.object "java/lang/Object")) (t' := (.object "java/lang/Object")) (by decide) (by decide))))
  have f7 := (E1.wr Wn3)
  refine Wk.putF X5 hx hZ hown (host := "") (Or.inl (hw _ (List.mem_of_getElem? (i := 196) rfl))) Via.refl e5 f6 f7 (Or.inr ⟨(hw _ (List.mem_of_getElem? (i := 197) rfl)), rfl, hnm⟩) (hw _ (List.mem_of_getElem? (i := 164) rfl)) (ty := (.object "java/lang/Object")) (by decide) rfl rfl (hb hby d_jdk_101_m1_16) (n := 19) rfl fun T8 H8 X8 e8 Wn8 => ?_
  have sz8 := Wn8.size
  have Fn8 := f6.same Wn8
  have K8 := K3.wr Wn8 (Or.inl (List.mem_of_getElem? (i := 0) rfl))
  have N8 := Fr.snoc X8 N3 (by omega)
  have f9 := (f7.wr Wn8)
  exact Wk.leave X8 (v := none) (fun _ => rfl) hlk e8 ⟨rfl, N8, K8, f9⟩ (by decide) (by decide) (fun fs hr => X8.returnOut hx Bd.returns (hb hby d_jdk_101_m1_19) hr)
def Q_rmSO1 (Z : State) (a2 : Addr) (wm : Addr) (h0 : Heap) (n0 : Nat) (v : Option Value) (h : Heap) (L : List Loc) : Prop := ∃ (r : Addr), v = some (.ref r) ∧ Fr n0 L ∧ Keep h0 h [] ∧ Exa Z h r "java/util/ImmutableCollections$Set12"
theorem ef_rmSO1 (m : MethodId) (x0 : Addr) : entryFrame m #[(.ref x0)] 1 = mkF m 0 #[.val (.ref x0)] [] := by first | (simp [entryFrame, mkF, argsToLocals, Value.category]; done) | rfl
theorem d_jdk_96_m18_0 : decode jdk_96_method_18_code 0 = .ok (.new 15, 3) := by decide +kernel
theorem d_jdk_96_m18_3 : decode jdk_96_method_18_code 3 = .ok (.dup, 1) := by decide +kernel
theorem d_jdk_96_m18_4 : decode jdk_96_method_18_code 4 = .ok (.aload_n 0, 1) := by decide +kernel
theorem d_jdk_96_m18_5 : decode jdk_96_method_18_code 5 = .ok (.invokespecial 17, 3) := by decide +kernel
theorem pd_9 : parseMethodDescriptor "(Ljava/lang/Object;)V" = some ⟨[(.object "java/lang/Object")], none⟩ := by decide +kernel
theorem d_jdk_96_m18_8 : decode jdk_96_method_18_code 8 = .ok (.areturn, 1) := by decide +kernel
set_option maxRecDepth 65536 in
set_option maxHeartbeats 40000000 in
theorem rmSO1 (l : Launch) (Z : State) (a0 : Array Value) (hw : ∀ d ∈ tables_1, d.before a0 Z = true) (ws : List Jvm.Cond) (a2 : Addr) (wm : Addr) (h0 : Heap) (n0 : Nat) (Z0 : n0 ≤ h0.size) (S2 : Sta Z Z.heap "java/util/ImmutableCollections" "EMPTY" "Ljava/lang/Object;" (.ref wm)) (O1 : Old Z n0 h0) :
    MetFree l (⟨"java/util/Set", "of", "(Ljava/lang/Object;)Ljava/util/Set;"⟩ : MethodName) (head1 (Jvm.Cond.code (⟨"java/util/Set", "of", "(Ljava/lang/Object;)Ljava/util/Set;"⟩ : MethodName) jdk_96_method_18_code 1 (some (.object "java/util/Set")) :: ws) ({ frames := 5, cells := 1, slots := 2, locals := 62 } : Room)) (fun a U => a = #[(.ref a2)] ∧ Z.Warmed39 U.vm ∧ U.heap = h0) (fun _ _ _ _ _ => True) (fun _ U o U' => ∃ v L, o = .returned v ∧ Q_rmSO1 Z a2 wm h0 n0 v U'.heap L ∧ FrameEnd U o U' L ({ frames := 5, cells := 1, slots := 2, locals := 62 } : Room).cells ({ frames := 5, cells := 1, slots := 2, locals := 62 } : Room).slots) := by
  refine MetFree.of_bodySF (plainFor_of_name pn_java_util_Set) hisR ?_
  intro p e s m args below meth c s₁ Bd hml0 hP hK
  obtain ⟨rfl, hZ, hh⟩ := hP
  have hx := Bd.exec
  have hby := Bd.bytes
  have hlk := BodyLoose.notSynchronized Bd
  have hml : c.maxLocals = 1 := hml0
  have hown : s.vm.findClass "java/util/Set" = some m.cls := findClass_of_methodNamed Bd.named
  have hnm := (name_of_methodNamed Bd.named Bd.method).1
  have X0 : Stand p l e ({ frames := 5, cells := 1, slots := 2, locals := 62 } : Room) s m #[(.ref a2)] below meth c s₁ [] 0 0 := Stand.of_body Bd
  have e0 : s₁.heap = h0 := by rw [← hh, Bd.state]; rfl
  have N0 := Fr.nil n0
  have K0 := Keep.refl h0 []
  clear hh
  show Wk p e below s (Q_rmSO1 Z a2 wm h0 n0) ({ frames := 5, cells := 1, slots := 2, locals := 62 } : Room).cells ({ frames := 5, cells := 1, slots := 2, locals := 62 } : Room).slots s₁ (entryFrame m #[(.ref a2)] 1)
  rw [ef_rmSO1]
  refine Wk.newO X0 hx hZ hown (hw _ (List.mem_of_getElem? (i := 163) rfl)) (hw _ (List.mem_of_getElem? (i := 164) rfl)) (hw _ (List.mem_of_getElem? (i := 165) rfl)) e0 (hb hby d_jdk_96_m18_0) (n := 3) rfl (by decide) (by decide) fun T1 H1 b1 gn1 X1 e1 Ex1 An1 Dn1 Yn1 => ?_
  have gn1 := nx gn1
  have sz1 := Ex1.1
  have lt1 := ny An1.lt
  have K1 := K0.ext Ex1
  have Fn1_e0 : Fld Z H1 b1 "java/util/ImmutableCollections$Set12" "e0" "Ljava/lang/Object;" .null := Dn1 (Or.inr (hw _ (List.mem_of_getElem? (i := 194) rfl))) (ty := (.object "java/lang/Object")) (by decide)
  have Fn1_e1 : Fld Z H1 b1 "java/util/ImmutableCollections$Set12" "e1" "Ljava/lang/Object;" .null := Dn1 (Or.inr (hw _ (List.mem_of_getElem? (i := 197) rfl))) (ty := (.object "java/lang/Object")) (by decide)
  refine Wk.dup X1 hx (hb hby d_jdk_96_m18_3) (n := 4) rfl rfl ?_
  refine Wk.aloadN X1 hx (hb hby d_jdk_96_m18_4) (n := 5) rfl rfl rfl ?_
  have f2 := (O1.ext Ex1)
  have cl3_ := fun (Ls : Array Slot) (hLs : Ls.size = c.maxLocals) => X1.specialBack hx (y := (⟨"java/util/ImmutableCollections$Set12", "<init>", "(Ljava/lang/Object;)V"⟩ : MethodName)) rfl hown (mvT hZ (hw _ (List.mem_of_getElem? (i := 166) rfl))) (mvT hZ (hw _ (List.mem_of_getElem? (i := 167) rfl))) (mvT hZ (hw _ (List.mem_of_getElem? (i := 169) rfl))) (by decide) (backOf (W := 1) (rmS12I l Z a0 hw [] b1 a2 .null .null wm H1 n0 (by omega) An1 Fn1_e0 Fn1_e1 S2 f2 (by omega)) hZ (hw _ (List.mem_of_getElem? (i := 169) rfl)) (hw _ (List.mem_of_getElem? (i := 165) rfl)) (by decide) (by decide)) (g := mkF m 5 Ls [(.ref a2), (.ref b1), (.ref b1)]) rfl hLs (Steps.refl _) (a := b1) (argsL := [(.ref a2)]) (rest := [(.ref b1)]) (lenOf pd_9 rfl) rfl (by show 2 * 0 + _ ≤ _; exact Nat.le_of_eq rfl) (hb hby d_jdk_96_m18_5) (fun _ _ => ⟨rfl, e1, (by decide : 0 + 1 + 0 ≤ _), (by decide : 0 + 2 + 0 ≤ _)⟩)
  refine Wk.back (n := 8) (rc := 0) (rs := 0) (Q := Q_rmS12I Z b1 a2 .null .null wm H1 n0) (cl3_ _ (by rw [hml]; rfl)) fun vn3 T3 L3 X3 hQ3 => ?_
  clear cl3_
  obtain ⟨rfl, M3, J3, p3_0⟩ := hQ3
  have N3 := Fr.app N0 M3
  have sz3 := J3.1
  have K3 := K1.trans J3 (allS (Or.inr (by omega)) all0)
  have lt_p3_0 := ny p3_0.lt
  show Wk p e below s _ _ _ T3 (mkF m 8 _ [(.ref b1)])
  exact Wk.leave X3 (v := some (.ref b1)) (fun h => by rw [Bd.returns] at h; cases h) hlk rfl ⟨b1, rfl, N3, K3, p3_0⟩ (by decide) (by decide) (fun fs hr => retA X3 hx rfl Bd.returns rfl (hb hby d_jdk_96_m18_8) hr)
def Q_rm0 (Z : State) (p1 : Int32) (p2 : Int32) (p3 : Int32) (p4 : Int32) (p5 : Int32) (p6 : Int32) (zc : Int32) (w1 : Addr) (wm : Addr) (h0 : Heap) (n0 : Nat) (v : Option Value) (h : Heap) (L : List Loc) : Prop := v = some (.int (1 : Int32)) ∧ Fr n0 L ∧ Keep h0 h []
theorem ef_rm0 (m : MethodId) (x0 : Int32) (x1 : Int32) (x2 : Int32) (x3 : Int32) (x4 : Int32) (x5 : Int32) : entryFrame m #[(.int x0), (.int x1), (.int x2), (.int x3), (.int x4), (.int x5)] maxLocals = mkF m 0 #[.val (.int x0), .val (.int x1), .val (.int x2), .val (.int x3), .val (.int x4), .val (.int x5), .unset, .unset, .unset, .unset, .unset, .unset, .unset, .unset, .unset, .unset, .unset, .unset, .unset, .unset] [] := by first | (simp [entryFrame, mkF, argsToLocals, Value.category, maxLocals]; done) | rfl
theorem pn_com_example_depeche_depeche_profile_ConditionPathPinLaw : plainName "com/example/depeche/depeche/profile/ConditionPathPinLaw" = true := by first | (simp [plainName, overriddenIn]; done) | decide +kernel
theorem pd_10 : parseMethodDescriptor "([C)V" = some ⟨[(.array .char)], none⟩ := by decide +kernel
theorem pd_11 : parseMethodDescriptor "()Ljava/util/Set;" = some ⟨[], some (.object "java/util/Set")⟩ := by decide +kernel
theorem pd_12 : parseMethodDescriptor "(Ljava/lang/String;IILjava/lang/String;)V" = some ⟨[(.object "java/lang/String"), .int, .int, (.object "java/lang/String")], none⟩ := by decide +kernel
theorem pd_13 : parseMethodDescriptor "(Lcom/example/depeche/depeche/profile/Path;Ljava/util/Set;Z)V" = some ⟨[(.object "com/example/depeche/depeche/profile/Path"), (.object "java/util/Set"), .boolean], none⟩ := by decide +kernel
theorem pd_14 : parseMethodDescriptor "()Ljava/lang/String;" = some ⟨[], some (.object "java/lang/String")⟩ := by decide +kernel
theorem pd_15 : parseMethodDescriptor "(Ljava/lang/Object;)Z" = some ⟨[(.object "java/lang/Object")], some .boolean⟩ := by decide +kernel
theorem pd_16 : parseMethodDescriptor "()I" = some ⟨[], some .int⟩ := by decide +kernel
theorem pd_17 : parseMethodDescriptor "(Ljava/lang/String;)V" = some ⟨[(.object "java/lang/String")], none⟩ := by decide +kernel
theorem pd_18 : parseMethodDescriptor "(C)Ljava/lang/String;" = some ⟨[.char], some (.object "java/lang/String")⟩ := by decide +kernel
theorem pd_19 : parseMethodDescriptor "(Ljava/lang/Object;)Ljava/util/Set;" = some ⟨[(.object "java/lang/Object")], some (.object "java/util/Set")⟩ := by decide +kernel
set_option maxRecDepth 65536 in
set_option maxHeartbeats 40000000 in
theorem rm0 (l : Launch) (Z : State) (a0 : Array Value) (hw : ∀ d ∈ tables_1, d.before a0 Z = true) (ws : List Jvm.Cond) (p1 : Int32) (p2 : Int32) (p3 : Int32) (p4 : Int32) (p5 : Int32) (p6 : Int32) (zc : Int32) (w1 : Addr) (wm : Addr) (h0 : Heap) (n0 : Nat) (Z0 : n0 ≤ h0.size) (S4 : Sta Z Z.heap "java/lang/String" "COMPACT_STRINGS" "Z" (.int zc)) (S1 : Sta Z Z.heap "java/util/ImmutableCollections" "EMPTY_SET" "Ljava/util/ImmutableCollections$SetN;" (.ref w1)) (Ew : Exa Z Z.heap w1 "java/util/ImmutableCollections$SetN") (S2 : Sta Z Z.heap "java/util/ImmutableCollections" "EMPTY" "Ljava/lang/Object;" (.ref wm)) (O1 : Old Z n0 h0) (hCS : ¬ zc = 0) :
    MetFree l x (head1 (Jvm.Cond.code x code maxLocals ret :: ws) room_1) (fun a U => a = #[(.int p1), (.int p2), (.int p3), (.int p4), (.int p5), (.int p6)] ∧ Z.Warmed39 U.vm ∧ U.heap = h0) (fun _ _ _ _ _ => True) (fun _ U o U' => ∃ v L, o = .returned v ∧ Q_rm0 Z p1 p2 p3 p4 p5 p6 zc w1 wm h0 n0 v U'.heap L ∧ FrameEnd U o U' L room_1.cells room_1.slots) := by
  refine MetFree.of_bodySF (plainFor_of_name pn_com_example_depeche_depeche_profile_ConditionPathPinLaw) hisR ?_
  intro p e s m args below meth c s₁ Bd hml0 hP hK
  obtain ⟨rfl, hZ, hh⟩ := hP
  have hx := Bd.exec
  have hby := Bd.bytes
  have hlk := BodyLoose.notSynchronized Bd
  have hml : c.maxLocals = 20 := hml0
  have hown : s.vm.findClass "com/example/depeche/depeche/profile/ConditionPathPinLaw" = some m.cls := findClass_of_methodNamed Bd.named
  have hnm := (name_of_methodNamed Bd.named Bd.method).1
  have X0 : Stand p l e room_1 s m #[(.int p1), (.int p2), (.int p3), (.int p4), (.int p5), (.int p6)] below meth c s₁ [] 0 0 := Stand.of_body Bd
  have e0 : s₁.heap = h0 := by rw [← hh, Bd.state]; rfl
  have N0 := Fr.nil n0
  have K0 := Keep.refl h0 []
  clear hh
  show Wk p e below s (Q_rm0 Z p1 p2 p3 p4 p5 p6 zc w1 wm h0 n0) room_1.cells room_1.slots s₁ (entryFrame m #[(.int p1), (.int p2), (.int p3), (.int p4), (.int p5), (.int p6)] maxLocals)
  rw [ef_rm0]
  refine Wk.iconst X0 hx (hb hby at_0) (n := 1) rfl (z := (3 : Int32)) rfl ?_
  refine Wk.newP X0 hx hZ (hw _ (List.mem_of_getElem? (i := 0) rfl)) e0 (hb hby at_1) (n := 3) rfl (by decide) (cap := 3) (by decide) (by decide) (by decide) (by decide) fun T1 H1 b1 k1 gn1 X1 e1 Ex1 An1 => ?_
  have gn1 := nx gn1
  have sz1 := Ex1.1
  have K1 := K0.ext Ex1
  have Vn1 : Arv Z H1 b1 k1 .char (3 : Int32) [(.int (0 : Int32)), (.int (0 : Int32)), (.int (0 : Int32))] (.int (0 : Int32)) := (Arv.new An1 (by decide)).pad (pad_rep [] (.int (0 : Int32)) 3)
  have lt1 := ny Vn1.lt
  refine Wk.dup X1 hx (hb hby at_3) (n := 4) rfl rfl ?_
  refine Wk.iconst X1 hx (hb hby at_4) (n := 5) rfl (z := (0 : Int32)) rfl ?_
  refine Wk.iloadN X1 hx (hb hby at_5) (n := 6) rfl rfl ?_
  refine Wk.sipush X1 hx (hb hby at_6) (n := 9) rfl (z := (255 : Int32)) rfl ?_
  refine Wk.iand X1 hx (hb hby at_9) (n := 10) rfl ?_
  obtain ⟨c0, q_c0⟩ : ∃ z : Int32, z = ((p1 &&& (255 : Int32)).toUInt32.toUInt16.toUInt32.toInt32) := ⟨_, rfl⟩
  have n_c0 : nar .char c0 = c0 := by rw [q_c0]; exact own_c255 _
  have r_c0 : ¬ c0 < 0 ∧ ¬ (255 : Int32) < c0 := by rw [q_c0]; exact own_r255 _
  refine Wk.i2c X1 hx (hb hby at_10) (n := 11) rfl q_c0.symm ?_
  obtain ⟨cl2, Ar2, qn2, Sz2, N_2, H_2, Gn2⟩ := id Vn1
  have hin2 : ¬ ((0 : Int32) < 0 ∨ cl2.slots.size ≤ ((0 : Int32)).toNatClampNeg) := inb_of Sz2 ⟨by decide, by decide⟩
  refine Wk.stC X1 hx hZ e1 Ar2 hin2 (hb hby at_11) (n := 12) rfl fun T2 H2 X2 e2 Wn2 => ?_
  have Vn2 := Arv.set Ar2 qn2 Sz2 N_2 H_2 Gn2 (fits_nar_char _) Wn2 0 rfl (Nat.le_of_ble_eq_true rfl)
  have Un2 : Arv Z H2 b1 k1 .char (3 : Int32) [(.int c0), (.int (0 : Int32)), (.int (0 : Int32))] (.int (0 : Int32)) := by have q := Vn2; rw [n_c0] at q; exact q
  have sz2 := Wn2.size
  have K2 := K1.wr Wn2 (Or.inr (by omega))
  have N2 := Fr.snoc X2 N0 (by omega)
  refine Wk.dup X2 hx (hb hby at_12) (n := 13) rfl rfl ?_
  refine Wk.iconst X2 hx (hb hby at_13) (n := 14) rfl (z := (1 : Int32)) rfl ?_
  refine Wk.iloadN X2 hx (hb hby at_14) (n := 15) rfl rfl ?_
  refine Wk.bipush X2 hx (hb hby at_15) (n := 17) rfl (z := (8 : Int32)) rfl ?_
  refine Wk.iushr X2 hx (hb hby at_17) (n := 18) rfl ?_
  refine Wk.sipush X2 hx (hb hby at_18) (n := 21) rfl (z := (255 : Int32)) rfl ?_
  refine Wk.iand X2 hx (hb hby at_21) (n := 22) rfl ?_
  obtain ⟨c1, q_c1⟩ : ∃ z : Int32, z = ((((p1.toUInt32 >>> ((8 : Int32) &&& 31).toUInt32).toInt32) &&& (255 : Int32)).toUInt32.toUInt16.toUInt32.toInt32) := ⟨_, rfl⟩
  have n_c1 : nar .char c1 = c1 := by rw [q_c1]; exact own_c255 _
  have r_c1 : ¬ c1 < 0 ∧ ¬ (255 : Int32) < c1 := by rw [q_c1]; exact own_r255 _
  refine Wk.i2c X2 hx (hb hby at_22) (n := 23) rfl q_c1.symm ?_
  obtain ⟨cl3, Ar3, qn3, Sz3, N_3, H_3, Gn3⟩ := id Un2
  have hin3 : ¬ ((1 : Int32) < 0 ∨ cl3.slots.size ≤ ((1 : Int32)).toNatClampNeg) := inb_of Sz3 ⟨by decide, by decide⟩
  refine Wk.stC X2 hx hZ e2 Ar3 hin3 (hb hby at_23) (n := 24) rfl fun T3 H3 X3 e3 Wn3 => ?_
  have Vn3 := Arv.set Ar3 qn3 Sz3 N_3 H_3 Gn3 (fits_nar_char _) Wn3 1 rfl (Nat.le_of_ble_eq_true rfl)
  have Un3 : Arv Z H3 b1 k1 .char (3 : Int32) [(.int c0), (.int c1), (.int (0 : Int32))] (.int (0 : Int32)) := by have q := Vn3; rw [n_c1] at q; exact q
  have sz3 := Wn3.size
  have K3 := K2.wr Wn3 (Or.inr (by omega))
  have N3 := Fr.snoc X3 N2 (by omega)
  refine Wk.dup X3 hx (hb hby at_24) (n := 25) rfl rfl ?_
  refine Wk.iconst X3 hx (hb hby at_25) (n := 26) rfl (z := (2 : Int32)) rfl ?_
  refine Wk.iloadN X3 hx (hb hby at_26) (n := 27) rfl rfl ?_
  refine Wk.bipush X3 hx (hb hby at_27) (n := 29) rfl (z := (16 : Int32)) rfl ?_
  refine Wk.iushr X3 hx (hb hby at_29) (n := 30) rfl ?_
  refine Wk.sipush X3 hx (hb hby at_30) (n := 33) rfl (z := (255 : Int32)) rfl ?_
  refine Wk.iand X3 hx (hb hby at_33) (n := 34) rfl ?_
  obtain ⟨c2, q_c2⟩ : ∃ z : Int32, z = ((((p1.toUInt32 >>> ((16 : Int32) &&& 31).toUInt32).toInt32) &&& (255 : Int32)).toUInt32.toUInt16.toUInt32.toInt32) := ⟨_, rfl⟩
  have n_c2 : nar .char c2 = c2 := by rw [q_c2]; exact own_c255 _
  have r_c2 : ¬ c2 < 0 ∧ ¬ (255 : Int32) < c2 := by rw [q_c2]; exact own_r255 _
  refine Wk.i2c X3 hx (hb hby at_34) (n := 35) rfl q_c2.symm ?_
  obtain ⟨cl4, Ar4, qn4, Sz4, N_4, H_4, Gn4⟩ := id Un3
  have hin4 : ¬ ((2 : Int32) < 0 ∨ cl4.slots.size ≤ ((2 : Int32)).toNatClampNeg) := inb_of Sz4 ⟨by decide, by decide⟩
  refine Wk.stC X3 hx hZ e3 Ar4 hin4 (hb hby at_35) (n := 36) rfl fun T4 H4 X4 e4 Wn4 => ?_
  have Vn4 := Arv.set Ar4 qn4 Sz4 N_4 H_4 Gn4 (fits_nar_char _) Wn4 2 rfl (Nat.le_of_ble_eq_true rfl)
  have Un4 : Arv Z H4 b1 k1 .char (3 : Int32) [(.int c0), (.int c1), (.int c2)] (.int (0 : Int32)) := by have q := Vn4; rw [n_c2] at q; exact q
  have sz4 := Wn4.size
  have K4 := K3.wr Wn4 (Or.inr (by omega))
  have N4 := Fr.snoc X4 N3 (by omega)
  refine Wk.astore X4 hx (hb hby at_36) (n := 38) rfl rfl (L' := #[.val (.int p1), .val (.int p2), .val (.int p3), .val (.int p4), .val (.int p5), .val (.int p6), .val (.ref b1), .unset, .unset, .unset, .unset, .unset, .unset, .unset, .unset, .unset, .unset, .unset, .unset, .unset]) rfl ?_
  refine Wk.newO X4 hx hZ hown (hw _ (List.mem_of_getElem? (i := 1) rfl)) (hw _ (List.mem_of_getElem? (i := 2) rfl)) (hw _ (List.mem_of_getElem? (i := 3) rfl)) e4 (hb hby at_38) (n := 41) rfl (by decide) (by decide) fun T5 H5 b5 gn5 X5 e5 Ex5 An5 Dn5 Yn5 => ?_
  have gn5 := nx gn5
  have sz5 := Ex5.1
  have lt5 := ny An5.lt
  have K5 := K4.ext Ex5
  have Fn5_coder : Fld Z H5 b5 "java/lang/String" "coder" "B" (.int (0 : Int32)) := Dn5 (Or.inr (hw _ (List.mem_of_getElem? (i := 27) rfl))) (ty := .byte) (by decide)
  have Fn5_value : Fld Z H5 b5 "java/lang/String" "value" "[B" .null := Dn5 (Or.inr (hw _ (List.mem_of_getElem? (i := 29) rfl))) (ty := (.array .byte)) (by decide)
  refine Wk.dup X5 hx (hb hby at_41) (n := 42) rfl rfl ?_
  refine Wk.aload X5 hx (hb hby at_42) (n := 44) rfl rfl rfl ?_
  have f7 := (Un4.ext Ex5)
  have f8 := (((((O1.ext Ex1).wr Wn2 (by omega)).wr Wn3 (by omega)).wr Wn4 (by omega)).ext Ex5)
  have hp9 : ∀ c ∈ ([c0, c1, c2] : List Int32), ¬ c < 0 ∧ ¬ (255 : Int32) < c := List.forall_mem_cons.mpr ⟨r_c0, List.forall_mem_cons.mpr ⟨r_c1, List.forall_mem_cons.mpr ⟨r_c2, (fun _ q => nomatch q)⟩⟩⟩
  have cl6_ := fun (Ls : Array Slot) (hLs : Ls.size = c.maxLocals) => X5.specialBack hx (y := (⟨"java/lang/String", "<init>", "([C)V"⟩ : MethodName)) rfl hown (mvT hZ (hw _ (List.mem_of_getElem? (i := 4) rfl))) (mvT hZ (hw _ (List.mem_of_getElem? (i := 5) rfl))) (mvT hZ (hw _ (List.mem_of_getElem? (i := 6) rfl))) (by decide) (StrChars.Road.backV (n0 := n0) (h := H5) (x := b5) (W := 1) hZ (fun d hd => hw d (own_ws d hd)) (kI := 4) (hw _ (List.mem_of_getElem? (i := 2) rfl)) (cs := [c0, c1, c2]) (bs := (([c0, c1, c2] : List Int32).map (fun c => c.toInt8.toInt32))) (n := 3) (by omega) (by omega) An5 Fn5_value Fn5_coder f7 (Sta.ext f8.2 S4) hCS rfl rfl (by decide) (by decide) hp9 rfl (by decide) (by decide)) (g := mkF m 44 Ls [(.ref b1), (.ref b5), (.ref b5)]) rfl hLs (Steps.refl _) (a := b5) (argsL := [(.ref b1)]) (rest := [(.ref b5)]) (lenOf pd_10 rfl) rfl (by show 2 * 0 + _ ≤ _; exact Nat.le_of_eq rfl) (hb hby at_44) (fun _ _ => ⟨rfl, e5, (by decide : 0 + 1 + 1 + 1 ≤ _), (by decide : 0 + 3 + 4 + 3 ≤ _)⟩)
  refine Wk.back (n := 47) (rc := 1) (rs := 3) (Q := StrChars.Road.QV Z b5 (3 : Int32) (([c0, c1, c2] : List Int32).map (fun c => c.toInt8.toInt32)) H5 n0) (cl6_ _ (by rw [hml]; rfl)) fun vn6 T6 L6 X6 hQ6 => ?_
  clear cl6_
  obtain ⟨rfl, M6, J6, p6_0, p6_1, t_6, kb_6, _, ge_6, nt_6, p6_2, p6_3⟩ := hQ6
  have nt_6 := nw nt_6
  have N6 := Fr.app N4 M6
  have sz6 := J6.1
  have K6 := K5.trans J6 (allS (Or.inr (by omega)) all0)
  have lt_p6 := ny p6_3.lt
  show Wk p e below s _ _ _ T6 (mkF m 47 _ [(.ref b5)])
  refine Wk.astore X6 hx (hb hby at_47) (n := 49) rfl rfl (L' := #[.val (.int p1), .val (.int p2), .val (.int p3), .val (.int p4), .val (.int p5), .val (.int p6), .val (.ref b1), .val (.ref b5), .unset, .unset, .unset, .unset, .unset, .unset, .unset, .unset, .unset, .unset, .unset, .unset]) rfl ?_
  refine Wk.iconst X6 hx (hb hby at_49) (n := 50) rfl (z := (2 : Int32)) rfl ?_
  refine Wk.newP X6 hx hZ (hw _ (List.mem_of_getElem? (i := 0) rfl)) rfl (hb hby at_50) (n := 52) rfl (by decide) (cap := 2) (by decide) (by decide) (by decide) (by decide) fun T10 H10 b10 k10 gn10 X10 e10 Ex10 An10 => ?_
  have gn10 := nx gn10
  have sz10 := Ex10.1
  have K10 := K6.ext Ex10
  have Vn10 : Arv Z H10 b10 k10 .char (2 : Int32) [(.int (0 : Int32)), (.int (0 : Int32))] (.int (0 : Int32)) := (Arv.new An10 (by decide)).pad (pad_rep [] (.int (0 : Int32)) 2)
  have lt10 := ny Vn10.lt
  refine Wk.dup X10 hx (hb hby at_52) (n := 53) rfl rfl ?_
  refine Wk.iconst X10 hx (hb hby at_53) (n := 54) rfl (z := (0 : Int32)) rfl ?_
  refine Wk.iloadN X10 hx (hb hby at_54) (n := 55) rfl rfl ?_
  refine Wk.sipush X10 hx (hb hby at_55) (n := 58) rfl (z := (255 : Int32)) rfl ?_
  refine Wk.iand X10 hx (hb hby at_58) (n := 59) rfl ?_
  obtain ⟨c3, q_c3⟩ : ∃ z : Int32, z = ((p4 &&& (255 : Int32)).toUInt32.toUInt16.toUInt32.toInt32) := ⟨_, rfl⟩
  have n_c3 : nar .char c3 = c3 := by rw [q_c3]; exact own_c255 _
  have r_c3 : ¬ c3 < 0 ∧ ¬ (255 : Int32) < c3 := by rw [q_c3]; exact own_r255 _
  refine Wk.i2c X10 hx (hb hby at_59) (n := 60) rfl q_c3.symm ?_
  obtain ⟨cl11, Ar11, qn11, Sz11, N_11, H_11, Gn11⟩ := id Vn10
  have hin11 : ¬ ((0 : Int32) < 0 ∨ cl11.slots.size ≤ ((0 : Int32)).toNatClampNeg) := inb_of Sz11 ⟨by decide, by decide⟩
  refine Wk.stC X10 hx hZ e10 Ar11 hin11 (hb hby at_60) (n := 61) rfl fun T11 H11 X11 e11 Wn11 => ?_
  have Vn11 := Arv.set Ar11 qn11 Sz11 N_11 H_11 Gn11 (fits_nar_char _) Wn11 0 rfl (Nat.le_of_ble_eq_true rfl)
  have Un11 : Arv Z H11 b10 k10 .char (2 : Int32) [(.int c3), (.int (0 : Int32))] (.int (0 : Int32)) := by have q := Vn11; rw [n_c3] at q; exact q
  have sz11 := Wn11.size
  have K11 := K10.wr Wn11 (Or.inr (by omega))
  have N11 := Fr.snoc X11 N6 (by omega)
  refine Wk.dup X11 hx (hb hby at_61) (n := 62) rfl rfl ?_
  refine Wk.iconst X11 hx (hb hby at_62) (n := 63) rfl (z := (1 : Int32)) rfl ?_
  refine Wk.iloadN X11 hx (hb hby at_63) (n := 64) rfl rfl ?_
  refine Wk.bipush X11 hx (hb hby at_64) (n := 66) rfl (z := (8 : Int32)) rfl ?_
  refine Wk.iushr X11 hx (hb hby at_66) (n := 67) rfl ?_
  refine Wk.sipush X11 hx (hb hby at_67) (n := 70) rfl (z := (255 : Int32)) rfl ?_
  refine Wk.iand X11 hx (hb hby at_70) (n := 71) rfl ?_
  obtain ⟨c4, q_c4⟩ : ∃ z : Int32, z = ((((p4.toUInt32 >>> ((8 : Int32) &&& 31).toUInt32).toInt32) &&& (255 : Int32)).toUInt32.toUInt16.toUInt32.toInt32) := ⟨_, rfl⟩
  have n_c4 : nar .char c4 = c4 := by rw [q_c4]; exact own_c255 _
  have r_c4 : ¬ c4 < 0 ∧ ¬ (255 : Int32) < c4 := by rw [q_c4]; exact own_r255 _
  refine Wk.i2c X11 hx (hb hby at_71) (n := 72) rfl q_c4.symm ?_
  obtain ⟨cl12, Ar12, qn12, Sz12, N_12, H_12, Gn12⟩ := id Un11
  have hin12 : ¬ ((1 : Int32) < 0 ∨ cl12.slots.size ≤ ((1 : Int32)).toNatClampNeg) := inb_of Sz12 ⟨by decide, by decide⟩
  refine Wk.stC X11 hx hZ e11 Ar12 hin12 (hb hby at_72) (n := 73) rfl fun T12 H12 X12 e12 Wn12 => ?_
  have Vn12 := Arv.set Ar12 qn12 Sz12 N_12 H_12 Gn12 (fits_nar_char _) Wn12 1 rfl (Nat.le_of_ble_eq_true rfl)
  have Un12 : Arv Z H12 b10 k10 .char (2 : Int32) [(.int c3), (.int c4)] (.int (0 : Int32)) := by have q := Vn12; rw [n_c4] at q; exact q
  have sz12 := Wn12.size
  have K12 := K11.wr Wn12 (Or.inr (by omega))
  have N12 := Fr.snoc X12 N11 (by omega)
  refine Wk.astore X12 hx (hb hby at_73) (n := 75) rfl rfl (L' := #[.val (.int p1), .val (.int p2), .val (.int p3), .val (.int p4), .val (.int p5), .val (.int p6), .val (.ref b1), .val (.ref b5), .val (.ref b10), .unset, .unset, .unset, .unset, .unset, .unset, .unset, .unset, .unset, .unset, .unset]) rfl ?_
  refine Wk.newO X12 hx hZ hown (hw _ (List.mem_of_getElem? (i := 1) rfl)) (hw _ (List.mem_of_getElem? (i := 2) rfl)) (hw _ (List.mem_of_getElem? (i := 3) rfl)) e12 (hb hby at_75) (n := 78) rfl (by decide) (by decide) fun T13 H13 b13 gn13 X13 e13 Ex13 An13 Dn13 Yn13 => ?_
  have gn13 := nx gn13
  have sz13 := Ex13.1
  have lt13 := ny An13.lt
  have K13 := K12.ext Ex13
  have Fn13_coder : Fld Z H13 b13 "java/lang/String" "coder" "B" (.int (0 : Int32)) := Dn13 (Or.inr (hw _ (List.mem_of_getElem? (i := 27) rfl))) (ty := .byte) (by decide)
  have Fn13_value : Fld Z H13 b13 "java/lang/String" "value" "[B" .null := Dn13 (Or.inr (hw _ (List.mem_of_getElem? (i := 29) rfl))) (ty := (.array .byte)) (by decide)
  refine Wk.dup X13 hx (hb hby at_78) (n := 79) rfl rfl ?_
  refine Wk.aload X13 hx (hb hby at_79) (n := 81) rfl rfl rfl ?_
  have f15 := (Un12.ext Ex13)
  have f16 := (((((f8.keep J6 (allS (by omega) all0)).ext Ex10).wr Wn11 (by omega)).wr Wn12 (by omega)).ext Ex13)
  have hp17 : ∀ c ∈ ([c3, c4] : List Int32), ¬ c < 0 ∧ ¬ (255 : Int32) < c := List.forall_mem_cons.mpr ⟨r_c3, List.forall_mem_cons.mpr ⟨r_c4, (fun _ q => nomatch q)⟩⟩
  have cl14_ := fun (Ls : Array Slot) (hLs : Ls.size = c.maxLocals) => X13.specialBack hx (y := (⟨"java/lang/String", "<init>", "([C)V"⟩ : MethodName)) rfl hown (mvT hZ (hw _ (List.mem_of_getElem? (i := 4) rfl))) (mvT hZ (hw _ (List.mem_of_getElem? (i := 5) rfl))) (mvT hZ (hw _ (List.mem_of_getElem? (i := 6) rfl))) (by decide) (StrChars.Road.backV (n0 := n0) (h := H13) (x := b13) (W := 1) hZ (fun d hd => hw d (own_ws d hd)) (kI := 4) (hw _ (List.mem_of_getElem? (i := 2) rfl)) (cs := [c3, c4]) (bs := (([c3, c4] : List Int32).map (fun c => c.toInt8.toInt32))) (n := 2) (by omega) (by omega) An13 Fn13_value Fn13_coder f15 (Sta.ext f16.2 S4) hCS rfl rfl (by decide) (by decide) hp17 rfl (by decide) (by decide)) (g := mkF m 81 Ls [(.ref b10), (.ref b13), (.ref b13)]) rfl hLs (Steps.refl _) (a := b13) (argsL := [(.ref b10)]) (rest := [(.ref b13)]) (lenOf pd_10 rfl) rfl (by show 2 * 0 + _ ≤ _; exact Nat.le_of_eq rfl) (hb hby at_81) (fun _ _ => ⟨rfl, e13, (by decide : 0 + 1 + 1 + 1 + 1 + 1 + 1 ≤ _), (by decide : 0 + 3 + 4 + 3 + 2 + 4 + 2 ≤ _)⟩)
  refine Wk.back (n := 84) (rc := 1) (rs := 2) (Q := StrChars.Road.QV Z b13 (2 : Int32) (([c3, c4] : List Int32).map (fun c => c.toInt8.toInt32)) H13 n0) (cl14_ _ (by rw [hml]; rfl)) fun vn14 T14 L14 X14 hQ14 => ?_
  clear cl14_
  obtain ⟨rfl, M14, J14, p14_0, p14_1, t_14, kb_14, _, ge_14, nt_14, p14_2, p14_3⟩ := hQ14
  have nt_14 := nw nt_14
  have N14 := Fr.app N12 M14
  have sz14 := J14.1
  have K14 := K13.trans J14 (allS (Or.inr (by omega)) all0)
  have lt_p14 := ny p14_3.lt
  show Wk p e below s _ _ _ T14 (mkF m 84 _ [(.ref b13)])
  refine Wk.astore X14 hx (hb hby at_84) (n := 86) rfl rfl (L' := #[.val (.int p1), .val (.int p2), .val (.int p3), .val (.int p4), .val (.int p5), .val (.int p6), .val (.ref b1), .val (.ref b5), .val (.ref b10), .val (.ref b13), .unset, .unset, .unset, .unset, .unset, .unset, .unset, .unset, .unset, .unset]) rfl ?_
  have Jp148 : ∀ (hm ng ov : Int32) (u : Value) (hng : nar .boolean ng = ng) (hu : u = .null ∨ u = .ref b13), Wk p e below s (Q_rm0 Z p1 p2 p3 p4 p5 p6 zc w1 wm h0 n0) room_1.cells room_1.slots T14 (mkF m 148 #[.val (.int p1), .val (.int p2), .val (.int p3), .val (.int p4), .val (.int p5), .val (.int p6), .val (.ref b1), .val (.ref b5), .val (.ref b10), .val (.ref b13), .val (.int hm), .val (.int ng), .val (.int ov), .unset, .unset, .unset, .unset, .unset, .unset, .unset] [u]) := by
    intro hm ng ov u hng hu
    have hur : u.isRef = true := by rcases hu with rfl | rfl <;> rfl
    refine Wk.astore X14 hx (hb hby at_148) (n := 150) rfl hur (L' := #[.val (.int p1), .val (.int p2), .val (.int p3), .val (.int p4), .val (.int p5), .val (.int p6), .val (.ref b1), .val (.ref b5), .val (.ref b10), .val (.ref b13), .val (.int hm), .val (.int ng), .val (.int ov), .val u, .unset, .unset, .unset, .unset, .unset, .unset]) (by rcases ref_cases hur with rfl | ⟨z, rfl⟩ <;> rfl) ?_
    refine Wk.iload X14 hx (hb hby at_150) (n := 152) rfl rfl ?_
    by_cases hc152 : ov = (0 : Int32)
    ·
      refine Wk.ifYes X14 hx (hb hby at_152) ((if0 _ _).trans (teq hc152).1) (by decide) (n := 173) (by decide) ?_
      have f18 := (f16.keep J14 (allS (by omega) all0))
      have cl19_ := fun (Ls : Array Slot) (hLs : Ls.size = c.maxLocals) => Jvm.LawKit.callS X14 hx (y := (⟨"java/util/Set", "of", "()Ljava/util/Set;"⟩ : MethodName)) hown (mvT hZ (hw _ (List.mem_of_getElem? (i := 30) rfl))) (mvT hZ (hw _ (List.mem_of_getElem? (i := 31) rfl))) (mvT hZ (hw _ (List.mem_of_getElem? (i := 32) rfl))) (mvT hZ (hw _ (List.mem_of_getElem? (i := 33) rfl))) (by decide) (backOf (W := 0) (rmSO0 l Z a0 hw [] w1 T14.heap n0 (by omega) S1 f18) hZ (hw _ (List.mem_of_getElem? (i := 33) rfl)) (hw _ (List.mem_of_getElem? (i := 32) rfl)) (by decide) (by decide)) (g := mkF m 173 Ls []) rfl hLs (argsL := []) (rest := []) (lenOf pd_11 rfl) rfl (by show 2 * 0 + _ ≤ _; exact Nat.le_of_eq rfl) (hb hby at_173) (fun _ _ => ⟨rfl, rfl, (by decide : 0 + 1 + 1 + 1 + 1 + 1 + 1 + 0 ≤ _), (by decide : 0 + 3 + 4 + 3 + 2 + 4 + 2 + 0 ≤ _)⟩)
      refine Wk.backS (n := 176) (rc := 0) (rs := 0) (Q := Q_rmSO0 Z w1 T14.heap n0) (cl19_ _ (by rw [hml]; rfl)) fun vn19 T19 L19 X19 hQ19 => ?_
      clear cl19_
      obtain ⟨rfl, M19, e19⟩ := hQ19
      have N19 := Fr.app N14 M19
      show Wk p e below s _ _ _ T19 (mkF m 176 _ [(.ref w1)])
      refine Wk.astore X19 hx (hb hby at_176) (n := 178) rfl rfl (L' := #[.val (.int p1), .val (.int p2), .val (.int p3), .val (.int p4), .val (.int p5), .val (.int p6), .val (.ref b1), .val (.ref b5), .val (.ref b10), .val (.ref b13), .val (.int hm), .val (.int ng), .val (.int ov), .val u, .val (.ref w1), .unset, .unset, .unset, .unset, .unset]) rfl ?_
      refine Wk.newO X19 hx hZ hown (hw _ (List.mem_of_getElem? (i := 36) rfl)) (hw _ (List.mem_of_getElem? (i := 37) rfl)) (hw _ (List.mem_of_getElem? (i := 38) rfl)) e19 (hb hby at_178) (n := 181) rfl (by decide) (by decide) fun T20 H20 b20 gn20 X20 e20 Ex20 An20 Dn20 Yn20 => ?_
      have gn20 := nx gn20
      have sz20 := Ex20.1
      have lt20 := ny An20.lt
      have K20 := K14.ext Ex20
      have Fn20_segment : Fld Z H20 b20 "com/example/depeche/depeche/profile/Path" "segment" "Ljava/lang/String;" .null := Dn20 (Or.inr (hw _ (List.mem_of_getElem? (i := 49) rfl))) (ty := (.object "java/lang/String")) (by decide)
      have Fn20_field : Fld Z H20 b20 "com/example/depeche/depeche/profile/Path" "field" "I" (.int (0 : Int32)) := Dn20 (Or.inr (hw _ (List.mem_of_getElem? (i := 51) rfl))) (ty := .int) (by decide)
      have Fn20_component : Fld Z H20 b20 "com/example/depeche/depeche/profile/Path" "component" "I" (.int (0 : Int32)) := Dn20 (Or.inr (hw _ (List.mem_of_getElem? (i := 53) rfl))) (ty := .int) (by decide)
      have Fn20_mark : Fld Z H20 b20 "com/example/depeche/depeche/profile/Path" "mark" "Ljava/lang/String;" .null := Dn20 (Or.inr (hw _ (List.mem_of_getElem? (i := 55) rfl))) (ty := (.object "java/lang/String")) (by decide)
      refine Wk.dup X20 hx (hb hby at_181) (n := 182) rfl rfl ?_
      refine Wk.aload X20 hx (hb hby at_182) (n := 184) rfl rfl rfl ?_
      refine Wk.iloadN X20 hx (hb hby at_184) (n := 185) rfl rfl ?_
      refine Wk.iloadN X20 hx (hb hby at_185) (n := 186) rfl rfl ?_
      refine Wk.aload X20 hx (hb hby at_186) (n := 188) rfl rfl hur ?_
      have cl21_ := fun (Ls : Array Slot) (hLs : Ls.size = c.maxLocals) => X20.specialBack hx (y := (⟨"com/example/depeche/depeche/profile/Path", "<init>", "(Ljava/lang/String;IILjava/lang/String;)V"⟩ : MethodName)) rfl hown (mvT hZ (hw _ (List.mem_of_getElem? (i := 39) rfl))) (mvT hZ (hw _ (List.mem_of_getElem? (i := 40) rfl))) (mvT hZ (hw _ (List.mem_of_getElem? (i := 41) rfl))) (by decide) (backOf (W := 1) (rmPI l Z a0 hw [] b20 b5 p2 p3 u .null (.int (0 : Int32)) (.int (0 : Int32)) .null H20 n0 (by omega) An20 Fn20_segment Fn20_field Fn20_component Fn20_mark (by omega) hur) hZ (hw _ (List.mem_of_getElem? (i := 41) rfl)) (hw _ (List.mem_of_getElem? (i := 38) rfl)) (by decide) (by decide)) (g := mkF m 188 Ls [u, (.int p3), (.int p2), (.ref b5), (.ref b20), (.ref b20)]) rfl hLs (Steps.refl _) (a := b20) (argsL := [(.ref b5), (.int p2), (.int p3), u]) (rest := [(.ref b20)]) (lenOf pd_12 rfl) rfl (by show 2 * 0 + _ ≤ _; exact Nat.le_of_eq rfl) (hb hby at_188) (fun _ _ => ⟨rfl, e20, (by decide : 0 + 1 + 1 + 1 + 1 + 1 + 1 + 0 + 1 + 0 ≤ _), (by decide : 0 + 3 + 4 + 3 + 2 + 4 + 2 + 0 + 4 + 0 ≤ _)⟩)
      refine Wk.back (n := 191) (rc := 0) (rs := 0) (Q := Q_rmPI Z b20 b5 p2 p3 u .null (.int (0 : Int32)) (.int (0 : Int32)) .null H20 n0) (cl21_ _ (by rw [hml]; rfl)) fun vn21 T21 L21 X21 hQ21 => ?_
      clear cl21_
      obtain ⟨rfl, M21, J21, p21_0, p21_1, p21_2, p21_3, p21_4⟩ := hQ21
      have N21 := Fr.app N19 M21
      have sz21 := J21.1
      have K21 := K20.trans J21 (allS (Or.inr (by omega)) all0)
      have lt_p21_0 := ny p21_0.lt
      show Wk p e below s _ _ _ T21 (mkF m 191 _ [(.ref b20)])
      refine Wk.astore X21 hx (hb hby at_191) (n := 193) rfl rfl (L' := #[.val (.int p1), .val (.int p2), .val (.int p3), .val (.int p4), .val (.int p5), .val (.int p6), .val (.ref b1), .val (.ref b5), .val (.ref b10), .val (.ref b13), .val (.int hm), .val (.int ng), .val (.int ov), .val u, .val (.ref w1), .val (.ref b20), .unset, .unset, .unset, .unset]) rfl ?_
      refine Wk.iload X21 hx (hb hby at_193) (n := 195) rfl rfl ?_
      refine Wk.ldcInt X21 hx hown (mvT hZ (hw _ (List.mem_of_getElem? (i := 56) rfl))) (hb hby at_195) (n := 197) rfl ?_
      refine Wk.iand X21 hx (hb hby at_197) (n := 198) rfl ?_
      refine Wk.iconst X21 hx (hb hby at_198) (n := 199) rfl (z := (5 : Int32)) rfl ?_
      refine Wk.irem X21 hx (hb hby at_199) (n := 200) rfl (by decide) ?_
      refine Wk.istore X21 hx (hb hby at_200) (n := 202) rfl (L' := #[.val (.int p1), .val (.int p2), .val (.int p3), .val (.int p4), .val (.int p5), .val (.int p6), .val (.ref b1), .val (.ref b5), .val (.ref b10), .val (.ref b13), .val (.int hm), .val (.int ng), .val (.int ov), .val u, .val (.ref w1), .val (.ref b20), .val (.int ((p5 &&& (2147483647 : Int32)) % (5 : Int32))), .unset, .unset, .unset]) rfl ?_
      refine Wk.iload X21 hx (hb hby at_202) (n := 204) rfl rfl ?_
      by_cases hc204 : ((p5 &&& (2147483647 : Int32)) % (5 : Int32)) = (0 : Int32)
      ·
        refine Wk.ifNo X21 hx (hb hby at_204) (n := 207) rfl ((if0 _ _).trans (teq hc204).2) ?_
        refine Wk.newO X21 hx hZ hown (hw _ (List.mem_of_getElem? (i := 57) rfl)) (hw _ (List.mem_of_getElem? (i := 58) rfl)) (hw _ (List.mem_of_getElem? (i := 59) rfl)) rfl (hb hby at_207) (n := 210) rfl (by decide) (by decide) fun T22 H22 b22 gn22 X22 e22 Ex22 An22 Dn22 Yn22 => ?_
        have gn22 := nx gn22
        have sz22 := Ex22.1
        have lt22 := ny An22.lt
        have K22 := K21.ext Ex22
        have Fn22_subject : Fld Z H22 b22 "com/example/depeche/depeche/profile/Condition" "subject" "Lcom/example/depeche/depeche/profile/Value$Source;" .null := Dn22 (Or.inr (hw _ (List.mem_of_getElem? (i := 84) rfl))) (ty := (.object "com/example/depeche/depeche/profile/Value$Source")) (by decide)
        have Fn22_values : Fld Z H22 b22 "com/example/depeche/depeche/profile/Condition" "values" "Ljava/util/Set;" .null := Dn22 (Or.inr (hw _ (List.mem_of_getElem? (i := 86) rfl))) (ty := (.object "java/util/Set")) (by decide)
        have Fn22_negated : Fld Z H22 b22 "com/example/depeche/depeche/profile/Condition" "negated" "Z" (.int (0 : Int32)) := Dn22 (Or.inr (hw _ (List.mem_of_getElem? (i := 88) rfl))) (ty := .boolean) (by decide)
        refine Wk.dup X22 hx (hb hby at_210) (n := 211) rfl rfl ?_
        refine Wk.aload X22 hx (hb hby at_211) (n := 213) rfl rfl rfl ?_
        refine Wk.aload X22 hx (hb hby at_213) (n := 215) rfl rfl rfl ?_
        refine Wk.iload X22 hx (hb hby at_215) (n := 217) rfl rfl ?_
        have f23 := (((f18.ext Ex20).keep J21 (allS (by omega) all0)).ext Ex22)
        have f24 := Ew.ext f23.2
        have cl25_ := fun (Ls : Array Slot) (hLs : Ls.size = c.maxLocals) => X22.specialBack hx (y := (⟨"com/example/depeche/depeche/profile/Condition", "<init>", "(Lcom/example/depeche/depeche/profile/Path;Ljava/util/Set;Z)V"⟩ : MethodName)) rfl hown (mvT hZ (hw _ (List.mem_of_getElem? (i := 60) rfl))) (mvT hZ (hw _ (List.mem_of_getElem? (i := 61) rfl))) (mvT hZ (hw _ (List.mem_of_getElem? (i := 62) rfl))) (by decide) (backOf (W := 1) (rmC2N l Z a0 hw [] b22 b20 w1 ng .null .null (.int (0 : Int32)) H22 n0 (by omega) An22 f24 Fn22_subject Fn22_values Fn22_negated (by omega) hng) hZ (hw _ (List.mem_of_getElem? (i := 62) rfl)) (hw _ (List.mem_of_getElem? (i := 59) rfl)) (by decide) (by decide)) (g := mkF m 217 Ls [(.int ng), (.ref w1), (.ref b20), (.ref b22), (.ref b22)]) rfl hLs (Steps.refl _) (a := b22) (argsL := [(.ref b20), (.ref w1), (.int ng)]) (rest := [(.ref b22)]) (lenOf pd_13 rfl) rfl (by show 2 * 0 + _ ≤ _; exact Nat.le_of_eq rfl) (hb hby at_217) (fun _ _ => ⟨rfl, e22, (by decide : 0 + 1 + 1 + 1 + 1 + 1 + 1 + 0 + 1 + 0 + 1 + 1 ≤ _), (by decide : 0 + 3 + 4 + 3 + 2 + 4 + 2 + 0 + 4 + 0 + 3 + 1 ≤ _)⟩)
        refine Wk.back (n := 220) (rc := 1) (rs := 1) (Q := Q_rmC2N Z b22 b20 w1 ng .null .null (.int (0 : Int32)) H22 n0) (cl25_ _ (by rw [hml]; rfl)) fun vn25 T25 L25 X25 hQ25 => ?_
        clear cl25_
        obtain ⟨y_25, rfl, M25, J25, p25_0, p25_1, p25_2, p25_3⟩ := hQ25
        have N25 := Fr.app N21 M25
        have sz25 := J25.1
        have K25 := K22.trans J25 (allS (Or.inr (by omega)) all0)
        have lt_p25_0 := ny p25_0.lt
        have lt_p25_2 := ny p25_2.lt
        show Wk p e below s _ _ _ T25 (mkF m 220 _ [(.ref b22)])
        refine Wk.astore X25 hx (hb hby at_220) (n := 222) rfl rfl (L' := #[.val (.int p1), .val (.int p2), .val (.int p3), .val (.int p4), .val (.int p5), .val (.int p6), .val (.ref b1), .val (.ref b5), .val (.ref b10), .val (.ref b13), .val (.int hm), .val (.int ng), .val (.int ov), .val u, .val (.ref w1), .val (.ref b20), .val (.int ((p5 &&& (2147483647 : Int32)) % (5 : Int32))), .val (.ref b22), .unset, .unset]) rfl ?_
        refine Wk.goto X25 hx (hb hby at_222) (by decide) (n := 338) (by decide) ?_
        refine Wk.aload X25 hx (hb hby at_338) (n := 340) rfl rfl rfl ?_
        obtain ⟨cq26, kq26, qn26a, qn26b, qn26c⟩ := isOf hZ rfl p25_0
        have cl26_ := fun (Ls : Array Slot) (hLs : Ls.size = c.maxLocals) => X25.virtualBack hx (y := (⟨"com/example/depeche/depeche/profile/Condition", "path", "()Lcom/example/depeche/depeche/profile/Path;"⟩ : MethodName)) (z := (⟨"com/example/depeche/depeche/profile/Condition", "path", "()Lcom/example/depeche/depeche/profile/Path;"⟩ : MethodName)) hown (mvT hZ (hw _ (List.mem_of_getElem? (i := 89) rfl))) (mvT hZ (hw _ (List.mem_of_getElem? (i := 90) rfl))) (notFace_of_selects (args := #[]) (mvT hZ (hw _ (List.mem_of_getElem? (i := 92) rfl)))) (mvT hZ (hw _ (List.mem_of_getElem? (i := 92) rfl))) (mvT hZ (hw _ (List.mem_of_getElem? (i := 91) rfl))) (by decide) (backOf (W := 0) (rmPtF l Z a0 hw [] b22 y_25 b20 T25.heap n0 (by omega) p25_1 p25_2 p25_3) hZ (hw _ (List.mem_of_getElem? (i := 93) rfl)) (hw _ (List.mem_of_getElem? (i := 59) rfl)) (by decide) (by decide)) qn26a qn26c (g := mkF m 340 Ls [(.ref b22)]) rfl hLs (Steps.refl _) (argsL := []) (rest := []) (lenOf pd_4 rfl) rfl (by show 2 * 0 + _ ≤ _; exact Nat.le_of_eq rfl) (hb hby at_340) (fun _ _ => ⟨rfl, rfl, (by decide : 0 + 1 + 1 + 1 + 1 + 1 + 1 + 0 + 1 + 0 + 1 + 1 + 0 ≤ _), (by decide : 0 + 3 + 4 + 3 + 2 + 4 + 2 + 0 + 4 + 0 + 3 + 1 + 0 ≤ _)⟩)
        refine Wk.back (n := 343) (rc := 0) (rs := 0) (Q := Q_rmPtF Z b22 y_25 b20 T25.heap n0) (cl26_ _ (by rw [hml]; rfl)) fun vn26 T26 L26 X26 hQ26 => ?_
        clear cl26_
        obtain ⟨rfl, M26, e26⟩ := hQ26
        have N26 := Fr.app N25 M26
        show Wk p e below s _ _ _ T26 (mkF m 343 _ [(.ref b20)])
        refine Wk.astore X26 hx (hb hby at_343) (n := 345) rfl rfl (L' := #[.val (.int p1), .val (.int p2), .val (.int p3), .val (.int p4), .val (.int p5), .val (.int p6), .val (.ref b1), .val (.ref b5), .val (.ref b10), .val (.ref b13), .val (.int hm), .val (.int ng), .val (.int ov), .val u, .val (.ref w1), .val (.ref b20), .val (.int ((p5 &&& (2147483647 : Int32)) % (5 : Int32))), .val (.ref b22), .val (.ref b20), .unset]) rfl ?_
        refine Wk.iload X26 hx (hb hby at_345) (n := 347) rfl rfl ?_
        refine Wk.iconst X26 hx (hb hby at_347) (n := 348) rfl (z := (1 : Int32)) rfl ?_
        have hc348_27 : ¬ ((1 : Int32) < ((p5 &&& (2147483647 : Int32)) % (5 : Int32))) := by rw [hc204]; decide
        refine Wk.icmpNo X26 hx (hb hby at_348) (n := 351) rfl (flt hc348_27).2.2.1 ?_
        refine Wk.aload X26 hx (hb hby at_351) (n := 353) rfl rfl rfl ?_
        refine Wk.ifnonnullYes X26 hx (hb hby at_353) (by decide) (n := 358) (by decide) ?_
        rcases hu with rfl | rfl
        ·
          refine Wk.aload X26 hx (hb hby at_358) (n := 360) rfl rfl rfl ?_
          refine Wk.ifnonnullNo X26 hx (hb hby at_360) (n := 363) rfl ?_
          refine Wk.aload X26 hx (hb hby at_363) (n := 365) rfl rfl rfl ?_
          have f28 := ((p21_4.ext Ex22).keep J25 (ninS (nz (by omega)) nin0))
          have f30 := ((p21_0.ext Ex22).keep J25)
          obtain ⟨cq29, kq29, qn29a, qn29b, qn29c⟩ := isOf hZ e26 f30
          have cl29_ := fun (Ls : Array Slot) (hLs : Ls.size = c.maxLocals) => X26.virtualBack hx (y := (⟨"com/example/depeche/depeche/profile/Path", "mark", "()Ljava/lang/String;"⟩ : MethodName)) (z := (⟨"com/example/depeche/depeche/profile/Path", "mark", "()Ljava/lang/String;"⟩ : MethodName)) hown (mvT hZ (hw _ (List.mem_of_getElem? (i := 100) rfl))) (mvT hZ (hw _ (List.mem_of_getElem? (i := 101) rfl))) (notFace_of_selects (args := #[]) (mvT hZ (hw _ (List.mem_of_getElem? (i := 103) rfl)))) (mvT hZ (hw _ (List.mem_of_getElem? (i := 103) rfl))) (mvT hZ (hw _ (List.mem_of_getElem? (i := 102) rfl))) (by decide) (backOf (W := 0) (rmGm l Z a0 hw [] b20 .null T25.heap n0 (by omega) f28 rfl) hZ (hw _ (List.mem_of_getElem? (i := 104) rfl)) (hw _ (List.mem_of_getElem? (i := 38) rfl)) (by decide) (by decide)) qn29a qn29c (g := mkF m 365 Ls [(.ref b20)]) rfl hLs (Steps.refl _) (argsL := []) (rest := []) (lenOf pd_14 rfl) rfl (by show 2 * 0 + _ ≤ _; exact Nat.le_of_eq rfl) (hb hby at_365) (fun _ _ => ⟨rfl, e26, (by decide : 0 + 1 + 1 + 1 + 1 + 1 + 1 + 0 + 1 + 0 + 1 + 1 + 0 + 0 ≤ _), (by decide : 0 + 3 + 4 + 3 + 2 + 4 + 2 + 0 + 4 + 0 + 3 + 1 + 0 + 0 ≤ _)⟩)
          refine Wk.back (n := 368) (rc := 0) (rs := 0) (Q := Q_rmGm Z b20 .null T25.heap n0) (cl29_ _ (by rw [hml]; rfl)) fun vn29 T29 L29 X29 hQ29 => ?_
          clear cl29_
          obtain ⟨rfl, M29, e29⟩ := hQ29
          have N29 := Fr.app N26 M29
          show Wk p e below s _ _ _ T29 (mkF m 368 _ [.null])
          refine Wk.ifnonnullNo X29 hx (hb hby at_368) (n := 371) rfl ?_
          refine Wk.iconst X29 hx (hb hby at_371) (n := 372) rfl (z := (1 : Int32)) rfl ?_
          refine Wk.goto X29 hx (hb hby at_372) (by decide) (n := 389) (by decide) ?_
          refine Wk.istore X29 hx (hb hby at_389) (n := 391) rfl (L' := #[.val (.int p1), .val (.int p2), .val (.int p3), .val (.int p4), .val (.int p5), .val (.int p6), .val (.ref b1), .val (.ref b5), .val (.ref b10), .val (.ref b13), .val (.int hm), .val (.int ng), .val (.int ov), .val .null, .val (.ref w1), .val (.ref b20), .val (.int ((p5 &&& (2147483647 : Int32)) % (5 : Int32))), .val (.ref b22), .val (.ref b20), .val (.int (1 : Int32))]) rfl ?_
          refine Wk.aload X29 hx (hb hby at_391) (n := 393) rfl rfl rfl ?_
          have f31 := ((p21_1.ext Ex22).keep J25 (ninS (nz (by omega)) nin0))
          obtain ⟨cq32, kq32, qn32a, qn32b, qn32c⟩ := isOf hZ e29 f30
          have cl32_ := fun (Ls : Array Slot) (hLs : Ls.size = c.maxLocals) => X29.virtualBack hx (y := (⟨"com/example/depeche/depeche/profile/Path", "segment", "()Ljava/lang/String;"⟩ : MethodName)) (z := (⟨"com/example/depeche/depeche/profile/Path", "segment", "()Ljava/lang/String;"⟩ : MethodName)) hown (mvT hZ (hw _ (List.mem_of_getElem? (i := 105) rfl))) (mvT hZ (hw _ (List.mem_of_getElem? (i := 106) rfl))) (notFace_of_selects (args := #[]) (mvT hZ (hw _ (List.mem_of_getElem? (i := 108) rfl)))) (mvT hZ (hw _ (List.mem_of_getElem? (i := 108) rfl))) (mvT hZ (hw _ (List.mem_of_getElem? (i := 107) rfl))) (by decide) (backOf (W := 0) (rmGs l Z a0 hw [] b20 b5 T25.heap n0 (by omega) f31) hZ (hw _ (List.mem_of_getElem? (i := 109) rfl)) (hw _ (List.mem_of_getElem? (i := 38) rfl)) (by decide) (by decide)) qn32a qn32c (g := mkF m 393 Ls [(.ref b20)]) rfl hLs (Steps.refl _) (argsL := []) (rest := []) (lenOf pd_14 rfl) rfl (by show 2 * 0 + _ ≤ _; exact Nat.le_of_eq rfl) (hb hby at_393) (fun _ _ => ⟨rfl, e29, (by decide : 0 + 1 + 1 + 1 + 1 + 1 + 1 + 0 + 1 + 0 + 1 + 1 + 0 + 0 + 0 ≤ _), (by decide : 0 + 3 + 4 + 3 + 2 + 4 + 2 + 0 + 4 + 0 + 3 + 1 + 0 + 0 + 0 ≤ _)⟩)
          refine Wk.back (n := 396) (rc := 0) (rs := 0) (Q := Q_rmGs Z b20 b5 T25.heap n0) (cl32_ _ (by rw [hml]; rfl)) fun vn32 T32 L32 X32 hQ32 => ?_
          clear cl32_
          obtain ⟨rfl, M32, e32⟩ := hQ32
          have N32 := Fr.app N29 M32
          show Wk p e below s _ _ _ T32 (mkF m 396 _ [(.ref b5)])
          refine Wk.aload X32 hx (hb hby at_396) (n := 398) rfl rfl rfl ?_
          have f34 := (((((((((p6_0.ext Ex10).wr Wn11).wr Wn12).ext Ex13).keep J14).ext Ex20).keep J21).ext Ex22).keep J25)
          obtain ⟨cq33, kq33, qn33a, qn33b, qn33c⟩ := isOf hZ e32 f34
          have cl33_ := fun (Ls : Array Slot) (hLs : Ls.size = c.maxLocals) => X32.virtualBack hx (y := (⟨"java/lang/String", "equals", "(Ljava/lang/Object;)Z"⟩ : MethodName)) (z := (⟨"java/lang/String", "equals", "(Ljava/lang/Object;)Z"⟩ : MethodName)) hown (mvT hZ (hw _ (List.mem_of_getElem? (i := 110) rfl))) (mvT hZ (hw _ (List.mem_of_getElem? (i := 111) rfl))) (notFace_of_selects (args := #[]) (mvT hZ (hw _ (List.mem_of_getElem? (i := 113) rfl)))) (mvT hZ (hw _ (List.mem_of_getElem? (i := 113) rfl))) (mvT hZ (hw _ (List.mem_of_getElem? (i := 112) rfl))) (by decide) (backOf (W := 0) (rmEq l Z a0 hw [] b5 T25.heap n0 (by omega)) hZ (hw _ (List.mem_of_getElem? (i := 114) rfl)) (hw _ (List.mem_of_getElem? (i := 3) rfl)) (by decide) (by decide)) qn33a qn33c (g := mkF m 398 Ls [(.ref b5), (.ref b5)]) rfl hLs (Steps.refl _) (argsL := [(.ref b5)]) (rest := []) (lenOf pd_15 rfl) rfl (by show 2 * 0 + _ ≤ _; exact Nat.le_of_eq rfl) (hb hby at_398) (fun _ _ => ⟨rfl, e32, (by decide : 0 + 1 + 1 + 1 + 1 + 1 + 1 + 0 + 1 + 0 + 1 + 1 + 0 + 0 + 0 + 0 ≤ _), (by decide : 0 + 3 + 4 + 3 + 2 + 4 + 2 + 0 + 4 + 0 + 3 + 1 + 0 + 0 + 0 + 0 ≤ _)⟩)
          refine Wk.back (n := 401) (rc := 0) (rs := 0) (Q := Q_rmEq Z b5 T25.heap n0) (cl33_ _ (by rw [hml]; rfl)) fun vn33 T33 L33 X33 hQ33 => ?_
          clear cl33_
          obtain ⟨rfl, M33, e33⟩ := hQ33
          have N33 := Fr.app N32 M33
          show Wk p e below s _ _ _ T33 (mkF m 401 _ [(.int (1 : Int32))])
          have hc401_35 : ¬ ((1 : Int32) = (0 : Int32)) := by decide
          refine Wk.ifNo X33 hx (hb hby at_401) (n := 404) rfl ((if0 _ _).trans (feq hc401_35).1) ?_
          refine Wk.aload X33 hx (hb hby at_404) (n := 406) rfl rfl rfl ?_
          have f36 := ((p21_2.ext Ex22).keep J25 (ninS (nz (by omega)) nin0))
          obtain ⟨cq37, kq37, qn37a, qn37b, qn37c⟩ := isOf hZ e33 f30
          have cl37_ := fun (Ls : Array Slot) (hLs : Ls.size = c.maxLocals) => X33.virtualBack hx (y := (⟨"com/example/depeche/depeche/profile/Path", "field", "()I"⟩ : MethodName)) (z := (⟨"com/example/depeche/depeche/profile/Path", "field", "()I"⟩ : MethodName)) hown (mvT hZ (hw _ (List.mem_of_getElem? (i := 115) rfl))) (mvT hZ (hw _ (List.mem_of_getElem? (i := 116) rfl))) (notFace_of_selects (args := #[]) (mvT hZ (hw _ (List.mem_of_getElem? (i := 118) rfl)))) (mvT hZ (hw _ (List.mem_of_getElem? (i := 118) rfl))) (mvT hZ (hw _ (List.mem_of_getElem? (i := 117) rfl))) (by decide) (backOf (W := 0) (rmGf l Z a0 hw [] b20 p2 T25.heap n0 (by omega) f36) hZ (hw _ (List.mem_of_getElem? (i := 119) rfl)) (hw _ (List.mem_of_getElem? (i := 38) rfl)) (by decide) (by decide)) qn37a qn37c (g := mkF m 406 Ls [(.ref b20)]) rfl hLs (Steps.refl _) (argsL := []) (rest := []) (lenOf pd_16 rfl) rfl (by show 2 * 0 + _ ≤ _; exact Nat.le_of_eq rfl) (hb hby at_406) (fun _ _ => ⟨rfl, e33, (by decide : 0 + 1 + 1 + 1 + 1 + 1 + 1 + 0 + 1 + 0 + 1 + 1 + 0 + 0 + 0 + 0 + 0 ≤ _), (by decide : 0 + 3 + 4 + 3 + 2 + 4 + 2 + 0 + 4 + 0 + 3 + 1 + 0 + 0 + 0 + 0 + 0 ≤ _)⟩)
          refine Wk.back (n := 409) (rc := 0) (rs := 0) (Q := Q_rmGf Z b20 p2 T25.heap n0) (cl37_ _ (by rw [hml]; rfl)) fun vn37 T37 L37 X37 hQ37 => ?_
          clear cl37_
          obtain ⟨rfl, M37, e37⟩ := hQ37
          have N37 := Fr.app N33 M37
          show Wk p e below s _ _ _ T37 (mkF m 409 _ [(.int p2)])
          refine Wk.iloadN X37 hx (hb hby at_409) (n := 410) rfl rfl ?_
          have hc410_38 : p2 = p2 := rfl
          refine Wk.icmpNo X37 hx (hb hby at_410) (n := 413) rfl (teq hc410_38).2 ?_
          refine Wk.aload X37 hx (hb hby at_413) (n := 415) rfl rfl rfl ?_
          have f39 := ((p21_3.ext Ex22).keep J25 (ninS (nz (by omega)) nin0))
          obtain ⟨cq40, kq40, qn40a, qn40b, qn40c⟩ := isOf hZ e37 f30
          have cl40_ := fun (Ls : Array Slot) (hLs : Ls.size = c.maxLocals) => X37.virtualBack hx (y := (⟨"com/example/depeche/depeche/profile/Path", "component", "()I"⟩ : MethodName)) (z := (⟨"com/example/depeche/depeche/profile/Path", "component", "()I"⟩ : MethodName)) hown (mvT hZ (hw _ (List.mem_of_getElem? (i := 120) rfl))) (mvT hZ (hw _ (List.mem_of_getElem? (i := 121) rfl))) (notFace_of_selects (args := #[]) (mvT hZ (hw _ (List.mem_of_getElem? (i := 123) rfl)))) (mvT hZ (hw _ (List.mem_of_getElem? (i := 123) rfl))) (mvT hZ (hw _ (List.mem_of_getElem? (i := 122) rfl))) (by decide) (backOf (W := 0) (rmGc l Z a0 hw [] b20 p3 T25.heap n0 (by omega) f39) hZ (hw _ (List.mem_of_getElem? (i := 124) rfl)) (hw _ (List.mem_of_getElem? (i := 38) rfl)) (by decide) (by decide)) qn40a qn40c (g := mkF m 415 Ls [(.ref b20)]) rfl hLs (Steps.refl _) (argsL := []) (rest := []) (lenOf pd_16 rfl) rfl (by show 2 * 0 + _ ≤ _; exact Nat.le_of_eq rfl) (hb hby at_415) (fun _ _ => ⟨rfl, e37, (by decide : 0 + 1 + 1 + 1 + 1 + 1 + 1 + 0 + 1 + 0 + 1 + 1 + 0 + 0 + 0 + 0 + 0 + 0 ≤ _), (by decide : 0 + 3 + 4 + 3 + 2 + 4 + 2 + 0 + 4 + 0 + 3 + 1 + 0 + 0 + 0 + 0 + 0 + 0 ≤ _)⟩)
          refine Wk.back (n := 418) (rc := 0) (rs := 0) (Q := Q_rmGc Z b20 p3 T25.heap n0) (cl40_ _ (by rw [hml]; rfl)) fun vn40 T40 L40 X40 hQ40 => ?_
          clear cl40_
          obtain ⟨rfl, M40, e40⟩ := hQ40
          have N40 := Fr.app N37 M40
          show Wk p e below s _ _ _ T40 (mkF m 418 _ [(.int p3)])
          refine Wk.iloadN X40 hx (hb hby at_418) (n := 419) rfl rfl ?_
          have hc419_41 : p3 = p3 := rfl
          refine Wk.icmpNo X40 hx (hb hby at_419) (n := 422) rfl (teq hc419_41).2 ?_
          refine Wk.iload X40 hx (hb hby at_422) (n := 424) rfl rfl ?_
          have hc424_42 : ¬ ((1 : Int32) = (0 : Int32)) := by decide
          refine Wk.ifNo X40 hx (hb hby at_424) (n := 427) rfl ((if0 _ _).trans (feq hc424_42).1) ?_
          refine Wk.iconst X40 hx (hb hby at_427) (n := 428) rfl (z := (1 : Int32)) rfl ?_
          refine Wk.goto X40 hx (hb hby at_428) (by decide) (n := 432) (by decide) ?_
          exact Wk.leave X40 (v := some (.int (1 : Int32))) (fun h => by rw [Bd.returns] at h; cases h) hlk e40 ⟨rfl, N40, K25⟩ (by decide) (by decide) (fun fs hr => retNz X40 hx (t := .boolean) rfl Bd.returns (by simp) (hb hby at_432) hr)
        ·
          refine Wk.aload X26 hx (hb hby at_358) (n := 360) rfl rfl rfl ?_
          refine Wk.ifnonnullYes X26 hx (hb hby at_360) (by decide) (n := 379) (by decide) ?_
          refine Wk.aload X26 hx (hb hby at_379) (n := 381) rfl rfl rfl ?_
          refine Wk.aload X26 hx (hb hby at_381) (n := 383) rfl rfl rfl ?_
          have f43 := ((p21_4.ext Ex22).keep J25 (ninS (nz (by omega)) nin0))
          have f45 := ((p21_0.ext Ex22).keep J25)
          obtain ⟨cq44, kq44, qn44a, qn44b, qn44c⟩ := isOf hZ e26 f45
          have cl44_ := fun (Ls : Array Slot) (hLs : Ls.size = c.maxLocals) => X26.virtualBack hx (y := (⟨"com/example/depeche/depeche/profile/Path", "mark", "()Ljava/lang/String;"⟩ : MethodName)) (z := (⟨"com/example/depeche/depeche/profile/Path", "mark", "()Ljava/lang/String;"⟩ : MethodName)) hown (mvT hZ (hw _ (List.mem_of_getElem? (i := 100) rfl))) (mvT hZ (hw _ (List.mem_of_getElem? (i := 101) rfl))) (notFace_of_selects (args := #[]) (mvT hZ (hw _ (List.mem_of_getElem? (i := 103) rfl)))) (mvT hZ (hw _ (List.mem_of_getElem? (i := 103) rfl))) (mvT hZ (hw _ (List.mem_of_getElem? (i := 102) rfl))) (by decide) (backOf (W := 1) (rmGm l Z a0 hw [] b20 (.ref b13) T25.heap n0 (by omega) f43 rfl) hZ (hw _ (List.mem_of_getElem? (i := 104) rfl)) (hw _ (List.mem_of_getElem? (i := 38) rfl)) (by decide) (by decide)) qn44a qn44c (g := mkF m 383 Ls [(.ref b20), (.ref b13)]) rfl hLs (Steps.refl _) (argsL := []) (rest := [(.ref b13)]) (lenOf pd_14 rfl) rfl (by show 2 * 0 + _ ≤ _; exact Nat.le_of_eq rfl) (hb hby at_383) (fun _ _ => ⟨rfl, e26, (by decide : 0 + 1 + 1 + 1 + 1 + 1 + 1 + 0 + 1 + 0 + 1 + 1 + 0 + 0 ≤ _), (by decide : 0 + 3 + 4 + 3 + 2 + 4 + 2 + 0 + 4 + 0 + 3 + 1 + 0 + 0 ≤ _)⟩)
          refine Wk.back (n := 386) (rc := 0) (rs := 0) (Q := Q_rmGm Z b20 (.ref b13) T25.heap n0) (cl44_ _ (by rw [hml]; rfl)) fun vn44 T44 L44 X44 hQ44 => ?_
          clear cl44_
          obtain ⟨rfl, M44, e44⟩ := hQ44
          have N44 := Fr.app N26 M44
          show Wk p e below s _ _ _ T44 (mkF m 386 _ [(.ref b13), (.ref b13)])
          have f47 := ((((p14_0.ext Ex20).keep J21).ext Ex22).keep J25)
          obtain ⟨cq46, kq46, qn46a, qn46b, qn46c⟩ := isOf hZ e44 f47
          have cl46_ := fun (Ls : Array Slot) (hLs : Ls.size = c.maxLocals) => X44.virtualBack hx (y := (⟨"java/lang/String", "equals", "(Ljava/lang/Object;)Z"⟩ : MethodName)) (z := (⟨"java/lang/String", "equals", "(Ljava/lang/Object;)Z"⟩ : MethodName)) hown (mvT hZ (hw _ (List.mem_of_getElem? (i := 110) rfl))) (mvT hZ (hw _ (List.mem_of_getElem? (i := 111) rfl))) (notFace_of_selects (args := #[]) (mvT hZ (hw _ (List.mem_of_getElem? (i := 113) rfl)))) (mvT hZ (hw _ (List.mem_of_getElem? (i := 113) rfl))) (mvT hZ (hw _ (List.mem_of_getElem? (i := 112) rfl))) (by decide) (backOf (W := 0) (rmEq l Z a0 hw [] b13 T25.heap n0 (by omega)) hZ (hw _ (List.mem_of_getElem? (i := 114) rfl)) (hw _ (List.mem_of_getElem? (i := 3) rfl)) (by decide) (by decide)) qn46a qn46c (g := mkF m 386 Ls [(.ref b13), (.ref b13)]) rfl hLs (Steps.refl _) (argsL := [(.ref b13)]) (rest := []) (lenOf pd_15 rfl) rfl (by show 2 * 0 + _ ≤ _; exact Nat.le_of_eq rfl) (hb hby at_386) (fun _ _ => ⟨rfl, e44, (by decide : 0 + 1 + 1 + 1 + 1 + 1 + 1 + 0 + 1 + 0 + 1 + 1 + 0 + 0 + 0 ≤ _), (by decide : 0 + 3 + 4 + 3 + 2 + 4 + 2 + 0 + 4 + 0 + 3 + 1 + 0 + 0 + 0 ≤ _)⟩)
          refine Wk.back (n := 389) (rc := 0) (rs := 0) (Q := Q_rmEq Z b13 T25.heap n0) (cl46_ _ (by rw [hml]; rfl)) fun vn46 T46 L46 X46 hQ46 => ?_
          clear cl46_
          obtain ⟨rfl, M46, e46⟩ := hQ46
          have N46 := Fr.app N44 M46
          show Wk p e below s _ _ _ T46 (mkF m 389 _ [(.int (1 : Int32))])
          refine Wk.istore X46 hx (hb hby at_389) (n := 391) rfl (L' := #[.val (.int p1), .val (.int p2), .val (.int p3), .val (.int p4), .val (.int p5), .val (.int p6), .val (.ref b1), .val (.ref b5), .val (.ref b10), .val (.ref b13), .val (.int hm), .val (.int ng), .val (.int ov), .val (.ref b13), .val (.ref w1), .val (.ref b20), .val (.int ((p5 &&& (2147483647 : Int32)) % (5 : Int32))), .val (.ref b22), .val (.ref b20), .val (.int (1 : Int32))]) rfl ?_
          refine Wk.aload X46 hx (hb hby at_391) (n := 393) rfl rfl rfl ?_
          have f48 := ((p21_1.ext Ex22).keep J25 (ninS (nz (by omega)) nin0))
          obtain ⟨cq49, kq49, qn49a, qn49b, qn49c⟩ := isOf hZ e46 f45
          have cl49_ := fun (Ls : Array Slot) (hLs : Ls.size = c.maxLocals) => X46.virtualBack hx (y := (⟨"com/example/depeche/depeche/profile/Path", "segment", "()Ljava/lang/String;"⟩ : MethodName)) (z := (⟨"com/example/depeche/depeche/profile/Path", "segment", "()Ljava/lang/String;"⟩ : MethodName)) hown (mvT hZ (hw _ (List.mem_of_getElem? (i := 105) rfl))) (mvT hZ (hw _ (List.mem_of_getElem? (i := 106) rfl))) (notFace_of_selects (args := #[]) (mvT hZ (hw _ (List.mem_of_getElem? (i := 108) rfl)))) (mvT hZ (hw _ (List.mem_of_getElem? (i := 108) rfl))) (mvT hZ (hw _ (List.mem_of_getElem? (i := 107) rfl))) (by decide) (backOf (W := 0) (rmGs l Z a0 hw [] b20 b5 T25.heap n0 (by omega) f48) hZ (hw _ (List.mem_of_getElem? (i := 109) rfl)) (hw _ (List.mem_of_getElem? (i := 38) rfl)) (by decide) (by decide)) qn49a qn49c (g := mkF m 393 Ls [(.ref b20)]) rfl hLs (Steps.refl _) (argsL := []) (rest := []) (lenOf pd_14 rfl) rfl (by show 2 * 0 + _ ≤ _; exact Nat.le_of_eq rfl) (hb hby at_393) (fun _ _ => ⟨rfl, e46, (by decide : 0 + 1 + 1 + 1 + 1 + 1 + 1 + 0 + 1 + 0 + 1 + 1 + 0 + 0 + 0 + 0 ≤ _), (by decide : 0 + 3 + 4 + 3 + 2 + 4 + 2 + 0 + 4 + 0 + 3 + 1 + 0 + 0 + 0 + 0 ≤ _)⟩)
          refine Wk.back (n := 396) (rc := 0) (rs := 0) (Q := Q_rmGs Z b20 b5 T25.heap n0) (cl49_ _ (by rw [hml]; rfl)) fun vn49 T49 L49 X49 hQ49 => ?_
          clear cl49_
          obtain ⟨rfl, M49, e49⟩ := hQ49
          have N49 := Fr.app N46 M49
          show Wk p e below s _ _ _ T49 (mkF m 396 _ [(.ref b5)])
          refine Wk.aload X49 hx (hb hby at_396) (n := 398) rfl rfl rfl ?_
          have f51 := (((((((((p6_0.ext Ex10).wr Wn11).wr Wn12).ext Ex13).keep J14).ext Ex20).keep J21).ext Ex22).keep J25)
          obtain ⟨cq50, kq50, qn50a, qn50b, qn50c⟩ := isOf hZ e49 f51
          have cl50_ := fun (Ls : Array Slot) (hLs : Ls.size = c.maxLocals) => X49.virtualBack hx (y := (⟨"java/lang/String", "equals", "(Ljava/lang/Object;)Z"⟩ : MethodName)) (z := (⟨"java/lang/String", "equals", "(Ljava/lang/Object;)Z"⟩ : MethodName)) hown (mvT hZ (hw _ (List.mem_of_getElem? (i := 110) rfl))) (mvT hZ (hw _ (List.mem_of_getElem? (i := 111) rfl))) (notFace_of_selects (args := #[]) (mvT hZ (hw _ (List.mem_of_getElem? (i := 113) rfl)))) (mvT hZ (hw _ (List.mem_of_getElem? (i := 113) rfl))) (mvT hZ (hw _ (List.mem_of_getElem? (i := 112) rfl))) (by decide) (backOf (W := 0) (rmEq l Z a0 hw [] b5 T25.heap n0 (by omega)) hZ (hw _ (List.mem_of_getElem? (i := 114) rfl)) (hw _ (List.mem_of_getElem? (i := 3) rfl)) (by decide) (by decide)) qn50a qn50c (g := mkF m 398 Ls [(.ref b5), (.ref b5)]) rfl hLs (Steps.refl _) (argsL := [(.ref b5)]) (rest := []) (lenOf pd_15 rfl) rfl (by show 2 * 0 + _ ≤ _; exact Nat.le_of_eq rfl) (hb hby at_398) (fun _ _ => ⟨rfl, e49, (by decide : 0 + 1 + 1 + 1 + 1 + 1 + 1 + 0 + 1 + 0 + 1 + 1 + 0 + 0 + 0 + 0 + 0 ≤ _), (by decide : 0 + 3 + 4 + 3 + 2 + 4 + 2 + 0 + 4 + 0 + 3 + 1 + 0 + 0 + 0 + 0 + 0 ≤ _)⟩)
          refine Wk.back (n := 401) (rc := 0) (rs := 0) (Q := Q_rmEq Z b5 T25.heap n0) (cl50_ _ (by rw [hml]; rfl)) fun vn50 T50 L50 X50 hQ50 => ?_
          clear cl50_
          obtain ⟨rfl, M50, e50⟩ := hQ50
          have N50 := Fr.app N49 M50
          show Wk p e below s _ _ _ T50 (mkF m 401 _ [(.int (1 : Int32))])
          have hc401_52 : ¬ ((1 : Int32) = (0 : Int32)) := by decide
          refine Wk.ifNo X50 hx (hb hby at_401) (n := 404) rfl ((if0 _ _).trans (feq hc401_52).1) ?_
          refine Wk.aload X50 hx (hb hby at_404) (n := 406) rfl rfl rfl ?_
          have f53 := ((p21_2.ext Ex22).keep J25 (ninS (nz (by omega)) nin0))
          obtain ⟨cq54, kq54, qn54a, qn54b, qn54c⟩ := isOf hZ e50 f45
          have cl54_ := fun (Ls : Array Slot) (hLs : Ls.size = c.maxLocals) => X50.virtualBack hx (y := (⟨"com/example/depeche/depeche/profile/Path", "field", "()I"⟩ : MethodName)) (z := (⟨"com/example/depeche/depeche/profile/Path", "field", "()I"⟩ : MethodName)) hown (mvT hZ (hw _ (List.mem_of_getElem? (i := 115) rfl))) (mvT hZ (hw _ (List.mem_of_getElem? (i := 116) rfl))) (notFace_of_selects (args := #[]) (mvT hZ (hw _ (List.mem_of_getElem? (i := 118) rfl)))) (mvT hZ (hw _ (List.mem_of_getElem? (i := 118) rfl))) (mvT hZ (hw _ (List.mem_of_getElem? (i := 117) rfl))) (by decide) (backOf (W := 0) (rmGf l Z a0 hw [] b20 p2 T25.heap n0 (by omega) f53) hZ (hw _ (List.mem_of_getElem? (i := 119) rfl)) (hw _ (List.mem_of_getElem? (i := 38) rfl)) (by decide) (by decide)) qn54a qn54c (g := mkF m 406 Ls [(.ref b20)]) rfl hLs (Steps.refl _) (argsL := []) (rest := []) (lenOf pd_16 rfl) rfl (by show 2 * 0 + _ ≤ _; exact Nat.le_of_eq rfl) (hb hby at_406) (fun _ _ => ⟨rfl, e50, (by decide : 0 + 1 + 1 + 1 + 1 + 1 + 1 + 0 + 1 + 0 + 1 + 1 + 0 + 0 + 0 + 0 + 0 + 0 ≤ _), (by decide : 0 + 3 + 4 + 3 + 2 + 4 + 2 + 0 + 4 + 0 + 3 + 1 + 0 + 0 + 0 + 0 + 0 + 0 ≤ _)⟩)
          refine Wk.back (n := 409) (rc := 0) (rs := 0) (Q := Q_rmGf Z b20 p2 T25.heap n0) (cl54_ _ (by rw [hml]; rfl)) fun vn54 T54 L54 X54 hQ54 => ?_
          clear cl54_
          obtain ⟨rfl, M54, e54⟩ := hQ54
          have N54 := Fr.app N50 M54
          show Wk p e below s _ _ _ T54 (mkF m 409 _ [(.int p2)])
          refine Wk.iloadN X54 hx (hb hby at_409) (n := 410) rfl rfl ?_
          have hc410_55 : p2 = p2 := rfl
          refine Wk.icmpNo X54 hx (hb hby at_410) (n := 413) rfl (teq hc410_55).2 ?_
          refine Wk.aload X54 hx (hb hby at_413) (n := 415) rfl rfl rfl ?_
          have f56 := ((p21_3.ext Ex22).keep J25 (ninS (nz (by omega)) nin0))
          obtain ⟨cq57, kq57, qn57a, qn57b, qn57c⟩ := isOf hZ e54 f45
          have cl57_ := fun (Ls : Array Slot) (hLs : Ls.size = c.maxLocals) => X54.virtualBack hx (y := (⟨"com/example/depeche/depeche/profile/Path", "component", "()I"⟩ : MethodName)) (z := (⟨"com/example/depeche/depeche/profile/Path", "component", "()I"⟩ : MethodName)) hown (mvT hZ (hw _ (List.mem_of_getElem? (i := 120) rfl))) (mvT hZ (hw _ (List.mem_of_getElem? (i := 121) rfl))) (notFace_of_selects (args := #[]) (mvT hZ (hw _ (List.mem_of_getElem? (i := 123) rfl)))) (mvT hZ (hw _ (List.mem_of_getElem? (i := 123) rfl))) (mvT hZ (hw _ (List.mem_of_getElem? (i := 122) rfl))) (by decide) (backOf (W := 0) (rmGc l Z a0 hw [] b20 p3 T25.heap n0 (by omega) f56) hZ (hw _ (List.mem_of_getElem? (i := 124) rfl)) (hw _ (List.mem_of_getElem? (i := 38) rfl)) (by decide) (by decide)) qn57a qn57c (g := mkF m 415 Ls [(.ref b20)]) rfl hLs (Steps.refl _) (argsL := []) (rest := []) (lenOf pd_16 rfl) rfl (by show 2 * 0 + _ ≤ _; exact Nat.le_of_eq rfl) (hb hby at_415) (fun _ _ => ⟨rfl, e54, (by decide : 0 + 1 + 1 + 1 + 1 + 1 + 1 + 0 + 1 + 0 + 1 + 1 + 0 + 0 + 0 + 0 + 0 + 0 + 0 ≤ _), (by decide : 0 + 3 + 4 + 3 + 2 + 4 + 2 + 0 + 4 + 0 + 3 + 1 + 0 + 0 + 0 + 0 + 0 + 0 + 0 ≤ _)⟩)
          refine Wk.back (n := 418) (rc := 0) (rs := 0) (Q := Q_rmGc Z b20 p3 T25.heap n0) (cl57_ _ (by rw [hml]; rfl)) fun vn57 T57 L57 X57 hQ57 => ?_
          clear cl57_
          obtain ⟨rfl, M57, e57⟩ := hQ57
          have N57 := Fr.app N54 M57
          show Wk p e below s _ _ _ T57 (mkF m 418 _ [(.int p3)])
          refine Wk.iloadN X57 hx (hb hby at_418) (n := 419) rfl rfl ?_
          have hc419_58 : p3 = p3 := rfl
          refine Wk.icmpNo X57 hx (hb hby at_419) (n := 422) rfl (teq hc419_58).2 ?_
          refine Wk.iload X57 hx (hb hby at_422) (n := 424) rfl rfl ?_
          have hc424_59 : ¬ ((1 : Int32) = (0 : Int32)) := by decide
          refine Wk.ifNo X57 hx (hb hby at_424) (n := 427) rfl ((if0 _ _).trans (feq hc424_59).1) ?_
          refine Wk.iconst X57 hx (hb hby at_427) (n := 428) rfl (z := (1 : Int32)) rfl ?_
          refine Wk.goto X57 hx (hb hby at_428) (by decide) (n := 432) (by decide) ?_
          exact Wk.leave X57 (v := some (.int (1 : Int32))) (fun h => by rw [Bd.returns] at h; cases h) hlk e57 ⟨rfl, N57, K25⟩ (by decide) (by decide) (fun fs hr => retNz X57 hx (t := .boolean) rfl Bd.returns (by simp) (hb hby at_432) hr)
      ·
        refine Wk.ifYes X21 hx (hb hby at_204) ((if0 _ _).trans (feq hc204).2) (by decide) (n := 225) (by decide) ?_
        refine Wk.iload X21 hx (hb hby at_225) (n := 227) rfl rfl ?_
        refine Wk.iconst X21 hx (hb hby at_227) (n := 228) rfl (z := (1 : Int32)) rfl ?_
        by_cases hc228 : ((p5 &&& (2147483647 : Int32)) % (5 : Int32)) = (1 : Int32)
        ·
          refine Wk.icmpNo X21 hx (hb hby at_228) (n := 231) rfl (teq hc228).2 ?_
          refine Wk.newO X21 hx hZ hown (hw _ (List.mem_of_getElem? (i := 57) rfl)) (hw _ (List.mem_of_getElem? (i := 58) rfl)) (hw _ (List.mem_of_getElem? (i := 59) rfl)) rfl (hb hby at_231) (n := 234) rfl (by decide) (by decide) fun T60 H60 b60 gn60 X60 e60 Ex60 An60 Dn60 Yn60 => ?_
          have gn60 := nx gn60
          have sz60 := Ex60.1
          have lt60 := ny An60.lt
          have K60 := K21.ext Ex60
          have Fn60_subject : Fld Z H60 b60 "com/example/depeche/depeche/profile/Condition" "subject" "Lcom/example/depeche/depeche/profile/Value$Source;" .null := Dn60 (Or.inr (hw _ (List.mem_of_getElem? (i := 84) rfl))) (ty := (.object "com/example/depeche/depeche/profile/Value$Source")) (by decide)
          have Fn60_values : Fld Z H60 b60 "com/example/depeche/depeche/profile/Condition" "values" "Ljava/util/Set;" .null := Dn60 (Or.inr (hw _ (List.mem_of_getElem? (i := 86) rfl))) (ty := (.object "java/util/Set")) (by decide)
          have Fn60_negated : Fld Z H60 b60 "com/example/depeche/depeche/profile/Condition" "negated" "Z" (.int (0 : Int32)) := Dn60 (Or.inr (hw _ (List.mem_of_getElem? (i := 88) rfl))) (ty := .boolean) (by decide)
          refine Wk.dup X60 hx (hb hby at_234) (n := 235) rfl rfl ?_
          refine Wk.newO X60 hx hZ hown (hw _ (List.mem_of_getElem? (i := 209) rfl)) (hw _ (List.mem_of_getElem? (i := 64) rfl)) (hw _ (List.mem_of_getElem? (i := 65) rfl)) e60 (hb hby at_235) (n := 238) rfl (by decide) (by decide) fun T61 H61 b61 gn61 X61 e61 Ex61 An61 Dn61 Yn61 => ?_
          have gn61 := nx gn61
          have sz61 := Ex61.1
          have lt61 := ny An61.lt
          have K61 := K60.ext Ex61
          have Fn61_path : Fld Z H61 b61 "com/example/depeche/depeche/profile/Value$Field" "path" "Lcom/example/depeche/depeche/profile/Path;" .null := Dn61 (Or.inr (hw _ (List.mem_of_getElem? (i := 71) rfl))) (ty := (.object "com/example/depeche/depeche/profile/Path")) (by decide)
          refine Wk.dup X61 hx (hb hby at_238) (n := 239) rfl rfl ?_
          refine Wk.aload X61 hx (hb hby at_239) (n := 241) rfl rfl rfl ?_
          have cl62_ := fun (Ls : Array Slot) (hLs : Ls.size = c.maxLocals) => X61.specialBack hx (y := (⟨"com/example/depeche/depeche/profile/Value$Field", "<init>", "(Lcom/example/depeche/depeche/profile/Path;)V"⟩ : MethodName)) rfl hown (mvT hZ (hw _ (List.mem_of_getElem? (i := 210) rfl))) (mvT hZ (hw _ (List.mem_of_getElem? (i := 67) rfl))) (mvT hZ (hw _ (List.mem_of_getElem? (i := 68) rfl))) (by decide) (backOf (W := 3) (rmFI l Z a0 hw [] b61 b20 .null H61 n0 (by omega) An61 Fn61_path (by omega)) hZ (hw _ (List.mem_of_getElem? (i := 68) rfl)) (hw _ (List.mem_of_getElem? (i := 65) rfl)) (by decide) (by decide)) (g := mkF m 241 Ls [(.ref b20), (.ref b61), (.ref b61), (.ref b60), (.ref b60)]) rfl hLs (Steps.refl _) (a := b61) (argsL := [(.ref b20)]) (rest := [(.ref b61), (.ref b60), (.ref b60)]) (lenOf pd_2 rfl) rfl (by show 2 * 0 + _ ≤ _; exact Nat.le_of_eq rfl) (hb hby at_241) (fun _ _ => ⟨rfl, e61, (by decide : 0 + 1 + 1 + 1 + 1 + 1 + 1 + 0 + 1 + 0 + 1 + 1 + 0 ≤ _), (by decide : 0 + 3 + 4 + 3 + 2 + 4 + 2 + 0 + 4 + 0 + 3 + 1 + 0 ≤ _)⟩)
          refine Wk.back (n := 244) (rc := 0) (rs := 0) (Q := Q_rmFI Z b61 b20 .null H61 n0) (cl62_ _ (by rw [hml]; rfl)) fun vn62 T62 L62 X62 hQ62 => ?_
          clear cl62_
          obtain ⟨rfl, M62, J62, p62_0, p62_1⟩ := hQ62
          have N62 := Fr.app N21 M62
          have sz62 := J62.1
          have K62 := K61.trans J62 (allS (Or.inr (by omega)) all0)
          have lt_p62_0 := ny p62_0.lt
          show Wk p e below s _ _ _ T62 (mkF m 244 _ [(.ref b61), (.ref b60), (.ref b60)])
          refine Wk.aload X62 hx (hb hby at_244) (n := 246) rfl rfl rfl ?_
          refine Wk.iload X62 hx (hb hby at_246) (n := 248) rfl rfl ?_
          have f63 := ((An60.ext Ex61).keep J62)
          have f64 := (((((f18.ext Ex20).keep J21 (allS (by omega) all0)).ext Ex60).ext Ex61).keep J62 (allS (by omega) all0))
          have f65 := Ew.ext f64.2
          have f66 := ((Fn60_subject.ext Ex61).keep J62 (ninS (nz (by omega)) nin0))
          have f67 := ((Fn60_values.ext Ex61).keep J62 (ninS (nz (by omega)) nin0))
          have f68 := ((Fn60_negated.ext Ex61).keep J62 (ninS (nz (by omega)) nin0))
          have cl69_ := fun (Ls : Array Slot) (hLs : Ls.size = c.maxLocals) => X62.specialBack hx (y := (⟨"com/example/depeche/depeche/profile/Condition", "<init>", "(Lcom/example/depeche/depeche/profile/Value$Source;Ljava/util/Set;Z)V"⟩ : MethodName)) rfl hown (mvT hZ (hw _ (List.mem_of_getElem? (i := 134) rfl))) (mvT hZ (hw _ (List.mem_of_getElem? (i := 73) rfl))) (mvT hZ (hw _ (List.mem_of_getElem? (i := 74) rfl))) (by decide) (backOf (W := 1) (rmC1N l Z a0 hw [] b60 b61 w1 ng .null .null (.int (0 : Int32)) T62.heap n0 (by omega) f63 f65 f66 f67 f68 (by omega) hng) hZ (hw _ (List.mem_of_getElem? (i := 74) rfl)) (hw _ (List.mem_of_getElem? (i := 59) rfl)) (by decide) (by decide)) (g := mkF m 248 Ls [(.int ng), (.ref w1), (.ref b61), (.ref b60), (.ref b60)]) rfl hLs (Steps.refl _) (a := b60) (argsL := [(.ref b61), (.ref w1), (.int ng)]) (rest := [(.ref b60)]) (lenOf pd_3 rfl) rfl (by show 2 * 0 + _ ≤ _; exact Nat.le_of_eq rfl) (hb hby at_248) (fun _ _ => ⟨rfl, rfl, (by decide : 0 + 1 + 1 + 1 + 1 + 1 + 1 + 0 + 1 + 0 + 1 + 1 + 0 + 0 ≤ _), (by decide : 0 + 3 + 4 + 3 + 2 + 4 + 2 + 0 + 4 + 0 + 3 + 1 + 0 + 0 ≤ _)⟩)
          refine Wk.back (n := 251) (rc := 0) (rs := 0) (Q := Q_rmC1N Z b60 b61 w1 ng .null .null (.int (0 : Int32)) T62.heap n0) (cl69_ _ (by rw [hml]; rfl)) fun vn69 T69 L69 X69 hQ69 => ?_
          clear cl69_
          obtain ⟨rfl, M69, J69, p69_0, p69_1⟩ := hQ69
          have N69 := Fr.app N62 M69
          have sz69 := J69.1
          have K69 := K62.trans J69 (allS (Or.inr (by omega)) all0)
          have lt_p69_0 := ny p69_0.lt
          show Wk p e below s _ _ _ T69 (mkF m 251 _ [(.ref b60)])
          refine Wk.astore X69 hx (hb hby at_251) (n := 253) rfl rfl (L' := #[.val (.int p1), .val (.int p2), .val (.int p3), .val (.int p4), .val (.int p5), .val (.int p6), .val (.ref b1), .val (.ref b5), .val (.ref b10), .val (.ref b13), .val (.int hm), .val (.int ng), .val (.int ov), .val u, .val (.ref w1), .val (.ref b20), .val (.int ((p5 &&& (2147483647 : Int32)) % (5 : Int32))), .val (.ref b60), .unset, .unset]) rfl ?_
          refine Wk.goto X69 hx (hb hby at_253) (by decide) (n := 338) (by decide) ?_
          refine Wk.aload X69 hx (hb hby at_338) (n := 340) rfl rfl rfl ?_
          have f70 := (p62_0.keep J69)
          have f71 := (p62_1.keep J69 (ninS (nz (by omega)) nin0))
          obtain ⟨cq72, kq72, qn72a, qn72b, qn72c⟩ := isOf hZ rfl p69_0
          have cl72_ := fun (Ls : Array Slot) (hLs : Ls.size = c.maxLocals) => X69.virtualBack hx (y := (⟨"com/example/depeche/depeche/profile/Condition", "path", "()Lcom/example/depeche/depeche/profile/Path;"⟩ : MethodName)) (z := (⟨"com/example/depeche/depeche/profile/Condition", "path", "()Lcom/example/depeche/depeche/profile/Path;"⟩ : MethodName)) hown (mvT hZ (hw _ (List.mem_of_getElem? (i := 89) rfl))) (mvT hZ (hw _ (List.mem_of_getElem? (i := 90) rfl))) (notFace_of_selects (args := #[]) (mvT hZ (hw _ (List.mem_of_getElem? (i := 92) rfl)))) (mvT hZ (hw _ (List.mem_of_getElem? (i := 92) rfl))) (mvT hZ (hw _ (List.mem_of_getElem? (i := 91) rfl))) (by decide) (backOf (W := 0) (rmPtF l Z a0 hw [] b60 b61 b20 T69.heap n0 (by omega) p69_1 f70 f71) hZ (hw _ (List.mem_of_getElem? (i := 93) rfl)) (hw _ (List.mem_of_getElem? (i := 59) rfl)) (by decide) (by decide)) qn72a qn72c (g := mkF m 340 Ls [(.ref b60)]) rfl hLs (Steps.refl _) (argsL := []) (rest := []) (lenOf pd_4 rfl) rfl (by show 2 * 0 + _ ≤ _; exact Nat.le_of_eq rfl) (hb hby at_340) (fun _ _ => ⟨rfl, rfl, (by decide : 0 + 1 + 1 + 1 + 1 + 1 + 1 + 0 + 1 + 0 + 1 + 1 + 0 + 0 + 0 ≤ _), (by decide : 0 + 3 + 4 + 3 + 2 + 4 + 2 + 0 + 4 + 0 + 3 + 1 + 0 + 0 + 0 ≤ _)⟩)
          refine Wk.back (n := 343) (rc := 0) (rs := 0) (Q := Q_rmPtF Z b60 b61 b20 T69.heap n0) (cl72_ _ (by rw [hml]; rfl)) fun vn72 T72 L72 X72 hQ72 => ?_
          clear cl72_
          obtain ⟨rfl, M72, e72⟩ := hQ72
          have N72 := Fr.app N69 M72
          show Wk p e below s _ _ _ T72 (mkF m 343 _ [(.ref b20)])
          refine Wk.astore X72 hx (hb hby at_343) (n := 345) rfl rfl (L' := #[.val (.int p1), .val (.int p2), .val (.int p3), .val (.int p4), .val (.int p5), .val (.int p6), .val (.ref b1), .val (.ref b5), .val (.ref b10), .val (.ref b13), .val (.int hm), .val (.int ng), .val (.int ov), .val u, .val (.ref w1), .val (.ref b20), .val (.int ((p5 &&& (2147483647 : Int32)) % (5 : Int32))), .val (.ref b60), .val (.ref b20), .unset]) rfl ?_
          refine Wk.iload X72 hx (hb hby at_345) (n := 347) rfl rfl ?_
          refine Wk.iconst X72 hx (hb hby at_347) (n := 348) rfl (z := (1 : Int32)) rfl ?_
          have hc348_73 : ¬ ((1 : Int32) < ((p5 &&& (2147483647 : Int32)) % (5 : Int32))) := by rw [hc228]; decide
          refine Wk.icmpNo X72 hx (hb hby at_348) (n := 351) rfl (flt hc348_73).2.2.1 ?_
          refine Wk.aload X72 hx (hb hby at_351) (n := 353) rfl rfl rfl ?_
          refine Wk.ifnonnullYes X72 hx (hb hby at_353) (by decide) (n := 358) (by decide) ?_
          rcases hu with rfl | rfl
          ·
            refine Wk.aload X72 hx (hb hby at_358) (n := 360) rfl rfl rfl ?_
            refine Wk.ifnonnullNo X72 hx (hb hby at_360) (n := 363) rfl ?_
            refine Wk.aload X72 hx (hb hby at_363) (n := 365) rfl rfl rfl ?_
            have f74 := ((((p21_4.ext Ex60).ext Ex61).keep J62 (ninS (nz (by omega)) nin0)).keep J69 (ninS (nz (by omega)) nin0))
            have f76 := ((((p21_0.ext Ex60).ext Ex61).keep J62).keep J69)
            obtain ⟨cq75, kq75, qn75a, qn75b, qn75c⟩ := isOf hZ e72 f76
            have cl75_ := fun (Ls : Array Slot) (hLs : Ls.size = c.maxLocals) => X72.virtualBack hx (y := (⟨"com/example/depeche/depeche/profile/Path", "mark", "()Ljava/lang/String;"⟩ : MethodName)) (z := (⟨"com/example/depeche/depeche/profile/Path", "mark", "()Ljava/lang/String;"⟩ : MethodName)) hown (mvT hZ (hw _ (List.mem_of_getElem? (i := 100) rfl))) (mvT hZ (hw _ (List.mem_of_getElem? (i := 101) rfl))) (notFace_of_selects (args := #[]) (mvT hZ (hw _ (List.mem_of_getElem? (i := 103) rfl)))) (mvT hZ (hw _ (List.mem_of_getElem? (i := 103) rfl))) (mvT hZ (hw _ (List.mem_of_getElem? (i := 102) rfl))) (by decide) (backOf (W := 0) (rmGm l Z a0 hw [] b20 .null T69.heap n0 (by omega) f74 rfl) hZ (hw _ (List.mem_of_getElem? (i := 104) rfl)) (hw _ (List.mem_of_getElem? (i := 38) rfl)) (by decide) (by decide)) qn75a qn75c (g := mkF m 365 Ls [(.ref b20)]) rfl hLs (Steps.refl _) (argsL := []) (rest := []) (lenOf pd_14 rfl) rfl (by show 2 * 0 + _ ≤ _; exact Nat.le_of_eq rfl) (hb hby at_365) (fun _ _ => ⟨rfl, e72, (by decide : 0 + 1 + 1 + 1 + 1 + 1 + 1 + 0 + 1 + 0 + 1 + 1 + 0 + 0 + 0 + 0 ≤ _), (by decide : 0 + 3 + 4 + 3 + 2 + 4 + 2 + 0 + 4 + 0 + 3 + 1 + 0 + 0 + 0 + 0 ≤ _)⟩)
            refine Wk.back (n := 368) (rc := 0) (rs := 0) (Q := Q_rmGm Z b20 .null T69.heap n0) (cl75_ _ (by rw [hml]; rfl)) fun vn75 T75 L75 X75 hQ75 => ?_
            clear cl75_
            obtain ⟨rfl, M75, e75⟩ := hQ75
            have N75 := Fr.app N72 M75
            show Wk p e below s _ _ _ T75 (mkF m 368 _ [.null])
            refine Wk.ifnonnullNo X75 hx (hb hby at_368) (n := 371) rfl ?_
            refine Wk.iconst X75 hx (hb hby at_371) (n := 372) rfl (z := (1 : Int32)) rfl ?_
            refine Wk.goto X75 hx (hb hby at_372) (by decide) (n := 389) (by decide) ?_
            refine Wk.istore X75 hx (hb hby at_389) (n := 391) rfl (L' := #[.val (.int p1), .val (.int p2), .val (.int p3), .val (.int p4), .val (.int p5), .val (.int p6), .val (.ref b1), .val (.ref b5), .val (.ref b10), .val (.ref b13), .val (.int hm), .val (.int ng), .val (.int ov), .val .null, .val (.ref w1), .val (.ref b20), .val (.int ((p5 &&& (2147483647 : Int32)) % (5 : Int32))), .val (.ref b60), .val (.ref b20), .val (.int (1 : Int32))]) rfl ?_
            refine Wk.aload X75 hx (hb hby at_391) (n := 393) rfl rfl rfl ?_
            have f77 := ((((p21_1.ext Ex60).ext Ex61).keep J62 (ninS (nz (by omega)) nin0)).keep J69 (ninS (nz (by omega)) nin0))
            obtain ⟨cq78, kq78, qn78a, qn78b, qn78c⟩ := isOf hZ e75 f76
            have cl78_ := fun (Ls : Array Slot) (hLs : Ls.size = c.maxLocals) => X75.virtualBack hx (y := (⟨"com/example/depeche/depeche/profile/Path", "segment", "()Ljava/lang/String;"⟩ : MethodName)) (z := (⟨"com/example/depeche/depeche/profile/Path", "segment", "()Ljava/lang/String;"⟩ : MethodName)) hown (mvT hZ (hw _ (List.mem_of_getElem? (i := 105) rfl))) (mvT hZ (hw _ (List.mem_of_getElem? (i := 106) rfl))) (notFace_of_selects (args := #[]) (mvT hZ (hw _ (List.mem_of_getElem? (i := 108) rfl)))) (mvT hZ (hw _ (List.mem_of_getElem? (i := 108) rfl))) (mvT hZ (hw _ (List.mem_of_getElem? (i := 107) rfl))) (by decide) (backOf (W := 0) (rmGs l Z a0 hw [] b20 b5 T69.heap n0 (by omega) f77) hZ (hw _ (List.mem_of_getElem? (i := 109) rfl)) (hw _ (List.mem_of_getElem? (i := 38) rfl)) (by decide) (by decide)) qn78a qn78c (g := mkF m 393 Ls [(.ref b20)]) rfl hLs (Steps.refl _) (argsL := []) (rest := []) (lenOf pd_14 rfl) rfl (by show 2 * 0 + _ ≤ _; exact Nat.le_of_eq rfl) (hb hby at_393) (fun _ _ => ⟨rfl, e75, (by decide : 0 + 1 + 1 + 1 + 1 + 1 + 1 + 0 + 1 + 0 + 1 + 1 + 0 + 0 + 0 + 0 + 0 ≤ _), (by decide : 0 + 3 + 4 + 3 + 2 + 4 + 2 + 0 + 4 + 0 + 3 + 1 + 0 + 0 + 0 + 0 + 0 ≤ _)⟩)
            refine Wk.back (n := 396) (rc := 0) (rs := 0) (Q := Q_rmGs Z b20 b5 T69.heap n0) (cl78_ _ (by rw [hml]; rfl)) fun vn78 T78 L78 X78 hQ78 => ?_
            clear cl78_
            obtain ⟨rfl, M78, e78⟩ := hQ78
            have N78 := Fr.app N75 M78
            show Wk p e below s _ _ _ T78 (mkF m 396 _ [(.ref b5)])
            refine Wk.aload X78 hx (hb hby at_396) (n := 398) rfl rfl rfl ?_
            have f80 := (((((((((((p6_0.ext Ex10).wr Wn11).wr Wn12).ext Ex13).keep J14).ext Ex20).keep J21).ext Ex60).ext Ex61).keep J62).keep J69)
            obtain ⟨cq79, kq79, qn79a, qn79b, qn79c⟩ := isOf hZ e78 f80
            have cl79_ := fun (Ls : Array Slot) (hLs : Ls.size = c.maxLocals) => X78.virtualBack hx (y := (⟨"java/lang/String", "equals", "(Ljava/lang/Object;)Z"⟩ : MethodName)) (z := (⟨"java/lang/String", "equals", "(Ljava/lang/Object;)Z"⟩ : MethodName)) hown (mvT hZ (hw _ (List.mem_of_getElem? (i := 110) rfl))) (mvT hZ (hw _ (List.mem_of_getElem? (i := 111) rfl))) (notFace_of_selects (args := #[]) (mvT hZ (hw _ (List.mem_of_getElem? (i := 113) rfl)))) (mvT hZ (hw _ (List.mem_of_getElem? (i := 113) rfl))) (mvT hZ (hw _ (List.mem_of_getElem? (i := 112) rfl))) (by decide) (backOf (W := 0) (rmEq l Z a0 hw [] b5 T69.heap n0 (by omega)) hZ (hw _ (List.mem_of_getElem? (i := 114) rfl)) (hw _ (List.mem_of_getElem? (i := 3) rfl)) (by decide) (by decide)) qn79a qn79c (g := mkF m 398 Ls [(.ref b5), (.ref b5)]) rfl hLs (Steps.refl _) (argsL := [(.ref b5)]) (rest := []) (lenOf pd_15 rfl) rfl (by show 2 * 0 + _ ≤ _; exact Nat.le_of_eq rfl) (hb hby at_398) (fun _ _ => ⟨rfl, e78, (by decide : 0 + 1 + 1 + 1 + 1 + 1 + 1 + 0 + 1 + 0 + 1 + 1 + 0 + 0 + 0 + 0 + 0 + 0 ≤ _), (by decide : 0 + 3 + 4 + 3 + 2 + 4 + 2 + 0 + 4 + 0 + 3 + 1 + 0 + 0 + 0 + 0 + 0 + 0 ≤ _)⟩)
            refine Wk.back (n := 401) (rc := 0) (rs := 0) (Q := Q_rmEq Z b5 T69.heap n0) (cl79_ _ (by rw [hml]; rfl)) fun vn79 T79 L79 X79 hQ79 => ?_
            clear cl79_
            obtain ⟨rfl, M79, e79⟩ := hQ79
            have N79 := Fr.app N78 M79
            show Wk p e below s _ _ _ T79 (mkF m 401 _ [(.int (1 : Int32))])
            have hc401_81 : ¬ ((1 : Int32) = (0 : Int32)) := by decide
            refine Wk.ifNo X79 hx (hb hby at_401) (n := 404) rfl ((if0 _ _).trans (feq hc401_81).1) ?_
            refine Wk.aload X79 hx (hb hby at_404) (n := 406) rfl rfl rfl ?_
            have f82 := ((((p21_2.ext Ex60).ext Ex61).keep J62 (ninS (nz (by omega)) nin0)).keep J69 (ninS (nz (by omega)) nin0))
            obtain ⟨cq83, kq83, qn83a, qn83b, qn83c⟩ := isOf hZ e79 f76
            have cl83_ := fun (Ls : Array Slot) (hLs : Ls.size = c.maxLocals) => X79.virtualBack hx (y := (⟨"com/example/depeche/depeche/profile/Path", "field", "()I"⟩ : MethodName)) (z := (⟨"com/example/depeche/depeche/profile/Path", "field", "()I"⟩ : MethodName)) hown (mvT hZ (hw _ (List.mem_of_getElem? (i := 115) rfl))) (mvT hZ (hw _ (List.mem_of_getElem? (i := 116) rfl))) (notFace_of_selects (args := #[]) (mvT hZ (hw _ (List.mem_of_getElem? (i := 118) rfl)))) (mvT hZ (hw _ (List.mem_of_getElem? (i := 118) rfl))) (mvT hZ (hw _ (List.mem_of_getElem? (i := 117) rfl))) (by decide) (backOf (W := 0) (rmGf l Z a0 hw [] b20 p2 T69.heap n0 (by omega) f82) hZ (hw _ (List.mem_of_getElem? (i := 119) rfl)) (hw _ (List.mem_of_getElem? (i := 38) rfl)) (by decide) (by decide)) qn83a qn83c (g := mkF m 406 Ls [(.ref b20)]) rfl hLs (Steps.refl _) (argsL := []) (rest := []) (lenOf pd_16 rfl) rfl (by show 2 * 0 + _ ≤ _; exact Nat.le_of_eq rfl) (hb hby at_406) (fun _ _ => ⟨rfl, e79, (by decide : 0 + 1 + 1 + 1 + 1 + 1 + 1 + 0 + 1 + 0 + 1 + 1 + 0 + 0 + 0 + 0 + 0 + 0 + 0 ≤ _), (by decide : 0 + 3 + 4 + 3 + 2 + 4 + 2 + 0 + 4 + 0 + 3 + 1 + 0 + 0 + 0 + 0 + 0 + 0 + 0 ≤ _)⟩)
            refine Wk.back (n := 409) (rc := 0) (rs := 0) (Q := Q_rmGf Z b20 p2 T69.heap n0) (cl83_ _ (by rw [hml]; rfl)) fun vn83 T83 L83 X83 hQ83 => ?_
            clear cl83_
            obtain ⟨rfl, M83, e83⟩ := hQ83
            have N83 := Fr.app N79 M83
            show Wk p e below s _ _ _ T83 (mkF m 409 _ [(.int p2)])
            refine Wk.iloadN X83 hx (hb hby at_409) (n := 410) rfl rfl ?_
            have hc410_84 : p2 = p2 := rfl
            refine Wk.icmpNo X83 hx (hb hby at_410) (n := 413) rfl (teq hc410_84).2 ?_
            refine Wk.aload X83 hx (hb hby at_413) (n := 415) rfl rfl rfl ?_
            have f85 := ((((p21_3.ext Ex60).ext Ex61).keep J62 (ninS (nz (by omega)) nin0)).keep J69 (ninS (nz (by omega)) nin0))
            obtain ⟨cq86, kq86, qn86a, qn86b, qn86c⟩ := isOf hZ e83 f76
            have cl86_ := fun (Ls : Array Slot) (hLs : Ls.size = c.maxLocals) => X83.virtualBack hx (y := (⟨"com/example/depeche/depeche/profile/Path", "component", "()I"⟩ : MethodName)) (z := (⟨"com/example/depeche/depeche/profile/Path", "component", "()I"⟩ : MethodName)) hown (mvT hZ (hw _ (List.mem_of_getElem? (i := 120) rfl))) (mvT hZ (hw _ (List.mem_of_getElem? (i := 121) rfl))) (notFace_of_selects (args := #[]) (mvT hZ (hw _ (List.mem_of_getElem? (i := 123) rfl)))) (mvT hZ (hw _ (List.mem_of_getElem? (i := 123) rfl))) (mvT hZ (hw _ (List.mem_of_getElem? (i := 122) rfl))) (by decide) (backOf (W := 0) (rmGc l Z a0 hw [] b20 p3 T69.heap n0 (by omega) f85) hZ (hw _ (List.mem_of_getElem? (i := 124) rfl)) (hw _ (List.mem_of_getElem? (i := 38) rfl)) (by decide) (by decide)) qn86a qn86c (g := mkF m 415 Ls [(.ref b20)]) rfl hLs (Steps.refl _) (argsL := []) (rest := []) (lenOf pd_16 rfl) rfl (by show 2 * 0 + _ ≤ _; exact Nat.le_of_eq rfl) (hb hby at_415) (fun _ _ => ⟨rfl, e83, (by decide : 0 + 1 + 1 + 1 + 1 + 1 + 1 + 0 + 1 + 0 + 1 + 1 + 0 + 0 + 0 + 0 + 0 + 0 + 0 + 0 ≤ _), (by decide : 0 + 3 + 4 + 3 + 2 + 4 + 2 + 0 + 4 + 0 + 3 + 1 + 0 + 0 + 0 + 0 + 0 + 0 + 0 + 0 ≤ _)⟩)
            refine Wk.back (n := 418) (rc := 0) (rs := 0) (Q := Q_rmGc Z b20 p3 T69.heap n0) (cl86_ _ (by rw [hml]; rfl)) fun vn86 T86 L86 X86 hQ86 => ?_
            clear cl86_
            obtain ⟨rfl, M86, e86⟩ := hQ86
            have N86 := Fr.app N83 M86
            show Wk p e below s _ _ _ T86 (mkF m 418 _ [(.int p3)])
            refine Wk.iloadN X86 hx (hb hby at_418) (n := 419) rfl rfl ?_
            have hc419_87 : p3 = p3 := rfl
            refine Wk.icmpNo X86 hx (hb hby at_419) (n := 422) rfl (teq hc419_87).2 ?_
            refine Wk.iload X86 hx (hb hby at_422) (n := 424) rfl rfl ?_
            have hc424_88 : ¬ ((1 : Int32) = (0 : Int32)) := by decide
            refine Wk.ifNo X86 hx (hb hby at_424) (n := 427) rfl ((if0 _ _).trans (feq hc424_88).1) ?_
            refine Wk.iconst X86 hx (hb hby at_427) (n := 428) rfl (z := (1 : Int32)) rfl ?_
            refine Wk.goto X86 hx (hb hby at_428) (by decide) (n := 432) (by decide) ?_
            exact Wk.leave X86 (v := some (.int (1 : Int32))) (fun h => by rw [Bd.returns] at h; cases h) hlk e86 ⟨rfl, N86, K69⟩ (by decide) (by decide) (fun fs hr => retNz X86 hx (t := .boolean) rfl Bd.returns (by simp) (hb hby at_432) hr)
          ·
            refine Wk.aload X72 hx (hb hby at_358) (n := 360) rfl rfl rfl ?_
            refine Wk.ifnonnullYes X72 hx (hb hby at_360) (by decide) (n := 379) (by decide) ?_
            refine Wk.aload X72 hx (hb hby at_379) (n := 381) rfl rfl rfl ?_
            refine Wk.aload X72 hx (hb hby at_381) (n := 383) rfl rfl rfl ?_
            have f89 := ((((p21_4.ext Ex60).ext Ex61).keep J62 (ninS (nz (by omega)) nin0)).keep J69 (ninS (nz (by omega)) nin0))
            have f91 := ((((p21_0.ext Ex60).ext Ex61).keep J62).keep J69)
            obtain ⟨cq90, kq90, qn90a, qn90b, qn90c⟩ := isOf hZ e72 f91
            have cl90_ := fun (Ls : Array Slot) (hLs : Ls.size = c.maxLocals) => X72.virtualBack hx (y := (⟨"com/example/depeche/depeche/profile/Path", "mark", "()Ljava/lang/String;"⟩ : MethodName)) (z := (⟨"com/example/depeche/depeche/profile/Path", "mark", "()Ljava/lang/String;"⟩ : MethodName)) hown (mvT hZ (hw _ (List.mem_of_getElem? (i := 100) rfl))) (mvT hZ (hw _ (List.mem_of_getElem? (i := 101) rfl))) (notFace_of_selects (args := #[]) (mvT hZ (hw _ (List.mem_of_getElem? (i := 103) rfl)))) (mvT hZ (hw _ (List.mem_of_getElem? (i := 103) rfl))) (mvT hZ (hw _ (List.mem_of_getElem? (i := 102) rfl))) (by decide) (backOf (W := 1) (rmGm l Z a0 hw [] b20 (.ref b13) T69.heap n0 (by omega) f89 rfl) hZ (hw _ (List.mem_of_getElem? (i := 104) rfl)) (hw _ (List.mem_of_getElem? (i := 38) rfl)) (by decide) (by decide)) qn90a qn90c (g := mkF m 383 Ls [(.ref b20), (.ref b13)]) rfl hLs (Steps.refl _) (argsL := []) (rest := [(.ref b13)]) (lenOf pd_14 rfl) rfl (by show 2 * 0 + _ ≤ _; exact Nat.le_of_eq rfl) (hb hby at_383) (fun _ _ => ⟨rfl, e72, (by decide : 0 + 1 + 1 + 1 + 1 + 1 + 1 + 0 + 1 + 0 + 1 + 1 + 0 + 0 + 0 + 0 ≤ _), (by decide : 0 + 3 + 4 + 3 + 2 + 4 + 2 + 0 + 4 + 0 + 3 + 1 + 0 + 0 + 0 + 0 ≤ _)⟩)
            refine Wk.back (n := 386) (rc := 0) (rs := 0) (Q := Q_rmGm Z b20 (.ref b13) T69.heap n0) (cl90_ _ (by rw [hml]; rfl)) fun vn90 T90 L90 X90 hQ90 => ?_
            clear cl90_
            obtain ⟨rfl, M90, e90⟩ := hQ90
            have N90 := Fr.app N72 M90
            show Wk p e below s _ _ _ T90 (mkF m 386 _ [(.ref b13), (.ref b13)])
            have f93 := ((((((p14_0.ext Ex20).keep J21).ext Ex60).ext Ex61).keep J62).keep J69)
            obtain ⟨cq92, kq92, qn92a, qn92b, qn92c⟩ := isOf hZ e90 f93
            have cl92_ := fun (Ls : Array Slot) (hLs : Ls.size = c.maxLocals) => X90.virtualBack hx (y := (⟨"java/lang/String", "equals", "(Ljava/lang/Object;)Z"⟩ : MethodName)) (z := (⟨"java/lang/String", "equals", "(Ljava/lang/Object;)Z"⟩ : MethodName)) hown (mvT hZ (hw _ (List.mem_of_getElem? (i := 110) rfl))) (mvT hZ (hw _ (List.mem_of_getElem? (i := 111) rfl))) (notFace_of_selects (args := #[]) (mvT hZ (hw _ (List.mem_of_getElem? (i := 113) rfl)))) (mvT hZ (hw _ (List.mem_of_getElem? (i := 113) rfl))) (mvT hZ (hw _ (List.mem_of_getElem? (i := 112) rfl))) (by decide) (backOf (W := 0) (rmEq l Z a0 hw [] b13 T69.heap n0 (by omega)) hZ (hw _ (List.mem_of_getElem? (i := 114) rfl)) (hw _ (List.mem_of_getElem? (i := 3) rfl)) (by decide) (by decide)) qn92a qn92c (g := mkF m 386 Ls [(.ref b13), (.ref b13)]) rfl hLs (Steps.refl _) (argsL := [(.ref b13)]) (rest := []) (lenOf pd_15 rfl) rfl (by show 2 * 0 + _ ≤ _; exact Nat.le_of_eq rfl) (hb hby at_386) (fun _ _ => ⟨rfl, e90, (by decide : 0 + 1 + 1 + 1 + 1 + 1 + 1 + 0 + 1 + 0 + 1 + 1 + 0 + 0 + 0 + 0 + 0 ≤ _), (by decide : 0 + 3 + 4 + 3 + 2 + 4 + 2 + 0 + 4 + 0 + 3 + 1 + 0 + 0 + 0 + 0 + 0 ≤ _)⟩)
            refine Wk.back (n := 389) (rc := 0) (rs := 0) (Q := Q_rmEq Z b13 T69.heap n0) (cl92_ _ (by rw [hml]; rfl)) fun vn92 T92 L92 X92 hQ92 => ?_
            clear cl92_
            obtain ⟨rfl, M92, e92⟩ := hQ92
            have N92 := Fr.app N90 M92
            show Wk p e below s _ _ _ T92 (mkF m 389 _ [(.int (1 : Int32))])
            refine Wk.istore X92 hx (hb hby at_389) (n := 391) rfl (L' := #[.val (.int p1), .val (.int p2), .val (.int p3), .val (.int p4), .val (.int p5), .val (.int p6), .val (.ref b1), .val (.ref b5), .val (.ref b10), .val (.ref b13), .val (.int hm), .val (.int ng), .val (.int ov), .val (.ref b13), .val (.ref w1), .val (.ref b20), .val (.int ((p5 &&& (2147483647 : Int32)) % (5 : Int32))), .val (.ref b60), .val (.ref b20), .val (.int (1 : Int32))]) rfl ?_
            refine Wk.aload X92 hx (hb hby at_391) (n := 393) rfl rfl rfl ?_
            have f94 := ((((p21_1.ext Ex60).ext Ex61).keep J62 (ninS (nz (by omega)) nin0)).keep J69 (ninS (nz (by omega)) nin0))
            obtain ⟨cq95, kq95, qn95a, qn95b, qn95c⟩ := isOf hZ e92 f91
            have cl95_ := fun (Ls : Array Slot) (hLs : Ls.size = c.maxLocals) => X92.virtualBack hx (y := (⟨"com/example/depeche/depeche/profile/Path", "segment", "()Ljava/lang/String;"⟩ : MethodName)) (z := (⟨"com/example/depeche/depeche/profile/Path", "segment", "()Ljava/lang/String;"⟩ : MethodName)) hown (mvT hZ (hw _ (List.mem_of_getElem? (i := 105) rfl))) (mvT hZ (hw _ (List.mem_of_getElem? (i := 106) rfl))) (notFace_of_selects (args := #[]) (mvT hZ (hw _ (List.mem_of_getElem? (i := 108) rfl)))) (mvT hZ (hw _ (List.mem_of_getElem? (i := 108) rfl))) (mvT hZ (hw _ (List.mem_of_getElem? (i := 107) rfl))) (by decide) (backOf (W := 0) (rmGs l Z a0 hw [] b20 b5 T69.heap n0 (by omega) f94) hZ (hw _ (List.mem_of_getElem? (i := 109) rfl)) (hw _ (List.mem_of_getElem? (i := 38) rfl)) (by decide) (by decide)) qn95a qn95c (g := mkF m 393 Ls [(.ref b20)]) rfl hLs (Steps.refl _) (argsL := []) (rest := []) (lenOf pd_14 rfl) rfl (by show 2 * 0 + _ ≤ _; exact Nat.le_of_eq rfl) (hb hby at_393) (fun _ _ => ⟨rfl, e92, (by decide : 0 + 1 + 1 + 1 + 1 + 1 + 1 + 0 + 1 + 0 + 1 + 1 + 0 + 0 + 0 + 0 + 0 + 0 ≤ _), (by decide : 0 + 3 + 4 + 3 + 2 + 4 + 2 + 0 + 4 + 0 + 3 + 1 + 0 + 0 + 0 + 0 + 0 + 0 ≤ _)⟩)
            refine Wk.back (n := 396) (rc := 0) (rs := 0) (Q := Q_rmGs Z b20 b5 T69.heap n0) (cl95_ _ (by rw [hml]; rfl)) fun vn95 T95 L95 X95 hQ95 => ?_
            clear cl95_
            obtain ⟨rfl, M95, e95⟩ := hQ95
            have N95 := Fr.app N92 M95
            show Wk p e below s _ _ _ T95 (mkF m 396 _ [(.ref b5)])
            refine Wk.aload X95 hx (hb hby at_396) (n := 398) rfl rfl rfl ?_
            have f97 := (((((((((((p6_0.ext Ex10).wr Wn11).wr Wn12).ext Ex13).keep J14).ext Ex20).keep J21).ext Ex60).ext Ex61).keep J62).keep J69)
            obtain ⟨cq96, kq96, qn96a, qn96b, qn96c⟩ := isOf hZ e95 f97
            have cl96_ := fun (Ls : Array Slot) (hLs : Ls.size = c.maxLocals) => X95.virtualBack hx (y := (⟨"java/lang/String", "equals", "(Ljava/lang/Object;)Z"⟩ : MethodName)) (z := (⟨"java/lang/String", "equals", "(Ljava/lang/Object;)Z"⟩ : MethodName)) hown (mvT hZ (hw _ (List.mem_of_getElem? (i := 110) rfl))) (mvT hZ (hw _ (List.mem_of_getElem? (i := 111) rfl))) (notFace_of_selects (args := #[]) (mvT hZ (hw _ (List.mem_of_getElem? (i := 113) rfl)))) (mvT hZ (hw _ (List.mem_of_getElem? (i := 113) rfl))) (mvT hZ (hw _ (List.mem_of_getElem? (i := 112) rfl))) (by decide) (backOf (W := 0) (rmEq l Z a0 hw [] b5 T69.heap n0 (by omega)) hZ (hw _ (List.mem_of_getElem? (i := 114) rfl)) (hw _ (List.mem_of_getElem? (i := 3) rfl)) (by decide) (by decide)) qn96a qn96c (g := mkF m 398 Ls [(.ref b5), (.ref b5)]) rfl hLs (Steps.refl _) (argsL := [(.ref b5)]) (rest := []) (lenOf pd_15 rfl) rfl (by show 2 * 0 + _ ≤ _; exact Nat.le_of_eq rfl) (hb hby at_398) (fun _ _ => ⟨rfl, e95, (by decide : 0 + 1 + 1 + 1 + 1 + 1 + 1 + 0 + 1 + 0 + 1 + 1 + 0 + 0 + 0 + 0 + 0 + 0 + 0 ≤ _), (by decide : 0 + 3 + 4 + 3 + 2 + 4 + 2 + 0 + 4 + 0 + 3 + 1 + 0 + 0 + 0 + 0 + 0 + 0 + 0 ≤ _)⟩)
            refine Wk.back (n := 401) (rc := 0) (rs := 0) (Q := Q_rmEq Z b5 T69.heap n0) (cl96_ _ (by rw [hml]; rfl)) fun vn96 T96 L96 X96 hQ96 => ?_
            clear cl96_
            obtain ⟨rfl, M96, e96⟩ := hQ96
            have N96 := Fr.app N95 M96
            show Wk p e below s _ _ _ T96 (mkF m 401 _ [(.int (1 : Int32))])
            have hc401_98 : ¬ ((1 : Int32) = (0 : Int32)) := by decide
            refine Wk.ifNo X96 hx (hb hby at_401) (n := 404) rfl ((if0 _ _).trans (feq hc401_98).1) ?_
            refine Wk.aload X96 hx (hb hby at_404) (n := 406) rfl rfl rfl ?_
            have f99 := ((((p21_2.ext Ex60).ext Ex61).keep J62 (ninS (nz (by omega)) nin0)).keep J69 (ninS (nz (by omega)) nin0))
            obtain ⟨cq100, kq100, qn100a, qn100b, qn100c⟩ := isOf hZ e96 f91
            have cl100_ := fun (Ls : Array Slot) (hLs : Ls.size = c.maxLocals) => X96.virtualBack hx (y := (⟨"com/example/depeche/depeche/profile/Path", "field", "()I"⟩ : MethodName)) (z := (⟨"com/example/depeche/depeche/profile/Path", "field", "()I"⟩ : MethodName)) hown (mvT hZ (hw _ (List.mem_of_getElem? (i := 115) rfl))) (mvT hZ (hw _ (List.mem_of_getElem? (i := 116) rfl))) (notFace_of_selects (args := #[]) (mvT hZ (hw _ (List.mem_of_getElem? (i := 118) rfl)))) (mvT hZ (hw _ (List.mem_of_getElem? (i := 118) rfl))) (mvT hZ (hw _ (List.mem_of_getElem? (i := 117) rfl))) (by decide) (backOf (W := 0) (rmGf l Z a0 hw [] b20 p2 T69.heap n0 (by omega) f99) hZ (hw _ (List.mem_of_getElem? (i := 119) rfl)) (hw _ (List.mem_of_getElem? (i := 38) rfl)) (by decide) (by decide)) qn100a qn100c (g := mkF m 406 Ls [(.ref b20)]) rfl hLs (Steps.refl _) (argsL := []) (rest := []) (lenOf pd_16 rfl) rfl (by show 2 * 0 + _ ≤ _; exact Nat.le_of_eq rfl) (hb hby at_406) (fun _ _ => ⟨rfl, e96, (by decide : 0 + 1 + 1 + 1 + 1 + 1 + 1 + 0 + 1 + 0 + 1 + 1 + 0 + 0 + 0 + 0 + 0 + 0 + 0 + 0 ≤ _), (by decide : 0 + 3 + 4 + 3 + 2 + 4 + 2 + 0 + 4 + 0 + 3 + 1 + 0 + 0 + 0 + 0 + 0 + 0 + 0 + 0 ≤ _)⟩)
            refine Wk.back (n := 409) (rc := 0) (rs := 0) (Q := Q_rmGf Z b20 p2 T69.heap n0) (cl100_ _ (by rw [hml]; rfl)) fun vn100 T100 L100 X100 hQ100 => ?_
            clear cl100_
            obtain ⟨rfl, M100, e100⟩ := hQ100
            have N100 := Fr.app N96 M100
            show Wk p e below s _ _ _ T100 (mkF m 409 _ [(.int p2)])
            refine Wk.iloadN X100 hx (hb hby at_409) (n := 410) rfl rfl ?_
            have hc410_101 : p2 = p2 := rfl
            refine Wk.icmpNo X100 hx (hb hby at_410) (n := 413) rfl (teq hc410_101).2 ?_
            refine Wk.aload X100 hx (hb hby at_413) (n := 415) rfl rfl rfl ?_
            have f102 := ((((p21_3.ext Ex60).ext Ex61).keep J62 (ninS (nz (by omega)) nin0)).keep J69 (ninS (nz (by omega)) nin0))
            obtain ⟨cq103, kq103, qn103a, qn103b, qn103c⟩ := isOf hZ e100 f91
            have cl103_ := fun (Ls : Array Slot) (hLs : Ls.size = c.maxLocals) => X100.virtualBack hx (y := (⟨"com/example/depeche/depeche/profile/Path", "component", "()I"⟩ : MethodName)) (z := (⟨"com/example/depeche/depeche/profile/Path", "component", "()I"⟩ : MethodName)) hown (mvT hZ (hw _ (List.mem_of_getElem? (i := 120) rfl))) (mvT hZ (hw _ (List.mem_of_getElem? (i := 121) rfl))) (notFace_of_selects (args := #[]) (mvT hZ (hw _ (List.mem_of_getElem? (i := 123) rfl)))) (mvT hZ (hw _ (List.mem_of_getElem? (i := 123) rfl))) (mvT hZ (hw _ (List.mem_of_getElem? (i := 122) rfl))) (by decide) (backOf (W := 0) (rmGc l Z a0 hw [] b20 p3 T69.heap n0 (by omega) f102) hZ (hw _ (List.mem_of_getElem? (i := 124) rfl)) (hw _ (List.mem_of_getElem? (i := 38) rfl)) (by decide) (by decide)) qn103a qn103c (g := mkF m 415 Ls [(.ref b20)]) rfl hLs (Steps.refl _) (argsL := []) (rest := []) (lenOf pd_16 rfl) rfl (by show 2 * 0 + _ ≤ _; exact Nat.le_of_eq rfl) (hb hby at_415) (fun _ _ => ⟨rfl, e100, (by decide : 0 + 1 + 1 + 1 + 1 + 1 + 1 + 0 + 1 + 0 + 1 + 1 + 0 + 0 + 0 + 0 + 0 + 0 + 0 + 0 + 0 ≤ _), (by decide : 0 + 3 + 4 + 3 + 2 + 4 + 2 + 0 + 4 + 0 + 3 + 1 + 0 + 0 + 0 + 0 + 0 + 0 + 0 + 0 + 0 ≤ _)⟩)
            refine Wk.back (n := 418) (rc := 0) (rs := 0) (Q := Q_rmGc Z b20 p3 T69.heap n0) (cl103_ _ (by rw [hml]; rfl)) fun vn103 T103 L103 X103 hQ103 => ?_
            clear cl103_
            obtain ⟨rfl, M103, e103⟩ := hQ103
            have N103 := Fr.app N100 M103
            show Wk p e below s _ _ _ T103 (mkF m 418 _ [(.int p3)])
            refine Wk.iloadN X103 hx (hb hby at_418) (n := 419) rfl rfl ?_
            have hc419_104 : p3 = p3 := rfl
            refine Wk.icmpNo X103 hx (hb hby at_419) (n := 422) rfl (teq hc419_104).2 ?_
            refine Wk.iload X103 hx (hb hby at_422) (n := 424) rfl rfl ?_
            have hc424_105 : ¬ ((1 : Int32) = (0 : Int32)) := by decide
            refine Wk.ifNo X103 hx (hb hby at_424) (n := 427) rfl ((if0 _ _).trans (feq hc424_105).1) ?_
            refine Wk.iconst X103 hx (hb hby at_427) (n := 428) rfl (z := (1 : Int32)) rfl ?_
            refine Wk.goto X103 hx (hb hby at_428) (by decide) (n := 432) (by decide) ?_
            exact Wk.leave X103 (v := some (.int (1 : Int32))) (fun h => by rw [Bd.returns] at h; cases h) hlk e103 ⟨rfl, N103, K69⟩ (by decide) (by decide) (fun fs hr => retNz X103 hx (t := .boolean) rfl Bd.returns (by simp) (hb hby at_432) hr)
        ·
          refine Wk.icmpYes X21 hx (hb hby at_228) (feq hc228).2 (by decide) (n := 256) (by decide) ?_
          refine Wk.iload X21 hx (hb hby at_256) (n := 258) rfl rfl ?_
          refine Wk.iconst X21 hx (hb hby at_258) (n := 259) rfl (z := (2 : Int32)) rfl ?_
          by_cases hc259 : ((p5 &&& (2147483647 : Int32)) % (5 : Int32)) = (2 : Int32)
          ·
            refine Wk.icmpNo X21 hx (hb hby at_259) (n := 262) rfl (teq hc259).2 ?_
            refine Wk.newO X21 hx hZ hown (hw _ (List.mem_of_getElem? (i := 57) rfl)) (hw _ (List.mem_of_getElem? (i := 58) rfl)) (hw _ (List.mem_of_getElem? (i := 59) rfl)) rfl (hb hby at_262) (n := 265) rfl (by decide) (by decide) fun T106 H106 b106 gn106 X106 e106 Ex106 An106 Dn106 Yn106 => ?_
            have gn106 := nx gn106
            have sz106 := Ex106.1
            have lt106 := ny An106.lt
            have K106 := K21.ext Ex106
            have Fn106_subject : Fld Z H106 b106 "com/example/depeche/depeche/profile/Condition" "subject" "Lcom/example/depeche/depeche/profile/Value$Source;" .null := Dn106 (Or.inr (hw _ (List.mem_of_getElem? (i := 84) rfl))) (ty := (.object "com/example/depeche/depeche/profile/Value$Source")) (by decide)
            have Fn106_values : Fld Z H106 b106 "com/example/depeche/depeche/profile/Condition" "values" "Ljava/util/Set;" .null := Dn106 (Or.inr (hw _ (List.mem_of_getElem? (i := 86) rfl))) (ty := (.object "java/util/Set")) (by decide)
            have Fn106_negated : Fld Z H106 b106 "com/example/depeche/depeche/profile/Condition" "negated" "Z" (.int (0 : Int32)) := Dn106 (Or.inr (hw _ (List.mem_of_getElem? (i := 88) rfl))) (ty := .boolean) (by decide)
            refine Wk.dup X106 hx (hb hby at_265) (n := 266) rfl rfl ?_
            refine Wk.newO X106 hx hZ hown (hw _ (List.mem_of_getElem? (i := 199) rfl)) (hw _ (List.mem_of_getElem? (i := 200) rfl)) (hw _ (List.mem_of_getElem? (i := 201) rfl)) e106 (hb hby at_266) (n := 269) rfl (by decide) (by decide) fun T107 H107 b107 gn107 X107 e107 Ex107 An107 Dn107 Yn107 => ?_
            have gn107 := nx gn107
            have sz107 := Ex107.1
            have lt107 := ny An107.lt
            have K107 := K106.ext Ex107
            have Fn107_mark : Fld Z H107 b107 "com/example/depeche/depeche/profile/Value$Count" "mark" "Ljava/lang/String;" .null := Dn107 (Or.inr (hw _ (List.mem_of_getElem? (i := 207) rfl))) (ty := (.object "java/lang/String")) (by decide)
            refine Wk.dup X107 hx (hb hby at_269) (n := 270) rfl rfl ?_
            refine Wk.aload X107 hx (hb hby at_270) (n := 272) rfl rfl rfl ?_
            have cl108_ := fun (Ls : Array Slot) (hLs : Ls.size = c.maxLocals) => X107.specialBack hx (y := (⟨"com/example/depeche/depeche/profile/Value$Count", "<init>", "(Ljava/lang/String;)V"⟩ : MethodName)) rfl hown (mvT hZ (hw _ (List.mem_of_getElem? (i := 202) rfl))) (mvT hZ (hw _ (List.mem_of_getElem? (i := 203) rfl))) (mvT hZ (hw _ (List.mem_of_getElem? (i := 204) rfl))) (by decide) (backOf (W := 3) (rmCtI l Z a0 hw [] b107 b13 .null H107 n0 (by omega) An107 Fn107_mark (by omega)) hZ (hw _ (List.mem_of_getElem? (i := 204) rfl)) (hw _ (List.mem_of_getElem? (i := 201) rfl)) (by decide) (by decide)) (g := mkF m 272 Ls [(.ref b13), (.ref b107), (.ref b107), (.ref b106), (.ref b106)]) rfl hLs (Steps.refl _) (a := b107) (argsL := [(.ref b13)]) (rest := [(.ref b107), (.ref b106), (.ref b106)]) (lenOf pd_17 rfl) rfl (by show 2 * 0 + _ ≤ _; exact Nat.le_of_eq rfl) (hb hby at_272) (fun _ _ => ⟨rfl, e107, (by decide : 0 + 1 + 1 + 1 + 1 + 1 + 1 + 0 + 1 + 0 + 1 + 1 + 0 ≤ _), (by decide : 0 + 3 + 4 + 3 + 2 + 4 + 2 + 0 + 4 + 0 + 3 + 1 + 0 ≤ _)⟩)
            refine Wk.back (n := 275) (rc := 0) (rs := 0) (Q := Q_rmCtI Z b107 b13 .null H107 n0) (cl108_ _ (by rw [hml]; rfl)) fun vn108 T108 L108 X108 hQ108 => ?_
            clear cl108_
            obtain ⟨rfl, M108, J108, p108_0⟩ := hQ108
            have N108 := Fr.app N21 M108
            have sz108 := J108.1
            have K108 := K107.trans J108 (allS (Or.inr (by omega)) all0)
            have lt_p108_0 := ny p108_0.lt
            show Wk p e below s _ _ _ T108 (mkF m 275 _ [(.ref b107), (.ref b106), (.ref b106)])
            refine Wk.aload X108 hx (hb hby at_275) (n := 277) rfl rfl rfl ?_
            refine Wk.iload X108 hx (hb hby at_277) (n := 279) rfl rfl ?_
            have f109 := ((An106.ext Ex107).keep J108)
            have f110 := (((((f18.ext Ex20).keep J21 (allS (by omega) all0)).ext Ex106).ext Ex107).keep J108 (allS (by omega) all0))
            have f111 := Ew.ext f110.2
            have f112 := ((Fn106_subject.ext Ex107).keep J108 (ninS (nz (by omega)) nin0))
            have f113 := ((Fn106_values.ext Ex107).keep J108 (ninS (nz (by omega)) nin0))
            have f114 := ((Fn106_negated.ext Ex107).keep J108 (ninS (nz (by omega)) nin0))
            have cl115_ := fun (Ls : Array Slot) (hLs : Ls.size = c.maxLocals) => X108.specialBack hx (y := (⟨"com/example/depeche/depeche/profile/Condition", "<init>", "(Lcom/example/depeche/depeche/profile/Value$Source;Ljava/util/Set;Z)V"⟩ : MethodName)) rfl hown (mvT hZ (hw _ (List.mem_of_getElem? (i := 134) rfl))) (mvT hZ (hw _ (List.mem_of_getElem? (i := 73) rfl))) (mvT hZ (hw _ (List.mem_of_getElem? (i := 74) rfl))) (by decide) (backOf (W := 1) (rmC1N l Z a0 hw [] b106 b107 w1 ng .null .null (.int (0 : Int32)) T108.heap n0 (by omega) f109 f111 f112 f113 f114 (by omega) hng) hZ (hw _ (List.mem_of_getElem? (i := 74) rfl)) (hw _ (List.mem_of_getElem? (i := 59) rfl)) (by decide) (by decide)) (g := mkF m 279 Ls [(.int ng), (.ref w1), (.ref b107), (.ref b106), (.ref b106)]) rfl hLs (Steps.refl _) (a := b106) (argsL := [(.ref b107), (.ref w1), (.int ng)]) (rest := [(.ref b106)]) (lenOf pd_3 rfl) rfl (by show 2 * 0 + _ ≤ _; exact Nat.le_of_eq rfl) (hb hby at_279) (fun _ _ => ⟨rfl, rfl, (by decide : 0 + 1 + 1 + 1 + 1 + 1 + 1 + 0 + 1 + 0 + 1 + 1 + 0 + 0 ≤ _), (by decide : 0 + 3 + 4 + 3 + 2 + 4 + 2 + 0 + 4 + 0 + 3 + 1 + 0 + 0 ≤ _)⟩)
            refine Wk.back (n := 282) (rc := 0) (rs := 0) (Q := Q_rmC1N Z b106 b107 w1 ng .null .null (.int (0 : Int32)) T108.heap n0) (cl115_ _ (by rw [hml]; rfl)) fun vn115 T115 L115 X115 hQ115 => ?_
            clear cl115_
            obtain ⟨rfl, M115, J115, p115_0, p115_1⟩ := hQ115
            have N115 := Fr.app N108 M115
            have sz115 := J115.1
            have K115 := K108.trans J115 (allS (Or.inr (by omega)) all0)
            have lt_p115_0 := ny p115_0.lt
            show Wk p e below s _ _ _ T115 (mkF m 282 _ [(.ref b106)])
            refine Wk.astore X115 hx (hb hby at_282) (n := 284) rfl rfl (L' := #[.val (.int p1), .val (.int p2), .val (.int p3), .val (.int p4), .val (.int p5), .val (.int p6), .val (.ref b1), .val (.ref b5), .val (.ref b10), .val (.ref b13), .val (.int hm), .val (.int ng), .val (.int ov), .val u, .val (.ref w1), .val (.ref b20), .val (.int ((p5 &&& (2147483647 : Int32)) % (5 : Int32))), .val (.ref b106), .unset, .unset]) rfl ?_
            refine Wk.goto X115 hx (hb hby at_284) (by decide) (n := 338) (by decide) ?_
            refine Wk.aload X115 hx (hb hby at_338) (n := 340) rfl rfl rfl ?_
            have f116 := (p108_0.keep J115)
            obtain ⟨cq117, kq117, qn117a, qn117b, qn117c⟩ := isOf hZ rfl p115_0
            have cl117_ := fun (Ls : Array Slot) (hLs : Ls.size = c.maxLocals) => X115.virtualBack hx (y := (⟨"com/example/depeche/depeche/profile/Condition", "path", "()Lcom/example/depeche/depeche/profile/Path;"⟩ : MethodName)) (z := (⟨"com/example/depeche/depeche/profile/Condition", "path", "()Lcom/example/depeche/depeche/profile/Path;"⟩ : MethodName)) hown (mvT hZ (hw _ (List.mem_of_getElem? (i := 89) rfl))) (mvT hZ (hw _ (List.mem_of_getElem? (i := 90) rfl))) (notFace_of_selects (args := #[]) (mvT hZ (hw _ (List.mem_of_getElem? (i := 92) rfl)))) (mvT hZ (hw _ (List.mem_of_getElem? (i := 92) rfl))) (mvT hZ (hw _ (List.mem_of_getElem? (i := 91) rfl))) (by decide) (backOf (W := 0) (rmPtN l Z a0 hw [] b106 b107 ("com/example/depeche/depeche/profile/Value$Count") T115.heap n0 (by omega) p115_1 f116 (own_nota (hw _ (List.mem_of_getElem? (i := 208) rfl)) (hw _ (List.mem_of_getElem? (i := 64) rfl)) (NS.step (hw _ (List.mem_of_getElem? (i := 208) rfl)) (NS.step (hw _ (List.mem_of_getElem? (i := 136) rfl)) (own_root (hw _ (List.mem_of_getElem? (i := 137) rfl)) (hw _ (List.mem_of_getElem? (i := 64) rfl)) (by decide)) (by decide)) (by decide)) (by decide))) hZ (hw _ (List.mem_of_getElem? (i := 93) rfl)) (hw _ (List.mem_of_getElem? (i := 59) rfl)) (by decide) (by decide)) qn117a qn117c (g := mkF m 340 Ls [(.ref b106)]) rfl hLs (Steps.refl _) (argsL := []) (rest := []) (lenOf pd_4 rfl) rfl (by show 2 * 0 + _ ≤ _; exact Nat.le_of_eq rfl) (hb hby at_340) (fun _ _ => ⟨rfl, rfl, (by decide : 0 + 1 + 1 + 1 + 1 + 1 + 1 + 0 + 1 + 0 + 1 + 1 + 0 + 0 + 0 ≤ _), (by decide : 0 + 3 + 4 + 3 + 2 + 4 + 2 + 0 + 4 + 0 + 3 + 1 + 0 + 0 + 0 ≤ _)⟩)
            refine Wk.back (n := 343) (rc := 0) (rs := 0) (Q := Q_rmPtN Z b106 b107 ("com/example/depeche/depeche/profile/Value$Count") T115.heap n0) (cl117_ _ (by rw [hml]; rfl)) fun vn117 T117 L117 X117 hQ117 => ?_
            clear cl117_
            obtain ⟨rfl, M117, e117⟩ := hQ117
            have N117 := Fr.app N115 M117
            show Wk p e below s _ _ _ T117 (mkF m 343 _ [.null])
            refine Wk.astore X117 hx (hb hby at_343) (n := 345) rfl rfl (L' := #[.val (.int p1), .val (.int p2), .val (.int p3), .val (.int p4), .val (.int p5), .val (.int p6), .val (.ref b1), .val (.ref b5), .val (.ref b10), .val (.ref b13), .val (.int hm), .val (.int ng), .val (.int ov), .val u, .val (.ref w1), .val (.ref b20), .val (.int ((p5 &&& (2147483647 : Int32)) % (5 : Int32))), .val (.ref b106), .val .null, .unset]) rfl ?_
            refine Wk.iload X117 hx (hb hby at_345) (n := 347) rfl rfl ?_
            refine Wk.iconst X117 hx (hb hby at_347) (n := 348) rfl (z := (1 : Int32)) rfl ?_
            have hc348_118 : (1 : Int32) < ((p5 &&& (2147483647 : Int32)) % (5 : Int32)) := own_kind (own_knn _) hc204 hc228
            refine Wk.icmpYes X117 hx (hb hby at_348) (tlt hc348_118).2.2.1 (by decide) (n := 433) (by decide) ?_
            refine Wk.aload X117 hx (hb hby at_433) (n := 435) rfl rfl rfl ?_
            refine Wk.ifnonnullNo X117 hx (hb hby at_435) (n := 438) rfl ?_
            refine Wk.iconst X117 hx (hb hby at_438) (n := 439) rfl (z := (1 : Int32)) rfl ?_
            refine Wk.goto X117 hx (hb hby at_439) (by decide) (n := 443) (by decide) ?_
            exact Wk.leave X117 (v := some (.int (1 : Int32))) (fun h => by rw [Bd.returns] at h; cases h) hlk e117 ⟨rfl, N117, K115⟩ (by decide) (by decide) (fun fs hr => retNz X117 hx (t := .boolean) rfl Bd.returns (by simp) (hb hby at_443) hr)
          ·
            refine Wk.icmpYes X21 hx (hb hby at_259) (feq hc259).2 (by decide) (n := 287) (by decide) ?_
            refine Wk.iload X21 hx (hb hby at_287) (n := 289) rfl rfl ?_
            refine Wk.iconst X21 hx (hb hby at_289) (n := 290) rfl (z := (3 : Int32)) rfl ?_
            by_cases hc290 : ((p5 &&& (2147483647 : Int32)) % (5 : Int32)) = (3 : Int32)
            ·
              refine Wk.icmpNo X21 hx (hb hby at_290) (n := 293) rfl (teq hc290).2 ?_
              refine Wk.newO X21 hx hZ hown (hw _ (List.mem_of_getElem? (i := 57) rfl)) (hw _ (List.mem_of_getElem? (i := 58) rfl)) (hw _ (List.mem_of_getElem? (i := 59) rfl)) rfl (hb hby at_293) (n := 296) rfl (by decide) (by decide) fun T119 H119 b119 gn119 X119 e119 Ex119 An119 Dn119 Yn119 => ?_
              have gn119 := nx gn119
              have sz119 := Ex119.1
              have lt119 := ny An119.lt
              have K119 := K21.ext Ex119
              have Fn119_subject : Fld Z H119 b119 "com/example/depeche/depeche/profile/Condition" "subject" "Lcom/example/depeche/depeche/profile/Value$Source;" .null := Dn119 (Or.inr (hw _ (List.mem_of_getElem? (i := 84) rfl))) (ty := (.object "com/example/depeche/depeche/profile/Value$Source")) (by decide)
              have Fn119_values : Fld Z H119 b119 "com/example/depeche/depeche/profile/Condition" "values" "Ljava/util/Set;" .null := Dn119 (Or.inr (hw _ (List.mem_of_getElem? (i := 86) rfl))) (ty := (.object "java/util/Set")) (by decide)
              have Fn119_negated : Fld Z H119 b119 "com/example/depeche/depeche/profile/Condition" "negated" "Z" (.int (0 : Int32)) := Dn119 (Or.inr (hw _ (List.mem_of_getElem? (i := 88) rfl))) (ty := .boolean) (by decide)
              refine Wk.dup X119 hx (hb hby at_296) (n := 297) rfl rfl ?_
              refine Wk.newO X119 hx hZ hown (hw _ (List.mem_of_getElem? (i := 125) rfl)) (hw _ (List.mem_of_getElem? (i := 126) rfl)) (hw _ (List.mem_of_getElem? (i := 127) rfl)) e119 (hb hby at_297) (n := 300) rfl (by decide) (by decide) fun T120 H120 b120 gn120 X120 e120 Ex120 An120 Dn120 Yn120 => ?_
              have gn120 := nx gn120
              have sz120 := Ex120.1
              have lt120 := ny An120.lt
              have K120 := K119.ext Ex120
              have Fn120_text : Fld Z H120 b120 "com/example/depeche/depeche/profile/Value$Text" "text" "Ljava/lang/String;" .null := Dn120 (Or.inr (hw _ (List.mem_of_getElem? (i := 133) rfl))) (ty := (.object "java/lang/String")) (by decide)
              refine Wk.dup X120 hx (hb hby at_300) (n := 301) rfl rfl ?_
              refine Wk.aload X120 hx (hb hby at_301) (n := 303) rfl rfl rfl ?_
              have cl121_ := fun (Ls : Array Slot) (hLs : Ls.size = c.maxLocals) => X120.specialBack hx (y := (⟨"com/example/depeche/depeche/profile/Value$Text", "<init>", "(Ljava/lang/String;)V"⟩ : MethodName)) rfl hown (mvT hZ (hw _ (List.mem_of_getElem? (i := 128) rfl))) (mvT hZ (hw _ (List.mem_of_getElem? (i := 129) rfl))) (mvT hZ (hw _ (List.mem_of_getElem? (i := 130) rfl))) (by decide) (backOf (W := 3) (rmTI l Z a0 hw [] b120 b5 .null H120 n0 (by omega) An120 Fn120_text (by omega)) hZ (hw _ (List.mem_of_getElem? (i := 130) rfl)) (hw _ (List.mem_of_getElem? (i := 127) rfl)) (by decide) (by decide)) (g := mkF m 303 Ls [(.ref b5), (.ref b120), (.ref b120), (.ref b119), (.ref b119)]) rfl hLs (Steps.refl _) (a := b120) (argsL := [(.ref b5)]) (rest := [(.ref b120), (.ref b119), (.ref b119)]) (lenOf pd_17 rfl) rfl (by show 2 * 0 + _ ≤ _; exact Nat.le_of_eq rfl) (hb hby at_303) (fun _ _ => ⟨rfl, e120, (by decide : 0 + 1 + 1 + 1 + 1 + 1 + 1 + 0 + 1 + 0 + 1 + 1 + 0 ≤ _), (by decide : 0 + 3 + 4 + 3 + 2 + 4 + 2 + 0 + 4 + 0 + 3 + 1 + 0 ≤ _)⟩)
              refine Wk.back (n := 306) (rc := 0) (rs := 0) (Q := Q_rmTI Z b120 b5 .null H120 n0) (cl121_ _ (by rw [hml]; rfl)) fun vn121 T121 L121 X121 hQ121 => ?_
              clear cl121_
              obtain ⟨rfl, M121, J121, p121_0⟩ := hQ121
              have N121 := Fr.app N21 M121
              have sz121 := J121.1
              have K121 := K120.trans J121 (allS (Or.inr (by omega)) all0)
              have lt_p121_0 := ny p121_0.lt
              show Wk p e below s _ _ _ T121 (mkF m 306 _ [(.ref b120), (.ref b119), (.ref b119)])
              refine Wk.aload X121 hx (hb hby at_306) (n := 308) rfl rfl rfl ?_
              refine Wk.iload X121 hx (hb hby at_308) (n := 310) rfl rfl ?_
              have f122 := ((An119.ext Ex120).keep J121)
              have f123 := (((((f18.ext Ex20).keep J21 (allS (by omega) all0)).ext Ex119).ext Ex120).keep J121 (allS (by omega) all0))
              have f124 := Ew.ext f123.2
              have f125 := ((Fn119_subject.ext Ex120).keep J121 (ninS (nz (by omega)) nin0))
              have f126 := ((Fn119_values.ext Ex120).keep J121 (ninS (nz (by omega)) nin0))
              have f127 := ((Fn119_negated.ext Ex120).keep J121 (ninS (nz (by omega)) nin0))
              have cl128_ := fun (Ls : Array Slot) (hLs : Ls.size = c.maxLocals) => X121.specialBack hx (y := (⟨"com/example/depeche/depeche/profile/Condition", "<init>", "(Lcom/example/depeche/depeche/profile/Value$Source;Ljava/util/Set;Z)V"⟩ : MethodName)) rfl hown (mvT hZ (hw _ (List.mem_of_getElem? (i := 134) rfl))) (mvT hZ (hw _ (List.mem_of_getElem? (i := 73) rfl))) (mvT hZ (hw _ (List.mem_of_getElem? (i := 74) rfl))) (by decide) (backOf (W := 1) (rmC1N l Z a0 hw [] b119 b120 w1 ng .null .null (.int (0 : Int32)) T121.heap n0 (by omega) f122 f124 f125 f126 f127 (by omega) hng) hZ (hw _ (List.mem_of_getElem? (i := 74) rfl)) (hw _ (List.mem_of_getElem? (i := 59) rfl)) (by decide) (by decide)) (g := mkF m 310 Ls [(.int ng), (.ref w1), (.ref b120), (.ref b119), (.ref b119)]) rfl hLs (Steps.refl _) (a := b119) (argsL := [(.ref b120), (.ref w1), (.int ng)]) (rest := [(.ref b119)]) (lenOf pd_3 rfl) rfl (by show 2 * 0 + _ ≤ _; exact Nat.le_of_eq rfl) (hb hby at_310) (fun _ _ => ⟨rfl, rfl, (by decide : 0 + 1 + 1 + 1 + 1 + 1 + 1 + 0 + 1 + 0 + 1 + 1 + 0 + 0 ≤ _), (by decide : 0 + 3 + 4 + 3 + 2 + 4 + 2 + 0 + 4 + 0 + 3 + 1 + 0 + 0 ≤ _)⟩)
              refine Wk.back (n := 313) (rc := 0) (rs := 0) (Q := Q_rmC1N Z b119 b120 w1 ng .null .null (.int (0 : Int32)) T121.heap n0) (cl128_ _ (by rw [hml]; rfl)) fun vn128 T128 L128 X128 hQ128 => ?_
              clear cl128_
              obtain ⟨rfl, M128, J128, p128_0, p128_1⟩ := hQ128
              have N128 := Fr.app N121 M128
              have sz128 := J128.1
              have K128 := K121.trans J128 (allS (Or.inr (by omega)) all0)
              have lt_p128_0 := ny p128_0.lt
              show Wk p e below s _ _ _ T128 (mkF m 313 _ [(.ref b119)])
              refine Wk.astore X128 hx (hb hby at_313) (n := 315) rfl rfl (L' := #[.val (.int p1), .val (.int p2), .val (.int p3), .val (.int p4), .val (.int p5), .val (.int p6), .val (.ref b1), .val (.ref b5), .val (.ref b10), .val (.ref b13), .val (.int hm), .val (.int ng), .val (.int ov), .val u, .val (.ref w1), .val (.ref b20), .val (.int ((p5 &&& (2147483647 : Int32)) % (5 : Int32))), .val (.ref b119), .unset, .unset]) rfl ?_
              refine Wk.goto X128 hx (hb hby at_315) (by decide) (n := 338) (by decide) ?_
              refine Wk.aload X128 hx (hb hby at_338) (n := 340) rfl rfl rfl ?_
              have f129 := (p121_0.keep J128)
              obtain ⟨cq130, kq130, qn130a, qn130b, qn130c⟩ := isOf hZ rfl p128_0
              have cl130_ := fun (Ls : Array Slot) (hLs : Ls.size = c.maxLocals) => X128.virtualBack hx (y := (⟨"com/example/depeche/depeche/profile/Condition", "path", "()Lcom/example/depeche/depeche/profile/Path;"⟩ : MethodName)) (z := (⟨"com/example/depeche/depeche/profile/Condition", "path", "()Lcom/example/depeche/depeche/profile/Path;"⟩ : MethodName)) hown (mvT hZ (hw _ (List.mem_of_getElem? (i := 89) rfl))) (mvT hZ (hw _ (List.mem_of_getElem? (i := 90) rfl))) (notFace_of_selects (args := #[]) (mvT hZ (hw _ (List.mem_of_getElem? (i := 92) rfl)))) (mvT hZ (hw _ (List.mem_of_getElem? (i := 92) rfl))) (mvT hZ (hw _ (List.mem_of_getElem? (i := 91) rfl))) (by decide) (backOf (W := 0) (rmPtN l Z a0 hw [] b119 b120 ("com/example/depeche/depeche/profile/Value$Text") T128.heap n0 (by omega) p128_1 f129 (own_nota (hw _ (List.mem_of_getElem? (i := 135) rfl)) (hw _ (List.mem_of_getElem? (i := 64) rfl)) (NS.step (hw _ (List.mem_of_getElem? (i := 135) rfl)) (NS.step (hw _ (List.mem_of_getElem? (i := 136) rfl)) (own_root (hw _ (List.mem_of_getElem? (i := 137) rfl)) (hw _ (List.mem_of_getElem? (i := 64) rfl)) (by decide)) (by decide)) (by decide)) (by decide))) hZ (hw _ (List.mem_of_getElem? (i := 93) rfl)) (hw _ (List.mem_of_getElem? (i := 59) rfl)) (by decide) (by decide)) qn130a qn130c (g := mkF m 340 Ls [(.ref b119)]) rfl hLs (Steps.refl _) (argsL := []) (rest := []) (lenOf pd_4 rfl) rfl (by show 2 * 0 + _ ≤ _; exact Nat.le_of_eq rfl) (hb hby at_340) (fun _ _ => ⟨rfl, rfl, (by decide : 0 + 1 + 1 + 1 + 1 + 1 + 1 + 0 + 1 + 0 + 1 + 1 + 0 + 0 + 0 ≤ _), (by decide : 0 + 3 + 4 + 3 + 2 + 4 + 2 + 0 + 4 + 0 + 3 + 1 + 0 + 0 + 0 ≤ _)⟩)
              refine Wk.back (n := 343) (rc := 0) (rs := 0) (Q := Q_rmPtN Z b119 b120 ("com/example/depeche/depeche/profile/Value$Text") T128.heap n0) (cl130_ _ (by rw [hml]; rfl)) fun vn130 T130 L130 X130 hQ130 => ?_
              clear cl130_
              obtain ⟨rfl, M130, e130⟩ := hQ130
              have N130 := Fr.app N128 M130
              show Wk p e below s _ _ _ T130 (mkF m 343 _ [.null])
              refine Wk.astore X130 hx (hb hby at_343) (n := 345) rfl rfl (L' := #[.val (.int p1), .val (.int p2), .val (.int p3), .val (.int p4), .val (.int p5), .val (.int p6), .val (.ref b1), .val (.ref b5), .val (.ref b10), .val (.ref b13), .val (.int hm), .val (.int ng), .val (.int ov), .val u, .val (.ref w1), .val (.ref b20), .val (.int ((p5 &&& (2147483647 : Int32)) % (5 : Int32))), .val (.ref b119), .val .null, .unset]) rfl ?_
              refine Wk.iload X130 hx (hb hby at_345) (n := 347) rfl rfl ?_
              refine Wk.iconst X130 hx (hb hby at_347) (n := 348) rfl (z := (1 : Int32)) rfl ?_
              have hc348_131 : (1 : Int32) < ((p5 &&& (2147483647 : Int32)) % (5 : Int32)) := own_kind (own_knn _) hc204 hc228
              refine Wk.icmpYes X130 hx (hb hby at_348) (tlt hc348_131).2.2.1 (by decide) (n := 433) (by decide) ?_
              refine Wk.aload X130 hx (hb hby at_433) (n := 435) rfl rfl rfl ?_
              refine Wk.ifnonnullNo X130 hx (hb hby at_435) (n := 438) rfl ?_
              refine Wk.iconst X130 hx (hb hby at_438) (n := 439) rfl (z := (1 : Int32)) rfl ?_
              refine Wk.goto X130 hx (hb hby at_439) (by decide) (n := 443) (by decide) ?_
              exact Wk.leave X130 (v := some (.int (1 : Int32))) (fun h => by rw [Bd.returns] at h; cases h) hlk e130 ⟨rfl, N130, K128⟩ (by decide) (by decide) (fun fs hr => retNz X130 hx (t := .boolean) rfl Bd.returns (by simp) (hb hby at_443) hr)
            ·
              refine Wk.icmpYes X21 hx (hb hby at_290) (feq hc290).2 (by decide) (n := 318) (by decide) ?_
              refine Wk.newO X21 hx hZ hown (hw _ (List.mem_of_getElem? (i := 57) rfl)) (hw _ (List.mem_of_getElem? (i := 58) rfl)) (hw _ (List.mem_of_getElem? (i := 59) rfl)) rfl (hb hby at_318) (n := 321) rfl (by decide) (by decide) fun T132 H132 b132 gn132 X132 e132 Ex132 An132 Dn132 Yn132 => ?_
              have gn132 := nx gn132
              have sz132 := Ex132.1
              have lt132 := ny An132.lt
              have K132 := K21.ext Ex132
              have Fn132_subject : Fld Z H132 b132 "com/example/depeche/depeche/profile/Condition" "subject" "Lcom/example/depeche/depeche/profile/Value$Source;" .null := Dn132 (Or.inr (hw _ (List.mem_of_getElem? (i := 84) rfl))) (ty := (.object "com/example/depeche/depeche/profile/Value$Source")) (by decide)
              have Fn132_values : Fld Z H132 b132 "com/example/depeche/depeche/profile/Condition" "values" "Ljava/util/Set;" .null := Dn132 (Or.inr (hw _ (List.mem_of_getElem? (i := 86) rfl))) (ty := (.object "java/util/Set")) (by decide)
              have Fn132_negated : Fld Z H132 b132 "com/example/depeche/depeche/profile/Condition" "negated" "Z" (.int (0 : Int32)) := Dn132 (Or.inr (hw _ (List.mem_of_getElem? (i := 88) rfl))) (ty := .boolean) (by decide)
              refine Wk.dup X132 hx (hb hby at_321) (n := 322) rfl rfl ?_
              refine Wk.newO X132 hx hZ hown (hw _ (List.mem_of_getElem? (i := 138) rfl)) (hw _ (List.mem_of_getElem? (i := 139) rfl)) (hw _ (List.mem_of_getElem? (i := 140) rfl)) e132 (hb hby at_322) (n := 325) rfl (by decide) (by decide) fun T133 H133 b133 gn133 X133 e133 Ex133 An133 Dn133 Yn133 => ?_
              have gn133 := nx gn133
              have sz133 := Ex133.1
              have lt133 := ny An133.lt
              have K133 := K132.ext Ex133
              refine Wk.dup X133 hx (hb hby at_325) (n := 326) rfl rfl ?_
              have cl134_ := fun (Ls : Array Slot) (hLs : Ls.size = c.maxLocals) => X133.specialBack hx (y := (⟨"com/example/depeche/depeche/profile/Value$Occurrence", "<init>", "()V"⟩ : MethodName)) rfl hown (mvT hZ (hw _ (List.mem_of_getElem? (i := 141) rfl))) (mvT hZ (hw _ (List.mem_of_getElem? (i := 142) rfl))) (mvT hZ (hw _ (List.mem_of_getElem? (i := 143) rfl))) (by decide) (backOf (W := 3) (rmOI l Z a0 hw [] b133 H133 n0 (by omega)) hZ (hw _ (List.mem_of_getElem? (i := 143) rfl)) (hw _ (List.mem_of_getElem? (i := 140) rfl)) (by decide) (by decide)) (g := mkF m 326 Ls [(.ref b133), (.ref b133), (.ref b132), (.ref b132)]) rfl hLs (Steps.refl _) (a := b133) (argsL := []) (rest := [(.ref b133), (.ref b132), (.ref b132)]) (lenOf pd_0 rfl) rfl (by show 2 * 0 + _ ≤ _; exact Nat.le_of_eq rfl) (hb hby at_326) (fun _ _ => ⟨rfl, e133, (by decide : 0 + 1 + 1 + 1 + 1 + 1 + 1 + 0 + 1 + 0 + 1 + 1 + 0 ≤ _), (by decide : 0 + 3 + 4 + 3 + 2 + 4 + 2 + 0 + 4 + 0 + 3 + 0 + 0 ≤ _)⟩)
              refine Wk.back (n := 329) (rc := 0) (rs := 0) (Q := Q_rmOI Z b133 H133 n0) (cl134_ _ (by rw [hml]; rfl)) fun vn134 T134 L134 X134 hQ134 => ?_
              clear cl134_
              obtain ⟨rfl, M134, e134⟩ := hQ134
              have N134 := Fr.app N21 M134
              show Wk p e below s _ _ _ T134 (mkF m 329 _ [(.ref b133), (.ref b132), (.ref b132)])
              refine Wk.aload X134 hx (hb hby at_329) (n := 331) rfl rfl rfl ?_
              refine Wk.iload X134 hx (hb hby at_331) (n := 333) rfl rfl ?_
              have f135 := (An132.ext Ex133)
              have f136 := ((((f18.ext Ex20).keep J21 (allS (by omega) all0)).ext Ex132).ext Ex133)
              have f137 := Ew.ext f136.2
              have f138 := (Fn132_subject.ext Ex133)
              have f139 := (Fn132_values.ext Ex133)
              have f140 := (Fn132_negated.ext Ex133)
              have cl141_ := fun (Ls : Array Slot) (hLs : Ls.size = c.maxLocals) => X134.specialBack hx (y := (⟨"com/example/depeche/depeche/profile/Condition", "<init>", "(Lcom/example/depeche/depeche/profile/Value$Source;Ljava/util/Set;Z)V"⟩ : MethodName)) rfl hown (mvT hZ (hw _ (List.mem_of_getElem? (i := 134) rfl))) (mvT hZ (hw _ (List.mem_of_getElem? (i := 73) rfl))) (mvT hZ (hw _ (List.mem_of_getElem? (i := 74) rfl))) (by decide) (backOf (W := 1) (rmC1N l Z a0 hw [] b132 b133 w1 ng .null .null (.int (0 : Int32)) H133 n0 (by omega) f135 f137 f138 f139 f140 (by omega) hng) hZ (hw _ (List.mem_of_getElem? (i := 74) rfl)) (hw _ (List.mem_of_getElem? (i := 59) rfl)) (by decide) (by decide)) (g := mkF m 333 Ls [(.int ng), (.ref w1), (.ref b133), (.ref b132), (.ref b132)]) rfl hLs (Steps.refl _) (a := b132) (argsL := [(.ref b133), (.ref w1), (.int ng)]) (rest := [(.ref b132)]) (lenOf pd_3 rfl) rfl (by show 2 * 0 + _ ≤ _; exact Nat.le_of_eq rfl) (hb hby at_333) (fun _ _ => ⟨rfl, e134, (by decide : 0 + 1 + 1 + 1 + 1 + 1 + 1 + 0 + 1 + 0 + 1 + 1 + 0 + 0 ≤ _), (by decide : 0 + 3 + 4 + 3 + 2 + 4 + 2 + 0 + 4 + 0 + 3 + 0 + 0 + 0 ≤ _)⟩)
              refine Wk.back (n := 336) (rc := 0) (rs := 0) (Q := Q_rmC1N Z b132 b133 w1 ng .null .null (.int (0 : Int32)) H133 n0) (cl141_ _ (by rw [hml]; rfl)) fun vn141 T141 L141 X141 hQ141 => ?_
              clear cl141_
              obtain ⟨rfl, M141, J141, p141_0, p141_1⟩ := hQ141
              have N141 := Fr.app N134 M141
              have sz141 := J141.1
              have K141 := K133.trans J141 (allS (Or.inr (by omega)) all0)
              have lt_p141_0 := ny p141_0.lt
              show Wk p e below s _ _ _ T141 (mkF m 336 _ [(.ref b132)])
              refine Wk.astore X141 hx (hb hby at_336) (n := 338) rfl rfl (L' := #[.val (.int p1), .val (.int p2), .val (.int p3), .val (.int p4), .val (.int p5), .val (.int p6), .val (.ref b1), .val (.ref b5), .val (.ref b10), .val (.ref b13), .val (.int hm), .val (.int ng), .val (.int ov), .val u, .val (.ref w1), .val (.ref b20), .val (.int ((p5 &&& (2147483647 : Int32)) % (5 : Int32))), .val (.ref b132), .unset, .unset]) rfl ?_
              refine Wk.aload X141 hx (hb hby at_338) (n := 340) rfl rfl rfl ?_
              have f142 := (An133.keep J141)
              obtain ⟨cq143, kq143, qn143a, qn143b, qn143c⟩ := isOf hZ rfl p141_0
              have cl143_ := fun (Ls : Array Slot) (hLs : Ls.size = c.maxLocals) => X141.virtualBack hx (y := (⟨"com/example/depeche/depeche/profile/Condition", "path", "()Lcom/example/depeche/depeche/profile/Path;"⟩ : MethodName)) (z := (⟨"com/example/depeche/depeche/profile/Condition", "path", "()Lcom/example/depeche/depeche/profile/Path;"⟩ : MethodName)) hown (mvT hZ (hw _ (List.mem_of_getElem? (i := 89) rfl))) (mvT hZ (hw _ (List.mem_of_getElem? (i := 90) rfl))) (notFace_of_selects (args := #[]) (mvT hZ (hw _ (List.mem_of_getElem? (i := 92) rfl)))) (mvT hZ (hw _ (List.mem_of_getElem? (i := 92) rfl))) (mvT hZ (hw _ (List.mem_of_getElem? (i := 91) rfl))) (by decide) (backOf (W := 0) (rmPtN l Z a0 hw [] b132 b133 ("com/example/depeche/depeche/profile/Value$Occurrence") T141.heap n0 (by omega) p141_1 f142 (own_nota (hw _ (List.mem_of_getElem? (i := 145) rfl)) (hw _ (List.mem_of_getElem? (i := 64) rfl)) (NS.step (hw _ (List.mem_of_getElem? (i := 145) rfl)) (NS.step (hw _ (List.mem_of_getElem? (i := 136) rfl)) (own_root (hw _ (List.mem_of_getElem? (i := 137) rfl)) (hw _ (List.mem_of_getElem? (i := 64) rfl)) (by decide)) (by decide)) (by decide)) (by decide))) hZ (hw _ (List.mem_of_getElem? (i := 93) rfl)) (hw _ (List.mem_of_getElem? (i := 59) rfl)) (by decide) (by decide)) qn143a qn143c (g := mkF m 340 Ls [(.ref b132)]) rfl hLs (Steps.refl _) (argsL := []) (rest := []) (lenOf pd_4 rfl) rfl (by show 2 * 0 + _ ≤ _; exact Nat.le_of_eq rfl) (hb hby at_340) (fun _ _ => ⟨rfl, rfl, (by decide : 0 + 1 + 1 + 1 + 1 + 1 + 1 + 0 + 1 + 0 + 1 + 1 + 0 + 0 + 0 ≤ _), (by decide : 0 + 3 + 4 + 3 + 2 + 4 + 2 + 0 + 4 + 0 + 3 + 0 + 0 + 0 + 0 ≤ _)⟩)
              refine Wk.back (n := 343) (rc := 0) (rs := 0) (Q := Q_rmPtN Z b132 b133 ("com/example/depeche/depeche/profile/Value$Occurrence") T141.heap n0) (cl143_ _ (by rw [hml]; rfl)) fun vn143 T143 L143 X143 hQ143 => ?_
              clear cl143_
              obtain ⟨rfl, M143, e143⟩ := hQ143
              have N143 := Fr.app N141 M143
              show Wk p e below s _ _ _ T143 (mkF m 343 _ [.null])
              refine Wk.astore X143 hx (hb hby at_343) (n := 345) rfl rfl (L' := #[.val (.int p1), .val (.int p2), .val (.int p3), .val (.int p4), .val (.int p5), .val (.int p6), .val (.ref b1), .val (.ref b5), .val (.ref b10), .val (.ref b13), .val (.int hm), .val (.int ng), .val (.int ov), .val u, .val (.ref w1), .val (.ref b20), .val (.int ((p5 &&& (2147483647 : Int32)) % (5 : Int32))), .val (.ref b132), .val .null, .unset]) rfl ?_
              refine Wk.iload X143 hx (hb hby at_345) (n := 347) rfl rfl ?_
              refine Wk.iconst X143 hx (hb hby at_347) (n := 348) rfl (z := (1 : Int32)) rfl ?_
              have hc348_144 : (1 : Int32) < ((p5 &&& (2147483647 : Int32)) % (5 : Int32)) := own_kind (own_knn _) hc204 hc228
              refine Wk.icmpYes X143 hx (hb hby at_348) (tlt hc348_144).2.2.1 (by decide) (n := 433) (by decide) ?_
              refine Wk.aload X143 hx (hb hby at_433) (n := 435) rfl rfl rfl ?_
              refine Wk.ifnonnullNo X143 hx (hb hby at_435) (n := 438) rfl ?_
              refine Wk.iconst X143 hx (hb hby at_438) (n := 439) rfl (z := (1 : Int32)) rfl ?_
              refine Wk.goto X143 hx (hb hby at_439) (by decide) (n := 443) (by decide) ?_
              exact Wk.leave X143 (v := some (.int (1 : Int32))) (fun h => by rw [Bd.returns] at h; cases h) hlk e143 ⟨rfl, N143, K141⟩ (by decide) (by decide) (fun fs hr => retNz X143 hx (t := .boolean) rfl Bd.returns (by simp) (hb hby at_443) hr)
    ·
      refine Wk.ifNo X14 hx (hb hby at_152) (n := 155) rfl ((if0 _ _).trans (feq hc152).1) ?_
      refine Wk.iload X14 hx (hb hby at_155) (n := 157) rfl rfl ?_
      refine Wk.sipush X14 hx (hb hby at_157) (n := 160) rfl (z := (255 : Int32)) rfl ?_
      refine Wk.iand X14 hx (hb hby at_160) (n := 161) rfl ?_
      obtain ⟨c5, q_c5⟩ : ∃ z : Int32, z = ((p6 &&& (255 : Int32)).toUInt32.toUInt16.toUInt32.toInt32) := ⟨_, rfl⟩
      have n_c5 : nar .char c5 = c5 := by rw [q_c5]; exact own_c255 _
      have r_c5 : ¬ c5 < 0 ∧ ¬ (255 : Int32) < c5 := by rw [q_c5]; exact own_r255 _
      refine Wk.i2c X14 hx (hb hby at_161) (n := 162) rfl q_c5.symm ?_
      have f145 := (f16.keep J14 (allS (by omega) all0))
      have cl146_ := fun (Ls : Array Slot) (hLs : Ls.size = c.maxLocals) => Jvm.LawKit.callS X14 hx (y := (⟨"java/lang/String", "valueOf", "(C)Ljava/lang/String;"⟩ : MethodName)) hown (mvT hZ (hw _ (List.mem_of_getElem? (i := 146) rfl))) (mvT hZ (hw _ (List.mem_of_getElem? (i := 147) rfl))) (mvT hZ (hw _ (List.mem_of_getElem? (i := 3) rfl))) (mvT hZ (hw _ (List.mem_of_getElem? (i := 148) rfl))) (by decide) (backOf (W := 0) (rmSVO l Z a0 hw [] c5 zc T14.heap n0 (by omega) S4 f145 hCS r_c5.2) hZ (hw _ (List.mem_of_getElem? (i := 148) rfl)) (hw _ (List.mem_of_getElem? (i := 3) rfl)) (by decide) (by decide)) (g := mkF m 162 Ls [(.int c5)]) rfl hLs (argsL := [(.int c5)]) (rest := []) (lenOf pd_18 rfl) rfl (by show 2 * 0 + _ ≤ _; exact Nat.le_of_eq rfl) (hb hby at_162) (fun _ _ => ⟨rfl, rfl, (by decide : 0 + 1 + 1 + 1 + 1 + 1 + 1 + 2 ≤ _), (by decide : 0 + 3 + 4 + 3 + 2 + 4 + 2 + 5 ≤ _)⟩)
      refine Wk.backS (n := 165) (rc := 2) (rs := 5) (Q := Q_rmSVO Z c5 zc T14.heap n0) (cl146_ _ (by rw [hml]; rfl)) fun vn146 T146 L146 X146 hQ146 => ?_
      clear cl146_
      obtain ⟨r_146, t_146, kb_146, rfl, M146, J146, p146_0, p146_1, p146_2, p146_3, gr_146, gt_146⟩ := hQ146
      have N146 := Fr.app N14 M146
      have sz146 := J146.1
      have K146 := K14.trans J146 (fun x hx => nomatch hx)
      have lt_p146_0 := ny p146_0.lt
      have lt_p146_3 := ny p146_3.lt
      show Wk p e below s _ _ _ T146 (mkF m 165 _ [(.ref r_146)])
      have f147 := (f145.keep J146 all0)
      have cl148_ := fun (Ls : Array Slot) (hLs : Ls.size = c.maxLocals) => Jvm.LawKit.callS X146 hx (y := (⟨"java/util/Set", "of", "(Ljava/lang/Object;)Ljava/util/Set;"⟩ : MethodName)) hown (mvT hZ (hw _ (List.mem_of_getElem? (i := 160) rfl))) (mvT hZ (hw _ (List.mem_of_getElem? (i := 161) rfl))) (mvT hZ (hw _ (List.mem_of_getElem? (i := 32) rfl))) (mvT hZ (hw _ (List.mem_of_getElem? (i := 162) rfl))) (by decide) (backOf (W := 0) (rmSO1 l Z a0 hw [] r_146 wm T146.heap n0 (by omega) S2 f147) hZ (hw _ (List.mem_of_getElem? (i := 162) rfl)) (hw _ (List.mem_of_getElem? (i := 32) rfl)) (by decide) (by decide)) (g := mkF m 165 Ls [(.ref r_146)]) rfl hLs (argsL := [(.ref r_146)]) (rest := []) (lenOf pd_19 rfl) rfl (by show 2 * 0 + _ ≤ _; exact Nat.le_of_eq rfl) (hb hby at_165) (fun _ _ => ⟨rfl, rfl, (by decide : 0 + 1 + 1 + 1 + 1 + 1 + 1 + 2 + 1 ≤ _), (by decide : 0 + 3 + 4 + 3 + 2 + 4 + 2 + 5 + 2 ≤ _)⟩)
      refine Wk.backS (n := 168) (rc := 1) (rs := 2) (Q := Q_rmSO1 Z r_146 wm T146.heap n0) (cl148_ _ (by rw [hml]; rfl)) fun vn148 T148 L148 X148 hQ148 => ?_
      clear cl148_
      obtain ⟨r_148, rfl, M148, J148, p148_0⟩ := hQ148
      have N148 := Fr.app N146 M148
      have sz148 := J148.1
      have K148 := K146.trans J148 (fun x hx => nomatch hx)
      have lt_p148_0 := ny p148_0.lt
      show Wk p e below s _ _ _ T148 (mkF m 168 _ [(.ref r_148)])
      refine Wk.astore X148 hx (hb hby at_168) (n := 170) rfl rfl (L' := #[.val (.int p1), .val (.int p2), .val (.int p3), .val (.int p4), .val (.int p5), .val (.int p6), .val (.ref b1), .val (.ref b5), .val (.ref b10), .val (.ref b13), .val (.int hm), .val (.int ng), .val (.int ov), .val u, .val (.ref r_148), .unset, .unset, .unset, .unset, .unset]) rfl ?_
      refine Wk.goto X148 hx (hb hby at_170) (by decide) (n := 178) (by decide) ?_
      refine Wk.newO X148 hx hZ hown (hw _ (List.mem_of_getElem? (i := 36) rfl)) (hw _ (List.mem_of_getElem? (i := 37) rfl)) (hw _ (List.mem_of_getElem? (i := 38) rfl)) rfl (hb hby at_178) (n := 181) rfl (by decide) (by decide) fun T149 H149 b149 gn149 X149 e149 Ex149 An149 Dn149 Yn149 => ?_
      have gn149 := nx gn149
      have sz149 := Ex149.1
      have lt149 := ny An149.lt
      have K149 := K148.ext Ex149
      have Fn149_segment : Fld Z H149 b149 "com/example/depeche/depeche/profile/Path" "segment" "Ljava/lang/String;" .null := Dn149 (Or.inr (hw _ (List.mem_of_getElem? (i := 49) rfl))) (ty := (.object "java/lang/String")) (by decide)
      have Fn149_field : Fld Z H149 b149 "com/example/depeche/depeche/profile/Path" "field" "I" (.int (0 : Int32)) := Dn149 (Or.inr (hw _ (List.mem_of_getElem? (i := 51) rfl))) (ty := .int) (by decide)
      have Fn149_component : Fld Z H149 b149 "com/example/depeche/depeche/profile/Path" "component" "I" (.int (0 : Int32)) := Dn149 (Or.inr (hw _ (List.mem_of_getElem? (i := 53) rfl))) (ty := .int) (by decide)
      have Fn149_mark : Fld Z H149 b149 "com/example/depeche/depeche/profile/Path" "mark" "Ljava/lang/String;" .null := Dn149 (Or.inr (hw _ (List.mem_of_getElem? (i := 55) rfl))) (ty := (.object "java/lang/String")) (by decide)
      refine Wk.dup X149 hx (hb hby at_181) (n := 182) rfl rfl ?_
      refine Wk.aload X149 hx (hb hby at_182) (n := 184) rfl rfl rfl ?_
      refine Wk.iloadN X149 hx (hb hby at_184) (n := 185) rfl rfl ?_
      refine Wk.iloadN X149 hx (hb hby at_185) (n := 186) rfl rfl ?_
      refine Wk.aload X149 hx (hb hby at_186) (n := 188) rfl rfl hur ?_
      have cl150_ := fun (Ls : Array Slot) (hLs : Ls.size = c.maxLocals) => X149.specialBack hx (y := (⟨"com/example/depeche/depeche/profile/Path", "<init>", "(Ljava/lang/String;IILjava/lang/String;)V"⟩ : MethodName)) rfl hown (mvT hZ (hw _ (List.mem_of_getElem? (i := 39) rfl))) (mvT hZ (hw _ (List.mem_of_getElem? (i := 40) rfl))) (mvT hZ (hw _ (List.mem_of_getElem? (i := 41) rfl))) (by decide) (backOf (W := 1) (rmPI l Z a0 hw [] b149 b5 p2 p3 u .null (.int (0 : Int32)) (.int (0 : Int32)) .null H149 n0 (by omega) An149 Fn149_segment Fn149_field Fn149_component Fn149_mark (by omega) hur) hZ (hw _ (List.mem_of_getElem? (i := 41) rfl)) (hw _ (List.mem_of_getElem? (i := 38) rfl)) (by decide) (by decide)) (g := mkF m 188 Ls [u, (.int p3), (.int p2), (.ref b5), (.ref b149), (.ref b149)]) rfl hLs (Steps.refl _) (a := b149) (argsL := [(.ref b5), (.int p2), (.int p3), u]) (rest := [(.ref b149)]) (lenOf pd_12 rfl) rfl (by show 2 * 0 + _ ≤ _; exact Nat.le_of_eq rfl) (hb hby at_188) (fun _ _ => ⟨rfl, e149, (by decide : 0 + 1 + 1 + 1 + 1 + 1 + 1 + 2 + 1 + 1 + 0 ≤ _), (by decide : 0 + 3 + 4 + 3 + 2 + 4 + 2 + 5 + 2 + 4 + 0 ≤ _)⟩)
      refine Wk.back (n := 191) (rc := 0) (rs := 0) (Q := Q_rmPI Z b149 b5 p2 p3 u .null (.int (0 : Int32)) (.int (0 : Int32)) .null H149 n0) (cl150_ _ (by rw [hml]; rfl)) fun vn150 T150 L150 X150 hQ150 => ?_
      clear cl150_
      obtain ⟨rfl, M150, J150, p150_0, p150_1, p150_2, p150_3, p150_4⟩ := hQ150
      have N150 := Fr.app N148 M150
      have sz150 := J150.1
      have K150 := K149.trans J150 (allS (Or.inr (by omega)) all0)
      have lt_p150_0 := ny p150_0.lt
      show Wk p e below s _ _ _ T150 (mkF m 191 _ [(.ref b149)])
      refine Wk.astore X150 hx (hb hby at_191) (n := 193) rfl rfl (L' := #[.val (.int p1), .val (.int p2), .val (.int p3), .val (.int p4), .val (.int p5), .val (.int p6), .val (.ref b1), .val (.ref b5), .val (.ref b10), .val (.ref b13), .val (.int hm), .val (.int ng), .val (.int ov), .val u, .val (.ref r_148), .val (.ref b149), .unset, .unset, .unset, .unset]) rfl ?_
      refine Wk.iload X150 hx (hb hby at_193) (n := 195) rfl rfl ?_
      refine Wk.ldcInt X150 hx hown (mvT hZ (hw _ (List.mem_of_getElem? (i := 56) rfl))) (hb hby at_195) (n := 197) rfl ?_
      refine Wk.iand X150 hx (hb hby at_197) (n := 198) rfl ?_
      refine Wk.iconst X150 hx (hb hby at_198) (n := 199) rfl (z := (5 : Int32)) rfl ?_
      refine Wk.irem X150 hx (hb hby at_199) (n := 200) rfl (by decide) ?_
      refine Wk.istore X150 hx (hb hby at_200) (n := 202) rfl (L' := #[.val (.int p1), .val (.int p2), .val (.int p3), .val (.int p4), .val (.int p5), .val (.int p6), .val (.ref b1), .val (.ref b5), .val (.ref b10), .val (.ref b13), .val (.int hm), .val (.int ng), .val (.int ov), .val u, .val (.ref r_148), .val (.ref b149), .val (.int ((p5 &&& (2147483647 : Int32)) % (5 : Int32))), .unset, .unset, .unset]) rfl ?_
      refine Wk.iload X150 hx (hb hby at_202) (n := 204) rfl rfl ?_
      by_cases hc204 : ((p5 &&& (2147483647 : Int32)) % (5 : Int32)) = (0 : Int32)
      ·
        refine Wk.ifNo X150 hx (hb hby at_204) (n := 207) rfl ((if0 _ _).trans (teq hc204).2) ?_
        refine Wk.newO X150 hx hZ hown (hw _ (List.mem_of_getElem? (i := 57) rfl)) (hw _ (List.mem_of_getElem? (i := 58) rfl)) (hw _ (List.mem_of_getElem? (i := 59) rfl)) rfl (hb hby at_207) (n := 210) rfl (by decide) (by decide) fun T151 H151 b151 gn151 X151 e151 Ex151 An151 Dn151 Yn151 => ?_
        have gn151 := nx gn151
        have sz151 := Ex151.1
        have lt151 := ny An151.lt
        have K151 := K150.ext Ex151
        have Fn151_subject : Fld Z H151 b151 "com/example/depeche/depeche/profile/Condition" "subject" "Lcom/example/depeche/depeche/profile/Value$Source;" .null := Dn151 (Or.inr (hw _ (List.mem_of_getElem? (i := 84) rfl))) (ty := (.object "com/example/depeche/depeche/profile/Value$Source")) (by decide)
        have Fn151_values : Fld Z H151 b151 "com/example/depeche/depeche/profile/Condition" "values" "Ljava/util/Set;" .null := Dn151 (Or.inr (hw _ (List.mem_of_getElem? (i := 86) rfl))) (ty := (.object "java/util/Set")) (by decide)
        have Fn151_negated : Fld Z H151 b151 "com/example/depeche/depeche/profile/Condition" "negated" "Z" (.int (0 : Int32)) := Dn151 (Or.inr (hw _ (List.mem_of_getElem? (i := 88) rfl))) (ty := .boolean) (by decide)
        refine Wk.dup X151 hx (hb hby at_210) (n := 211) rfl rfl ?_
        refine Wk.aload X151 hx (hb hby at_211) (n := 213) rfl rfl rfl ?_
        refine Wk.aload X151 hx (hb hby at_213) (n := 215) rfl rfl rfl ?_
        refine Wk.iload X151 hx (hb hby at_215) (n := 217) rfl rfl ?_
        have f152 := (((p148_0.ext Ex149).keep J150).ext Ex151)
        have cl153_ := fun (Ls : Array Slot) (hLs : Ls.size = c.maxLocals) => X151.specialBack hx (y := (⟨"com/example/depeche/depeche/profile/Condition", "<init>", "(Lcom/example/depeche/depeche/profile/Path;Ljava/util/Set;Z)V"⟩ : MethodName)) rfl hown (mvT hZ (hw _ (List.mem_of_getElem? (i := 60) rfl))) (mvT hZ (hw _ (List.mem_of_getElem? (i := 61) rfl))) (mvT hZ (hw _ (List.mem_of_getElem? (i := 62) rfl))) (by decide) (backOf (W := 1) (rmC2T l Z a0 hw [] b151 b149 r_148 ng .null .null (.int (0 : Int32)) H151 n0 (by omega) An151 f152 Fn151_subject Fn151_values Fn151_negated (by omega) hng) hZ (hw _ (List.mem_of_getElem? (i := 62) rfl)) (hw _ (List.mem_of_getElem? (i := 59) rfl)) (by decide) (by decide)) (g := mkF m 217 Ls [(.int ng), (.ref r_148), (.ref b149), (.ref b151), (.ref b151)]) rfl hLs (Steps.refl _) (a := b151) (argsL := [(.ref b149), (.ref r_148), (.int ng)]) (rest := [(.ref b151)]) (lenOf pd_13 rfl) rfl (by show 2 * 0 + _ ≤ _; exact Nat.le_of_eq rfl) (hb hby at_217) (fun _ _ => ⟨rfl, e151, (by decide : 0 + 1 + 1 + 1 + 1 + 1 + 1 + 2 + 1 + 1 + 0 + 1 + 1 ≤ _), (by decide : 0 + 3 + 4 + 3 + 2 + 4 + 2 + 5 + 2 + 4 + 0 + 3 + 1 ≤ _)⟩)
        refine Wk.back (n := 220) (rc := 1) (rs := 1) (Q := Q_rmC2T Z b151 b149 r_148 ng .null .null (.int (0 : Int32)) H151 n0) (cl153_ _ (by rw [hml]; rfl)) fun vn153 T153 L153 X153 hQ153 => ?_
        clear cl153_
        obtain ⟨y_153, rfl, M153, J153, p153_0, p153_1, p153_2, p153_3⟩ := hQ153
        have N153 := Fr.app N150 M153
        have sz153 := J153.1
        have K153 := K151.trans J153 (allS (Or.inr (by omega)) all0)
        have lt_p153_0 := ny p153_0.lt
        have lt_p153_2 := ny p153_2.lt
        show Wk p e below s _ _ _ T153 (mkF m 220 _ [(.ref b151)])
        refine Wk.astore X153 hx (hb hby at_220) (n := 222) rfl rfl (L' := #[.val (.int p1), .val (.int p2), .val (.int p3), .val (.int p4), .val (.int p5), .val (.int p6), .val (.ref b1), .val (.ref b5), .val (.ref b10), .val (.ref b13), .val (.int hm), .val (.int ng), .val (.int ov), .val u, .val (.ref r_148), .val (.ref b149), .val (.int ((p5 &&& (2147483647 : Int32)) % (5 : Int32))), .val (.ref b151), .unset, .unset]) rfl ?_
        refine Wk.goto X153 hx (hb hby at_222) (by decide) (n := 338) (by decide) ?_
        refine Wk.aload X153 hx (hb hby at_338) (n := 340) rfl rfl rfl ?_
        obtain ⟨cq154, kq154, qn154a, qn154b, qn154c⟩ := isOf hZ rfl p153_0
        have cl154_ := fun (Ls : Array Slot) (hLs : Ls.size = c.maxLocals) => X153.virtualBack hx (y := (⟨"com/example/depeche/depeche/profile/Condition", "path", "()Lcom/example/depeche/depeche/profile/Path;"⟩ : MethodName)) (z := (⟨"com/example/depeche/depeche/profile/Condition", "path", "()Lcom/example/depeche/depeche/profile/Path;"⟩ : MethodName)) hown (mvT hZ (hw _ (List.mem_of_getElem? (i := 89) rfl))) (mvT hZ (hw _ (List.mem_of_getElem? (i := 90) rfl))) (notFace_of_selects (args := #[]) (mvT hZ (hw _ (List.mem_of_getElem? (i := 92) rfl)))) (mvT hZ (hw _ (List.mem_of_getElem? (i := 92) rfl))) (mvT hZ (hw _ (List.mem_of_getElem? (i := 91) rfl))) (by decide) (backOf (W := 0) (rmPtF l Z a0 hw [] b151 y_153 b149 T153.heap n0 (by omega) p153_1 p153_2 p153_3) hZ (hw _ (List.mem_of_getElem? (i := 93) rfl)) (hw _ (List.mem_of_getElem? (i := 59) rfl)) (by decide) (by decide)) qn154a qn154c (g := mkF m 340 Ls [(.ref b151)]) rfl hLs (Steps.refl _) (argsL := []) (rest := []) (lenOf pd_4 rfl) rfl (by show 2 * 0 + _ ≤ _; exact Nat.le_of_eq rfl) (hb hby at_340) (fun _ _ => ⟨rfl, rfl, (by decide : 0 + 1 + 1 + 1 + 1 + 1 + 1 + 2 + 1 + 1 + 0 + 1 + 1 + 0 ≤ _), (by decide : 0 + 3 + 4 + 3 + 2 + 4 + 2 + 5 + 2 + 4 + 0 + 3 + 1 + 0 ≤ _)⟩)
        refine Wk.back (n := 343) (rc := 0) (rs := 0) (Q := Q_rmPtF Z b151 y_153 b149 T153.heap n0) (cl154_ _ (by rw [hml]; rfl)) fun vn154 T154 L154 X154 hQ154 => ?_
        clear cl154_
        obtain ⟨rfl, M154, e154⟩ := hQ154
        have N154 := Fr.app N153 M154
        show Wk p e below s _ _ _ T154 (mkF m 343 _ [(.ref b149)])
        refine Wk.astore X154 hx (hb hby at_343) (n := 345) rfl rfl (L' := #[.val (.int p1), .val (.int p2), .val (.int p3), .val (.int p4), .val (.int p5), .val (.int p6), .val (.ref b1), .val (.ref b5), .val (.ref b10), .val (.ref b13), .val (.int hm), .val (.int ng), .val (.int ov), .val u, .val (.ref r_148), .val (.ref b149), .val (.int ((p5 &&& (2147483647 : Int32)) % (5 : Int32))), .val (.ref b151), .val (.ref b149), .unset]) rfl ?_
        refine Wk.iload X154 hx (hb hby at_345) (n := 347) rfl rfl ?_
        refine Wk.iconst X154 hx (hb hby at_347) (n := 348) rfl (z := (1 : Int32)) rfl ?_
        have hc348_155 : ¬ ((1 : Int32) < ((p5 &&& (2147483647 : Int32)) % (5 : Int32))) := by rw [hc204]; decide
        refine Wk.icmpNo X154 hx (hb hby at_348) (n := 351) rfl (flt hc348_155).2.2.1 ?_
        refine Wk.aload X154 hx (hb hby at_351) (n := 353) rfl rfl rfl ?_
        refine Wk.ifnonnullYes X154 hx (hb hby at_353) (by decide) (n := 358) (by decide) ?_
        rcases hu with rfl | rfl
        ·
          refine Wk.aload X154 hx (hb hby at_358) (n := 360) rfl rfl rfl ?_
          refine Wk.ifnonnullNo X154 hx (hb hby at_360) (n := 363) rfl ?_
          refine Wk.aload X154 hx (hb hby at_363) (n := 365) rfl rfl rfl ?_
          have f156 := ((p150_4.ext Ex151).keep J153 (ninS (nz (by omega)) nin0))
          have f158 := ((p150_0.ext Ex151).keep J153)
          obtain ⟨cq157, kq157, qn157a, qn157b, qn157c⟩ := isOf hZ e154 f158
          have cl157_ := fun (Ls : Array Slot) (hLs : Ls.size = c.maxLocals) => X154.virtualBack hx (y := (⟨"com/example/depeche/depeche/profile/Path", "mark", "()Ljava/lang/String;"⟩ : MethodName)) (z := (⟨"com/example/depeche/depeche/profile/Path", "mark", "()Ljava/lang/String;"⟩ : MethodName)) hown (mvT hZ (hw _ (List.mem_of_getElem? (i := 100) rfl))) (mvT hZ (hw _ (List.mem_of_getElem? (i := 101) rfl))) (notFace_of_selects (args := #[]) (mvT hZ (hw _ (List.mem_of_getElem? (i := 103) rfl)))) (mvT hZ (hw _ (List.mem_of_getElem? (i := 103) rfl))) (mvT hZ (hw _ (List.mem_of_getElem? (i := 102) rfl))) (by decide) (backOf (W := 0) (rmGm l Z a0 hw [] b149 .null T153.heap n0 (by omega) f156 rfl) hZ (hw _ (List.mem_of_getElem? (i := 104) rfl)) (hw _ (List.mem_of_getElem? (i := 38) rfl)) (by decide) (by decide)) qn157a qn157c (g := mkF m 365 Ls [(.ref b149)]) rfl hLs (Steps.refl _) (argsL := []) (rest := []) (lenOf pd_14 rfl) rfl (by show 2 * 0 + _ ≤ _; exact Nat.le_of_eq rfl) (hb hby at_365) (fun _ _ => ⟨rfl, e154, (by decide : 0 + 1 + 1 + 1 + 1 + 1 + 1 + 2 + 1 + 1 + 0 + 1 + 1 + 0 + 0 ≤ _), (by decide : 0 + 3 + 4 + 3 + 2 + 4 + 2 + 5 + 2 + 4 + 0 + 3 + 1 + 0 + 0 ≤ _)⟩)
          refine Wk.back (n := 368) (rc := 0) (rs := 0) (Q := Q_rmGm Z b149 .null T153.heap n0) (cl157_ _ (by rw [hml]; rfl)) fun vn157 T157 L157 X157 hQ157 => ?_
          clear cl157_
          obtain ⟨rfl, M157, e157⟩ := hQ157
          have N157 := Fr.app N154 M157
          show Wk p e below s _ _ _ T157 (mkF m 368 _ [.null])
          refine Wk.ifnonnullNo X157 hx (hb hby at_368) (n := 371) rfl ?_
          refine Wk.iconst X157 hx (hb hby at_371) (n := 372) rfl (z := (1 : Int32)) rfl ?_
          refine Wk.goto X157 hx (hb hby at_372) (by decide) (n := 389) (by decide) ?_
          refine Wk.istore X157 hx (hb hby at_389) (n := 391) rfl (L' := #[.val (.int p1), .val (.int p2), .val (.int p3), .val (.int p4), .val (.int p5), .val (.int p6), .val (.ref b1), .val (.ref b5), .val (.ref b10), .val (.ref b13), .val (.int hm), .val (.int ng), .val (.int ov), .val .null, .val (.ref r_148), .val (.ref b149), .val (.int ((p5 &&& (2147483647 : Int32)) % (5 : Int32))), .val (.ref b151), .val (.ref b149), .val (.int (1 : Int32))]) rfl ?_
          refine Wk.aload X157 hx (hb hby at_391) (n := 393) rfl rfl rfl ?_
          have f159 := ((p150_1.ext Ex151).keep J153 (ninS (nz (by omega)) nin0))
          obtain ⟨cq160, kq160, qn160a, qn160b, qn160c⟩ := isOf hZ e157 f158
          have cl160_ := fun (Ls : Array Slot) (hLs : Ls.size = c.maxLocals) => X157.virtualBack hx (y := (⟨"com/example/depeche/depeche/profile/Path", "segment", "()Ljava/lang/String;"⟩ : MethodName)) (z := (⟨"com/example/depeche/depeche/profile/Path", "segment", "()Ljava/lang/String;"⟩ : MethodName)) hown (mvT hZ (hw _ (List.mem_of_getElem? (i := 105) rfl))) (mvT hZ (hw _ (List.mem_of_getElem? (i := 106) rfl))) (notFace_of_selects (args := #[]) (mvT hZ (hw _ (List.mem_of_getElem? (i := 108) rfl)))) (mvT hZ (hw _ (List.mem_of_getElem? (i := 108) rfl))) (mvT hZ (hw _ (List.mem_of_getElem? (i := 107) rfl))) (by decide) (backOf (W := 0) (rmGs l Z a0 hw [] b149 b5 T153.heap n0 (by omega) f159) hZ (hw _ (List.mem_of_getElem? (i := 109) rfl)) (hw _ (List.mem_of_getElem? (i := 38) rfl)) (by decide) (by decide)) qn160a qn160c (g := mkF m 393 Ls [(.ref b149)]) rfl hLs (Steps.refl _) (argsL := []) (rest := []) (lenOf pd_14 rfl) rfl (by show 2 * 0 + _ ≤ _; exact Nat.le_of_eq rfl) (hb hby at_393) (fun _ _ => ⟨rfl, e157, (by decide : 0 + 1 + 1 + 1 + 1 + 1 + 1 + 2 + 1 + 1 + 0 + 1 + 1 + 0 + 0 + 0 ≤ _), (by decide : 0 + 3 + 4 + 3 + 2 + 4 + 2 + 5 + 2 + 4 + 0 + 3 + 1 + 0 + 0 + 0 ≤ _)⟩)
          refine Wk.back (n := 396) (rc := 0) (rs := 0) (Q := Q_rmGs Z b149 b5 T153.heap n0) (cl160_ _ (by rw [hml]; rfl)) fun vn160 T160 L160 X160 hQ160 => ?_
          clear cl160_
          obtain ⟨rfl, M160, e160⟩ := hQ160
          have N160 := Fr.app N157 M160
          show Wk p e below s _ _ _ T160 (mkF m 396 _ [(.ref b5)])
          refine Wk.aload X160 hx (hb hby at_396) (n := 398) rfl rfl rfl ?_
          have f162 := (((((((((((p6_0.ext Ex10).wr Wn11).wr Wn12).ext Ex13).keep J14).keep J146).keep J148).ext Ex149).keep J150).ext Ex151).keep J153)
          obtain ⟨cq161, kq161, qn161a, qn161b, qn161c⟩ := isOf hZ e160 f162
          have cl161_ := fun (Ls : Array Slot) (hLs : Ls.size = c.maxLocals) => X160.virtualBack hx (y := (⟨"java/lang/String", "equals", "(Ljava/lang/Object;)Z"⟩ : MethodName)) (z := (⟨"java/lang/String", "equals", "(Ljava/lang/Object;)Z"⟩ : MethodName)) hown (mvT hZ (hw _ (List.mem_of_getElem? (i := 110) rfl))) (mvT hZ (hw _ (List.mem_of_getElem? (i := 111) rfl))) (notFace_of_selects (args := #[]) (mvT hZ (hw _ (List.mem_of_getElem? (i := 113) rfl)))) (mvT hZ (hw _ (List.mem_of_getElem? (i := 113) rfl))) (mvT hZ (hw _ (List.mem_of_getElem? (i := 112) rfl))) (by decide) (backOf (W := 0) (rmEq l Z a0 hw [] b5 T153.heap n0 (by omega)) hZ (hw _ (List.mem_of_getElem? (i := 114) rfl)) (hw _ (List.mem_of_getElem? (i := 3) rfl)) (by decide) (by decide)) qn161a qn161c (g := mkF m 398 Ls [(.ref b5), (.ref b5)]) rfl hLs (Steps.refl _) (argsL := [(.ref b5)]) (rest := []) (lenOf pd_15 rfl) rfl (by show 2 * 0 + _ ≤ _; exact Nat.le_of_eq rfl) (hb hby at_398) (fun _ _ => ⟨rfl, e160, (by decide : 0 + 1 + 1 + 1 + 1 + 1 + 1 + 2 + 1 + 1 + 0 + 1 + 1 + 0 + 0 + 0 + 0 ≤ _), (by decide : 0 + 3 + 4 + 3 + 2 + 4 + 2 + 5 + 2 + 4 + 0 + 3 + 1 + 0 + 0 + 0 + 0 ≤ _)⟩)
          refine Wk.back (n := 401) (rc := 0) (rs := 0) (Q := Q_rmEq Z b5 T153.heap n0) (cl161_ _ (by rw [hml]; rfl)) fun vn161 T161 L161 X161 hQ161 => ?_
          clear cl161_
          obtain ⟨rfl, M161, e161⟩ := hQ161
          have N161 := Fr.app N160 M161
          show Wk p e below s _ _ _ T161 (mkF m 401 _ [(.int (1 : Int32))])
          have hc401_163 : ¬ ((1 : Int32) = (0 : Int32)) := by decide
          refine Wk.ifNo X161 hx (hb hby at_401) (n := 404) rfl ((if0 _ _).trans (feq hc401_163).1) ?_
          refine Wk.aload X161 hx (hb hby at_404) (n := 406) rfl rfl rfl ?_
          have f164 := ((p150_2.ext Ex151).keep J153 (ninS (nz (by omega)) nin0))
          obtain ⟨cq165, kq165, qn165a, qn165b, qn165c⟩ := isOf hZ e161 f158
          have cl165_ := fun (Ls : Array Slot) (hLs : Ls.size = c.maxLocals) => X161.virtualBack hx (y := (⟨"com/example/depeche/depeche/profile/Path", "field", "()I"⟩ : MethodName)) (z := (⟨"com/example/depeche/depeche/profile/Path", "field", "()I"⟩ : MethodName)) hown (mvT hZ (hw _ (List.mem_of_getElem? (i := 115) rfl))) (mvT hZ (hw _ (List.mem_of_getElem? (i := 116) rfl))) (notFace_of_selects (args := #[]) (mvT hZ (hw _ (List.mem_of_getElem? (i := 118) rfl)))) (mvT hZ (hw _ (List.mem_of_getElem? (i := 118) rfl))) (mvT hZ (hw _ (List.mem_of_getElem? (i := 117) rfl))) (by decide) (backOf (W := 0) (rmGf l Z a0 hw [] b149 p2 T153.heap n0 (by omega) f164) hZ (hw _ (List.mem_of_getElem? (i := 119) rfl)) (hw _ (List.mem_of_getElem? (i := 38) rfl)) (by decide) (by decide)) qn165a qn165c (g := mkF m 406 Ls [(.ref b149)]) rfl hLs (Steps.refl _) (argsL := []) (rest := []) (lenOf pd_16 rfl) rfl (by show 2 * 0 + _ ≤ _; exact Nat.le_of_eq rfl) (hb hby at_406) (fun _ _ => ⟨rfl, e161, (by decide : 0 + 1 + 1 + 1 + 1 + 1 + 1 + 2 + 1 + 1 + 0 + 1 + 1 + 0 + 0 + 0 + 0 + 0 ≤ _), (by decide : 0 + 3 + 4 + 3 + 2 + 4 + 2 + 5 + 2 + 4 + 0 + 3 + 1 + 0 + 0 + 0 + 0 + 0 ≤ _)⟩)
          refine Wk.back (n := 409) (rc := 0) (rs := 0) (Q := Q_rmGf Z b149 p2 T153.heap n0) (cl165_ _ (by rw [hml]; rfl)) fun vn165 T165 L165 X165 hQ165 => ?_
          clear cl165_
          obtain ⟨rfl, M165, e165⟩ := hQ165
          have N165 := Fr.app N161 M165
          show Wk p e below s _ _ _ T165 (mkF m 409 _ [(.int p2)])
          refine Wk.iloadN X165 hx (hb hby at_409) (n := 410) rfl rfl ?_
          have hc410_166 : p2 = p2 := rfl
          refine Wk.icmpNo X165 hx (hb hby at_410) (n := 413) rfl (teq hc410_166).2 ?_
          refine Wk.aload X165 hx (hb hby at_413) (n := 415) rfl rfl rfl ?_
          have f167 := ((p150_3.ext Ex151).keep J153 (ninS (nz (by omega)) nin0))
          obtain ⟨cq168, kq168, qn168a, qn168b, qn168c⟩ := isOf hZ e165 f158
          have cl168_ := fun (Ls : Array Slot) (hLs : Ls.size = c.maxLocals) => X165.virtualBack hx (y := (⟨"com/example/depeche/depeche/profile/Path", "component", "()I"⟩ : MethodName)) (z := (⟨"com/example/depeche/depeche/profile/Path", "component", "()I"⟩ : MethodName)) hown (mvT hZ (hw _ (List.mem_of_getElem? (i := 120) rfl))) (mvT hZ (hw _ (List.mem_of_getElem? (i := 121) rfl))) (notFace_of_selects (args := #[]) (mvT hZ (hw _ (List.mem_of_getElem? (i := 123) rfl)))) (mvT hZ (hw _ (List.mem_of_getElem? (i := 123) rfl))) (mvT hZ (hw _ (List.mem_of_getElem? (i := 122) rfl))) (by decide) (backOf (W := 0) (rmGc l Z a0 hw [] b149 p3 T153.heap n0 (by omega) f167) hZ (hw _ (List.mem_of_getElem? (i := 124) rfl)) (hw _ (List.mem_of_getElem? (i := 38) rfl)) (by decide) (by decide)) qn168a qn168c (g := mkF m 415 Ls [(.ref b149)]) rfl hLs (Steps.refl _) (argsL := []) (rest := []) (lenOf pd_16 rfl) rfl (by show 2 * 0 + _ ≤ _; exact Nat.le_of_eq rfl) (hb hby at_415) (fun _ _ => ⟨rfl, e165, (by decide : 0 + 1 + 1 + 1 + 1 + 1 + 1 + 2 + 1 + 1 + 0 + 1 + 1 + 0 + 0 + 0 + 0 + 0 + 0 ≤ _), (by decide : 0 + 3 + 4 + 3 + 2 + 4 + 2 + 5 + 2 + 4 + 0 + 3 + 1 + 0 + 0 + 0 + 0 + 0 + 0 ≤ _)⟩)
          refine Wk.back (n := 418) (rc := 0) (rs := 0) (Q := Q_rmGc Z b149 p3 T153.heap n0) (cl168_ _ (by rw [hml]; rfl)) fun vn168 T168 L168 X168 hQ168 => ?_
          clear cl168_
          obtain ⟨rfl, M168, e168⟩ := hQ168
          have N168 := Fr.app N165 M168
          show Wk p e below s _ _ _ T168 (mkF m 418 _ [(.int p3)])
          refine Wk.iloadN X168 hx (hb hby at_418) (n := 419) rfl rfl ?_
          have hc419_169 : p3 = p3 := rfl
          refine Wk.icmpNo X168 hx (hb hby at_419) (n := 422) rfl (teq hc419_169).2 ?_
          refine Wk.iload X168 hx (hb hby at_422) (n := 424) rfl rfl ?_
          have hc424_170 : ¬ ((1 : Int32) = (0 : Int32)) := by decide
          refine Wk.ifNo X168 hx (hb hby at_424) (n := 427) rfl ((if0 _ _).trans (feq hc424_170).1) ?_
          refine Wk.iconst X168 hx (hb hby at_427) (n := 428) rfl (z := (1 : Int32)) rfl ?_
          refine Wk.goto X168 hx (hb hby at_428) (by decide) (n := 432) (by decide) ?_
          exact Wk.leave X168 (v := some (.int (1 : Int32))) (fun h => by rw [Bd.returns] at h; cases h) hlk e168 ⟨rfl, N168, K153⟩ (by decide) (by decide) (fun fs hr => retNz X168 hx (t := .boolean) rfl Bd.returns (by simp) (hb hby at_432) hr)
        ·
          refine Wk.aload X154 hx (hb hby at_358) (n := 360) rfl rfl rfl ?_
          refine Wk.ifnonnullYes X154 hx (hb hby at_360) (by decide) (n := 379) (by decide) ?_
          refine Wk.aload X154 hx (hb hby at_379) (n := 381) rfl rfl rfl ?_
          refine Wk.aload X154 hx (hb hby at_381) (n := 383) rfl rfl rfl ?_
          have f171 := ((p150_4.ext Ex151).keep J153 (ninS (nz (by omega)) nin0))
          have f173 := ((p150_0.ext Ex151).keep J153)
          obtain ⟨cq172, kq172, qn172a, qn172b, qn172c⟩ := isOf hZ e154 f173
          have cl172_ := fun (Ls : Array Slot) (hLs : Ls.size = c.maxLocals) => X154.virtualBack hx (y := (⟨"com/example/depeche/depeche/profile/Path", "mark", "()Ljava/lang/String;"⟩ : MethodName)) (z := (⟨"com/example/depeche/depeche/profile/Path", "mark", "()Ljava/lang/String;"⟩ : MethodName)) hown (mvT hZ (hw _ (List.mem_of_getElem? (i := 100) rfl))) (mvT hZ (hw _ (List.mem_of_getElem? (i := 101) rfl))) (notFace_of_selects (args := #[]) (mvT hZ (hw _ (List.mem_of_getElem? (i := 103) rfl)))) (mvT hZ (hw _ (List.mem_of_getElem? (i := 103) rfl))) (mvT hZ (hw _ (List.mem_of_getElem? (i := 102) rfl))) (by decide) (backOf (W := 1) (rmGm l Z a0 hw [] b149 (.ref b13) T153.heap n0 (by omega) f171 rfl) hZ (hw _ (List.mem_of_getElem? (i := 104) rfl)) (hw _ (List.mem_of_getElem? (i := 38) rfl)) (by decide) (by decide)) qn172a qn172c (g := mkF m 383 Ls [(.ref b149), (.ref b13)]) rfl hLs (Steps.refl _) (argsL := []) (rest := [(.ref b13)]) (lenOf pd_14 rfl) rfl (by show 2 * 0 + _ ≤ _; exact Nat.le_of_eq rfl) (hb hby at_383) (fun _ _ => ⟨rfl, e154, (by decide : 0 + 1 + 1 + 1 + 1 + 1 + 1 + 2 + 1 + 1 + 0 + 1 + 1 + 0 + 0 ≤ _), (by decide : 0 + 3 + 4 + 3 + 2 + 4 + 2 + 5 + 2 + 4 + 0 + 3 + 1 + 0 + 0 ≤ _)⟩)
          refine Wk.back (n := 386) (rc := 0) (rs := 0) (Q := Q_rmGm Z b149 (.ref b13) T153.heap n0) (cl172_ _ (by rw [hml]; rfl)) fun vn172 T172 L172 X172 hQ172 => ?_
          clear cl172_
          obtain ⟨rfl, M172, e172⟩ := hQ172
          have N172 := Fr.app N154 M172
          show Wk p e below s _ _ _ T172 (mkF m 386 _ [(.ref b13), (.ref b13)])
          have f175 := ((((((p14_0.keep J146).keep J148).ext Ex149).keep J150).ext Ex151).keep J153)
          obtain ⟨cq174, kq174, qn174a, qn174b, qn174c⟩ := isOf hZ e172 f175
          have cl174_ := fun (Ls : Array Slot) (hLs : Ls.size = c.maxLocals) => X172.virtualBack hx (y := (⟨"java/lang/String", "equals", "(Ljava/lang/Object;)Z"⟩ : MethodName)) (z := (⟨"java/lang/String", "equals", "(Ljava/lang/Object;)Z"⟩ : MethodName)) hown (mvT hZ (hw _ (List.mem_of_getElem? (i := 110) rfl))) (mvT hZ (hw _ (List.mem_of_getElem? (i := 111) rfl))) (notFace_of_selects (args := #[]) (mvT hZ (hw _ (List.mem_of_getElem? (i := 113) rfl)))) (mvT hZ (hw _ (List.mem_of_getElem? (i := 113) rfl))) (mvT hZ (hw _ (List.mem_of_getElem? (i := 112) rfl))) (by decide) (backOf (W := 0) (rmEq l Z a0 hw [] b13 T153.heap n0 (by omega)) hZ (hw _ (List.mem_of_getElem? (i := 114) rfl)) (hw _ (List.mem_of_getElem? (i := 3) rfl)) (by decide) (by decide)) qn174a qn174c (g := mkF m 386 Ls [(.ref b13), (.ref b13)]) rfl hLs (Steps.refl _) (argsL := [(.ref b13)]) (rest := []) (lenOf pd_15 rfl) rfl (by show 2 * 0 + _ ≤ _; exact Nat.le_of_eq rfl) (hb hby at_386) (fun _ _ => ⟨rfl, e172, (by decide : 0 + 1 + 1 + 1 + 1 + 1 + 1 + 2 + 1 + 1 + 0 + 1 + 1 + 0 + 0 + 0 ≤ _), (by decide : 0 + 3 + 4 + 3 + 2 + 4 + 2 + 5 + 2 + 4 + 0 + 3 + 1 + 0 + 0 + 0 ≤ _)⟩)
          refine Wk.back (n := 389) (rc := 0) (rs := 0) (Q := Q_rmEq Z b13 T153.heap n0) (cl174_ _ (by rw [hml]; rfl)) fun vn174 T174 L174 X174 hQ174 => ?_
          clear cl174_
          obtain ⟨rfl, M174, e174⟩ := hQ174
          have N174 := Fr.app N172 M174
          show Wk p e below s _ _ _ T174 (mkF m 389 _ [(.int (1 : Int32))])
          refine Wk.istore X174 hx (hb hby at_389) (n := 391) rfl (L' := #[.val (.int p1), .val (.int p2), .val (.int p3), .val (.int p4), .val (.int p5), .val (.int p6), .val (.ref b1), .val (.ref b5), .val (.ref b10), .val (.ref b13), .val (.int hm), .val (.int ng), .val (.int ov), .val (.ref b13), .val (.ref r_148), .val (.ref b149), .val (.int ((p5 &&& (2147483647 : Int32)) % (5 : Int32))), .val (.ref b151), .val (.ref b149), .val (.int (1 : Int32))]) rfl ?_
          refine Wk.aload X174 hx (hb hby at_391) (n := 393) rfl rfl rfl ?_
          have f176 := ((p150_1.ext Ex151).keep J153 (ninS (nz (by omega)) nin0))
          obtain ⟨cq177, kq177, qn177a, qn177b, qn177c⟩ := isOf hZ e174 f173
          have cl177_ := fun (Ls : Array Slot) (hLs : Ls.size = c.maxLocals) => X174.virtualBack hx (y := (⟨"com/example/depeche/depeche/profile/Path", "segment", "()Ljava/lang/String;"⟩ : MethodName)) (z := (⟨"com/example/depeche/depeche/profile/Path", "segment", "()Ljava/lang/String;"⟩ : MethodName)) hown (mvT hZ (hw _ (List.mem_of_getElem? (i := 105) rfl))) (mvT hZ (hw _ (List.mem_of_getElem? (i := 106) rfl))) (notFace_of_selects (args := #[]) (mvT hZ (hw _ (List.mem_of_getElem? (i := 108) rfl)))) (mvT hZ (hw _ (List.mem_of_getElem? (i := 108) rfl))) (mvT hZ (hw _ (List.mem_of_getElem? (i := 107) rfl))) (by decide) (backOf (W := 0) (rmGs l Z a0 hw [] b149 b5 T153.heap n0 (by omega) f176) hZ (hw _ (List.mem_of_getElem? (i := 109) rfl)) (hw _ (List.mem_of_getElem? (i := 38) rfl)) (by decide) (by decide)) qn177a qn177c (g := mkF m 393 Ls [(.ref b149)]) rfl hLs (Steps.refl _) (argsL := []) (rest := []) (lenOf pd_14 rfl) rfl (by show 2 * 0 + _ ≤ _; exact Nat.le_of_eq rfl) (hb hby at_393) (fun _ _ => ⟨rfl, e174, (by decide : 0 + 1 + 1 + 1 + 1 + 1 + 1 + 2 + 1 + 1 + 0 + 1 + 1 + 0 + 0 + 0 + 0 ≤ _), (by decide : 0 + 3 + 4 + 3 + 2 + 4 + 2 + 5 + 2 + 4 + 0 + 3 + 1 + 0 + 0 + 0 + 0 ≤ _)⟩)
          refine Wk.back (n := 396) (rc := 0) (rs := 0) (Q := Q_rmGs Z b149 b5 T153.heap n0) (cl177_ _ (by rw [hml]; rfl)) fun vn177 T177 L177 X177 hQ177 => ?_
          clear cl177_
          obtain ⟨rfl, M177, e177⟩ := hQ177
          have N177 := Fr.app N174 M177
          show Wk p e below s _ _ _ T177 (mkF m 396 _ [(.ref b5)])
          refine Wk.aload X177 hx (hb hby at_396) (n := 398) rfl rfl rfl ?_
          have f179 := (((((((((((p6_0.ext Ex10).wr Wn11).wr Wn12).ext Ex13).keep J14).keep J146).keep J148).ext Ex149).keep J150).ext Ex151).keep J153)
          obtain ⟨cq178, kq178, qn178a, qn178b, qn178c⟩ := isOf hZ e177 f179
          have cl178_ := fun (Ls : Array Slot) (hLs : Ls.size = c.maxLocals) => X177.virtualBack hx (y := (⟨"java/lang/String", "equals", "(Ljava/lang/Object;)Z"⟩ : MethodName)) (z := (⟨"java/lang/String", "equals", "(Ljava/lang/Object;)Z"⟩ : MethodName)) hown (mvT hZ (hw _ (List.mem_of_getElem? (i := 110) rfl))) (mvT hZ (hw _ (List.mem_of_getElem? (i := 111) rfl))) (notFace_of_selects (args := #[]) (mvT hZ (hw _ (List.mem_of_getElem? (i := 113) rfl)))) (mvT hZ (hw _ (List.mem_of_getElem? (i := 113) rfl))) (mvT hZ (hw _ (List.mem_of_getElem? (i := 112) rfl))) (by decide) (backOf (W := 0) (rmEq l Z a0 hw [] b5 T153.heap n0 (by omega)) hZ (hw _ (List.mem_of_getElem? (i := 114) rfl)) (hw _ (List.mem_of_getElem? (i := 3) rfl)) (by decide) (by decide)) qn178a qn178c (g := mkF m 398 Ls [(.ref b5), (.ref b5)]) rfl hLs (Steps.refl _) (argsL := [(.ref b5)]) (rest := []) (lenOf pd_15 rfl) rfl (by show 2 * 0 + _ ≤ _; exact Nat.le_of_eq rfl) (hb hby at_398) (fun _ _ => ⟨rfl, e177, (by decide : 0 + 1 + 1 + 1 + 1 + 1 + 1 + 2 + 1 + 1 + 0 + 1 + 1 + 0 + 0 + 0 + 0 + 0 ≤ _), (by decide : 0 + 3 + 4 + 3 + 2 + 4 + 2 + 5 + 2 + 4 + 0 + 3 + 1 + 0 + 0 + 0 + 0 + 0 ≤ _)⟩)
          refine Wk.back (n := 401) (rc := 0) (rs := 0) (Q := Q_rmEq Z b5 T153.heap n0) (cl178_ _ (by rw [hml]; rfl)) fun vn178 T178 L178 X178 hQ178 => ?_
          clear cl178_
          obtain ⟨rfl, M178, e178⟩ := hQ178
          have N178 := Fr.app N177 M178
          show Wk p e below s _ _ _ T178 (mkF m 401 _ [(.int (1 : Int32))])
          have hc401_180 : ¬ ((1 : Int32) = (0 : Int32)) := by decide
          refine Wk.ifNo X178 hx (hb hby at_401) (n := 404) rfl ((if0 _ _).trans (feq hc401_180).1) ?_
          refine Wk.aload X178 hx (hb hby at_404) (n := 406) rfl rfl rfl ?_
          have f181 := ((p150_2.ext Ex151).keep J153 (ninS (nz (by omega)) nin0))
          obtain ⟨cq182, kq182, qn182a, qn182b, qn182c⟩ := isOf hZ e178 f173
          have cl182_ := fun (Ls : Array Slot) (hLs : Ls.size = c.maxLocals) => X178.virtualBack hx (y := (⟨"com/example/depeche/depeche/profile/Path", "field", "()I"⟩ : MethodName)) (z := (⟨"com/example/depeche/depeche/profile/Path", "field", "()I"⟩ : MethodName)) hown (mvT hZ (hw _ (List.mem_of_getElem? (i := 115) rfl))) (mvT hZ (hw _ (List.mem_of_getElem? (i := 116) rfl))) (notFace_of_selects (args := #[]) (mvT hZ (hw _ (List.mem_of_getElem? (i := 118) rfl)))) (mvT hZ (hw _ (List.mem_of_getElem? (i := 118) rfl))) (mvT hZ (hw _ (List.mem_of_getElem? (i := 117) rfl))) (by decide) (backOf (W := 0) (rmGf l Z a0 hw [] b149 p2 T153.heap n0 (by omega) f181) hZ (hw _ (List.mem_of_getElem? (i := 119) rfl)) (hw _ (List.mem_of_getElem? (i := 38) rfl)) (by decide) (by decide)) qn182a qn182c (g := mkF m 406 Ls [(.ref b149)]) rfl hLs (Steps.refl _) (argsL := []) (rest := []) (lenOf pd_16 rfl) rfl (by show 2 * 0 + _ ≤ _; exact Nat.le_of_eq rfl) (hb hby at_406) (fun _ _ => ⟨rfl, e178, (by decide : 0 + 1 + 1 + 1 + 1 + 1 + 1 + 2 + 1 + 1 + 0 + 1 + 1 + 0 + 0 + 0 + 0 + 0 + 0 ≤ _), (by decide : 0 + 3 + 4 + 3 + 2 + 4 + 2 + 5 + 2 + 4 + 0 + 3 + 1 + 0 + 0 + 0 + 0 + 0 + 0 ≤ _)⟩)
          refine Wk.back (n := 409) (rc := 0) (rs := 0) (Q := Q_rmGf Z b149 p2 T153.heap n0) (cl182_ _ (by rw [hml]; rfl)) fun vn182 T182 L182 X182 hQ182 => ?_
          clear cl182_
          obtain ⟨rfl, M182, e182⟩ := hQ182
          have N182 := Fr.app N178 M182
          show Wk p e below s _ _ _ T182 (mkF m 409 _ [(.int p2)])
          refine Wk.iloadN X182 hx (hb hby at_409) (n := 410) rfl rfl ?_
          have hc410_183 : p2 = p2 := rfl
          refine Wk.icmpNo X182 hx (hb hby at_410) (n := 413) rfl (teq hc410_183).2 ?_
          refine Wk.aload X182 hx (hb hby at_413) (n := 415) rfl rfl rfl ?_
          have f184 := ((p150_3.ext Ex151).keep J153 (ninS (nz (by omega)) nin0))
          obtain ⟨cq185, kq185, qn185a, qn185b, qn185c⟩ := isOf hZ e182 f173
          have cl185_ := fun (Ls : Array Slot) (hLs : Ls.size = c.maxLocals) => X182.virtualBack hx (y := (⟨"com/example/depeche/depeche/profile/Path", "component", "()I"⟩ : MethodName)) (z := (⟨"com/example/depeche/depeche/profile/Path", "component", "()I"⟩ : MethodName)) hown (mvT hZ (hw _ (List.mem_of_getElem? (i := 120) rfl))) (mvT hZ (hw _ (List.mem_of_getElem? (i := 121) rfl))) (notFace_of_selects (args := #[]) (mvT hZ (hw _ (List.mem_of_getElem? (i := 123) rfl)))) (mvT hZ (hw _ (List.mem_of_getElem? (i := 123) rfl))) (mvT hZ (hw _ (List.mem_of_getElem? (i := 122) rfl))) (by decide) (backOf (W := 0) (rmGc l Z a0 hw [] b149 p3 T153.heap n0 (by omega) f184) hZ (hw _ (List.mem_of_getElem? (i := 124) rfl)) (hw _ (List.mem_of_getElem? (i := 38) rfl)) (by decide) (by decide)) qn185a qn185c (g := mkF m 415 Ls [(.ref b149)]) rfl hLs (Steps.refl _) (argsL := []) (rest := []) (lenOf pd_16 rfl) rfl (by show 2 * 0 + _ ≤ _; exact Nat.le_of_eq rfl) (hb hby at_415) (fun _ _ => ⟨rfl, e182, (by decide : 0 + 1 + 1 + 1 + 1 + 1 + 1 + 2 + 1 + 1 + 0 + 1 + 1 + 0 + 0 + 0 + 0 + 0 + 0 + 0 ≤ _), (by decide : 0 + 3 + 4 + 3 + 2 + 4 + 2 + 5 + 2 + 4 + 0 + 3 + 1 + 0 + 0 + 0 + 0 + 0 + 0 + 0 ≤ _)⟩)
          refine Wk.back (n := 418) (rc := 0) (rs := 0) (Q := Q_rmGc Z b149 p3 T153.heap n0) (cl185_ _ (by rw [hml]; rfl)) fun vn185 T185 L185 X185 hQ185 => ?_
          clear cl185_
          obtain ⟨rfl, M185, e185⟩ := hQ185
          have N185 := Fr.app N182 M185
          show Wk p e below s _ _ _ T185 (mkF m 418 _ [(.int p3)])
          refine Wk.iloadN X185 hx (hb hby at_418) (n := 419) rfl rfl ?_
          have hc419_186 : p3 = p3 := rfl
          refine Wk.icmpNo X185 hx (hb hby at_419) (n := 422) rfl (teq hc419_186).2 ?_
          refine Wk.iload X185 hx (hb hby at_422) (n := 424) rfl rfl ?_
          have hc424_187 : ¬ ((1 : Int32) = (0 : Int32)) := by decide
          refine Wk.ifNo X185 hx (hb hby at_424) (n := 427) rfl ((if0 _ _).trans (feq hc424_187).1) ?_
          refine Wk.iconst X185 hx (hb hby at_427) (n := 428) rfl (z := (1 : Int32)) rfl ?_
          refine Wk.goto X185 hx (hb hby at_428) (by decide) (n := 432) (by decide) ?_
          exact Wk.leave X185 (v := some (.int (1 : Int32))) (fun h => by rw [Bd.returns] at h; cases h) hlk e185 ⟨rfl, N185, K153⟩ (by decide) (by decide) (fun fs hr => retNz X185 hx (t := .boolean) rfl Bd.returns (by simp) (hb hby at_432) hr)
      ·
        refine Wk.ifYes X150 hx (hb hby at_204) ((if0 _ _).trans (feq hc204).2) (by decide) (n := 225) (by decide) ?_
        refine Wk.iload X150 hx (hb hby at_225) (n := 227) rfl rfl ?_
        refine Wk.iconst X150 hx (hb hby at_227) (n := 228) rfl (z := (1 : Int32)) rfl ?_
        by_cases hc228 : ((p5 &&& (2147483647 : Int32)) % (5 : Int32)) = (1 : Int32)
        ·
          refine Wk.icmpNo X150 hx (hb hby at_228) (n := 231) rfl (teq hc228).2 ?_
          refine Wk.newO X150 hx hZ hown (hw _ (List.mem_of_getElem? (i := 57) rfl)) (hw _ (List.mem_of_getElem? (i := 58) rfl)) (hw _ (List.mem_of_getElem? (i := 59) rfl)) rfl (hb hby at_231) (n := 234) rfl (by decide) (by decide) fun T188 H188 b188 gn188 X188 e188 Ex188 An188 Dn188 Yn188 => ?_
          have gn188 := nx gn188
          have sz188 := Ex188.1
          have lt188 := ny An188.lt
          have K188 := K150.ext Ex188
          have Fn188_subject : Fld Z H188 b188 "com/example/depeche/depeche/profile/Condition" "subject" "Lcom/example/depeche/depeche/profile/Value$Source;" .null := Dn188 (Or.inr (hw _ (List.mem_of_getElem? (i := 84) rfl))) (ty := (.object "com/example/depeche/depeche/profile/Value$Source")) (by decide)
          have Fn188_values : Fld Z H188 b188 "com/example/depeche/depeche/profile/Condition" "values" "Ljava/util/Set;" .null := Dn188 (Or.inr (hw _ (List.mem_of_getElem? (i := 86) rfl))) (ty := (.object "java/util/Set")) (by decide)
          have Fn188_negated : Fld Z H188 b188 "com/example/depeche/depeche/profile/Condition" "negated" "Z" (.int (0 : Int32)) := Dn188 (Or.inr (hw _ (List.mem_of_getElem? (i := 88) rfl))) (ty := .boolean) (by decide)
          refine Wk.dup X188 hx (hb hby at_234) (n := 235) rfl rfl ?_
          refine Wk.newO X188 hx hZ hown (hw _ (List.mem_of_getElem? (i := 209) rfl)) (hw _ (List.mem_of_getElem? (i := 64) rfl)) (hw _ (List.mem_of_getElem? (i := 65) rfl)) e188 (hb hby at_235) (n := 238) rfl (by decide) (by decide) fun T189 H189 b189 gn189 X189 e189 Ex189 An189 Dn189 Yn189 => ?_
          have gn189 := nx gn189
          have sz189 := Ex189.1
          have lt189 := ny An189.lt
          have K189 := K188.ext Ex189
          have Fn189_path : Fld Z H189 b189 "com/example/depeche/depeche/profile/Value$Field" "path" "Lcom/example/depeche/depeche/profile/Path;" .null := Dn189 (Or.inr (hw _ (List.mem_of_getElem? (i := 71) rfl))) (ty := (.object "com/example/depeche/depeche/profile/Path")) (by decide)
          refine Wk.dup X189 hx (hb hby at_238) (n := 239) rfl rfl ?_
          refine Wk.aload X189 hx (hb hby at_239) (n := 241) rfl rfl rfl ?_
          have cl190_ := fun (Ls : Array Slot) (hLs : Ls.size = c.maxLocals) => X189.specialBack hx (y := (⟨"com/example/depeche/depeche/profile/Value$Field", "<init>", "(Lcom/example/depeche/depeche/profile/Path;)V"⟩ : MethodName)) rfl hown (mvT hZ (hw _ (List.mem_of_getElem? (i := 210) rfl))) (mvT hZ (hw _ (List.mem_of_getElem? (i := 67) rfl))) (mvT hZ (hw _ (List.mem_of_getElem? (i := 68) rfl))) (by decide) (backOf (W := 3) (rmFI l Z a0 hw [] b189 b149 .null H189 n0 (by omega) An189 Fn189_path (by omega)) hZ (hw _ (List.mem_of_getElem? (i := 68) rfl)) (hw _ (List.mem_of_getElem? (i := 65) rfl)) (by decide) (by decide)) (g := mkF m 241 Ls [(.ref b149), (.ref b189), (.ref b189), (.ref b188), (.ref b188)]) rfl hLs (Steps.refl _) (a := b189) (argsL := [(.ref b149)]) (rest := [(.ref b189), (.ref b188), (.ref b188)]) (lenOf pd_2 rfl) rfl (by show 2 * 0 + _ ≤ _; exact Nat.le_of_eq rfl) (hb hby at_241) (fun _ _ => ⟨rfl, e189, (by decide : 0 + 1 + 1 + 1 + 1 + 1 + 1 + 2 + 1 + 1 + 0 + 1 + 1 + 0 ≤ _), (by decide : 0 + 3 + 4 + 3 + 2 + 4 + 2 + 5 + 2 + 4 + 0 + 3 + 1 + 0 ≤ _)⟩)
          refine Wk.back (n := 244) (rc := 0) (rs := 0) (Q := Q_rmFI Z b189 b149 .null H189 n0) (cl190_ _ (by rw [hml]; rfl)) fun vn190 T190 L190 X190 hQ190 => ?_
          clear cl190_
          obtain ⟨rfl, M190, J190, p190_0, p190_1⟩ := hQ190
          have N190 := Fr.app N150 M190
          have sz190 := J190.1
          have K190 := K189.trans J190 (allS (Or.inr (by omega)) all0)
          have lt_p190_0 := ny p190_0.lt
          show Wk p e below s _ _ _ T190 (mkF m 244 _ [(.ref b189), (.ref b188), (.ref b188)])
          refine Wk.aload X190 hx (hb hby at_244) (n := 246) rfl rfl rfl ?_
          refine Wk.iload X190 hx (hb hby at_246) (n := 248) rfl rfl ?_
          have f191 := ((An188.ext Ex189).keep J190)
          have f192 := (((((p148_0.ext Ex149).keep J150).ext Ex188).ext Ex189).keep J190)
          have f193 := ((Fn188_subject.ext Ex189).keep J190 (ninS (nz (by omega)) nin0))
          have f194 := ((Fn188_values.ext Ex189).keep J190 (ninS (nz (by omega)) nin0))
          have f195 := ((Fn188_negated.ext Ex189).keep J190 (ninS (nz (by omega)) nin0))
          have cl196_ := fun (Ls : Array Slot) (hLs : Ls.size = c.maxLocals) => X190.specialBack hx (y := (⟨"com/example/depeche/depeche/profile/Condition", "<init>", "(Lcom/example/depeche/depeche/profile/Value$Source;Ljava/util/Set;Z)V"⟩ : MethodName)) rfl hown (mvT hZ (hw _ (List.mem_of_getElem? (i := 134) rfl))) (mvT hZ (hw _ (List.mem_of_getElem? (i := 73) rfl))) (mvT hZ (hw _ (List.mem_of_getElem? (i := 74) rfl))) (by decide) (backOf (W := 1) (rmC1T l Z a0 hw [] b188 b189 r_148 ng .null .null (.int (0 : Int32)) T190.heap n0 (by omega) f191 f192 f193 f194 f195 (by omega) hng) hZ (hw _ (List.mem_of_getElem? (i := 74) rfl)) (hw _ (List.mem_of_getElem? (i := 59) rfl)) (by decide) (by decide)) (g := mkF m 248 Ls [(.int ng), (.ref r_148), (.ref b189), (.ref b188), (.ref b188)]) rfl hLs (Steps.refl _) (a := b188) (argsL := [(.ref b189), (.ref r_148), (.int ng)]) (rest := [(.ref b188)]) (lenOf pd_3 rfl) rfl (by show 2 * 0 + _ ≤ _; exact Nat.le_of_eq rfl) (hb hby at_248) (fun _ _ => ⟨rfl, rfl, (by decide : 0 + 1 + 1 + 1 + 1 + 1 + 1 + 2 + 1 + 1 + 0 + 1 + 1 + 0 + 0 ≤ _), (by decide : 0 + 3 + 4 + 3 + 2 + 4 + 2 + 5 + 2 + 4 + 0 + 3 + 1 + 0 + 0 ≤ _)⟩)
          refine Wk.back (n := 251) (rc := 0) (rs := 0) (Q := Q_rmC1T Z b188 b189 r_148 ng .null .null (.int (0 : Int32)) T190.heap n0) (cl196_ _ (by rw [hml]; rfl)) fun vn196 T196 L196 X196 hQ196 => ?_
          clear cl196_
          obtain ⟨rfl, M196, J196, p196_0, p196_1⟩ := hQ196
          have N196 := Fr.app N190 M196
          have sz196 := J196.1
          have K196 := K190.trans J196 (allS (Or.inr (by omega)) all0)
          have lt_p196_0 := ny p196_0.lt
          show Wk p e below s _ _ _ T196 (mkF m 251 _ [(.ref b188)])
          refine Wk.astore X196 hx (hb hby at_251) (n := 253) rfl rfl (L' := #[.val (.int p1), .val (.int p2), .val (.int p3), .val (.int p4), .val (.int p5), .val (.int p6), .val (.ref b1), .val (.ref b5), .val (.ref b10), .val (.ref b13), .val (.int hm), .val (.int ng), .val (.int ov), .val u, .val (.ref r_148), .val (.ref b149), .val (.int ((p5 &&& (2147483647 : Int32)) % (5 : Int32))), .val (.ref b188), .unset, .unset]) rfl ?_
          refine Wk.goto X196 hx (hb hby at_253) (by decide) (n := 338) (by decide) ?_
          refine Wk.aload X196 hx (hb hby at_338) (n := 340) rfl rfl rfl ?_
          have f197 := (p190_0.keep J196)
          have f198 := (p190_1.keep J196 (ninS (nz (by omega)) nin0))
          obtain ⟨cq199, kq199, qn199a, qn199b, qn199c⟩ := isOf hZ rfl p196_0
          have cl199_ := fun (Ls : Array Slot) (hLs : Ls.size = c.maxLocals) => X196.virtualBack hx (y := (⟨"com/example/depeche/depeche/profile/Condition", "path", "()Lcom/example/depeche/depeche/profile/Path;"⟩ : MethodName)) (z := (⟨"com/example/depeche/depeche/profile/Condition", "path", "()Lcom/example/depeche/depeche/profile/Path;"⟩ : MethodName)) hown (mvT hZ (hw _ (List.mem_of_getElem? (i := 89) rfl))) (mvT hZ (hw _ (List.mem_of_getElem? (i := 90) rfl))) (notFace_of_selects (args := #[]) (mvT hZ (hw _ (List.mem_of_getElem? (i := 92) rfl)))) (mvT hZ (hw _ (List.mem_of_getElem? (i := 92) rfl))) (mvT hZ (hw _ (List.mem_of_getElem? (i := 91) rfl))) (by decide) (backOf (W := 0) (rmPtF l Z a0 hw [] b188 b189 b149 T196.heap n0 (by omega) p196_1 f197 f198) hZ (hw _ (List.mem_of_getElem? (i := 93) rfl)) (hw _ (List.mem_of_getElem? (i := 59) rfl)) (by decide) (by decide)) qn199a qn199c (g := mkF m 340 Ls [(.ref b188)]) rfl hLs (Steps.refl _) (argsL := []) (rest := []) (lenOf pd_4 rfl) rfl (by show 2 * 0 + _ ≤ _; exact Nat.le_of_eq rfl) (hb hby at_340) (fun _ _ => ⟨rfl, rfl, (by decide : 0 + 1 + 1 + 1 + 1 + 1 + 1 + 2 + 1 + 1 + 0 + 1 + 1 + 0 + 0 + 0 ≤ _), (by decide : 0 + 3 + 4 + 3 + 2 + 4 + 2 + 5 + 2 + 4 + 0 + 3 + 1 + 0 + 0 + 0 ≤ _)⟩)
          refine Wk.back (n := 343) (rc := 0) (rs := 0) (Q := Q_rmPtF Z b188 b189 b149 T196.heap n0) (cl199_ _ (by rw [hml]; rfl)) fun vn199 T199 L199 X199 hQ199 => ?_
          clear cl199_
          obtain ⟨rfl, M199, e199⟩ := hQ199
          have N199 := Fr.app N196 M199
          show Wk p e below s _ _ _ T199 (mkF m 343 _ [(.ref b149)])
          refine Wk.astore X199 hx (hb hby at_343) (n := 345) rfl rfl (L' := #[.val (.int p1), .val (.int p2), .val (.int p3), .val (.int p4), .val (.int p5), .val (.int p6), .val (.ref b1), .val (.ref b5), .val (.ref b10), .val (.ref b13), .val (.int hm), .val (.int ng), .val (.int ov), .val u, .val (.ref r_148), .val (.ref b149), .val (.int ((p5 &&& (2147483647 : Int32)) % (5 : Int32))), .val (.ref b188), .val (.ref b149), .unset]) rfl ?_
          refine Wk.iload X199 hx (hb hby at_345) (n := 347) rfl rfl ?_
          refine Wk.iconst X199 hx (hb hby at_347) (n := 348) rfl (z := (1 : Int32)) rfl ?_
          have hc348_200 : ¬ ((1 : Int32) < ((p5 &&& (2147483647 : Int32)) % (5 : Int32))) := by rw [hc228]; decide
          refine Wk.icmpNo X199 hx (hb hby at_348) (n := 351) rfl (flt hc348_200).2.2.1 ?_
          refine Wk.aload X199 hx (hb hby at_351) (n := 353) rfl rfl rfl ?_
          refine Wk.ifnonnullYes X199 hx (hb hby at_353) (by decide) (n := 358) (by decide) ?_
          rcases hu with rfl | rfl
          ·
            refine Wk.aload X199 hx (hb hby at_358) (n := 360) rfl rfl rfl ?_
            refine Wk.ifnonnullNo X199 hx (hb hby at_360) (n := 363) rfl ?_
            refine Wk.aload X199 hx (hb hby at_363) (n := 365) rfl rfl rfl ?_
            have f201 := ((((p150_4.ext Ex188).ext Ex189).keep J190 (ninS (nz (by omega)) nin0)).keep J196 (ninS (nz (by omega)) nin0))
            have f203 := ((((p150_0.ext Ex188).ext Ex189).keep J190).keep J196)
            obtain ⟨cq202, kq202, qn202a, qn202b, qn202c⟩ := isOf hZ e199 f203
            have cl202_ := fun (Ls : Array Slot) (hLs : Ls.size = c.maxLocals) => X199.virtualBack hx (y := (⟨"com/example/depeche/depeche/profile/Path", "mark", "()Ljava/lang/String;"⟩ : MethodName)) (z := (⟨"com/example/depeche/depeche/profile/Path", "mark", "()Ljava/lang/String;"⟩ : MethodName)) hown (mvT hZ (hw _ (List.mem_of_getElem? (i := 100) rfl))) (mvT hZ (hw _ (List.mem_of_getElem? (i := 101) rfl))) (notFace_of_selects (args := #[]) (mvT hZ (hw _ (List.mem_of_getElem? (i := 103) rfl)))) (mvT hZ (hw _ (List.mem_of_getElem? (i := 103) rfl))) (mvT hZ (hw _ (List.mem_of_getElem? (i := 102) rfl))) (by decide) (backOf (W := 0) (rmGm l Z a0 hw [] b149 .null T196.heap n0 (by omega) f201 rfl) hZ (hw _ (List.mem_of_getElem? (i := 104) rfl)) (hw _ (List.mem_of_getElem? (i := 38) rfl)) (by decide) (by decide)) qn202a qn202c (g := mkF m 365 Ls [(.ref b149)]) rfl hLs (Steps.refl _) (argsL := []) (rest := []) (lenOf pd_14 rfl) rfl (by show 2 * 0 + _ ≤ _; exact Nat.le_of_eq rfl) (hb hby at_365) (fun _ _ => ⟨rfl, e199, (by decide : 0 + 1 + 1 + 1 + 1 + 1 + 1 + 2 + 1 + 1 + 0 + 1 + 1 + 0 + 0 + 0 + 0 ≤ _), (by decide : 0 + 3 + 4 + 3 + 2 + 4 + 2 + 5 + 2 + 4 + 0 + 3 + 1 + 0 + 0 + 0 + 0 ≤ _)⟩)
            refine Wk.back (n := 368) (rc := 0) (rs := 0) (Q := Q_rmGm Z b149 .null T196.heap n0) (cl202_ _ (by rw [hml]; rfl)) fun vn202 T202 L202 X202 hQ202 => ?_
            clear cl202_
            obtain ⟨rfl, M202, e202⟩ := hQ202
            have N202 := Fr.app N199 M202
            show Wk p e below s _ _ _ T202 (mkF m 368 _ [.null])
            refine Wk.ifnonnullNo X202 hx (hb hby at_368) (n := 371) rfl ?_
            refine Wk.iconst X202 hx (hb hby at_371) (n := 372) rfl (z := (1 : Int32)) rfl ?_
            refine Wk.goto X202 hx (hb hby at_372) (by decide) (n := 389) (by decide) ?_
            refine Wk.istore X202 hx (hb hby at_389) (n := 391) rfl (L' := #[.val (.int p1), .val (.int p2), .val (.int p3), .val (.int p4), .val (.int p5), .val (.int p6), .val (.ref b1), .val (.ref b5), .val (.ref b10), .val (.ref b13), .val (.int hm), .val (.int ng), .val (.int ov), .val .null, .val (.ref r_148), .val (.ref b149), .val (.int ((p5 &&& (2147483647 : Int32)) % (5 : Int32))), .val (.ref b188), .val (.ref b149), .val (.int (1 : Int32))]) rfl ?_
            refine Wk.aload X202 hx (hb hby at_391) (n := 393) rfl rfl rfl ?_
            have f204 := ((((p150_1.ext Ex188).ext Ex189).keep J190 (ninS (nz (by omega)) nin0)).keep J196 (ninS (nz (by omega)) nin0))
            obtain ⟨cq205, kq205, qn205a, qn205b, qn205c⟩ := isOf hZ e202 f203
            have cl205_ := fun (Ls : Array Slot) (hLs : Ls.size = c.maxLocals) => X202.virtualBack hx (y := (⟨"com/example/depeche/depeche/profile/Path", "segment", "()Ljava/lang/String;"⟩ : MethodName)) (z := (⟨"com/example/depeche/depeche/profile/Path", "segment", "()Ljava/lang/String;"⟩ : MethodName)) hown (mvT hZ (hw _ (List.mem_of_getElem? (i := 105) rfl))) (mvT hZ (hw _ (List.mem_of_getElem? (i := 106) rfl))) (notFace_of_selects (args := #[]) (mvT hZ (hw _ (List.mem_of_getElem? (i := 108) rfl)))) (mvT hZ (hw _ (List.mem_of_getElem? (i := 108) rfl))) (mvT hZ (hw _ (List.mem_of_getElem? (i := 107) rfl))) (by decide) (backOf (W := 0) (rmGs l Z a0 hw [] b149 b5 T196.heap n0 (by omega) f204) hZ (hw _ (List.mem_of_getElem? (i := 109) rfl)) (hw _ (List.mem_of_getElem? (i := 38) rfl)) (by decide) (by decide)) qn205a qn205c (g := mkF m 393 Ls [(.ref b149)]) rfl hLs (Steps.refl _) (argsL := []) (rest := []) (lenOf pd_14 rfl) rfl (by show 2 * 0 + _ ≤ _; exact Nat.le_of_eq rfl) (hb hby at_393) (fun _ _ => ⟨rfl, e202, (by decide : 0 + 1 + 1 + 1 + 1 + 1 + 1 + 2 + 1 + 1 + 0 + 1 + 1 + 0 + 0 + 0 + 0 + 0 ≤ _), (by decide : 0 + 3 + 4 + 3 + 2 + 4 + 2 + 5 + 2 + 4 + 0 + 3 + 1 + 0 + 0 + 0 + 0 + 0 ≤ _)⟩)
            refine Wk.back (n := 396) (rc := 0) (rs := 0) (Q := Q_rmGs Z b149 b5 T196.heap n0) (cl205_ _ (by rw [hml]; rfl)) fun vn205 T205 L205 X205 hQ205 => ?_
            clear cl205_
            obtain ⟨rfl, M205, e205⟩ := hQ205
            have N205 := Fr.app N202 M205
            show Wk p e below s _ _ _ T205 (mkF m 396 _ [(.ref b5)])
            refine Wk.aload X205 hx (hb hby at_396) (n := 398) rfl rfl rfl ?_
            have f207 := (((((((((((((p6_0.ext Ex10).wr Wn11).wr Wn12).ext Ex13).keep J14).keep J146).keep J148).ext Ex149).keep J150).ext Ex188).ext Ex189).keep J190).keep J196)
            obtain ⟨cq206, kq206, qn206a, qn206b, qn206c⟩ := isOf hZ e205 f207
            have cl206_ := fun (Ls : Array Slot) (hLs : Ls.size = c.maxLocals) => X205.virtualBack hx (y := (⟨"java/lang/String", "equals", "(Ljava/lang/Object;)Z"⟩ : MethodName)) (z := (⟨"java/lang/String", "equals", "(Ljava/lang/Object;)Z"⟩ : MethodName)) hown (mvT hZ (hw _ (List.mem_of_getElem? (i := 110) rfl))) (mvT hZ (hw _ (List.mem_of_getElem? (i := 111) rfl))) (notFace_of_selects (args := #[]) (mvT hZ (hw _ (List.mem_of_getElem? (i := 113) rfl)))) (mvT hZ (hw _ (List.mem_of_getElem? (i := 113) rfl))) (mvT hZ (hw _ (List.mem_of_getElem? (i := 112) rfl))) (by decide) (backOf (W := 0) (rmEq l Z a0 hw [] b5 T196.heap n0 (by omega)) hZ (hw _ (List.mem_of_getElem? (i := 114) rfl)) (hw _ (List.mem_of_getElem? (i := 3) rfl)) (by decide) (by decide)) qn206a qn206c (g := mkF m 398 Ls [(.ref b5), (.ref b5)]) rfl hLs (Steps.refl _) (argsL := [(.ref b5)]) (rest := []) (lenOf pd_15 rfl) rfl (by show 2 * 0 + _ ≤ _; exact Nat.le_of_eq rfl) (hb hby at_398) (fun _ _ => ⟨rfl, e205, (by decide : 0 + 1 + 1 + 1 + 1 + 1 + 1 + 2 + 1 + 1 + 0 + 1 + 1 + 0 + 0 + 0 + 0 + 0 + 0 ≤ _), (by decide : 0 + 3 + 4 + 3 + 2 + 4 + 2 + 5 + 2 + 4 + 0 + 3 + 1 + 0 + 0 + 0 + 0 + 0 + 0 ≤ _)⟩)
            refine Wk.back (n := 401) (rc := 0) (rs := 0) (Q := Q_rmEq Z b5 T196.heap n0) (cl206_ _ (by rw [hml]; rfl)) fun vn206 T206 L206 X206 hQ206 => ?_
            clear cl206_
            obtain ⟨rfl, M206, e206⟩ := hQ206
            have N206 := Fr.app N205 M206
            show Wk p e below s _ _ _ T206 (mkF m 401 _ [(.int (1 : Int32))])
            have hc401_208 : ¬ ((1 : Int32) = (0 : Int32)) := by decide
            refine Wk.ifNo X206 hx (hb hby at_401) (n := 404) rfl ((if0 _ _).trans (feq hc401_208).1) ?_
            refine Wk.aload X206 hx (hb hby at_404) (n := 406) rfl rfl rfl ?_
            have f209 := ((((p150_2.ext Ex188).ext Ex189).keep J190 (ninS (nz (by omega)) nin0)).keep J196 (ninS (nz (by omega)) nin0))
            obtain ⟨cq210, kq210, qn210a, qn210b, qn210c⟩ := isOf hZ e206 f203
            have cl210_ := fun (Ls : Array Slot) (hLs : Ls.size = c.maxLocals) => X206.virtualBack hx (y := (⟨"com/example/depeche/depeche/profile/Path", "field", "()I"⟩ : MethodName)) (z := (⟨"com/example/depeche/depeche/profile/Path", "field", "()I"⟩ : MethodName)) hown (mvT hZ (hw _ (List.mem_of_getElem? (i := 115) rfl))) (mvT hZ (hw _ (List.mem_of_getElem? (i := 116) rfl))) (notFace_of_selects (args := #[]) (mvT hZ (hw _ (List.mem_of_getElem? (i := 118) rfl)))) (mvT hZ (hw _ (List.mem_of_getElem? (i := 118) rfl))) (mvT hZ (hw _ (List.mem_of_getElem? (i := 117) rfl))) (by decide) (backOf (W := 0) (rmGf l Z a0 hw [] b149 p2 T196.heap n0 (by omega) f209) hZ (hw _ (List.mem_of_getElem? (i := 119) rfl)) (hw _ (List.mem_of_getElem? (i := 38) rfl)) (by decide) (by decide)) qn210a qn210c (g := mkF m 406 Ls [(.ref b149)]) rfl hLs (Steps.refl _) (argsL := []) (rest := []) (lenOf pd_16 rfl) rfl (by show 2 * 0 + _ ≤ _; exact Nat.le_of_eq rfl) (hb hby at_406) (fun _ _ => ⟨rfl, e206, (by decide : 0 + 1 + 1 + 1 + 1 + 1 + 1 + 2 + 1 + 1 + 0 + 1 + 1 + 0 + 0 + 0 + 0 + 0 + 0 + 0 ≤ _), (by decide : 0 + 3 + 4 + 3 + 2 + 4 + 2 + 5 + 2 + 4 + 0 + 3 + 1 + 0 + 0 + 0 + 0 + 0 + 0 + 0 ≤ _)⟩)
            refine Wk.back (n := 409) (rc := 0) (rs := 0) (Q := Q_rmGf Z b149 p2 T196.heap n0) (cl210_ _ (by rw [hml]; rfl)) fun vn210 T210 L210 X210 hQ210 => ?_
            clear cl210_
            obtain ⟨rfl, M210, e210⟩ := hQ210
            have N210 := Fr.app N206 M210
            show Wk p e below s _ _ _ T210 (mkF m 409 _ [(.int p2)])
            refine Wk.iloadN X210 hx (hb hby at_409) (n := 410) rfl rfl ?_
            have hc410_211 : p2 = p2 := rfl
            refine Wk.icmpNo X210 hx (hb hby at_410) (n := 413) rfl (teq hc410_211).2 ?_
            refine Wk.aload X210 hx (hb hby at_413) (n := 415) rfl rfl rfl ?_
            have f212 := ((((p150_3.ext Ex188).ext Ex189).keep J190 (ninS (nz (by omega)) nin0)).keep J196 (ninS (nz (by omega)) nin0))
            obtain ⟨cq213, kq213, qn213a, qn213b, qn213c⟩ := isOf hZ e210 f203
            have cl213_ := fun (Ls : Array Slot) (hLs : Ls.size = c.maxLocals) => X210.virtualBack hx (y := (⟨"com/example/depeche/depeche/profile/Path", "component", "()I"⟩ : MethodName)) (z := (⟨"com/example/depeche/depeche/profile/Path", "component", "()I"⟩ : MethodName)) hown (mvT hZ (hw _ (List.mem_of_getElem? (i := 120) rfl))) (mvT hZ (hw _ (List.mem_of_getElem? (i := 121) rfl))) (notFace_of_selects (args := #[]) (mvT hZ (hw _ (List.mem_of_getElem? (i := 123) rfl)))) (mvT hZ (hw _ (List.mem_of_getElem? (i := 123) rfl))) (mvT hZ (hw _ (List.mem_of_getElem? (i := 122) rfl))) (by decide) (backOf (W := 0) (rmGc l Z a0 hw [] b149 p3 T196.heap n0 (by omega) f212) hZ (hw _ (List.mem_of_getElem? (i := 124) rfl)) (hw _ (List.mem_of_getElem? (i := 38) rfl)) (by decide) (by decide)) qn213a qn213c (g := mkF m 415 Ls [(.ref b149)]) rfl hLs (Steps.refl _) (argsL := []) (rest := []) (lenOf pd_16 rfl) rfl (by show 2 * 0 + _ ≤ _; exact Nat.le_of_eq rfl) (hb hby at_415) (fun _ _ => ⟨rfl, e210, (by decide : 0 + 1 + 1 + 1 + 1 + 1 + 1 + 2 + 1 + 1 + 0 + 1 + 1 + 0 + 0 + 0 + 0 + 0 + 0 + 0 + 0 ≤ _), (by decide : 0 + 3 + 4 + 3 + 2 + 4 + 2 + 5 + 2 + 4 + 0 + 3 + 1 + 0 + 0 + 0 + 0 + 0 + 0 + 0 + 0 ≤ _)⟩)
            refine Wk.back (n := 418) (rc := 0) (rs := 0) (Q := Q_rmGc Z b149 p3 T196.heap n0) (cl213_ _ (by rw [hml]; rfl)) fun vn213 T213 L213 X213 hQ213 => ?_
            clear cl213_
            obtain ⟨rfl, M213, e213⟩ := hQ213
            have N213 := Fr.app N210 M213
            show Wk p e below s _ _ _ T213 (mkF m 418 _ [(.int p3)])
            refine Wk.iloadN X213 hx (hb hby at_418) (n := 419) rfl rfl ?_
            have hc419_214 : p3 = p3 := rfl
            refine Wk.icmpNo X213 hx (hb hby at_419) (n := 422) rfl (teq hc419_214).2 ?_
            refine Wk.iload X213 hx (hb hby at_422) (n := 424) rfl rfl ?_
            have hc424_215 : ¬ ((1 : Int32) = (0 : Int32)) := by decide
            refine Wk.ifNo X213 hx (hb hby at_424) (n := 427) rfl ((if0 _ _).trans (feq hc424_215).1) ?_
            refine Wk.iconst X213 hx (hb hby at_427) (n := 428) rfl (z := (1 : Int32)) rfl ?_
            refine Wk.goto X213 hx (hb hby at_428) (by decide) (n := 432) (by decide) ?_
            exact Wk.leave X213 (v := some (.int (1 : Int32))) (fun h => by rw [Bd.returns] at h; cases h) hlk e213 ⟨rfl, N213, K196⟩ (by decide) (by decide) (fun fs hr => retNz X213 hx (t := .boolean) rfl Bd.returns (by simp) (hb hby at_432) hr)
          ·
            refine Wk.aload X199 hx (hb hby at_358) (n := 360) rfl rfl rfl ?_
            refine Wk.ifnonnullYes X199 hx (hb hby at_360) (by decide) (n := 379) (by decide) ?_
            refine Wk.aload X199 hx (hb hby at_379) (n := 381) rfl rfl rfl ?_
            refine Wk.aload X199 hx (hb hby at_381) (n := 383) rfl rfl rfl ?_
            have f216 := ((((p150_4.ext Ex188).ext Ex189).keep J190 (ninS (nz (by omega)) nin0)).keep J196 (ninS (nz (by omega)) nin0))
            have f218 := ((((p150_0.ext Ex188).ext Ex189).keep J190).keep J196)
            obtain ⟨cq217, kq217, qn217a, qn217b, qn217c⟩ := isOf hZ e199 f218
            have cl217_ := fun (Ls : Array Slot) (hLs : Ls.size = c.maxLocals) => X199.virtualBack hx (y := (⟨"com/example/depeche/depeche/profile/Path", "mark", "()Ljava/lang/String;"⟩ : MethodName)) (z := (⟨"com/example/depeche/depeche/profile/Path", "mark", "()Ljava/lang/String;"⟩ : MethodName)) hown (mvT hZ (hw _ (List.mem_of_getElem? (i := 100) rfl))) (mvT hZ (hw _ (List.mem_of_getElem? (i := 101) rfl))) (notFace_of_selects (args := #[]) (mvT hZ (hw _ (List.mem_of_getElem? (i := 103) rfl)))) (mvT hZ (hw _ (List.mem_of_getElem? (i := 103) rfl))) (mvT hZ (hw _ (List.mem_of_getElem? (i := 102) rfl))) (by decide) (backOf (W := 1) (rmGm l Z a0 hw [] b149 (.ref b13) T196.heap n0 (by omega) f216 rfl) hZ (hw _ (List.mem_of_getElem? (i := 104) rfl)) (hw _ (List.mem_of_getElem? (i := 38) rfl)) (by decide) (by decide)) qn217a qn217c (g := mkF m 383 Ls [(.ref b149), (.ref b13)]) rfl hLs (Steps.refl _) (argsL := []) (rest := [(.ref b13)]) (lenOf pd_14 rfl) rfl (by show 2 * 0 + _ ≤ _; exact Nat.le_of_eq rfl) (hb hby at_383) (fun _ _ => ⟨rfl, e199, (by decide : 0 + 1 + 1 + 1 + 1 + 1 + 1 + 2 + 1 + 1 + 0 + 1 + 1 + 0 + 0 + 0 + 0 ≤ _), (by decide : 0 + 3 + 4 + 3 + 2 + 4 + 2 + 5 + 2 + 4 + 0 + 3 + 1 + 0 + 0 + 0 + 0 ≤ _)⟩)
            refine Wk.back (n := 386) (rc := 0) (rs := 0) (Q := Q_rmGm Z b149 (.ref b13) T196.heap n0) (cl217_ _ (by rw [hml]; rfl)) fun vn217 T217 L217 X217 hQ217 => ?_
            clear cl217_
            obtain ⟨rfl, M217, e217⟩ := hQ217
            have N217 := Fr.app N199 M217
            show Wk p e below s _ _ _ T217 (mkF m 386 _ [(.ref b13), (.ref b13)])
            have f220 := ((((((((p14_0.keep J146).keep J148).ext Ex149).keep J150).ext Ex188).ext Ex189).keep J190).keep J196)
            obtain ⟨cq219, kq219, qn219a, qn219b, qn219c⟩ := isOf hZ e217 f220
            have cl219_ := fun (Ls : Array Slot) (hLs : Ls.size = c.maxLocals) => X217.virtualBack hx (y := (⟨"java/lang/String", "equals", "(Ljava/lang/Object;)Z"⟩ : MethodName)) (z := (⟨"java/lang/String", "equals", "(Ljava/lang/Object;)Z"⟩ : MethodName)) hown (mvT hZ (hw _ (List.mem_of_getElem? (i := 110) rfl))) (mvT hZ (hw _ (List.mem_of_getElem? (i := 111) rfl))) (notFace_of_selects (args := #[]) (mvT hZ (hw _ (List.mem_of_getElem? (i := 113) rfl)))) (mvT hZ (hw _ (List.mem_of_getElem? (i := 113) rfl))) (mvT hZ (hw _ (List.mem_of_getElem? (i := 112) rfl))) (by decide) (backOf (W := 0) (rmEq l Z a0 hw [] b13 T196.heap n0 (by omega)) hZ (hw _ (List.mem_of_getElem? (i := 114) rfl)) (hw _ (List.mem_of_getElem? (i := 3) rfl)) (by decide) (by decide)) qn219a qn219c (g := mkF m 386 Ls [(.ref b13), (.ref b13)]) rfl hLs (Steps.refl _) (argsL := [(.ref b13)]) (rest := []) (lenOf pd_15 rfl) rfl (by show 2 * 0 + _ ≤ _; exact Nat.le_of_eq rfl) (hb hby at_386) (fun _ _ => ⟨rfl, e217, (by decide : 0 + 1 + 1 + 1 + 1 + 1 + 1 + 2 + 1 + 1 + 0 + 1 + 1 + 0 + 0 + 0 + 0 + 0 ≤ _), (by decide : 0 + 3 + 4 + 3 + 2 + 4 + 2 + 5 + 2 + 4 + 0 + 3 + 1 + 0 + 0 + 0 + 0 + 0 ≤ _)⟩)
            refine Wk.back (n := 389) (rc := 0) (rs := 0) (Q := Q_rmEq Z b13 T196.heap n0) (cl219_ _ (by rw [hml]; rfl)) fun vn219 T219 L219 X219 hQ219 => ?_
            clear cl219_
            obtain ⟨rfl, M219, e219⟩ := hQ219
            have N219 := Fr.app N217 M219
            show Wk p e below s _ _ _ T219 (mkF m 389 _ [(.int (1 : Int32))])
            refine Wk.istore X219 hx (hb hby at_389) (n := 391) rfl (L' := #[.val (.int p1), .val (.int p2), .val (.int p3), .val (.int p4), .val (.int p5), .val (.int p6), .val (.ref b1), .val (.ref b5), .val (.ref b10), .val (.ref b13), .val (.int hm), .val (.int ng), .val (.int ov), .val (.ref b13), .val (.ref r_148), .val (.ref b149), .val (.int ((p5 &&& (2147483647 : Int32)) % (5 : Int32))), .val (.ref b188), .val (.ref b149), .val (.int (1 : Int32))]) rfl ?_
            refine Wk.aload X219 hx (hb hby at_391) (n := 393) rfl rfl rfl ?_
            have f221 := ((((p150_1.ext Ex188).ext Ex189).keep J190 (ninS (nz (by omega)) nin0)).keep J196 (ninS (nz (by omega)) nin0))
            obtain ⟨cq222, kq222, qn222a, qn222b, qn222c⟩ := isOf hZ e219 f218
            have cl222_ := fun (Ls : Array Slot) (hLs : Ls.size = c.maxLocals) => X219.virtualBack hx (y := (⟨"com/example/depeche/depeche/profile/Path", "segment", "()Ljava/lang/String;"⟩ : MethodName)) (z := (⟨"com/example/depeche/depeche/profile/Path", "segment", "()Ljava/lang/String;"⟩ : MethodName)) hown (mvT hZ (hw _ (List.mem_of_getElem? (i := 105) rfl))) (mvT hZ (hw _ (List.mem_of_getElem? (i := 106) rfl))) (notFace_of_selects (args := #[]) (mvT hZ (hw _ (List.mem_of_getElem? (i := 108) rfl)))) (mvT hZ (hw _ (List.mem_of_getElem? (i := 108) rfl))) (mvT hZ (hw _ (List.mem_of_getElem? (i := 107) rfl))) (by decide) (backOf (W := 0) (rmGs l Z a0 hw [] b149 b5 T196.heap n0 (by omega) f221) hZ (hw _ (List.mem_of_getElem? (i := 109) rfl)) (hw _ (List.mem_of_getElem? (i := 38) rfl)) (by decide) (by decide)) qn222a qn222c (g := mkF m 393 Ls [(.ref b149)]) rfl hLs (Steps.refl _) (argsL := []) (rest := []) (lenOf pd_14 rfl) rfl (by show 2 * 0 + _ ≤ _; exact Nat.le_of_eq rfl) (hb hby at_393) (fun _ _ => ⟨rfl, e219, (by decide : 0 + 1 + 1 + 1 + 1 + 1 + 1 + 2 + 1 + 1 + 0 + 1 + 1 + 0 + 0 + 0 + 0 + 0 + 0 ≤ _), (by decide : 0 + 3 + 4 + 3 + 2 + 4 + 2 + 5 + 2 + 4 + 0 + 3 + 1 + 0 + 0 + 0 + 0 + 0 + 0 ≤ _)⟩)
            refine Wk.back (n := 396) (rc := 0) (rs := 0) (Q := Q_rmGs Z b149 b5 T196.heap n0) (cl222_ _ (by rw [hml]; rfl)) fun vn222 T222 L222 X222 hQ222 => ?_
            clear cl222_
            obtain ⟨rfl, M222, e222⟩ := hQ222
            have N222 := Fr.app N219 M222
            show Wk p e below s _ _ _ T222 (mkF m 396 _ [(.ref b5)])
            refine Wk.aload X222 hx (hb hby at_396) (n := 398) rfl rfl rfl ?_
            have f224 := (((((((((((((p6_0.ext Ex10).wr Wn11).wr Wn12).ext Ex13).keep J14).keep J146).keep J148).ext Ex149).keep J150).ext Ex188).ext Ex189).keep J190).keep J196)
            obtain ⟨cq223, kq223, qn223a, qn223b, qn223c⟩ := isOf hZ e222 f224
            have cl223_ := fun (Ls : Array Slot) (hLs : Ls.size = c.maxLocals) => X222.virtualBack hx (y := (⟨"java/lang/String", "equals", "(Ljava/lang/Object;)Z"⟩ : MethodName)) (z := (⟨"java/lang/String", "equals", "(Ljava/lang/Object;)Z"⟩ : MethodName)) hown (mvT hZ (hw _ (List.mem_of_getElem? (i := 110) rfl))) (mvT hZ (hw _ (List.mem_of_getElem? (i := 111) rfl))) (notFace_of_selects (args := #[]) (mvT hZ (hw _ (List.mem_of_getElem? (i := 113) rfl)))) (mvT hZ (hw _ (List.mem_of_getElem? (i := 113) rfl))) (mvT hZ (hw _ (List.mem_of_getElem? (i := 112) rfl))) (by decide) (backOf (W := 0) (rmEq l Z a0 hw [] b5 T196.heap n0 (by omega)) hZ (hw _ (List.mem_of_getElem? (i := 114) rfl)) (hw _ (List.mem_of_getElem? (i := 3) rfl)) (by decide) (by decide)) qn223a qn223c (g := mkF m 398 Ls [(.ref b5), (.ref b5)]) rfl hLs (Steps.refl _) (argsL := [(.ref b5)]) (rest := []) (lenOf pd_15 rfl) rfl (by show 2 * 0 + _ ≤ _; exact Nat.le_of_eq rfl) (hb hby at_398) (fun _ _ => ⟨rfl, e222, (by decide : 0 + 1 + 1 + 1 + 1 + 1 + 1 + 2 + 1 + 1 + 0 + 1 + 1 + 0 + 0 + 0 + 0 + 0 + 0 + 0 ≤ _), (by decide : 0 + 3 + 4 + 3 + 2 + 4 + 2 + 5 + 2 + 4 + 0 + 3 + 1 + 0 + 0 + 0 + 0 + 0 + 0 + 0 ≤ _)⟩)
            refine Wk.back (n := 401) (rc := 0) (rs := 0) (Q := Q_rmEq Z b5 T196.heap n0) (cl223_ _ (by rw [hml]; rfl)) fun vn223 T223 L223 X223 hQ223 => ?_
            clear cl223_
            obtain ⟨rfl, M223, e223⟩ := hQ223
            have N223 := Fr.app N222 M223
            show Wk p e below s _ _ _ T223 (mkF m 401 _ [(.int (1 : Int32))])
            have hc401_225 : ¬ ((1 : Int32) = (0 : Int32)) := by decide
            refine Wk.ifNo X223 hx (hb hby at_401) (n := 404) rfl ((if0 _ _).trans (feq hc401_225).1) ?_
            refine Wk.aload X223 hx (hb hby at_404) (n := 406) rfl rfl rfl ?_
            have f226 := ((((p150_2.ext Ex188).ext Ex189).keep J190 (ninS (nz (by omega)) nin0)).keep J196 (ninS (nz (by omega)) nin0))
            obtain ⟨cq227, kq227, qn227a, qn227b, qn227c⟩ := isOf hZ e223 f218
            have cl227_ := fun (Ls : Array Slot) (hLs : Ls.size = c.maxLocals) => X223.virtualBack hx (y := (⟨"com/example/depeche/depeche/profile/Path", "field", "()I"⟩ : MethodName)) (z := (⟨"com/example/depeche/depeche/profile/Path", "field", "()I"⟩ : MethodName)) hown (mvT hZ (hw _ (List.mem_of_getElem? (i := 115) rfl))) (mvT hZ (hw _ (List.mem_of_getElem? (i := 116) rfl))) (notFace_of_selects (args := #[]) (mvT hZ (hw _ (List.mem_of_getElem? (i := 118) rfl)))) (mvT hZ (hw _ (List.mem_of_getElem? (i := 118) rfl))) (mvT hZ (hw _ (List.mem_of_getElem? (i := 117) rfl))) (by decide) (backOf (W := 0) (rmGf l Z a0 hw [] b149 p2 T196.heap n0 (by omega) f226) hZ (hw _ (List.mem_of_getElem? (i := 119) rfl)) (hw _ (List.mem_of_getElem? (i := 38) rfl)) (by decide) (by decide)) qn227a qn227c (g := mkF m 406 Ls [(.ref b149)]) rfl hLs (Steps.refl _) (argsL := []) (rest := []) (lenOf pd_16 rfl) rfl (by show 2 * 0 + _ ≤ _; exact Nat.le_of_eq rfl) (hb hby at_406) (fun _ _ => ⟨rfl, e223, (by decide : 0 + 1 + 1 + 1 + 1 + 1 + 1 + 2 + 1 + 1 + 0 + 1 + 1 + 0 + 0 + 0 + 0 + 0 + 0 + 0 + 0 ≤ _), (by decide : 0 + 3 + 4 + 3 + 2 + 4 + 2 + 5 + 2 + 4 + 0 + 3 + 1 + 0 + 0 + 0 + 0 + 0 + 0 + 0 + 0 ≤ _)⟩)
            refine Wk.back (n := 409) (rc := 0) (rs := 0) (Q := Q_rmGf Z b149 p2 T196.heap n0) (cl227_ _ (by rw [hml]; rfl)) fun vn227 T227 L227 X227 hQ227 => ?_
            clear cl227_
            obtain ⟨rfl, M227, e227⟩ := hQ227
            have N227 := Fr.app N223 M227
            show Wk p e below s _ _ _ T227 (mkF m 409 _ [(.int p2)])
            refine Wk.iloadN X227 hx (hb hby at_409) (n := 410) rfl rfl ?_
            have hc410_228 : p2 = p2 := rfl
            refine Wk.icmpNo X227 hx (hb hby at_410) (n := 413) rfl (teq hc410_228).2 ?_
            refine Wk.aload X227 hx (hb hby at_413) (n := 415) rfl rfl rfl ?_
            have f229 := ((((p150_3.ext Ex188).ext Ex189).keep J190 (ninS (nz (by omega)) nin0)).keep J196 (ninS (nz (by omega)) nin0))
            obtain ⟨cq230, kq230, qn230a, qn230b, qn230c⟩ := isOf hZ e227 f218
            have cl230_ := fun (Ls : Array Slot) (hLs : Ls.size = c.maxLocals) => X227.virtualBack hx (y := (⟨"com/example/depeche/depeche/profile/Path", "component", "()I"⟩ : MethodName)) (z := (⟨"com/example/depeche/depeche/profile/Path", "component", "()I"⟩ : MethodName)) hown (mvT hZ (hw _ (List.mem_of_getElem? (i := 120) rfl))) (mvT hZ (hw _ (List.mem_of_getElem? (i := 121) rfl))) (notFace_of_selects (args := #[]) (mvT hZ (hw _ (List.mem_of_getElem? (i := 123) rfl)))) (mvT hZ (hw _ (List.mem_of_getElem? (i := 123) rfl))) (mvT hZ (hw _ (List.mem_of_getElem? (i := 122) rfl))) (by decide) (backOf (W := 0) (rmGc l Z a0 hw [] b149 p3 T196.heap n0 (by omega) f229) hZ (hw _ (List.mem_of_getElem? (i := 124) rfl)) (hw _ (List.mem_of_getElem? (i := 38) rfl)) (by decide) (by decide)) qn230a qn230c (g := mkF m 415 Ls [(.ref b149)]) rfl hLs (Steps.refl _) (argsL := []) (rest := []) (lenOf pd_16 rfl) rfl (by show 2 * 0 + _ ≤ _; exact Nat.le_of_eq rfl) (hb hby at_415) (fun _ _ => ⟨rfl, e227, (by decide : 0 + 1 + 1 + 1 + 1 + 1 + 1 + 2 + 1 + 1 + 0 + 1 + 1 + 0 + 0 + 0 + 0 + 0 + 0 + 0 + 0 + 0 ≤ _), (by decide : 0 + 3 + 4 + 3 + 2 + 4 + 2 + 5 + 2 + 4 + 0 + 3 + 1 + 0 + 0 + 0 + 0 + 0 + 0 + 0 + 0 + 0 ≤ _)⟩)
            refine Wk.back (n := 418) (rc := 0) (rs := 0) (Q := Q_rmGc Z b149 p3 T196.heap n0) (cl230_ _ (by rw [hml]; rfl)) fun vn230 T230 L230 X230 hQ230 => ?_
            clear cl230_
            obtain ⟨rfl, M230, e230⟩ := hQ230
            have N230 := Fr.app N227 M230
            show Wk p e below s _ _ _ T230 (mkF m 418 _ [(.int p3)])
            refine Wk.iloadN X230 hx (hb hby at_418) (n := 419) rfl rfl ?_
            have hc419_231 : p3 = p3 := rfl
            refine Wk.icmpNo X230 hx (hb hby at_419) (n := 422) rfl (teq hc419_231).2 ?_
            refine Wk.iload X230 hx (hb hby at_422) (n := 424) rfl rfl ?_
            have hc424_232 : ¬ ((1 : Int32) = (0 : Int32)) := by decide
            refine Wk.ifNo X230 hx (hb hby at_424) (n := 427) rfl ((if0 _ _).trans (feq hc424_232).1) ?_
            refine Wk.iconst X230 hx (hb hby at_427) (n := 428) rfl (z := (1 : Int32)) rfl ?_
            refine Wk.goto X230 hx (hb hby at_428) (by decide) (n := 432) (by decide) ?_
            exact Wk.leave X230 (v := some (.int (1 : Int32))) (fun h => by rw [Bd.returns] at h; cases h) hlk e230 ⟨rfl, N230, K196⟩ (by decide) (by decide) (fun fs hr => retNz X230 hx (t := .boolean) rfl Bd.returns (by simp) (hb hby at_432) hr)
        ·
          refine Wk.icmpYes X150 hx (hb hby at_228) (feq hc228).2 (by decide) (n := 256) (by decide) ?_
          refine Wk.iload X150 hx (hb hby at_256) (n := 258) rfl rfl ?_
          refine Wk.iconst X150 hx (hb hby at_258) (n := 259) rfl (z := (2 : Int32)) rfl ?_
          by_cases hc259 : ((p5 &&& (2147483647 : Int32)) % (5 : Int32)) = (2 : Int32)
          ·
            refine Wk.icmpNo X150 hx (hb hby at_259) (n := 262) rfl (teq hc259).2 ?_
            refine Wk.newO X150 hx hZ hown (hw _ (List.mem_of_getElem? (i := 57) rfl)) (hw _ (List.mem_of_getElem? (i := 58) rfl)) (hw _ (List.mem_of_getElem? (i := 59) rfl)) rfl (hb hby at_262) (n := 265) rfl (by decide) (by decide) fun T233 H233 b233 gn233 X233 e233 Ex233 An233 Dn233 Yn233 => ?_
            have gn233 := nx gn233
            have sz233 := Ex233.1
            have lt233 := ny An233.lt
            have K233 := K150.ext Ex233
            have Fn233_subject : Fld Z H233 b233 "com/example/depeche/depeche/profile/Condition" "subject" "Lcom/example/depeche/depeche/profile/Value$Source;" .null := Dn233 (Or.inr (hw _ (List.mem_of_getElem? (i := 84) rfl))) (ty := (.object "com/example/depeche/depeche/profile/Value$Source")) (by decide)
            have Fn233_values : Fld Z H233 b233 "com/example/depeche/depeche/profile/Condition" "values" "Ljava/util/Set;" .null := Dn233 (Or.inr (hw _ (List.mem_of_getElem? (i := 86) rfl))) (ty := (.object "java/util/Set")) (by decide)
            have Fn233_negated : Fld Z H233 b233 "com/example/depeche/depeche/profile/Condition" "negated" "Z" (.int (0 : Int32)) := Dn233 (Or.inr (hw _ (List.mem_of_getElem? (i := 88) rfl))) (ty := .boolean) (by decide)
            refine Wk.dup X233 hx (hb hby at_265) (n := 266) rfl rfl ?_
            refine Wk.newO X233 hx hZ hown (hw _ (List.mem_of_getElem? (i := 199) rfl)) (hw _ (List.mem_of_getElem? (i := 200) rfl)) (hw _ (List.mem_of_getElem? (i := 201) rfl)) e233 (hb hby at_266) (n := 269) rfl (by decide) (by decide) fun T234 H234 b234 gn234 X234 e234 Ex234 An234 Dn234 Yn234 => ?_
            have gn234 := nx gn234
            have sz234 := Ex234.1
            have lt234 := ny An234.lt
            have K234 := K233.ext Ex234
            have Fn234_mark : Fld Z H234 b234 "com/example/depeche/depeche/profile/Value$Count" "mark" "Ljava/lang/String;" .null := Dn234 (Or.inr (hw _ (List.mem_of_getElem? (i := 207) rfl))) (ty := (.object "java/lang/String")) (by decide)
            refine Wk.dup X234 hx (hb hby at_269) (n := 270) rfl rfl ?_
            refine Wk.aload X234 hx (hb hby at_270) (n := 272) rfl rfl rfl ?_
            have cl235_ := fun (Ls : Array Slot) (hLs : Ls.size = c.maxLocals) => X234.specialBack hx (y := (⟨"com/example/depeche/depeche/profile/Value$Count", "<init>", "(Ljava/lang/String;)V"⟩ : MethodName)) rfl hown (mvT hZ (hw _ (List.mem_of_getElem? (i := 202) rfl))) (mvT hZ (hw _ (List.mem_of_getElem? (i := 203) rfl))) (mvT hZ (hw _ (List.mem_of_getElem? (i := 204) rfl))) (by decide) (backOf (W := 3) (rmCtI l Z a0 hw [] b234 b13 .null H234 n0 (by omega) An234 Fn234_mark (by omega)) hZ (hw _ (List.mem_of_getElem? (i := 204) rfl)) (hw _ (List.mem_of_getElem? (i := 201) rfl)) (by decide) (by decide)) (g := mkF m 272 Ls [(.ref b13), (.ref b234), (.ref b234), (.ref b233), (.ref b233)]) rfl hLs (Steps.refl _) (a := b234) (argsL := [(.ref b13)]) (rest := [(.ref b234), (.ref b233), (.ref b233)]) (lenOf pd_17 rfl) rfl (by show 2 * 0 + _ ≤ _; exact Nat.le_of_eq rfl) (hb hby at_272) (fun _ _ => ⟨rfl, e234, (by decide : 0 + 1 + 1 + 1 + 1 + 1 + 1 + 2 + 1 + 1 + 0 + 1 + 1 + 0 ≤ _), (by decide : 0 + 3 + 4 + 3 + 2 + 4 + 2 + 5 + 2 + 4 + 0 + 3 + 1 + 0 ≤ _)⟩)
            refine Wk.back (n := 275) (rc := 0) (rs := 0) (Q := Q_rmCtI Z b234 b13 .null H234 n0) (cl235_ _ (by rw [hml]; rfl)) fun vn235 T235 L235 X235 hQ235 => ?_
            clear cl235_
            obtain ⟨rfl, M235, J235, p235_0⟩ := hQ235
            have N235 := Fr.app N150 M235
            have sz235 := J235.1
            have K235 := K234.trans J235 (allS (Or.inr (by omega)) all0)
            have lt_p235_0 := ny p235_0.lt
            show Wk p e below s _ _ _ T235 (mkF m 275 _ [(.ref b234), (.ref b233), (.ref b233)])
            refine Wk.aload X235 hx (hb hby at_275) (n := 277) rfl rfl rfl ?_
            refine Wk.iload X235 hx (hb hby at_277) (n := 279) rfl rfl ?_
            have f236 := ((An233.ext Ex234).keep J235)
            have f237 := (((((p148_0.ext Ex149).keep J150).ext Ex233).ext Ex234).keep J235)
            have f238 := ((Fn233_subject.ext Ex234).keep J235 (ninS (nz (by omega)) nin0))
            have f239 := ((Fn233_values.ext Ex234).keep J235 (ninS (nz (by omega)) nin0))
            have f240 := ((Fn233_negated.ext Ex234).keep J235 (ninS (nz (by omega)) nin0))
            have cl241_ := fun (Ls : Array Slot) (hLs : Ls.size = c.maxLocals) => X235.specialBack hx (y := (⟨"com/example/depeche/depeche/profile/Condition", "<init>", "(Lcom/example/depeche/depeche/profile/Value$Source;Ljava/util/Set;Z)V"⟩ : MethodName)) rfl hown (mvT hZ (hw _ (List.mem_of_getElem? (i := 134) rfl))) (mvT hZ (hw _ (List.mem_of_getElem? (i := 73) rfl))) (mvT hZ (hw _ (List.mem_of_getElem? (i := 74) rfl))) (by decide) (backOf (W := 1) (rmC1T l Z a0 hw [] b233 b234 r_148 ng .null .null (.int (0 : Int32)) T235.heap n0 (by omega) f236 f237 f238 f239 f240 (by omega) hng) hZ (hw _ (List.mem_of_getElem? (i := 74) rfl)) (hw _ (List.mem_of_getElem? (i := 59) rfl)) (by decide) (by decide)) (g := mkF m 279 Ls [(.int ng), (.ref r_148), (.ref b234), (.ref b233), (.ref b233)]) rfl hLs (Steps.refl _) (a := b233) (argsL := [(.ref b234), (.ref r_148), (.int ng)]) (rest := [(.ref b233)]) (lenOf pd_3 rfl) rfl (by show 2 * 0 + _ ≤ _; exact Nat.le_of_eq rfl) (hb hby at_279) (fun _ _ => ⟨rfl, rfl, (by decide : 0 + 1 + 1 + 1 + 1 + 1 + 1 + 2 + 1 + 1 + 0 + 1 + 1 + 0 + 0 ≤ _), (by decide : 0 + 3 + 4 + 3 + 2 + 4 + 2 + 5 + 2 + 4 + 0 + 3 + 1 + 0 + 0 ≤ _)⟩)
            refine Wk.back (n := 282) (rc := 0) (rs := 0) (Q := Q_rmC1T Z b233 b234 r_148 ng .null .null (.int (0 : Int32)) T235.heap n0) (cl241_ _ (by rw [hml]; rfl)) fun vn241 T241 L241 X241 hQ241 => ?_
            clear cl241_
            obtain ⟨rfl, M241, J241, p241_0, p241_1⟩ := hQ241
            have N241 := Fr.app N235 M241
            have sz241 := J241.1
            have K241 := K235.trans J241 (allS (Or.inr (by omega)) all0)
            have lt_p241_0 := ny p241_0.lt
            show Wk p e below s _ _ _ T241 (mkF m 282 _ [(.ref b233)])
            refine Wk.astore X241 hx (hb hby at_282) (n := 284) rfl rfl (L' := #[.val (.int p1), .val (.int p2), .val (.int p3), .val (.int p4), .val (.int p5), .val (.int p6), .val (.ref b1), .val (.ref b5), .val (.ref b10), .val (.ref b13), .val (.int hm), .val (.int ng), .val (.int ov), .val u, .val (.ref r_148), .val (.ref b149), .val (.int ((p5 &&& (2147483647 : Int32)) % (5 : Int32))), .val (.ref b233), .unset, .unset]) rfl ?_
            refine Wk.goto X241 hx (hb hby at_284) (by decide) (n := 338) (by decide) ?_
            refine Wk.aload X241 hx (hb hby at_338) (n := 340) rfl rfl rfl ?_
            have f242 := (p235_0.keep J241)
            obtain ⟨cq243, kq243, qn243a, qn243b, qn243c⟩ := isOf hZ rfl p241_0
            have cl243_ := fun (Ls : Array Slot) (hLs : Ls.size = c.maxLocals) => X241.virtualBack hx (y := (⟨"com/example/depeche/depeche/profile/Condition", "path", "()Lcom/example/depeche/depeche/profile/Path;"⟩ : MethodName)) (z := (⟨"com/example/depeche/depeche/profile/Condition", "path", "()Lcom/example/depeche/depeche/profile/Path;"⟩ : MethodName)) hown (mvT hZ (hw _ (List.mem_of_getElem? (i := 89) rfl))) (mvT hZ (hw _ (List.mem_of_getElem? (i := 90) rfl))) (notFace_of_selects (args := #[]) (mvT hZ (hw _ (List.mem_of_getElem? (i := 92) rfl)))) (mvT hZ (hw _ (List.mem_of_getElem? (i := 92) rfl))) (mvT hZ (hw _ (List.mem_of_getElem? (i := 91) rfl))) (by decide) (backOf (W := 0) (rmPtN l Z a0 hw [] b233 b234 ("com/example/depeche/depeche/profile/Value$Count") T241.heap n0 (by omega) p241_1 f242 (own_nota (hw _ (List.mem_of_getElem? (i := 208) rfl)) (hw _ (List.mem_of_getElem? (i := 64) rfl)) (NS.step (hw _ (List.mem_of_getElem? (i := 208) rfl)) (NS.step (hw _ (List.mem_of_getElem? (i := 136) rfl)) (own_root (hw _ (List.mem_of_getElem? (i := 137) rfl)) (hw _ (List.mem_of_getElem? (i := 64) rfl)) (by decide)) (by decide)) (by decide)) (by decide))) hZ (hw _ (List.mem_of_getElem? (i := 93) rfl)) (hw _ (List.mem_of_getElem? (i := 59) rfl)) (by decide) (by decide)) qn243a qn243c (g := mkF m 340 Ls [(.ref b233)]) rfl hLs (Steps.refl _) (argsL := []) (rest := []) (lenOf pd_4 rfl) rfl (by show 2 * 0 + _ ≤ _; exact Nat.le_of_eq rfl) (hb hby at_340) (fun _ _ => ⟨rfl, rfl, (by decide : 0 + 1 + 1 + 1 + 1 + 1 + 1 + 2 + 1 + 1 + 0 + 1 + 1 + 0 + 0 + 0 ≤ _), (by decide : 0 + 3 + 4 + 3 + 2 + 4 + 2 + 5 + 2 + 4 + 0 + 3 + 1 + 0 + 0 + 0 ≤ _)⟩)
            refine Wk.back (n := 343) (rc := 0) (rs := 0) (Q := Q_rmPtN Z b233 b234 ("com/example/depeche/depeche/profile/Value$Count") T241.heap n0) (cl243_ _ (by rw [hml]; rfl)) fun vn243 T243 L243 X243 hQ243 => ?_
            clear cl243_
            obtain ⟨rfl, M243, e243⟩ := hQ243
            have N243 := Fr.app N241 M243
            show Wk p e below s _ _ _ T243 (mkF m 343 _ [.null])
            refine Wk.astore X243 hx (hb hby at_343) (n := 345) rfl rfl (L' := #[.val (.int p1), .val (.int p2), .val (.int p3), .val (.int p4), .val (.int p5), .val (.int p6), .val (.ref b1), .val (.ref b5), .val (.ref b10), .val (.ref b13), .val (.int hm), .val (.int ng), .val (.int ov), .val u, .val (.ref r_148), .val (.ref b149), .val (.int ((p5 &&& (2147483647 : Int32)) % (5 : Int32))), .val (.ref b233), .val .null, .unset]) rfl ?_
            refine Wk.iload X243 hx (hb hby at_345) (n := 347) rfl rfl ?_
            refine Wk.iconst X243 hx (hb hby at_347) (n := 348) rfl (z := (1 : Int32)) rfl ?_
            have hc348_244 : (1 : Int32) < ((p5 &&& (2147483647 : Int32)) % (5 : Int32)) := own_kind (own_knn _) hc204 hc228
            refine Wk.icmpYes X243 hx (hb hby at_348) (tlt hc348_244).2.2.1 (by decide) (n := 433) (by decide) ?_
            refine Wk.aload X243 hx (hb hby at_433) (n := 435) rfl rfl rfl ?_
            refine Wk.ifnonnullNo X243 hx (hb hby at_435) (n := 438) rfl ?_
            refine Wk.iconst X243 hx (hb hby at_438) (n := 439) rfl (z := (1 : Int32)) rfl ?_
            refine Wk.goto X243 hx (hb hby at_439) (by decide) (n := 443) (by decide) ?_
            exact Wk.leave X243 (v := some (.int (1 : Int32))) (fun h => by rw [Bd.returns] at h; cases h) hlk e243 ⟨rfl, N243, K241⟩ (by decide) (by decide) (fun fs hr => retNz X243 hx (t := .boolean) rfl Bd.returns (by simp) (hb hby at_443) hr)
          ·
            refine Wk.icmpYes X150 hx (hb hby at_259) (feq hc259).2 (by decide) (n := 287) (by decide) ?_
            refine Wk.iload X150 hx (hb hby at_287) (n := 289) rfl rfl ?_
            refine Wk.iconst X150 hx (hb hby at_289) (n := 290) rfl (z := (3 : Int32)) rfl ?_
            by_cases hc290 : ((p5 &&& (2147483647 : Int32)) % (5 : Int32)) = (3 : Int32)
            ·
              refine Wk.icmpNo X150 hx (hb hby at_290) (n := 293) rfl (teq hc290).2 ?_
              refine Wk.newO X150 hx hZ hown (hw _ (List.mem_of_getElem? (i := 57) rfl)) (hw _ (List.mem_of_getElem? (i := 58) rfl)) (hw _ (List.mem_of_getElem? (i := 59) rfl)) rfl (hb hby at_293) (n := 296) rfl (by decide) (by decide) fun T245 H245 b245 gn245 X245 e245 Ex245 An245 Dn245 Yn245 => ?_
              have gn245 := nx gn245
              have sz245 := Ex245.1
              have lt245 := ny An245.lt
              have K245 := K150.ext Ex245
              have Fn245_subject : Fld Z H245 b245 "com/example/depeche/depeche/profile/Condition" "subject" "Lcom/example/depeche/depeche/profile/Value$Source;" .null := Dn245 (Or.inr (hw _ (List.mem_of_getElem? (i := 84) rfl))) (ty := (.object "com/example/depeche/depeche/profile/Value$Source")) (by decide)
              have Fn245_values : Fld Z H245 b245 "com/example/depeche/depeche/profile/Condition" "values" "Ljava/util/Set;" .null := Dn245 (Or.inr (hw _ (List.mem_of_getElem? (i := 86) rfl))) (ty := (.object "java/util/Set")) (by decide)
              have Fn245_negated : Fld Z H245 b245 "com/example/depeche/depeche/profile/Condition" "negated" "Z" (.int (0 : Int32)) := Dn245 (Or.inr (hw _ (List.mem_of_getElem? (i := 88) rfl))) (ty := .boolean) (by decide)
              refine Wk.dup X245 hx (hb hby at_296) (n := 297) rfl rfl ?_
              refine Wk.newO X245 hx hZ hown (hw _ (List.mem_of_getElem? (i := 125) rfl)) (hw _ (List.mem_of_getElem? (i := 126) rfl)) (hw _ (List.mem_of_getElem? (i := 127) rfl)) e245 (hb hby at_297) (n := 300) rfl (by decide) (by decide) fun T246 H246 b246 gn246 X246 e246 Ex246 An246 Dn246 Yn246 => ?_
              have gn246 := nx gn246
              have sz246 := Ex246.1
              have lt246 := ny An246.lt
              have K246 := K245.ext Ex246
              have Fn246_text : Fld Z H246 b246 "com/example/depeche/depeche/profile/Value$Text" "text" "Ljava/lang/String;" .null := Dn246 (Or.inr (hw _ (List.mem_of_getElem? (i := 133) rfl))) (ty := (.object "java/lang/String")) (by decide)
              refine Wk.dup X246 hx (hb hby at_300) (n := 301) rfl rfl ?_
              refine Wk.aload X246 hx (hb hby at_301) (n := 303) rfl rfl rfl ?_
              have cl247_ := fun (Ls : Array Slot) (hLs : Ls.size = c.maxLocals) => X246.specialBack hx (y := (⟨"com/example/depeche/depeche/profile/Value$Text", "<init>", "(Ljava/lang/String;)V"⟩ : MethodName)) rfl hown (mvT hZ (hw _ (List.mem_of_getElem? (i := 128) rfl))) (mvT hZ (hw _ (List.mem_of_getElem? (i := 129) rfl))) (mvT hZ (hw _ (List.mem_of_getElem? (i := 130) rfl))) (by decide) (backOf (W := 3) (rmTI l Z a0 hw [] b246 b5 .null H246 n0 (by omega) An246 Fn246_text (by omega)) hZ (hw _ (List.mem_of_getElem? (i := 130) rfl)) (hw _ (List.mem_of_getElem? (i := 127) rfl)) (by decide) (by decide)) (g := mkF m 303 Ls [(.ref b5), (.ref b246), (.ref b246), (.ref b245), (.ref b245)]) rfl hLs (Steps.refl _) (a := b246) (argsL := [(.ref b5)]) (rest := [(.ref b246), (.ref b245), (.ref b245)]) (lenOf pd_17 rfl) rfl (by show 2 * 0 + _ ≤ _; exact Nat.le_of_eq rfl) (hb hby at_303) (fun _ _ => ⟨rfl, e246, (by decide : 0 + 1 + 1 + 1 + 1 + 1 + 1 + 2 + 1 + 1 + 0 + 1 + 1 + 0 ≤ _), (by decide : 0 + 3 + 4 + 3 + 2 + 4 + 2 + 5 + 2 + 4 + 0 + 3 + 1 + 0 ≤ _)⟩)
              refine Wk.back (n := 306) (rc := 0) (rs := 0) (Q := Q_rmTI Z b246 b5 .null H246 n0) (cl247_ _ (by rw [hml]; rfl)) fun vn247 T247 L247 X247 hQ247 => ?_
              clear cl247_
              obtain ⟨rfl, M247, J247, p247_0⟩ := hQ247
              have N247 := Fr.app N150 M247
              have sz247 := J247.1
              have K247 := K246.trans J247 (allS (Or.inr (by omega)) all0)
              have lt_p247_0 := ny p247_0.lt
              show Wk p e below s _ _ _ T247 (mkF m 306 _ [(.ref b246), (.ref b245), (.ref b245)])
              refine Wk.aload X247 hx (hb hby at_306) (n := 308) rfl rfl rfl ?_
              refine Wk.iload X247 hx (hb hby at_308) (n := 310) rfl rfl ?_
              have f248 := ((An245.ext Ex246).keep J247)
              have f249 := (((((p148_0.ext Ex149).keep J150).ext Ex245).ext Ex246).keep J247)
              have f250 := ((Fn245_subject.ext Ex246).keep J247 (ninS (nz (by omega)) nin0))
              have f251 := ((Fn245_values.ext Ex246).keep J247 (ninS (nz (by omega)) nin0))
              have f252 := ((Fn245_negated.ext Ex246).keep J247 (ninS (nz (by omega)) nin0))
              have cl253_ := fun (Ls : Array Slot) (hLs : Ls.size = c.maxLocals) => X247.specialBack hx (y := (⟨"com/example/depeche/depeche/profile/Condition", "<init>", "(Lcom/example/depeche/depeche/profile/Value$Source;Ljava/util/Set;Z)V"⟩ : MethodName)) rfl hown (mvT hZ (hw _ (List.mem_of_getElem? (i := 134) rfl))) (mvT hZ (hw _ (List.mem_of_getElem? (i := 73) rfl))) (mvT hZ (hw _ (List.mem_of_getElem? (i := 74) rfl))) (by decide) (backOf (W := 1) (rmC1T l Z a0 hw [] b245 b246 r_148 ng .null .null (.int (0 : Int32)) T247.heap n0 (by omega) f248 f249 f250 f251 f252 (by omega) hng) hZ (hw _ (List.mem_of_getElem? (i := 74) rfl)) (hw _ (List.mem_of_getElem? (i := 59) rfl)) (by decide) (by decide)) (g := mkF m 310 Ls [(.int ng), (.ref r_148), (.ref b246), (.ref b245), (.ref b245)]) rfl hLs (Steps.refl _) (a := b245) (argsL := [(.ref b246), (.ref r_148), (.int ng)]) (rest := [(.ref b245)]) (lenOf pd_3 rfl) rfl (by show 2 * 0 + _ ≤ _; exact Nat.le_of_eq rfl) (hb hby at_310) (fun _ _ => ⟨rfl, rfl, (by decide : 0 + 1 + 1 + 1 + 1 + 1 + 1 + 2 + 1 + 1 + 0 + 1 + 1 + 0 + 0 ≤ _), (by decide : 0 + 3 + 4 + 3 + 2 + 4 + 2 + 5 + 2 + 4 + 0 + 3 + 1 + 0 + 0 ≤ _)⟩)
              refine Wk.back (n := 313) (rc := 0) (rs := 0) (Q := Q_rmC1T Z b245 b246 r_148 ng .null .null (.int (0 : Int32)) T247.heap n0) (cl253_ _ (by rw [hml]; rfl)) fun vn253 T253 L253 X253 hQ253 => ?_
              clear cl253_
              obtain ⟨rfl, M253, J253, p253_0, p253_1⟩ := hQ253
              have N253 := Fr.app N247 M253
              have sz253 := J253.1
              have K253 := K247.trans J253 (allS (Or.inr (by omega)) all0)
              have lt_p253_0 := ny p253_0.lt
              show Wk p e below s _ _ _ T253 (mkF m 313 _ [(.ref b245)])
              refine Wk.astore X253 hx (hb hby at_313) (n := 315) rfl rfl (L' := #[.val (.int p1), .val (.int p2), .val (.int p3), .val (.int p4), .val (.int p5), .val (.int p6), .val (.ref b1), .val (.ref b5), .val (.ref b10), .val (.ref b13), .val (.int hm), .val (.int ng), .val (.int ov), .val u, .val (.ref r_148), .val (.ref b149), .val (.int ((p5 &&& (2147483647 : Int32)) % (5 : Int32))), .val (.ref b245), .unset, .unset]) rfl ?_
              refine Wk.goto X253 hx (hb hby at_315) (by decide) (n := 338) (by decide) ?_
              refine Wk.aload X253 hx (hb hby at_338) (n := 340) rfl rfl rfl ?_
              have f254 := (p247_0.keep J253)
              obtain ⟨cq255, kq255, qn255a, qn255b, qn255c⟩ := isOf hZ rfl p253_0
              have cl255_ := fun (Ls : Array Slot) (hLs : Ls.size = c.maxLocals) => X253.virtualBack hx (y := (⟨"com/example/depeche/depeche/profile/Condition", "path", "()Lcom/example/depeche/depeche/profile/Path;"⟩ : MethodName)) (z := (⟨"com/example/depeche/depeche/profile/Condition", "path", "()Lcom/example/depeche/depeche/profile/Path;"⟩ : MethodName)) hown (mvT hZ (hw _ (List.mem_of_getElem? (i := 89) rfl))) (mvT hZ (hw _ (List.mem_of_getElem? (i := 90) rfl))) (notFace_of_selects (args := #[]) (mvT hZ (hw _ (List.mem_of_getElem? (i := 92) rfl)))) (mvT hZ (hw _ (List.mem_of_getElem? (i := 92) rfl))) (mvT hZ (hw _ (List.mem_of_getElem? (i := 91) rfl))) (by decide) (backOf (W := 0) (rmPtN l Z a0 hw [] b245 b246 ("com/example/depeche/depeche/profile/Value$Text") T253.heap n0 (by omega) p253_1 f254 (own_nota (hw _ (List.mem_of_getElem? (i := 135) rfl)) (hw _ (List.mem_of_getElem? (i := 64) rfl)) (NS.step (hw _ (List.mem_of_getElem? (i := 135) rfl)) (NS.step (hw _ (List.mem_of_getElem? (i := 136) rfl)) (own_root (hw _ (List.mem_of_getElem? (i := 137) rfl)) (hw _ (List.mem_of_getElem? (i := 64) rfl)) (by decide)) (by decide)) (by decide)) (by decide))) hZ (hw _ (List.mem_of_getElem? (i := 93) rfl)) (hw _ (List.mem_of_getElem? (i := 59) rfl)) (by decide) (by decide)) qn255a qn255c (g := mkF m 340 Ls [(.ref b245)]) rfl hLs (Steps.refl _) (argsL := []) (rest := []) (lenOf pd_4 rfl) rfl (by show 2 * 0 + _ ≤ _; exact Nat.le_of_eq rfl) (hb hby at_340) (fun _ _ => ⟨rfl, rfl, (by decide : 0 + 1 + 1 + 1 + 1 + 1 + 1 + 2 + 1 + 1 + 0 + 1 + 1 + 0 + 0 + 0 ≤ _), (by decide : 0 + 3 + 4 + 3 + 2 + 4 + 2 + 5 + 2 + 4 + 0 + 3 + 1 + 0 + 0 + 0 ≤ _)⟩)
              refine Wk.back (n := 343) (rc := 0) (rs := 0) (Q := Q_rmPtN Z b245 b246 ("com/example/depeche/depeche/profile/Value$Text") T253.heap n0) (cl255_ _ (by rw [hml]; rfl)) fun vn255 T255 L255 X255 hQ255 => ?_
              clear cl255_
              obtain ⟨rfl, M255, e255⟩ := hQ255
              have N255 := Fr.app N253 M255
              show Wk p e below s _ _ _ T255 (mkF m 343 _ [.null])
              refine Wk.astore X255 hx (hb hby at_343) (n := 345) rfl rfl (L' := #[.val (.int p1), .val (.int p2), .val (.int p3), .val (.int p4), .val (.int p5), .val (.int p6), .val (.ref b1), .val (.ref b5), .val (.ref b10), .val (.ref b13), .val (.int hm), .val (.int ng), .val (.int ov), .val u, .val (.ref r_148), .val (.ref b149), .val (.int ((p5 &&& (2147483647 : Int32)) % (5 : Int32))), .val (.ref b245), .val .null, .unset]) rfl ?_
              refine Wk.iload X255 hx (hb hby at_345) (n := 347) rfl rfl ?_
              refine Wk.iconst X255 hx (hb hby at_347) (n := 348) rfl (z := (1 : Int32)) rfl ?_
              have hc348_256 : (1 : Int32) < ((p5 &&& (2147483647 : Int32)) % (5 : Int32)) := own_kind (own_knn _) hc204 hc228
              refine Wk.icmpYes X255 hx (hb hby at_348) (tlt hc348_256).2.2.1 (by decide) (n := 433) (by decide) ?_
              refine Wk.aload X255 hx (hb hby at_433) (n := 435) rfl rfl rfl ?_
              refine Wk.ifnonnullNo X255 hx (hb hby at_435) (n := 438) rfl ?_
              refine Wk.iconst X255 hx (hb hby at_438) (n := 439) rfl (z := (1 : Int32)) rfl ?_
              refine Wk.goto X255 hx (hb hby at_439) (by decide) (n := 443) (by decide) ?_
              exact Wk.leave X255 (v := some (.int (1 : Int32))) (fun h => by rw [Bd.returns] at h; cases h) hlk e255 ⟨rfl, N255, K253⟩ (by decide) (by decide) (fun fs hr => retNz X255 hx (t := .boolean) rfl Bd.returns (by simp) (hb hby at_443) hr)
            ·
              refine Wk.icmpYes X150 hx (hb hby at_290) (feq hc290).2 (by decide) (n := 318) (by decide) ?_
              refine Wk.newO X150 hx hZ hown (hw _ (List.mem_of_getElem? (i := 57) rfl)) (hw _ (List.mem_of_getElem? (i := 58) rfl)) (hw _ (List.mem_of_getElem? (i := 59) rfl)) rfl (hb hby at_318) (n := 321) rfl (by decide) (by decide) fun T257 H257 b257 gn257 X257 e257 Ex257 An257 Dn257 Yn257 => ?_
              have gn257 := nx gn257
              have sz257 := Ex257.1
              have lt257 := ny An257.lt
              have K257 := K150.ext Ex257
              have Fn257_subject : Fld Z H257 b257 "com/example/depeche/depeche/profile/Condition" "subject" "Lcom/example/depeche/depeche/profile/Value$Source;" .null := Dn257 (Or.inr (hw _ (List.mem_of_getElem? (i := 84) rfl))) (ty := (.object "com/example/depeche/depeche/profile/Value$Source")) (by decide)
              have Fn257_values : Fld Z H257 b257 "com/example/depeche/depeche/profile/Condition" "values" "Ljava/util/Set;" .null := Dn257 (Or.inr (hw _ (List.mem_of_getElem? (i := 86) rfl))) (ty := (.object "java/util/Set")) (by decide)
              have Fn257_negated : Fld Z H257 b257 "com/example/depeche/depeche/profile/Condition" "negated" "Z" (.int (0 : Int32)) := Dn257 (Or.inr (hw _ (List.mem_of_getElem? (i := 88) rfl))) (ty := .boolean) (by decide)
              refine Wk.dup X257 hx (hb hby at_321) (n := 322) rfl rfl ?_
              refine Wk.newO X257 hx hZ hown (hw _ (List.mem_of_getElem? (i := 138) rfl)) (hw _ (List.mem_of_getElem? (i := 139) rfl)) (hw _ (List.mem_of_getElem? (i := 140) rfl)) e257 (hb hby at_322) (n := 325) rfl (by decide) (by decide) fun T258 H258 b258 gn258 X258 e258 Ex258 An258 Dn258 Yn258 => ?_
              have gn258 := nx gn258
              have sz258 := Ex258.1
              have lt258 := ny An258.lt
              have K258 := K257.ext Ex258
              refine Wk.dup X258 hx (hb hby at_325) (n := 326) rfl rfl ?_
              have cl259_ := fun (Ls : Array Slot) (hLs : Ls.size = c.maxLocals) => X258.specialBack hx (y := (⟨"com/example/depeche/depeche/profile/Value$Occurrence", "<init>", "()V"⟩ : MethodName)) rfl hown (mvT hZ (hw _ (List.mem_of_getElem? (i := 141) rfl))) (mvT hZ (hw _ (List.mem_of_getElem? (i := 142) rfl))) (mvT hZ (hw _ (List.mem_of_getElem? (i := 143) rfl))) (by decide) (backOf (W := 3) (rmOI l Z a0 hw [] b258 H258 n0 (by omega)) hZ (hw _ (List.mem_of_getElem? (i := 143) rfl)) (hw _ (List.mem_of_getElem? (i := 140) rfl)) (by decide) (by decide)) (g := mkF m 326 Ls [(.ref b258), (.ref b258), (.ref b257), (.ref b257)]) rfl hLs (Steps.refl _) (a := b258) (argsL := []) (rest := [(.ref b258), (.ref b257), (.ref b257)]) (lenOf pd_0 rfl) rfl (by show 2 * 0 + _ ≤ _; exact Nat.le_of_eq rfl) (hb hby at_326) (fun _ _ => ⟨rfl, e258, (by decide : 0 + 1 + 1 + 1 + 1 + 1 + 1 + 2 + 1 + 1 + 0 + 1 + 1 + 0 ≤ _), (by decide : 0 + 3 + 4 + 3 + 2 + 4 + 2 + 5 + 2 + 4 + 0 + 3 + 0 + 0 ≤ _)⟩)
              refine Wk.back (n := 329) (rc := 0) (rs := 0) (Q := Q_rmOI Z b258 H258 n0) (cl259_ _ (by rw [hml]; rfl)) fun vn259 T259 L259 X259 hQ259 => ?_
              clear cl259_
              obtain ⟨rfl, M259, e259⟩ := hQ259
              have N259 := Fr.app N150 M259
              show Wk p e below s _ _ _ T259 (mkF m 329 _ [(.ref b258), (.ref b257), (.ref b257)])
              refine Wk.aload X259 hx (hb hby at_329) (n := 331) rfl rfl rfl ?_
              refine Wk.iload X259 hx (hb hby at_331) (n := 333) rfl rfl ?_
              have f260 := (An257.ext Ex258)
              have f261 := ((((p148_0.ext Ex149).keep J150).ext Ex257).ext Ex258)
              have f262 := (Fn257_subject.ext Ex258)
              have f263 := (Fn257_values.ext Ex258)
              have f264 := (Fn257_negated.ext Ex258)
              have cl265_ := fun (Ls : Array Slot) (hLs : Ls.size = c.maxLocals) => X259.specialBack hx (y := (⟨"com/example/depeche/depeche/profile/Condition", "<init>", "(Lcom/example/depeche/depeche/profile/Value$Source;Ljava/util/Set;Z)V"⟩ : MethodName)) rfl hown (mvT hZ (hw _ (List.mem_of_getElem? (i := 134) rfl))) (mvT hZ (hw _ (List.mem_of_getElem? (i := 73) rfl))) (mvT hZ (hw _ (List.mem_of_getElem? (i := 74) rfl))) (by decide) (backOf (W := 1) (rmC1T l Z a0 hw [] b257 b258 r_148 ng .null .null (.int (0 : Int32)) H258 n0 (by omega) f260 f261 f262 f263 f264 (by omega) hng) hZ (hw _ (List.mem_of_getElem? (i := 74) rfl)) (hw _ (List.mem_of_getElem? (i := 59) rfl)) (by decide) (by decide)) (g := mkF m 333 Ls [(.int ng), (.ref r_148), (.ref b258), (.ref b257), (.ref b257)]) rfl hLs (Steps.refl _) (a := b257) (argsL := [(.ref b258), (.ref r_148), (.int ng)]) (rest := [(.ref b257)]) (lenOf pd_3 rfl) rfl (by show 2 * 0 + _ ≤ _; exact Nat.le_of_eq rfl) (hb hby at_333) (fun _ _ => ⟨rfl, e259, (by decide : 0 + 1 + 1 + 1 + 1 + 1 + 1 + 2 + 1 + 1 + 0 + 1 + 1 + 0 + 0 ≤ _), (by decide : 0 + 3 + 4 + 3 + 2 + 4 + 2 + 5 + 2 + 4 + 0 + 3 + 0 + 0 + 0 ≤ _)⟩)
              refine Wk.back (n := 336) (rc := 0) (rs := 0) (Q := Q_rmC1T Z b257 b258 r_148 ng .null .null (.int (0 : Int32)) H258 n0) (cl265_ _ (by rw [hml]; rfl)) fun vn265 T265 L265 X265 hQ265 => ?_
              clear cl265_
              obtain ⟨rfl, M265, J265, p265_0, p265_1⟩ := hQ265
              have N265 := Fr.app N259 M265
              have sz265 := J265.1
              have K265 := K258.trans J265 (allS (Or.inr (by omega)) all0)
              have lt_p265_0 := ny p265_0.lt
              show Wk p e below s _ _ _ T265 (mkF m 336 _ [(.ref b257)])
              refine Wk.astore X265 hx (hb hby at_336) (n := 338) rfl rfl (L' := #[.val (.int p1), .val (.int p2), .val (.int p3), .val (.int p4), .val (.int p5), .val (.int p6), .val (.ref b1), .val (.ref b5), .val (.ref b10), .val (.ref b13), .val (.int hm), .val (.int ng), .val (.int ov), .val u, .val (.ref r_148), .val (.ref b149), .val (.int ((p5 &&& (2147483647 : Int32)) % (5 : Int32))), .val (.ref b257), .unset, .unset]) rfl ?_
              refine Wk.aload X265 hx (hb hby at_338) (n := 340) rfl rfl rfl ?_
              have f266 := (An258.keep J265)
              obtain ⟨cq267, kq267, qn267a, qn267b, qn267c⟩ := isOf hZ rfl p265_0
              have cl267_ := fun (Ls : Array Slot) (hLs : Ls.size = c.maxLocals) => X265.virtualBack hx (y := (⟨"com/example/depeche/depeche/profile/Condition", "path", "()Lcom/example/depeche/depeche/profile/Path;"⟩ : MethodName)) (z := (⟨"com/example/depeche/depeche/profile/Condition", "path", "()Lcom/example/depeche/depeche/profile/Path;"⟩ : MethodName)) hown (mvT hZ (hw _ (List.mem_of_getElem? (i := 89) rfl))) (mvT hZ (hw _ (List.mem_of_getElem? (i := 90) rfl))) (notFace_of_selects (args := #[]) (mvT hZ (hw _ (List.mem_of_getElem? (i := 92) rfl)))) (mvT hZ (hw _ (List.mem_of_getElem? (i := 92) rfl))) (mvT hZ (hw _ (List.mem_of_getElem? (i := 91) rfl))) (by decide) (backOf (W := 0) (rmPtN l Z a0 hw [] b257 b258 ("com/example/depeche/depeche/profile/Value$Occurrence") T265.heap n0 (by omega) p265_1 f266 (own_nota (hw _ (List.mem_of_getElem? (i := 145) rfl)) (hw _ (List.mem_of_getElem? (i := 64) rfl)) (NS.step (hw _ (List.mem_of_getElem? (i := 145) rfl)) (NS.step (hw _ (List.mem_of_getElem? (i := 136) rfl)) (own_root (hw _ (List.mem_of_getElem? (i := 137) rfl)) (hw _ (List.mem_of_getElem? (i := 64) rfl)) (by decide)) (by decide)) (by decide)) (by decide))) hZ (hw _ (List.mem_of_getElem? (i := 93) rfl)) (hw _ (List.mem_of_getElem? (i := 59) rfl)) (by decide) (by decide)) qn267a qn267c (g := mkF m 340 Ls [(.ref b257)]) rfl hLs (Steps.refl _) (argsL := []) (rest := []) (lenOf pd_4 rfl) rfl (by show 2 * 0 + _ ≤ _; exact Nat.le_of_eq rfl) (hb hby at_340) (fun _ _ => ⟨rfl, rfl, (by decide : 0 + 1 + 1 + 1 + 1 + 1 + 1 + 2 + 1 + 1 + 0 + 1 + 1 + 0 + 0 + 0 ≤ _), (by decide : 0 + 3 + 4 + 3 + 2 + 4 + 2 + 5 + 2 + 4 + 0 + 3 + 0 + 0 + 0 + 0 ≤ _)⟩)
              refine Wk.back (n := 343) (rc := 0) (rs := 0) (Q := Q_rmPtN Z b257 b258 ("com/example/depeche/depeche/profile/Value$Occurrence") T265.heap n0) (cl267_ _ (by rw [hml]; rfl)) fun vn267 T267 L267 X267 hQ267 => ?_
              clear cl267_
              obtain ⟨rfl, M267, e267⟩ := hQ267
              have N267 := Fr.app N265 M267
              show Wk p e below s _ _ _ T267 (mkF m 343 _ [.null])
              refine Wk.astore X267 hx (hb hby at_343) (n := 345) rfl rfl (L' := #[.val (.int p1), .val (.int p2), .val (.int p3), .val (.int p4), .val (.int p5), .val (.int p6), .val (.ref b1), .val (.ref b5), .val (.ref b10), .val (.ref b13), .val (.int hm), .val (.int ng), .val (.int ov), .val u, .val (.ref r_148), .val (.ref b149), .val (.int ((p5 &&& (2147483647 : Int32)) % (5 : Int32))), .val (.ref b257), .val .null, .unset]) rfl ?_
              refine Wk.iload X267 hx (hb hby at_345) (n := 347) rfl rfl ?_
              refine Wk.iconst X267 hx (hb hby at_347) (n := 348) rfl (z := (1 : Int32)) rfl ?_
              have hc348_268 : (1 : Int32) < ((p5 &&& (2147483647 : Int32)) % (5 : Int32)) := own_kind (own_knn _) hc204 hc228
              refine Wk.icmpYes X267 hx (hb hby at_348) (tlt hc348_268).2.2.1 (by decide) (n := 433) (by decide) ?_
              refine Wk.aload X267 hx (hb hby at_433) (n := 435) rfl rfl rfl ?_
              refine Wk.ifnonnullNo X267 hx (hb hby at_435) (n := 438) rfl ?_
              refine Wk.iconst X267 hx (hb hby at_438) (n := 439) rfl (z := (1 : Int32)) rfl ?_
              refine Wk.goto X267 hx (hb hby at_439) (by decide) (n := 443) (by decide) ?_
              exact Wk.leave X267 (v := some (.int (1 : Int32))) (fun h => by rw [Bd.returns] at h; cases h) hlk e267 ⟨rfl, N267, K265⟩ (by decide) (by decide) (fun fs hr => retNz X267 hx (t := .boolean) rfl Bd.returns (by simp) (hb hby at_443) hr)
  refine Wk.iload X14 hx (hb hby at_86) (n := 88) rfl rfl ?_
  refine Wk.bipush X14 hx (hb hby at_88) (n := 90) rfl (z := (8 : Int32)) rfl ?_
  refine Wk.iushr X14 hx (hb hby at_90) (n := 91) rfl ?_
  refine Wk.iconst X14 hx (hb hby at_91) (n := 92) rfl (z := (1 : Int32)) rfl ?_
  refine Wk.iand X14 hx (hb hby at_92) (n := 93) rfl ?_
  by_cases hc93 : (((p5.toUInt32 >>> ((8 : Int32) &&& 31).toUInt32).toInt32) &&& (1 : Int32)) = (0 : Int32)
  ·
    refine Wk.ifYes X14 hx (hb hby at_93) ((if0 _ _).trans (teq hc93).1) (by decide) (n := 100) (by decide) ?_
    refine Wk.iconst X14 hx (hb hby at_100) (n := 101) rfl (z := (0 : Int32)) rfl ?_
    refine Wk.istore X14 hx (hb hby at_101) (n := 103) rfl (L' := #[.val (.int p1), .val (.int p2), .val (.int p3), .val (.int p4), .val (.int p5), .val (.int p6), .val (.ref b1), .val (.ref b5), .val (.ref b10), .val (.ref b13), .val (.int (0 : Int32)), .unset, .unset, .unset, .unset, .unset, .unset, .unset, .unset, .unset]) rfl ?_
    refine Wk.iload X14 hx (hb hby at_103) (n := 105) rfl rfl ?_
    refine Wk.bipush X14 hx (hb hby at_105) (n := 107) rfl (z := (9 : Int32)) rfl ?_
    refine Wk.iushr X14 hx (hb hby at_107) (n := 108) rfl ?_
    refine Wk.iconst X14 hx (hb hby at_108) (n := 109) rfl (z := (1 : Int32)) rfl ?_
    refine Wk.iand X14 hx (hb hby at_109) (n := 110) rfl ?_
    by_cases hc110 : (((p5.toUInt32 >>> ((9 : Int32) &&& 31).toUInt32).toInt32) &&& (1 : Int32)) = (0 : Int32)
    ·
      refine Wk.ifYes X14 hx (hb hby at_110) ((if0 _ _).trans (teq hc110).1) (by decide) (n := 117) (by decide) ?_
      refine Wk.iconst X14 hx (hb hby at_117) (n := 118) rfl (z := (0 : Int32)) rfl ?_
      refine Wk.istore X14 hx (hb hby at_118) (n := 120) rfl (L' := #[.val (.int p1), .val (.int p2), .val (.int p3), .val (.int p4), .val (.int p5), .val (.int p6), .val (.ref b1), .val (.ref b5), .val (.ref b10), .val (.ref b13), .val (.int (0 : Int32)), .val (.int (0 : Int32)), .unset, .unset, .unset, .unset, .unset, .unset, .unset, .unset]) rfl ?_
      refine Wk.iload X14 hx (hb hby at_120) (n := 122) rfl rfl ?_
      refine Wk.bipush X14 hx (hb hby at_122) (n := 124) rfl (z := (10 : Int32)) rfl ?_
      refine Wk.iushr X14 hx (hb hby at_124) (n := 125) rfl ?_
      refine Wk.iconst X14 hx (hb hby at_125) (n := 126) rfl (z := (1 : Int32)) rfl ?_
      refine Wk.iand X14 hx (hb hby at_126) (n := 127) rfl ?_
      by_cases hc127 : (((p5.toUInt32 >>> ((10 : Int32) &&& 31).toUInt32).toInt32) &&& (1 : Int32)) = (0 : Int32)
      ·
        refine Wk.ifYes X14 hx (hb hby at_127) ((if0 _ _).trans (teq hc127).1) (by decide) (n := 134) (by decide) ?_
        refine Wk.iconst X14 hx (hb hby at_134) (n := 135) rfl (z := (0 : Int32)) rfl ?_
        refine Wk.istore X14 hx (hb hby at_135) (n := 137) rfl (L' := #[.val (.int p1), .val (.int p2), .val (.int p3), .val (.int p4), .val (.int p5), .val (.int p6), .val (.ref b1), .val (.ref b5), .val (.ref b10), .val (.ref b13), .val (.int (0 : Int32)), .val (.int (0 : Int32)), .val (.int (0 : Int32)), .unset, .unset, .unset, .unset, .unset, .unset, .unset]) rfl ?_
        refine Wk.iload X14 hx (hb hby at_137) (n := 139) rfl rfl ?_
        have hc139_269 : (0 : Int32) = (0 : Int32) := rfl
        refine Wk.ifYes X14 hx (hb hby at_139) ((if0 _ _).trans (teq hc139_269).1) (by decide) (n := 147) (by decide) ?_
        refine Wk.aconstNull X14 hx (hb hby at_147) (n := 148) rfl ?_
        exact Jp148 _ _ _ _ rfl (Or.inl rfl)
      ·
        refine Wk.ifNo X14 hx (hb hby at_127) (n := 130) rfl ((if0 _ _).trans (feq hc127).1) ?_
        refine Wk.iconst X14 hx (hb hby at_130) (n := 131) rfl (z := (1 : Int32)) rfl ?_
        refine Wk.goto X14 hx (hb hby at_131) (by decide) (n := 135) (by decide) ?_
        refine Wk.istore X14 hx (hb hby at_135) (n := 137) rfl (L' := #[.val (.int p1), .val (.int p2), .val (.int p3), .val (.int p4), .val (.int p5), .val (.int p6), .val (.ref b1), .val (.ref b5), .val (.ref b10), .val (.ref b13), .val (.int (0 : Int32)), .val (.int (0 : Int32)), .val (.int (1 : Int32)), .unset, .unset, .unset, .unset, .unset, .unset, .unset]) rfl ?_
        refine Wk.iload X14 hx (hb hby at_137) (n := 139) rfl rfl ?_
        have hc139_270 : (0 : Int32) = (0 : Int32) := rfl
        refine Wk.ifYes X14 hx (hb hby at_139) ((if0 _ _).trans (teq hc139_270).1) (by decide) (n := 147) (by decide) ?_
        refine Wk.aconstNull X14 hx (hb hby at_147) (n := 148) rfl ?_
        exact Jp148 _ _ _ _ rfl (Or.inl rfl)
    ·
      refine Wk.ifNo X14 hx (hb hby at_110) (n := 113) rfl ((if0 _ _).trans (feq hc110).1) ?_
      refine Wk.iconst X14 hx (hb hby at_113) (n := 114) rfl (z := (1 : Int32)) rfl ?_
      refine Wk.goto X14 hx (hb hby at_114) (by decide) (n := 118) (by decide) ?_
      refine Wk.istore X14 hx (hb hby at_118) (n := 120) rfl (L' := #[.val (.int p1), .val (.int p2), .val (.int p3), .val (.int p4), .val (.int p5), .val (.int p6), .val (.ref b1), .val (.ref b5), .val (.ref b10), .val (.ref b13), .val (.int (0 : Int32)), .val (.int (1 : Int32)), .unset, .unset, .unset, .unset, .unset, .unset, .unset, .unset]) rfl ?_
      refine Wk.iload X14 hx (hb hby at_120) (n := 122) rfl rfl ?_
      refine Wk.bipush X14 hx (hb hby at_122) (n := 124) rfl (z := (10 : Int32)) rfl ?_
      refine Wk.iushr X14 hx (hb hby at_124) (n := 125) rfl ?_
      refine Wk.iconst X14 hx (hb hby at_125) (n := 126) rfl (z := (1 : Int32)) rfl ?_
      refine Wk.iand X14 hx (hb hby at_126) (n := 127) rfl ?_
      by_cases hc127 : (((p5.toUInt32 >>> ((10 : Int32) &&& 31).toUInt32).toInt32) &&& (1 : Int32)) = (0 : Int32)
      ·
        refine Wk.ifYes X14 hx (hb hby at_127) ((if0 _ _).trans (teq hc127).1) (by decide) (n := 134) (by decide) ?_
        refine Wk.iconst X14 hx (hb hby at_134) (n := 135) rfl (z := (0 : Int32)) rfl ?_
        refine Wk.istore X14 hx (hb hby at_135) (n := 137) rfl (L' := #[.val (.int p1), .val (.int p2), .val (.int p3), .val (.int p4), .val (.int p5), .val (.int p6), .val (.ref b1), .val (.ref b5), .val (.ref b10), .val (.ref b13), .val (.int (0 : Int32)), .val (.int (1 : Int32)), .val (.int (0 : Int32)), .unset, .unset, .unset, .unset, .unset, .unset, .unset]) rfl ?_
        refine Wk.iload X14 hx (hb hby at_137) (n := 139) rfl rfl ?_
        have hc139_271 : (0 : Int32) = (0 : Int32) := rfl
        refine Wk.ifYes X14 hx (hb hby at_139) ((if0 _ _).trans (teq hc139_271).1) (by decide) (n := 147) (by decide) ?_
        refine Wk.aconstNull X14 hx (hb hby at_147) (n := 148) rfl ?_
        exact Jp148 _ _ _ _ rfl (Or.inl rfl)
      ·
        refine Wk.ifNo X14 hx (hb hby at_127) (n := 130) rfl ((if0 _ _).trans (feq hc127).1) ?_
        refine Wk.iconst X14 hx (hb hby at_130) (n := 131) rfl (z := (1 : Int32)) rfl ?_
        refine Wk.goto X14 hx (hb hby at_131) (by decide) (n := 135) (by decide) ?_
        refine Wk.istore X14 hx (hb hby at_135) (n := 137) rfl (L' := #[.val (.int p1), .val (.int p2), .val (.int p3), .val (.int p4), .val (.int p5), .val (.int p6), .val (.ref b1), .val (.ref b5), .val (.ref b10), .val (.ref b13), .val (.int (0 : Int32)), .val (.int (1 : Int32)), .val (.int (1 : Int32)), .unset, .unset, .unset, .unset, .unset, .unset, .unset]) rfl ?_
        refine Wk.iload X14 hx (hb hby at_137) (n := 139) rfl rfl ?_
        have hc139_272 : (0 : Int32) = (0 : Int32) := rfl
        refine Wk.ifYes X14 hx (hb hby at_139) ((if0 _ _).trans (teq hc139_272).1) (by decide) (n := 147) (by decide) ?_
        refine Wk.aconstNull X14 hx (hb hby at_147) (n := 148) rfl ?_
        exact Jp148 _ _ _ _ rfl (Or.inl rfl)
  ·
    refine Wk.ifNo X14 hx (hb hby at_93) (n := 96) rfl ((if0 _ _).trans (feq hc93).1) ?_
    refine Wk.iconst X14 hx (hb hby at_96) (n := 97) rfl (z := (1 : Int32)) rfl ?_
    refine Wk.goto X14 hx (hb hby at_97) (by decide) (n := 101) (by decide) ?_
    refine Wk.istore X14 hx (hb hby at_101) (n := 103) rfl (L' := #[.val (.int p1), .val (.int p2), .val (.int p3), .val (.int p4), .val (.int p5), .val (.int p6), .val (.ref b1), .val (.ref b5), .val (.ref b10), .val (.ref b13), .val (.int (1 : Int32)), .unset, .unset, .unset, .unset, .unset, .unset, .unset, .unset, .unset]) rfl ?_
    refine Wk.iload X14 hx (hb hby at_103) (n := 105) rfl rfl ?_
    refine Wk.bipush X14 hx (hb hby at_105) (n := 107) rfl (z := (9 : Int32)) rfl ?_
    refine Wk.iushr X14 hx (hb hby at_107) (n := 108) rfl ?_
    refine Wk.iconst X14 hx (hb hby at_108) (n := 109) rfl (z := (1 : Int32)) rfl ?_
    refine Wk.iand X14 hx (hb hby at_109) (n := 110) rfl ?_
    by_cases hc110 : (((p5.toUInt32 >>> ((9 : Int32) &&& 31).toUInt32).toInt32) &&& (1 : Int32)) = (0 : Int32)
    ·
      refine Wk.ifYes X14 hx (hb hby at_110) ((if0 _ _).trans (teq hc110).1) (by decide) (n := 117) (by decide) ?_
      refine Wk.iconst X14 hx (hb hby at_117) (n := 118) rfl (z := (0 : Int32)) rfl ?_
      refine Wk.istore X14 hx (hb hby at_118) (n := 120) rfl (L' := #[.val (.int p1), .val (.int p2), .val (.int p3), .val (.int p4), .val (.int p5), .val (.int p6), .val (.ref b1), .val (.ref b5), .val (.ref b10), .val (.ref b13), .val (.int (1 : Int32)), .val (.int (0 : Int32)), .unset, .unset, .unset, .unset, .unset, .unset, .unset, .unset]) rfl ?_
      refine Wk.iload X14 hx (hb hby at_120) (n := 122) rfl rfl ?_
      refine Wk.bipush X14 hx (hb hby at_122) (n := 124) rfl (z := (10 : Int32)) rfl ?_
      refine Wk.iushr X14 hx (hb hby at_124) (n := 125) rfl ?_
      refine Wk.iconst X14 hx (hb hby at_125) (n := 126) rfl (z := (1 : Int32)) rfl ?_
      refine Wk.iand X14 hx (hb hby at_126) (n := 127) rfl ?_
      by_cases hc127 : (((p5.toUInt32 >>> ((10 : Int32) &&& 31).toUInt32).toInt32) &&& (1 : Int32)) = (0 : Int32)
      ·
        refine Wk.ifYes X14 hx (hb hby at_127) ((if0 _ _).trans (teq hc127).1) (by decide) (n := 134) (by decide) ?_
        refine Wk.iconst X14 hx (hb hby at_134) (n := 135) rfl (z := (0 : Int32)) rfl ?_
        refine Wk.istore X14 hx (hb hby at_135) (n := 137) rfl (L' := #[.val (.int p1), .val (.int p2), .val (.int p3), .val (.int p4), .val (.int p5), .val (.int p6), .val (.ref b1), .val (.ref b5), .val (.ref b10), .val (.ref b13), .val (.int (1 : Int32)), .val (.int (0 : Int32)), .val (.int (0 : Int32)), .unset, .unset, .unset, .unset, .unset, .unset, .unset]) rfl ?_
        refine Wk.iload X14 hx (hb hby at_137) (n := 139) rfl rfl ?_
        have hc139_273 : ¬ ((1 : Int32) = (0 : Int32)) := by decide
        refine Wk.ifNo X14 hx (hb hby at_139) (n := 142) rfl ((if0 _ _).trans (feq hc139_273).1) ?_
        refine Wk.aload X14 hx (hb hby at_142) (n := 144) rfl rfl rfl ?_
        refine Wk.goto X14 hx (hb hby at_144) (by decide) (n := 148) (by decide) ?_
        exact Jp148 _ _ _ _ rfl (Or.inr rfl)
      ·
        refine Wk.ifNo X14 hx (hb hby at_127) (n := 130) rfl ((if0 _ _).trans (feq hc127).1) ?_
        refine Wk.iconst X14 hx (hb hby at_130) (n := 131) rfl (z := (1 : Int32)) rfl ?_
        refine Wk.goto X14 hx (hb hby at_131) (by decide) (n := 135) (by decide) ?_
        refine Wk.istore X14 hx (hb hby at_135) (n := 137) rfl (L' := #[.val (.int p1), .val (.int p2), .val (.int p3), .val (.int p4), .val (.int p5), .val (.int p6), .val (.ref b1), .val (.ref b5), .val (.ref b10), .val (.ref b13), .val (.int (1 : Int32)), .val (.int (0 : Int32)), .val (.int (1 : Int32)), .unset, .unset, .unset, .unset, .unset, .unset, .unset]) rfl ?_
        refine Wk.iload X14 hx (hb hby at_137) (n := 139) rfl rfl ?_
        have hc139_274 : ¬ ((1 : Int32) = (0 : Int32)) := by decide
        refine Wk.ifNo X14 hx (hb hby at_139) (n := 142) rfl ((if0 _ _).trans (feq hc139_274).1) ?_
        refine Wk.aload X14 hx (hb hby at_142) (n := 144) rfl rfl rfl ?_
        refine Wk.goto X14 hx (hb hby at_144) (by decide) (n := 148) (by decide) ?_
        exact Jp148 _ _ _ _ rfl (Or.inr rfl)
    ·
      refine Wk.ifNo X14 hx (hb hby at_110) (n := 113) rfl ((if0 _ _).trans (feq hc110).1) ?_
      refine Wk.iconst X14 hx (hb hby at_113) (n := 114) rfl (z := (1 : Int32)) rfl ?_
      refine Wk.goto X14 hx (hb hby at_114) (by decide) (n := 118) (by decide) ?_
      refine Wk.istore X14 hx (hb hby at_118) (n := 120) rfl (L' := #[.val (.int p1), .val (.int p2), .val (.int p3), .val (.int p4), .val (.int p5), .val (.int p6), .val (.ref b1), .val (.ref b5), .val (.ref b10), .val (.ref b13), .val (.int (1 : Int32)), .val (.int (1 : Int32)), .unset, .unset, .unset, .unset, .unset, .unset, .unset, .unset]) rfl ?_
      refine Wk.iload X14 hx (hb hby at_120) (n := 122) rfl rfl ?_
      refine Wk.bipush X14 hx (hb hby at_122) (n := 124) rfl (z := (10 : Int32)) rfl ?_
      refine Wk.iushr X14 hx (hb hby at_124) (n := 125) rfl ?_
      refine Wk.iconst X14 hx (hb hby at_125) (n := 126) rfl (z := (1 : Int32)) rfl ?_
      refine Wk.iand X14 hx (hb hby at_126) (n := 127) rfl ?_
      by_cases hc127 : (((p5.toUInt32 >>> ((10 : Int32) &&& 31).toUInt32).toInt32) &&& (1 : Int32)) = (0 : Int32)
      ·
        refine Wk.ifYes X14 hx (hb hby at_127) ((if0 _ _).trans (teq hc127).1) (by decide) (n := 134) (by decide) ?_
        refine Wk.iconst X14 hx (hb hby at_134) (n := 135) rfl (z := (0 : Int32)) rfl ?_
        refine Wk.istore X14 hx (hb hby at_135) (n := 137) rfl (L' := #[.val (.int p1), .val (.int p2), .val (.int p3), .val (.int p4), .val (.int p5), .val (.int p6), .val (.ref b1), .val (.ref b5), .val (.ref b10), .val (.ref b13), .val (.int (1 : Int32)), .val (.int (1 : Int32)), .val (.int (0 : Int32)), .unset, .unset, .unset, .unset, .unset, .unset, .unset]) rfl ?_
        refine Wk.iload X14 hx (hb hby at_137) (n := 139) rfl rfl ?_
        have hc139_275 : ¬ ((1 : Int32) = (0 : Int32)) := by decide
        refine Wk.ifNo X14 hx (hb hby at_139) (n := 142) rfl ((if0 _ _).trans (feq hc139_275).1) ?_
        refine Wk.aload X14 hx (hb hby at_142) (n := 144) rfl rfl rfl ?_
        refine Wk.goto X14 hx (hb hby at_144) (by decide) (n := 148) (by decide) ?_
        exact Jp148 _ _ _ _ rfl (Or.inr rfl)
      ·
        refine Wk.ifNo X14 hx (hb hby at_127) (n := 130) rfl ((if0 _ _).trans (feq hc127).1) ?_
        refine Wk.iconst X14 hx (hb hby at_130) (n := 131) rfl (z := (1 : Int32)) rfl ?_
        refine Wk.goto X14 hx (hb hby at_131) (by decide) (n := 135) (by decide) ?_
        refine Wk.istore X14 hx (hb hby at_135) (n := 137) rfl (L' := #[.val (.int p1), .val (.int p2), .val (.int p3), .val (.int p4), .val (.int p5), .val (.int p6), .val (.ref b1), .val (.ref b5), .val (.ref b10), .val (.ref b13), .val (.int (1 : Int32)), .val (.int (1 : Int32)), .val (.int (1 : Int32)), .unset, .unset, .unset, .unset, .unset, .unset, .unset]) rfl ?_
        refine Wk.iload X14 hx (hb hby at_137) (n := 139) rfl rfl ?_
        have hc139_276 : ¬ ((1 : Int32) = (0 : Int32)) := by decide
        refine Wk.ifNo X14 hx (hb hby at_139) (n := 142) rfl ((if0 _ _).trans (feq hc139_276).1) ?_
        refine Wk.aload X14 hx (hb hby at_142) (n := 144) rfl rfl rfl ?_
        refine Wk.goto X14 hx (hb hby at_144) (by decide) (n := 148) (by decide) ?_
        exact Jp148 _ _ _ _ rfl (Or.inr rfl)
set_option maxRecDepth 65536 in
set_option maxHeartbeats 40000000 in
theorem comes_1 {Post : Tables → Env → Array Value → State → Outcome → State → Prop} (hpost : ∀ tb e args s v u, (limb_1_1.after args s (.returned v) u = true ∧ limb_1_2.after args s (.returned v) u = true ∧ True) → FrameEnd s (.returned v) u (Jvm.fieldLocs frame_1_writes args s ++ Jvm.arrayLocs frame_1_arrays args s ++ Jvm.staticLocs frame_1_statics s) 32 192 → Post tb e args s (.returned v) u) :
    ArmFor flags0 classFile x code maxLocals ret World_1 tables_1 room_1 Calls_1 rest_1 Pre_1 Post := by
  intro l hfl _ _ p e ha hc hk s m args below hf hA hF happ hP
  obtain ⟨hcalls, hrest, hpre⟩ := hP
  obtain ⟨-, -, -, hnamed, -, -, -, hat⟩ := (Spec.applies_iff hf).mp happ
  obtain ⟨hg, hn⟩ := and_e (Cond.before_iff.mp (show (Jvm.Cond.and given_1 narrow_1).before args s = true from hpre))
  obtain ⟨gc, gr⟩ := and_e hg
  obtain ⟨w0, w1, w2, w3, w4, w5, rfl⟩ : ∃ w0 w1 w2 w3 w4 w5 : Value, args = #[w0, w1, w2, w3, w4, w5] := by
    have hs : args.size = 6 := by simpa [Cond.value, given_1] using gc
    obtain ⟨L⟩ := args
    match L, hs with
    | [w0, w1, w2, w3, w4, w5], _ => exact ⟨w0, w1, w2, w3, w4, w5, rfl⟩
  have hw := fun d (hd : d ∈ tables_1) => atoms_spec (ws := Jvm.Cond.code x code maxLocals ret :: tables_1) hat d (List.mem_cons_of_mem _ hd)
  have hfit : Fit s := fun {y c} hc i hi => by
    obtain ⟨ha, rfl⟩ := Array.getElem?_eq_some_iff.mp hc
    have q := List.all_eq_true.mp ((Array.all_eq_true_iff_forall_mem.mp hF) _ (Array.getElem_mem ha)) i (List.mem_range.mpr hi)
    simpa [Array.getElem?_eq_getElem hi] using q
  obtain ⟨hsets, hown0⟩ := atoms_of _ (rest_1_c_eq ▸ (show rest_1_c.before _ s = true from hrest))
  have hr0 := Cond.before_iff.mp hown0
  obtain ⟨g0, gr⟩ := and_e gr
  obtain ⟨i0, ei0⟩ := is_v g0
  obtain rfl : w0 = (.int i0) := Option.some.inj ei0
  obtain ⟨g1, gr⟩ := and_e gr
  obtain ⟨i1, ei1⟩ := is_v g1
  obtain rfl : w1 = (.int i1) := Option.some.inj ei1
  obtain ⟨g2, gr⟩ := and_e gr
  obtain ⟨i2, ei2⟩ := is_v g2
  obtain rfl : w2 = (.int i2) := Option.some.inj ei2
  obtain ⟨g3, gr⟩ := and_e gr
  obtain ⟨i3, ei3⟩ := is_v g3
  obtain rfl : w3 = (.int i3) := Option.some.inj ei3
  obtain ⟨g4, gr⟩ := and_e gr
  obtain ⟨i4, ei4⟩ := is_v g4
  obtain rfl : w4 = (.int i4) := Option.some.inj ei4
  obtain ⟨i5, ei5⟩ := is_v gr
  obtain rfl : w5 = (.int i5) := Option.some.inj ei5
  obtain ⟨zc, ez⟩ := is_v (Cond.before_iff.mp (hsets _ (List.mem_of_getElem? (i := 1) rfl)))
  have S4 := Sta.start ez (Or.inl (hsets _ (List.mem_of_getElem? (i := 0) rfl)))
  have hCS : ¬ zc = 0 := own_ne0 ez (Cond.before_iff.mp (hsets _ (List.mem_of_getElem? (i := 2) rfl)))
  obtain ⟨w1, ew⟩ := exa_v (Cond.before_iff.mp (hsets _ (List.mem_of_getElem? (i := 11) rfl)))
  have S1 := Sta.start ew (Or.inl (hsets _ (List.mem_of_getElem? (i := 10) rfl)))
  have Ew := Exa.start ew (Cond.before_iff.mp (hsets _ (List.mem_of_getElem? (i := 11) rfl)))
  obtain ⟨wm, em⟩ := exa_v (Cond.before_iff.mp (hsets _ (List.mem_of_getElem? (i := 18) rfl)))
  have S2 := Sta.start em (Or.inl (hsets _ (List.mem_of_getElem? (i := 17) rfl)))
  obtain ⟨n, o, h1, h2, h3, _, L, rfl, ⟨rfl, N, -⟩, hq⟩ := rm0 l s _ hw tables_1 i0 i1 i2 i3 i4 i5 zc w1 wm s.heap s.heap.size (Nat.le_refl _) S4 S1 Ew S2 (Old.start s) hCS p e ha hc hk s m _ below hf ((Spec.applies_iff_loose hf).mp happ).1 ⟨rfl, State.Warmed39.refl s, rfl⟩ trivial
  refine ⟨n, _, h1, h2, h3, hpost _ _ _ _ _ _ ⟨Cond.after_iff.mpr rfl, Cond.after_iff.mpr (eq_i res_at (Term.int_eval (1)) rfl), trivial⟩ ⟨hq.1, hq.2.1, (hq.2.2.sift fun y hy => Or.inr (N y hy)).mono (by decide) (by decide)⟩⟩
theorem main_1_1 : Claimed_1_1 := comes_1 fun _ _ _ _ _ _ h hF => ⟨h.1, hF⟩
theorem main_1_2 : Claimed_1_2 := comes_1 fun _ _ _ _ _ _ h hF => ⟨h.2.1, hF⟩
end Jvm.Pilot.@@N@@
namespace Jvm.Pilot.@@N@@
open Jvm Jvm.ClassFile Sem Op Lib Jvm.Free Jvm.Stand Jvm.Pilot.@@N@@.Jvm.D
/-! MADE BY PROGRAM (witnessworld.py) out of the Statement's table words and the real class files: 43 classes; the members and pool entries that the words name. The judged class is class 1, her method 1. -/
namespace start1
open Jvm.ClassFile
def u (s : String) : CpInfo := .utf8 (stringToUtf16 s)
/-- a pool by its gaps: so many unusable entries, then the entry; so many at the end -/
def gap : Nat → List CpInfo → List CpInfo
  | 0, r => r
  | n + 1, r => .unusable :: gap n r
def poolList (es : List (Nat × CpInfo)) (last : Nat) : List CpInfo := es.foldr (fun e r => gap e.1 (e.2 :: r)) (gap last [])
def pool (es : List (Nat × CpInfo)) (last : Nat) : Array CpInfo := ⟨poolList es last⟩
def fileOf (pool : Array CpInfo) (this : Nat) (attrs : Array Attribute := #[]) (ms : Array MethodInfo := #[]) (fl : Nat := 33) (sup : Nat := 0) (ifs : Array Nat := #[]) (fds : Array FieldInfo := #[]) : ClassFile where
  minorVersion := 0
  majorVersion := 65
  constantPool := pool
  accessFlags := fl
  thisClass := this
  superClass := sup
  interfaces := ifs
  fields := fds
  methods := ms
  attributes := attrs
def plain (name : String) (sup : Option ClassId) : Class where
  name := name
  kind := .ordinary
  loader := none
  accessFlags := 33
  super := sup
  interfaces := #[]
  cf := none
  fields := #[]
  methods := #[]
  instanceTypes := #[]
  staticTypes := #[]
  resolved := #[]
  callSites := []
  init := .initialized
  statics := none
  mirror := none

def pool0 : Array CpInfo := pool [(5, u "<init>"), (0, u "()V"), (1, .class_ 10), (1, u "java/lang/Object")] 113

def k0c0 : Code := { maxStack := 0, maxLocals := 1, code := object_method_1_code, exceptionTable := #[], attributes := #[] }
def k0m0 : Method := { name := "<init>", desc := "()V", sig := { parameters := [], returnType := none }, accessFlags := 1, code := some k0c0 }
/-- java/lang/Object -/
def k0 : Class := { plain "java/lang/Object" none with
  accessFlags := 33
  interfaces := #[]
  cf := some (fileOf pool0 8 #[] #[{ accessFlags := 1, nameIndex := 5, descriptorIndex := 6, attributes := #[] }] 33 0 #[] #[])
  fields := #[]
  methods := #[k0m0]
  instanceTypes := #[]
  staticTypes := #[]
  resolved := Array.replicate 124 none
  statics := none }

def pool1 : Array CpInfo := pool [(2, .class_ 4), (0, .nameAndType 5 6), (0, u "java/lang/Object"), (0, u "<init>"), (0, u "()V"), (0, .class_ 8), (0, u "java/lang/String"), (0, .methodref 7 10), (0, .nameAndType 5 11), (0, u "([C)V"), (0, .methodref 7 13), (0, .nameAndType 14 15), (0, u "valueOf"), (0, u "(C)Ljava/lang/String;"), (0, .interfaceMethodref 17 18), (0, .class_ 19), (0, .nameAndType 20 21), (0, u "java/util/Set"), (0, u "of"), (0, u "(Ljava/lang/Object;)Ljava/util/Set;"), (0, .interfaceMethodref 17 23), (0, .nameAndType 20 24), (0, u "()Ljava/util/Set;"), (0, .class_ 26), (0, u "com/example/depeche/depeche/profile/Path"), (0, .methodref 25 28), (0, .nameAndType 5 29), (0, u "(Ljava/lang/String;IILjava/lang/String;)V"), (0, .integer 2147483647), (0, .class_ 32), (0, u "com/example/depeche/depeche/profile/Condition"), (0, .methodref 31 34), (0, .nameAndType 5 35), (0, u "(Lcom/example/depeche/depeche/profile/Path;Ljava/util/Set;Z)V"), (0, .class_ 37), (0, u "com/example/depeche/depeche/profile/Value$Field"), (0, .methodref 36 39), (0, .nameAndType 5 40), (0, u "(Lcom/example/depeche/depeche/profile/Path;)V"), (0, .methodref 31 42), (0, .nameAndType 5 43), (0, u "(Lcom/example/depeche/depeche/profile/Value$Source;Ljava/util/Set;Z)V"), (0, .class_ 45), (0, u "com/example/depeche/depeche/profile/Value$Count"), (0, .methodref 44 47), (0, .nameAndType 5 48), (0, u "(Ljava/lang/String;)V"), (0, .class_ 50), (0, u "com/example/depeche/depeche/profile/Value$Text"), (0, .methodref 49 47), (0, .class_ 53), (0, u "com/example/depeche/depeche/profile/Value$Occurrence"), (0, .methodref 52 3), (0, .methodref 31 56), (0, .nameAndType 57 58), (0, u "path"), (0, u "()Lcom/example/depeche/depeche/profile/Path;"), (0, .methodref 25 60), (0, .nameAndType 61 62), (0, u "mark"), (0, u "()Ljava/lang/String;"), (0, .methodref 7 64), (0, .nameAndType 65 66), (0, u "equals"), (0, u "(Ljava/lang/Object;)Z"), (0, .methodref 25 68), (0, .nameAndType 69 62), (0, u "segment"), (0, .methodref 25 71), (0, .nameAndType 72 73), (0, u "field"), (0, u "()I"), (0, .methodref 25 75), (0, .nameAndType 76 73), (0, u "component"), (0, .class_ 78), (0, u "com/example/depeche/depeche/profile/ConditionPathPinLaw"), (2, u "law"), (0, u "(IIIIII)Z")] 15

def k1m0 : Method := { name := "<init>", desc := "()V", sig := { parameters := [], returnType := none }, accessFlags := 1, code := none }
def k1c1 : Code := { maxStack := 6, maxLocals := 20, code := code, exceptionTable := #[], attributes := #[] }
def k1m1 : Method := { name := "law", desc := "(IIIIII)Z", sig := { parameters := [.int, .int, .int, .int, .int, .int], returnType := some .boolean }, accessFlags := 9, code := some k1c1 }
/-- com/example/depeche/depeche/profile/ConditionPathPinLaw -/
def k1 : Class := { plain "com/example/depeche/depeche/profile/ConditionPathPinLaw" (some 0) with
  accessFlags := 49
  interfaces := #[]
  cf := some (fileOf pool1 77 #[] #[{ accessFlags := 1, nameIndex := 5, descriptorIndex := 6, attributes := #[] }, { accessFlags := 9, nameIndex := 81, descriptorIndex := 82, attributes := #[] }] 49 2 #[] #[])
  fields := #[]
  methods := #[k1m0, k1m1]
  instanceTypes := #[]
  staticTypes := #[]
  resolved := Array.replicate 98 none
  statics := none }

def pool2 : Array CpInfo := pool [(1, .class_ 2), (0, u "java/io/Serializable"), (0, .class_ 4), (0, u "java/lang/Object")] 2

/-- java/io/Serializable -/
def k2 : Class := { plain "java/io/Serializable" (some 0) with
  accessFlags := 1537
  interfaces := #[]
  cf := some (fileOf pool2 1 #[] #[] 1537 3 #[] #[])
  fields := #[]
  methods := #[]
  instanceTypes := #[]
  staticTypes := #[]
  resolved := Array.replicate 7 none
  statics := none }

def pool3 : Array CpInfo := pool [(1, .class_ 2), (0, u "java/lang/Comparable"), (0, .class_ 4), (0, u "java/lang/Object")] 7

/-- java/lang/Comparable -/
def k3 : Class := { plain "java/lang/Comparable" (some 0) with
  accessFlags := 1537
  interfaces := #[]
  cf := some (fileOf pool3 1 #[] #[] 1537 3 #[] #[])
  fields := #[]
  methods := #[]
  instanceTypes := #[]
  staticTypes := #[]
  resolved := Array.replicate 12 none
  statics := none }

def pool4 : Array CpInfo := pool [(2, .class_ 4), (1, u "java/lang/CharSequence"), (42, .class_ 48), (0, u "java/lang/CharSequence$1CodePointIterator"), (10, .class_ 60), (0, u "java/lang/CharSequence$1CharIterator"), (5, .class_ 67), (0, u "java/lang/Object")] 63

/-- java/lang/CharSequence -/
def k4 : Class := { plain "java/lang/CharSequence" (some 0) with
  accessFlags := 1537
  interfaces := #[]
  cf := some (fileOf pool4 2 #[.nestMembers #[47, 59]] #[] 1537 66 #[] #[])
  fields := #[]
  methods := #[]
  instanceTypes := #[]
  staticTypes := #[]
  resolved := Array.replicate 131 none
  statics := none }

def pool5 : Array CpInfo := pool [(1, .class_ 2), (0, u "java/lang/constant/Constable"), (0, .class_ 4), (0, u "java/lang/Object")] 6

/-- java/lang/constant/Constable -/
def k5 : Class := { plain "java/lang/constant/Constable" (some 0) with
  accessFlags := 1537
  interfaces := #[]
  cf := some (fileOf pool5 1 #[] #[] 1537 3 #[] #[])
  fields := #[]
  methods := #[]
  instanceTypes := #[]
  staticTypes := #[]
  resolved := Array.replicate 11 none
  statics := none }

def pool6 : Array CpInfo := pool [(1, .class_ 2), (0, u "java/lang/constant/ConstantDesc"), (0, .class_ 4), (0, u "java/lang/Object")] 32

/-- java/lang/constant/ConstantDesc -/
def k6 : Class := { plain "java/lang/constant/ConstantDesc" (some 0) with
  accessFlags := 1537
  interfaces := #[]
  cf := some (fileOf pool6 1 #[] #[] 1537 3 #[] #[])
  fields := #[]
  methods := #[]
  instanceTypes := #[]
  staticTypes := #[]
  resolved := Array.replicate 37 none
  statics := none }

def pool7 : Array CpInfo := pool [(1, .methodref 2 3), (0, .class_ 4), (0, .nameAndType 5 6), (0, u "java/lang/Object"), (0, u "<init>"), (0, u "()V"), (2, .fieldref 10 11), (0, .class_ 12), (0, .nameAndType 13 14), (0, u "java/lang/String"), (0, u "value"), (0, u "[B"), (0, .fieldref 10 16), (0, .nameAndType 17 18), (0, u "coder"), (0, u "B"), (2, u "hash"), (0, u "I"), (2, u "hashIsZero"), (0, u "Z"), (0, .methodref 10 28), (0, .nameAndType 5 29), (0, u "([CIILjava/lang/Void;)V"), (8, .fieldref 10 39), (0, .nameAndType 40 26), (0, u "COMPACT_STRINGS"), (1, .class_ 44), (1, u "java/lang/StringUTF16"), (0, u "compress"), (1, .methodref 42 48), (0, .nameAndType 49 50), (0, u "coderFromArrayLen"), (0, u "([BI)B"), (2, u "toBytes"), (53, .class_ 109), (1, u "java/lang/StringLatin1"), (67, .methodref 42 178), (0, .nameAndType 45 179), (0, u "([CII)[B"), (29, .methodref 10 210), (0, .nameAndType 5 211), (0, u "([BB)V"), (157, u "(C)Z"), (173, u "equals"), (29, u "(Ljava/lang/Object;)Z"), (1, .class_ 576), (0, u "java/lang/CharSequence"), (22, u "CASE_INSENSITIVE_ORDER"), (0, u "Ljava/util/Comparator;"), (181, u "valueOf"), (0, u "(C)Ljava/lang/String;"), (226, u "([C)V"), (4, .methodref 107 1016), (0, .nameAndType 1017 369), (0, u "canEncode"), (0, .methodref 107 1019), (0, .nameAndType 53 1020), (0, u "(C)[B"), (80, u "serialPersistentFields"), (0, u "[Ljava/io/ObjectStreamField;"), (0, .class_ 1104), (0, u "java/lang/String$CaseInsensitiveComparator"), (1, .class_ 1107), (0, u "java/io/Serializable"), (0, .class_ 1109), (0, u "java/lang/Comparable"), (0, .class_ 1111), (0, u "java/lang/constant/Constable"), (0, .class_ 1113), (0, u "java/lang/constant/ConstantDesc"), (2, u "serialVersionUID"), (0, u "J"), (3, u "REPL"), (0, u "C"), (2, u "LATIN1"), (1, u "UTF16")] 323

def k7m0 : Method := { name := "<init>", desc := "()V", sig := { parameters := [], returnType := none }, accessFlags := 1, code := none }
def k7c1 : Code := { maxStack := 5, maxLocals := 2, code := jdk_42_method_3_code, exceptionTable := #[], attributes := #[] }
def k7m1 : Method := { name := "<init>", desc := "([C)V", sig := { parameters := [(.array .char)], returnType := none }, accessFlags := 1, code := some k7c1 }
def k7c2 : Code := { maxStack := 2, maxLocals := 3, code := jdk_42_method_66_code, exceptionTable := #[], attributes := #[] }
def k7m2 : Method := { name := "equals", desc := "(Ljava/lang/Object;)Z", sig := { parameters := [(.object "java/lang/Object")], returnType := some .boolean }, accessFlags := 1, code := some k7c2 }
def k7c3 : Code := { maxStack := 4, maxLocals := 1, code := jdk_42_method_139_code, exceptionTable := #[], attributes := #[] }
def k7m3 : Method := { name := "valueOf", desc := "(C)Ljava/lang/String;", sig := { parameters := [.char], returnType := some (.object "java/lang/String") }, accessFlags := 9, code := some k7c3 }
def k7c4 : Code := { maxStack := 4, maxLocals := 6, code := jdk_42_method_149_code, exceptionTable := #[], attributes := #[] }
def k7m4 : Method := { name := "<init>", desc := "([CIILjava/lang/Void;)V", sig := { parameters := [(.array .char), .int, .int, (.object "java/lang/Void")], returnType := none }, accessFlags := 2, code := some k7c4 }
def k7c5 : Code := { maxStack := 2, maxLocals := 3, code := jdk_42_method_151_code, exceptionTable := #[], attributes := #[] }
def k7m5 : Method := { name := "<init>", desc := "([BB)V", sig := { parameters := [(.array .byte), .byte], returnType := none }, accessFlags := 0, code := some k7c5 }
/-- java/lang/String -/
def k7 : Class := { plain "java/lang/String" (some 0) with
  accessFlags := 49
  interfaces := #[2, 3, 4, 5, 6]
  cf := some (fileOf pool7 10 #[.nestMembers #[1103]] #[{ accessFlags := 1, nameIndex := 5, descriptorIndex := 6, attributes := #[] }, { accessFlags := 1, nameIndex := 5, descriptorIndex := 1010, attributes := #[] }, { accessFlags := 1, nameIndex := 543, descriptorIndex := 573, attributes := #[] }, { accessFlags := 9, nameIndex := 782, descriptorIndex := 783, attributes := #[] }, { accessFlags := 2, nameIndex := 5, descriptorIndex := 29, attributes := #[] }, { accessFlags := 0, nameIndex := 5, descriptorIndex := 211, attributes := #[] }] 49 2 #[1106, 1108, 575, 1110, 1112] #[{ accessFlags := 18, nameIndex := 13, descriptorIndex := 14, attributes := #[] }, { accessFlags := 18, nameIndex := 17, descriptorIndex := 18, attributes := #[] }, { accessFlags := 2, nameIndex := 21, descriptorIndex := 22, attributes := #[] }, { accessFlags := 2, nameIndex := 25, descriptorIndex := 26, attributes := #[] }, { accessFlags := 26, nameIndex := 1116, descriptorIndex := 1117, attributes := #[] }, { accessFlags := 24, nameIndex := 40, descriptorIndex := 26, attributes := #[] }, { accessFlags := 26, nameIndex := 1101, descriptorIndex := 1102, attributes := #[] }, { accessFlags := 26, nameIndex := 1121, descriptorIndex := 1122, attributes := #[] }, { accessFlags := 25, nameIndex := 599, descriptorIndex := 600, attributes := #[] }, { accessFlags := 24, nameIndex := 1125, descriptorIndex := 18, attributes := #[] }, { accessFlags := 24, nameIndex := 1127, descriptorIndex := 18, attributes := #[] }])
  fields := #[{ name := "value", type := (.array .byte), accessFlags := 18, slot := 0, constantValue := 0 }, { name := "coder", type := .byte, accessFlags := 18, slot := 1, constantValue := 0 }, { name := "hash", type := .int, accessFlags := 2, slot := 2, constantValue := 0 }, { name := "hashIsZero", type := .boolean, accessFlags := 2, slot := 3, constantValue := 0 }, { name := "serialVersionUID", type := .long, accessFlags := 26, slot := 0, constantValue := 0 }, { name := "COMPACT_STRINGS", type := .boolean, accessFlags := 24, slot := 1, constantValue := 0 }, { name := "serialPersistentFields", type := (.array (.object "java/io/ObjectStreamField")), accessFlags := 26, slot := 2, constantValue := 0 }, { name := "REPL", type := .char, accessFlags := 26, slot := 3, constantValue := 0 }, { name := "CASE_INSENSITIVE_ORDER", type := (.object "java/util/Comparator"), accessFlags := 25, slot := 4, constantValue := 0 }, { name := "LATIN1", type := .byte, accessFlags := 24, slot := 5, constantValue := 0 }, { name := "UTF16", type := .byte, accessFlags := 24, slot := 6, constantValue := 0 }]
  methods := #[k7m0, k7m1, k7m2, k7m3, k7m4, k7m5]
  instanceTypes := #[(.array .byte), .byte, .int, .boolean]
  staticTypes := #[.long, .boolean, (.array (.object "java/io/ObjectStreamField")), .char, (.object "java/util/Comparator"), .byte, .byte]
  resolved := Array.replicate 1451 none
  statics := some 0 }

def pool8 : Array CpInfo := pool [(6, .class_ 8), (1, u "java/lang/Object"), (0, u "<init>"), (0, u "()V"), (1, .class_ 14), (1, u "java/lang/StringUTF16"), (31, u "$assertionsDisabled"), (0, u "Z"), (13, u "HI_BYTE_SHIFT"), (0, u "I"), (2, u "LO_BYTE_SHIFT"), (49, .methodref 12 116), (0, .nameAndType 117 118), (0, u "compress"), (0, u "([CI[BII)I"), (3, u "([CII)[B"), (138, u "coderFromArrayLen"), (0, u "([BI)B"), (106, .class_ 371), (1, u "java/lang/StringUTF16$LinesSpliterator"), (58, u "MAX_LENGTH"), (196, .class_ 628), (0, u "java/lang/StringUTF16$CodePointsSpliterator"), (0, .class_ 630), (0, u "java/lang/StringUTF16$CharsSpliterator")] 4

def k8m0 : Method := { name := "<init>", desc := "()V", sig := { parameters := [], returnType := none }, accessFlags := 0, code := none }
def k8c1 : Code := { maxStack := 2, maxLocals := 2, code := jdk_52_method_15_code, exceptionTable := #[], attributes := #[] }
def k8m1 : Method := { name := "coderFromArrayLen", desc := "([BI)B", sig := { parameters := [(.array .byte), .int], returnType := some .byte }, accessFlags := 8, code := some k8c1 }
def k8c2 : Code := { maxStack := 5, maxLocals := 6, code := jdk_52_method_16_code, exceptionTable := #[], attributes := #[] }
def k8m2 : Method := { name := "compress", desc := "([CII)[B", sig := { parameters := [(.array .char), .int, .int], returnType := some (.array .byte) }, accessFlags := 9, code := some k8c2 }
def k8c3 : Code := { maxStack := 3, maxLocals := 7, code := jdk_52_method_21_code, exceptionTable := #[], attributes := #[] }
def k8m3 : Method := { name := "compress", desc := "([CI[BII)I", sig := { parameters := [(.array .char), .int, (.array .byte), .int, .int], returnType := some .int }, accessFlags := 9, code := some k8c3 }
/-- java/lang/StringUTF16 -/
def k8 : Class := { plain "java/lang/StringUTF16" (some 0) with
  accessFlags := 48
  interfaces := #[]
  cf := some (fileOf pool8 12 #[.nestMembers #[627, 629, 369]] #[{ accessFlags := 0, nameIndex := 9, descriptorIndex := 10, attributes := #[] }, { accessFlags := 8, nameIndex := 261, descriptorIndex := 262, attributes := #[] }, { accessFlags := 9, nameIndex := 117, descriptorIndex := 122, attributes := #[] }, { accessFlags := 9, nameIndex := 117, descriptorIndex := 118, attributes := #[] }] 48 6 #[] #[{ accessFlags := 26, nameIndex := 61, descriptorIndex := 62, attributes := #[] }, { accessFlags := 26, nameIndex := 65, descriptorIndex := 62, attributes := #[] }, { accessFlags := 24, nameIndex := 430, descriptorIndex := 62, attributes := #[] }, { accessFlags := 4120, nameIndex := 46, descriptorIndex := 47, attributes := #[] }])
  fields := #[{ name := "HI_BYTE_SHIFT", type := .int, accessFlags := 26, slot := 0, constantValue := 0 }, { name := "LO_BYTE_SHIFT", type := .int, accessFlags := 26, slot := 1, constantValue := 0 }, { name := "MAX_LENGTH", type := .int, accessFlags := 24, slot := 2, constantValue := 0 }, { name := "$assertionsDisabled", type := .boolean, accessFlags := 4120, slot := 3, constantValue := 0 }]
  methods := #[k8m0, k8m1, k8m2, k8m3]
  instanceTypes := #[]
  staticTypes := #[.int, .int, .int, .boolean]
  resolved := Array.replicate 635 none
  statics := none }

def pool9 : Array CpInfo := pool [(8, .class_ 10), (1, u "java/lang/Iterable"), (24, .class_ 36), (0, u "java/lang/Object")] 25

/-- java/lang/Iterable -/
def k9 : Class := { plain "java/lang/Iterable" (some 0) with
  accessFlags := 1537
  interfaces := #[]
  cf := some (fileOf pool9 8 #[] #[] 1537 35 #[] #[])
  fields := #[]
  methods := #[]
  instanceTypes := #[]
  staticTypes := #[]
  resolved := Array.replicate 62 none
  statics := none }

def pool10 : Array CpInfo := pool [(10, .class_ 12), (1, u "java/util/Collection"), (47, .class_ 61), (0, u "java/lang/Object"), (0, .class_ 63), (0, u "java/lang/Iterable")] 51

/-- java/util/Collection -/
def k10 : Class := { plain "java/util/Collection" (some 0) with
  accessFlags := 1537
  interfaces := #[9]
  cf := some (fileOf pool10 10 #[] #[] 1537 60 #[62] #[])
  fields := #[]
  methods := #[]
  instanceTypes := #[]
  staticTypes := #[]
  resolved := Array.replicate 115 none
  statics := none }

def pool11 : Array CpInfo := pool [(9, .fieldref 10 11), (0, .class_ 12), (0, .nameAndType 13 14), (0, u "java/util/ImmutableCollections"), (0, u "EMPTY_SET"), (0, u "Ljava/util/ImmutableCollections$SetN;"), (0, .class_ 16), (0, u "java/util/ImmutableCollections$Set12"), (0, .methodref 15 18), (0, .nameAndType 19 20), (0, u "<init>"), (0, u "(Ljava/lang/Object;)V"), (5, .class_ 27), (0, u "java/lang/Object"), (3, .class_ 32), (0, u "java/util/ImmutableCollections$AbstractImmutableSet"), (0, .class_ 34), (0, u "java/util/Set"), (1, .class_ 38), (1, u "java/util/Collection"), (4, u "of"), (0, u "()Ljava/util/Set;"), (46, u "(Ljava/lang/Object;)Ljava/util/Set;"), (39, u "copyOf"), (0, u "(Ljava/util/Collection;)Ljava/util/Set;")] 11

def k11c0 : Code := { maxStack := 1, maxLocals := 0, code := jdk_96_method_17_code, exceptionTable := #[], attributes := #[] }
def k11m0 : Method := { name := "of", desc := "()Ljava/util/Set;", sig := { parameters := [], returnType := some (.object "java/util/Set") }, accessFlags := 9, code := some k11c0 }
def k11c1 : Code := { maxStack := 3, maxLocals := 1, code := jdk_96_method_18_code, exceptionTable := #[], attributes := #[] }
def k11m1 : Method := { name := "of", desc := "(Ljava/lang/Object;)Ljava/util/Set;", sig := { parameters := [(.object "java/lang/Object")], returnType := some (.object "java/util/Set") }, accessFlags := 9, code := some k11c1 }
def k11c2 : Code := { maxStack := 3, maxLocals := 1, code := jdk_96_method_29_code, exceptionTable := #[], attributes := #[] }
def k11m2 : Method := { name := "copyOf", desc := "(Ljava/util/Collection;)Ljava/util/Set;", sig := { parameters := [(.object "java/util/Collection")], returnType := some (.object "java/util/Set") }, accessFlags := 9, code := some k11c2 }
/-- java/util/Set -/
def k11 : Class := { plain "java/util/Set" (some 0) with
  accessFlags := 1537
  interfaces := #[10]
  cf := some (fileOf pool11 33 #[] #[{ accessFlags := 9, nameIndex := 43, descriptorIndex := 44, attributes := #[] }, { accessFlags := 9, nameIndex := 43, descriptorIndex := 91, attributes := #[] }, { accessFlags := 9, nameIndex := 131, descriptorIndex := 132, attributes := #[] }] 1537 26 #[36] #[])
  fields := #[]
  methods := #[k11m0, k11m1, k11m2]
  instanceTypes := #[]
  staticTypes := #[]
  resolved := Array.replicate 144 none
  statics := none }

def pool12 : Array CpInfo := pool [(2, .class_ 4), (1, u "java/lang/Object"), (0, u "<init>"), (0, u "()V"), (3, .class_ 11), (0, u "java/util/ImmutableCollections$List12"), (0, .class_ 13), (0, u "java/util/ImmutableCollections$ListN"), (3, u "Z"), (29, .class_ 49), (1, u "java/util/ImmutableCollections"), (0, u "$assertionsDisabled"), (5, u "[Ljava/lang/Object;"), (5, u "EMPTY_LIST"), (0, u "Ljava/util/ImmutableCollections$ListN;"), (8, u "EMPTY_LIST_NULLS"), (22, u "SALT32L"), (0, u "J"), (2, u "REVERSE"), (6, u "archivedObjects"), (2, u "EMPTY"), (0, u "Ljava/lang/Object;"), (0, .class_ 112), (0, u "java/util/ImmutableCollections$SetN"), (5, u "EMPTY_SET"), (0, u "Ljava/util/ImmutableCollections$SetN;"), (0, .class_ 121), (0, u "java/util/ImmutableCollections$MapN"), (3, u "EMPTY_MAP"), (0, u "Ljava/util/ImmutableCollections$MapN;"), (4, u "EXPAND_FACTOR"), (0, u "I"), (36, .class_ 170), (0, u "java/util/ImmutableCollections$MapN$MapNIterator"), (0, .class_ 172), (0, u "java/util/ImmutableCollections$MapN$1"), (0, .class_ 174), (0, u "java/util/ImmutableCollections$Map1"), (0, .class_ 176), (0, u "java/util/ImmutableCollections$AbstractImmutableMap"), (0, .class_ 178), (0, u "java/util/ImmutableCollections$SetN$SetNIterator"), (0, .class_ 180), (0, u "java/util/ImmutableCollections$Set12"), (0, .class_ 182), (0, u "java/util/ImmutableCollections$Set12$1"), (0, .class_ 184), (0, u "java/util/ImmutableCollections$AbstractImmutableSet"), (0, .class_ 186), (0, u "java/util/ImmutableCollections$SubList"), (0, .class_ 188), (0, u "java/util/ImmutableCollections$ListItr"), (0, .class_ 190), (0, u "java/util/ImmutableCollections$AbstractImmutableList"), (0, .class_ 192), (0, u "java/util/ImmutableCollections$AbstractImmutableCollection"), (0, .class_ 194), (0, u "java/util/ImmutableCollections$Access"), (0, .class_ 196), (0, u "java/util/ImmutableCollections$Access$1")] 16

def k12m0 : Method := { name := "<init>", desc := "()V", sig := { parameters := [], returnType := none }, accessFlags := 2, code := none }
/-- java/util/ImmutableCollections -/
def k12 : Class := { plain "java/util/ImmutableCollections" (some 0) with
  accessFlags := 32
  interfaces := #[]
  cf := some (fileOf pool12 47 #[.nestMembers #[120, 169, 171, 173, 175, 111, 177, 179, 181, 183, 12, 10, 185, 187, 189, 191, 193, 195]] #[{ accessFlags := 2, nameIndex := 5, descriptorIndex := 6, attributes := #[] }] 32 2 #[] #[{ accessFlags := 26, nameIndex := 95, descriptorIndex := 96, attributes := #[] }, { accessFlags := 26, nameIndex := 99, descriptorIndex := 17, attributes := #[] }, { accessFlags := 10, nameIndex := 106, descriptorIndex := 56, attributes := #[] }, { accessFlags := 26, nameIndex := 109, descriptorIndex := 110, attributes := #[] }, { accessFlags := 24, nameIndex := 62, descriptorIndex := 63, attributes := #[] }, { accessFlags := 24, nameIndex := 72, descriptorIndex := 63, attributes := #[] }, { accessFlags := 24, nameIndex := 118, descriptorIndex := 119, attributes := #[] }, { accessFlags := 24, nameIndex := 125, descriptorIndex := 126, attributes := #[] }, { accessFlags := 24, nameIndex := 131, descriptorIndex := 132, attributes := #[] }, { accessFlags := 4120, nameIndex := 50, descriptorIndex := 17, attributes := #[] }])
  fields := #[{ name := "SALT32L", type := .long, accessFlags := 26, slot := 0, constantValue := 0 }, { name := "REVERSE", type := .boolean, accessFlags := 26, slot := 1, constantValue := 0 }, { name := "archivedObjects", type := (.array (.object "java/lang/Object")), accessFlags := 10, slot := 2, constantValue := 0 }, { name := "EMPTY", type := (.object "java/lang/Object"), accessFlags := 26, slot := 3, constantValue := 0 }, { name := "EMPTY_LIST", type := (.object "java/util/ImmutableCollections$ListN"), accessFlags := 24, slot := 4, constantValue := 0 }, { name := "EMPTY_LIST_NULLS", type := (.object "java/util/ImmutableCollections$ListN"), accessFlags := 24, slot := 5, constantValue := 0 }, { name := "EMPTY_SET", type := (.object "java/util/ImmutableCollections$SetN"), accessFlags := 24, slot := 6, constantValue := 0 }, { name := "EMPTY_MAP", type := (.object "java/util/ImmutableCollections$MapN"), accessFlags := 24, slot := 7, constantValue := 0 }, { name := "EXPAND_FACTOR", type := .int, accessFlags := 24, slot := 8, constantValue := 0 }, { name := "$assertionsDisabled", type := .boolean, accessFlags := 4120, slot := 9, constantValue := 0 }]
  methods := #[k12m0]
  instanceTypes := #[]
  staticTypes := #[.long, .boolean, (.array (.object "java/lang/Object")), (.object "java/lang/Object"), (.object "java/util/ImmutableCollections$ListN"), (.object "java/util/ImmutableCollections$ListN"), (.object "java/util/ImmutableCollections$SetN"), (.object "java/util/ImmutableCollections$MapN"), .int, .boolean]
  resolved := Array.replicate 213 none
  statics := some 1 }

def pool13 : Array CpInfo := pool [(1, .methodref 2 3), (0, .class_ 4), (0, .nameAndType 5 6), (0, u "java/lang/Object"), (0, u "<init>"), (0, u "()V"), (0, .class_ 8), (0, u "java/lang/Record")] 13

def k13c0 : Code := { maxStack := 1, maxLocals := 1, code := jdk_30_method_1_code, exceptionTable := #[], attributes := #[] }
def k13m0 : Method := { name := "<init>", desc := "()V", sig := { parameters := [], returnType := none }, accessFlags := 4, code := some k13c0 }
/-- java/lang/Record -/
def k13 : Class := { plain "java/lang/Record" (some 0) with
  accessFlags := 1057
  interfaces := #[]
  cf := some (fileOf pool13 7 #[] #[{ accessFlags := 4, nameIndex := 5, descriptorIndex := 6, attributes := #[] }] 1057 2 #[] #[])
  fields := #[]
  methods := #[k13m0]
  instanceTypes := #[]
  staticTypes := #[]
  resolved := Array.replicate 22 none
  statics := none }

def pool14 : Array CpInfo := pool [(1, .methodref 2 3), (0, .class_ 4), (0, .nameAndType 5 6), (0, u "java/lang/Record"), (0, u "<init>"), (0, u "()V"), (0, .fieldref 8 9), (0, .class_ 10), (0, .nameAndType 11 12), (0, u "com/example/depeche/depeche/profile/Path"), (0, u "segment"), (0, u "Ljava/lang/String;"), (0, .fieldref 8 14), (0, .nameAndType 15 16), (0, u "field"), (0, u "I"), (0, .fieldref 8 18), (0, .nameAndType 19 16), (0, u "component"), (0, .fieldref 8 21), (0, .nameAndType 22 12), (0, u "mark"), (2, u "(Ljava/lang/String;IILjava/lang/String;)V"), (2, u "FORM"), (0, u "Ljava/util/regex/Pattern;"), (127, u "()I"), (1, u "()Ljava/lang/String;")] 25

def k14c0 : Code := { maxStack := 2, maxLocals := 5, code := prog_68_method_2_code, exceptionTable := #[], attributes := #[] }
def k14m0 : Method := { name := "<init>", desc := "(Ljava/lang/String;IILjava/lang/String;)V", sig := { parameters := [(.object "java/lang/String"), .int, .int, (.object "java/lang/String")], returnType := none }, accessFlags := 0, code := some k14c0 }
def k14c1 : Code := { maxStack := 1, maxLocals := 1, code := prog_68_method_11_code, exceptionTable := #[], attributes := #[] }
def k14m1 : Method := { name := "segment", desc := "()Ljava/lang/String;", sig := { parameters := [], returnType := some (.object "java/lang/String") }, accessFlags := 1, code := some k14c1 }
def k14c2 : Code := { maxStack := 1, maxLocals := 1, code := prog_68_method_12_code, exceptionTable := #[], attributes := #[] }
def k14m2 : Method := { name := "field", desc := "()I", sig := { parameters := [], returnType := some .int }, accessFlags := 1, code := some k14c2 }
def k14c3 : Code := { maxStack := 1, maxLocals := 1, code := prog_68_method_13_code, exceptionTable := #[], attributes := #[] }
def k14m3 : Method := { name := "component", desc := "()I", sig := { parameters := [], returnType := some .int }, accessFlags := 1, code := some k14c3 }
def k14c4 : Code := { maxStack := 1, maxLocals := 1, code := prog_68_method_14_code, exceptionTable := #[], attributes := #[] }
def k14m4 : Method := { name := "mark", desc := "()Ljava/lang/String;", sig := { parameters := [], returnType := some (.object "java/lang/String") }, accessFlags := 1, code := some k14c4 }
/-- com/example/depeche/depeche/profile/Path -/
def k14 : Class := { plain "com/example/depeche/depeche/profile/Path" (some 13) with
  accessFlags := 48
  interfaces := #[]
  cf := some (fileOf pool14 8 #[] #[{ accessFlags := 0, nameIndex := 5, descriptorIndex := 25, attributes := #[] }, { accessFlags := 1, nameIndex := 11, descriptorIndex := 159, attributes := #[] }, { accessFlags := 1, nameIndex := 15, descriptorIndex := 157, attributes := #[] }, { accessFlags := 1, nameIndex := 19, descriptorIndex := 157, attributes := #[] }, { accessFlags := 1, nameIndex := 22, descriptorIndex := 159, attributes := #[] }] 48 2 #[] #[{ accessFlags := 18, nameIndex := 11, descriptorIndex := 12, attributes := #[] }, { accessFlags := 18, nameIndex := 15, descriptorIndex := 16, attributes := #[] }, { accessFlags := 18, nameIndex := 19, descriptorIndex := 16, attributes := #[] }, { accessFlags := 18, nameIndex := 22, descriptorIndex := 12, attributes := #[] }, { accessFlags := 26, nameIndex := 28, descriptorIndex := 29, attributes := #[] }])
  fields := #[{ name := "segment", type := (.object "java/lang/String"), accessFlags := 18, slot := 0, constantValue := 0 }, { name := "field", type := .int, accessFlags := 18, slot := 1, constantValue := 0 }, { name := "component", type := .int, accessFlags := 18, slot := 2, constantValue := 0 }, { name := "mark", type := (.object "java/lang/String"), accessFlags := 18, slot := 3, constantValue := 0 }, { name := "FORM", type := (.object "java/util/regex/Pattern"), accessFlags := 26, slot := 0, constantValue := 0 }]
  methods := #[k14m0, k14m1, k14m2, k14m3, k14m4]
  instanceTypes := #[(.object "java/lang/String"), .int, .int, (.object "java/lang/String")]
  staticTypes := #[(.object "java/util/regex/Pattern")]
  resolved := Array.replicate 185 none
  statics := none }

def pool15 : Array CpInfo := pool [(1, .methodref 2 3), (0, .class_ 4), (0, .nameAndType 5 6), (0, u "java/lang/Record"), (0, u "<init>"), (0, u "()V"), (0, .interfaceMethodref 8 9), (0, .class_ 10), (0, .nameAndType 11 12), (0, u "java/util/Set"), (0, u "copyOf"), (0, u "(Ljava/util/Collection;)Ljava/util/Set;"), (0, .fieldref 14 15), (0, .class_ 16), (0, .nameAndType 17 18), (0, u "com/example/depeche/depeche/profile/Condition"), (0, u "subject"), (0, u "Lcom/example/depeche/depeche/profile/Value$Source;"), (0, .fieldref 14 20), (0, .nameAndType 21 22), (0, u "values"), (0, u "Ljava/util/Set;"), (0, .fieldref 14 24), (0, .nameAndType 25 26), (0, u "negated"), (0, u "Z"), (0, .class_ 28), (0, u "com/example/depeche/depeche/profile/Value$Field"), (0, .methodref 27 30), (0, .nameAndType 5 31), (0, u "(Lcom/example/depeche/depeche/profile/Path;)V"), (0, .methodref 14 33), (0, .nameAndType 5 34), (0, u "(Lcom/example/depeche/depeche/profile/Value$Source;Ljava/util/Set;Z)V"), (0, .methodref 27 36), (0, .nameAndType 37 38), (0, u "path"), (0, u "()Lcom/example/depeche/depeche/profile/Path;"), (57, u "(Lcom/example/depeche/depeche/profile/Path;Ljava/util/Set;Z)V")] 40

def k15c0 : Code := { maxStack := 2, maxLocals := 4, code := prog_44_method_1_code, exceptionTable := #[], attributes := #[] }
def k15m0 : Method := { name := "<init>", desc := "(Lcom/example/depeche/depeche/profile/Value$Source;Ljava/util/Set;Z)V", sig := { parameters := [(.object "com/example/depeche/depeche/profile/Value$Source"), (.object "java/util/Set"), .boolean], returnType := none }, accessFlags := 0, code := some k15c0 }
def k15c1 : Code := { maxStack := 4, maxLocals := 4, code := prog_44_method_2_code, exceptionTable := #[], attributes := #[] }
def k15m1 : Method := { name := "<init>", desc := "(Lcom/example/depeche/depeche/profile/Path;Ljava/util/Set;Z)V", sig := { parameters := [(.object "com/example/depeche/depeche/profile/Path"), (.object "java/util/Set"), .boolean], returnType := none }, accessFlags := 0, code := some k15c1 }
def k15c2 : Code := { maxStack := 1, maxLocals := 3, code := prog_44_method_3_code, exceptionTable := #[], attributes := #[] }
def k15m2 : Method := { name := "path", desc := "()Lcom/example/depeche/depeche/profile/Path;", sig := { parameters := [], returnType := some (.object "com/example/depeche/depeche/profile/Path") }, accessFlags := 0, code := some k15c2 }
/-- com/example/depeche/depeche/profile/Condition -/
def k15 : Class := { plain "com/example/depeche/depeche/profile/Condition" (some 13) with
  accessFlags := 48
  interfaces := #[]
  cf := some (fileOf pool15 14 #[] #[{ accessFlags := 0, nameIndex := 5, descriptorIndex := 34, attributes := #[] }, { accessFlags := 0, nameIndex := 5, descriptorIndex := 96, attributes := #[] }, { accessFlags := 0, nameIndex := 37, descriptorIndex := 38, attributes := #[] }] 48 2 #[] #[{ accessFlags := 18, nameIndex := 17, descriptorIndex := 18, attributes := #[] }, { accessFlags := 18, nameIndex := 21, descriptorIndex := 22, attributes := #[] }, { accessFlags := 18, nameIndex := 25, descriptorIndex := 26, attributes := #[] }])
  fields := #[{ name := "subject", type := (.object "com/example/depeche/depeche/profile/Value$Source"), accessFlags := 18, slot := 0, constantValue := 0 }, { name := "values", type := (.object "java/util/Set"), accessFlags := 18, slot := 1, constantValue := 0 }, { name := "negated", type := .boolean, accessFlags := 18, slot := 2, constantValue := 0 }]
  methods := #[k15m0, k15m1, k15m2]
  instanceTypes := #[(.object "com/example/depeche/depeche/profile/Value$Source"), (.object "java/util/Set"), .boolean]
  staticTypes := #[]
  resolved := Array.replicate 137 none
  statics := none }

def pool16 : Array CpInfo := pool [(1, .class_ 2), (0, u "com/example/depeche/depeche/profile/Value$Source"), (0, .class_ 4), (0, u "java/lang/Object"), (5, .class_ 11), (0, u "com/example/depeche/depeche/profile/Value")] 15

/-- com/example/depeche/depeche/profile/Value$Source -/
def k16 : Class := { plain "com/example/depeche/depeche/profile/Value$Source" (some 0) with
  accessFlags := 1536
  interfaces := #[]
  cf := some (fileOf pool16 1 #[.nestHost 10] #[] 1536 3 #[] #[])
  fields := #[]
  methods := #[]
  instanceTypes := #[]
  staticTypes := #[]
  resolved := Array.replicate 27 none
  statics := none }

def pool17 : Array CpInfo := pool [(1, .methodref 2 3), (0, .class_ 4), (0, .nameAndType 5 6), (0, u "java/lang/Record"), (0, u "<init>"), (0, u "()V"), (0, .fieldref 8 9), (0, .class_ 10), (0, .nameAndType 11 12), (0, u "com/example/depeche/depeche/profile/Value$Field"), (0, u "path"), (0, u "Lcom/example/depeche/depeche/profile/Path;"), (18, .class_ 32), (0, u "com/example/depeche/depeche/profile/Value$Source"), (0, u "(Lcom/example/depeche/depeche/profile/Path;)V"), (8, u "()Lcom/example/depeche/depeche/profile/Path;"), (3, .class_ 47), (0, u "com/example/depeche/depeche/profile/Value")] 19

def k17c0 : Code := { maxStack := 2, maxLocals := 2, code := prog_95_method_1_code, exceptionTable := #[], attributes := #[] }
def k17m0 : Method := { name := "<init>", desc := "(Lcom/example/depeche/depeche/profile/Path;)V", sig := { parameters := [(.object "com/example/depeche/depeche/profile/Path")], returnType := none }, accessFlags := 0, code := some k17c0 }
def k17c1 : Code := { maxStack := 1, maxLocals := 1, code := prog_95_method_6_code, exceptionTable := #[], attributes := #[] }
def k17m1 : Method := { name := "path", desc := "()Lcom/example/depeche/depeche/profile/Path;", sig := { parameters := [], returnType := some (.object "com/example/depeche/depeche/profile/Path") }, accessFlags := 1, code := some k17c1 }
/-- com/example/depeche/depeche/profile/Value$Field -/
def k17 : Class := { plain "com/example/depeche/depeche/profile/Value$Field" (some 13) with
  accessFlags := 48
  interfaces := #[16]
  cf := some (fileOf pool17 8 #[.nestHost 46] #[{ accessFlags := 0, nameIndex := 5, descriptorIndex := 33, attributes := #[] }, { accessFlags := 1, nameIndex := 11, descriptorIndex := 42, attributes := #[] }] 48 2 #[31] #[{ accessFlags := 18, nameIndex := 11, descriptorIndex := 12, attributes := #[] }])
  fields := #[{ name := "path", type := (.object "com/example/depeche/depeche/profile/Path"), accessFlags := 18, slot := 0, constantValue := 0 }]
  methods := #[k17m0, k17m1]
  instanceTypes := #[(.object "com/example/depeche/depeche/profile/Path")]
  staticTypes := #[]
  resolved := Array.replicate 67 none
  statics := none }

def pool18 : Array CpInfo := pool [(1, .methodref 2 3), (0, .class_ 4), (0, .nameAndType 5 6), (0, u "java/lang/Object"), (0, u "<init>"), (0, u "()V"), (1, .class_ 10), (1, u "java/util/AbstractCollection"), (66, .class_ 78), (0, u "java/util/Collection")] 81

def k18c0 : Code := { maxStack := 1, maxLocals := 1, code := jdk_22_method_1_code, exceptionTable := #[], attributes := #[] }
def k18m0 : Method := { name := "<init>", desc := "()V", sig := { parameters := [], returnType := none }, accessFlags := 4, code := some k18c0 }
/-- java/util/AbstractCollection -/
def k18 : Class := { plain "java/util/AbstractCollection" (some 0) with
  accessFlags := 1057
  interfaces := #[10]
  cf := some (fileOf pool18 8 #[] #[{ accessFlags := 4, nameIndex := 5, descriptorIndex := 6, attributes := #[] }] 1057 2 #[77] #[])
  fields := #[]
  methods := #[k18m0]
  instanceTypes := #[]
  staticTypes := #[]
  resolved := Array.replicate 160 none
  statics := none }

def pool19 : Array CpInfo := pool [(1, .methodref 2 3), (0, .class_ 4), (0, .nameAndType 5 6), (0, u "java/util/AbstractCollection"), (0, u "<init>"), (0, u "()V"), (1, .class_ 10), (1, u "java/util/ImmutableCollections"), (2, .class_ 14), (0, u "java/util/ImmutableCollections$AbstractImmutableCollection")] 41

def k19c0 : Code := { maxStack := 1, maxLocals := 1, code := jdk_47_method_1_code, exceptionTable := #[], attributes := #[] }
def k19m0 : Method := { name := "<init>", desc := "()V", sig := { parameters := [], returnType := none }, accessFlags := 0, code := some k19c0 }
/-- java/util/ImmutableCollections$AbstractImmutableCollection -/
def k19 : Class := { plain "java/util/ImmutableCollections$AbstractImmutableCollection" (some 18) with
  accessFlags := 1056
  interfaces := #[]
  cf := some (fileOf pool19 13 #[.nestHost 8] #[{ accessFlags := 0, nameIndex := 5, descriptorIndex := 6, attributes := #[] }] 1056 2 #[] #[])
  fields := #[]
  methods := #[k19m0]
  instanceTypes := #[]
  staticTypes := #[]
  resolved := Array.replicate 56 none
  statics := none }

def pool20 : Array CpInfo := pool [(1, .methodref 2 3), (0, .class_ 4), (0, .nameAndType 5 6), (0, u "java/util/ImmutableCollections$AbstractImmutableCollection"), (0, u "<init>"), (0, u "()V"), (0, .class_ 8), (0, u "java/util/Set"), (7, .class_ 17), (0, u "java/util/ImmutableCollections$AbstractImmutableSet"), (43, .class_ 62), (0, u "java/util/ImmutableCollections")] 3

def k20c0 : Code := { maxStack := 1, maxLocals := 1, code := jdk_100_method_1_code, exceptionTable := #[], attributes := #[] }
def k20m0 : Method := { name := "<init>", desc := "()V", sig := { parameters := [], returnType := none }, accessFlags := 0, code := some k20c0 }
/-- java/util/ImmutableCollections$AbstractImmutableSet -/
def k20 : Class := { plain "java/util/ImmutableCollections$AbstractImmutableSet" (some 19) with
  accessFlags := 1056
  interfaces := #[11]
  cf := some (fileOf pool20 16 #[.nestHost 61] #[{ accessFlags := 0, nameIndex := 5, descriptorIndex := 6, attributes := #[] }] 1056 2 #[7] #[])
  fields := #[]
  methods := #[k20m0]
  instanceTypes := #[]
  staticTypes := #[]
  resolved := Array.replicate 66 none
  statics := none }

def pool21 : Array CpInfo := pool [(1, .class_ 2), (0, u "java/util/ImmutableCollections"), (1, .class_ 6), (1, u "java/util/ImmutableCollections$AbstractImmutableSet"), (3, .class_ 12), (1, u "java/util/ImmutableCollections$SetN"), (0, u "size"), (0, u "I"), (4, u "elements"), (0, u "[Ljava/lang/Object;"), (86, .class_ 108), (0, u "java/io/Serializable")] 59

/-- java/util/ImmutableCollections$SetN -/
def k21 : Class := { plain "java/util/ImmutableCollections$SetN" (some 20) with
  accessFlags := 48
  interfaces := #[2]
  cf := some (fileOf pool21 10 #[.nestHost 1] #[] 48 4 #[107] #[{ accessFlags := 16, nameIndex := 19, descriptorIndex := 20, attributes := #[] }, { accessFlags := 16, nameIndex := 13, descriptorIndex := 14, attributes := #[] }])
  fields := #[{ name := "elements", type := (.array (.object "java/lang/Object")), accessFlags := 16, slot := 0, constantValue := 0 }, { name := "size", type := .int, accessFlags := 16, slot := 1, constantValue := 0 }]
  methods := #[]
  instanceTypes := #[(.array (.object "java/lang/Object")), .int]
  staticTypes := #[]
  resolved := Array.replicate 168 none
  statics := none }

def pool22 : Array CpInfo := pool [(1, .methodref 2 3), (0, .class_ 4), (0, .nameAndType 5 6), (0, u "java/lang/Record"), (0, u "<init>"), (0, u "()V"), (0, .fieldref 8 9), (0, .class_ 10), (0, .nameAndType 11 12), (0, u "com/example/depeche/depeche/profile/Value$Text"), (0, u "text"), (0, u "Ljava/lang/String;"), (12, .class_ 26), (0, u "com/example/depeche/depeche/profile/Value$Source"), (0, u "(Ljava/lang/String;)V"), (11, .class_ 40), (0, u "com/example/depeche/depeche/profile/Value")] 19

def k22c0 : Code := { maxStack := 2, maxLocals := 2, code := prog_98_method_1_code, exceptionTable := #[], attributes := #[] }
def k22m0 : Method := { name := "<init>", desc := "(Ljava/lang/String;)V", sig := { parameters := [(.object "java/lang/String")], returnType := none }, accessFlags := 0, code := some k22c0 }
/-- com/example/depeche/depeche/profile/Value$Text -/
def k22 : Class := { plain "com/example/depeche/depeche/profile/Value$Text" (some 13) with
  accessFlags := 48
  interfaces := #[16]
  cf := some (fileOf pool22 8 #[.nestHost 39] #[{ accessFlags := 0, nameIndex := 5, descriptorIndex := 27, attributes := #[] }] 48 2 #[25] #[{ accessFlags := 18, nameIndex := 11, descriptorIndex := 12, attributes := #[] }])
  fields := #[{ name := "text", type := (.object "java/lang/String"), accessFlags := 18, slot := 0, constantValue := 0 }]
  methods := #[k22m0]
  instanceTypes := #[(.object "java/lang/String")]
  staticTypes := #[]
  resolved := Array.replicate 60 none
  statics := none }

def pool23 : Array CpInfo := pool [(1, .methodref 2 3), (0, .class_ 4), (0, .nameAndType 5 6), (0, u "java/lang/Record"), (0, u "<init>"), (0, u "()V"), (30, .class_ 38), (0, u "com/example/depeche/depeche/profile/Value$Occurrence"), (0, .class_ 40), (0, u "com/example/depeche/depeche/profile/Value$Source"), (9, .class_ 51), (0, u "com/example/depeche/depeche/profile/Value")] 19

def k23c0 : Code := { maxStack := 1, maxLocals := 1, code := prog_96_method_1_code, exceptionTable := #[], attributes := #[] }
def k23m0 : Method := { name := "<init>", desc := "()V", sig := { parameters := [], returnType := none }, accessFlags := 0, code := some k23c0 }
/-- com/example/depeche/depeche/profile/Value$Occurrence -/
def k23 : Class := { plain "com/example/depeche/depeche/profile/Value$Occurrence" (some 13) with
  accessFlags := 48
  interfaces := #[16]
  cf := some (fileOf pool23 37 #[.nestHost 50] #[{ accessFlags := 0, nameIndex := 5, descriptorIndex := 6, attributes := #[] }] 48 2 #[39] #[])
  fields := #[]
  methods := #[k23m0]
  instanceTypes := #[]
  staticTypes := #[]
  resolved := Array.replicate 71 none
  statics := none }

def pool24 : Array CpInfo := pool [(4, .class_ 6), (1, u "java/lang/Object"), (0, u "<init>"), (0, u "()V"), (5, .class_ 16), (1, u "java/lang/StringLatin1"), (73, u "canEncode"), (14, u "(C)Z"), (15, u "$assertionsDisabled"), (0, u "Z"), (98, .class_ 223), (1, u "java/lang/StringLatin1$LinesSpliterator"), (156, u "toBytes"), (1, u "(C)[B"), (7, .class_ 391), (0, u "java/lang/StringLatin1$CharsSpliterator")] 3

def k24m0 : Method := { name := "<init>", desc := "()V", sig := { parameters := [], returnType := none }, accessFlags := 0, code := none }
def k24c1 : Code := { maxStack := 2, maxLocals := 1, code := jdk_43_method_3_code, exceptionTable := #[], attributes := #[] }
def k24m1 : Method := { name := "canEncode", desc := "(C)Z", sig := { parameters := [.char], returnType := some .boolean }, accessFlags := 9, code := some k24c1 }
def k24c2 : Code := { maxStack := 4, maxLocals := 1, code := jdk_43_method_46_code, exceptionTable := #[], attributes := #[] }
def k24m2 : Method := { name := "toBytes", desc := "(C)[B", sig := { parameters := [.char], returnType := some (.array .byte) }, accessFlags := 9, code := some k24c2 }
/-- java/lang/StringLatin1 -/
def k24 : Class := { plain "java/lang/StringLatin1" (some 0) with
  accessFlags := 48
  interfaces := #[]
  cf := some (fileOf pool24 14 #[.nestMembers #[390, 221]] #[{ accessFlags := 0, nameIndex := 7, descriptorIndex := 8, attributes := #[] }, { accessFlags := 9, nameIndex := 90, descriptorIndex := 105, attributes := #[] }, { accessFlags := 9, nameIndex := 380, descriptorIndex := 382, attributes := #[] }] 48 4 #[] #[{ accessFlags := 4120, nameIndex := 121, descriptorIndex := 122, attributes := #[] }])
  fields := #[{ name := "$assertionsDisabled", type := .boolean, accessFlags := 4120, slot := 0, constantValue := 0 }]
  methods := #[k24m0, k24m1, k24m2]
  instanceTypes := #[]
  staticTypes := #[.boolean]
  resolved := Array.replicate 395 none
  statics := none }

def pool25 : Array CpInfo := pool [(1, .methodref 2 3), (0, .class_ 4), (0, .nameAndType 5 6), (0, u "java/util/ImmutableCollections$AbstractImmutableSet"), (0, u "<init>"), (0, u "()V"), (0, .methodref 8 9), (0, .class_ 10), (0, .nameAndType 11 12), (0, u "java/util/Objects"), (0, u "requireNonNull"), (0, u "(Ljava/lang/Object;)Ljava/lang/Object;"), (0, .fieldref 14 15), (0, .class_ 16), (0, .nameAndType 17 18), (0, u "java/util/ImmutableCollections$Set12"), (0, u "e0"), (0, u "Ljava/lang/Object;"), (0, .fieldref 20 21), (0, .class_ 22), (0, .nameAndType 23 18), (0, u "java/util/ImmutableCollections"), (0, u "EMPTY"), (0, .fieldref 14 25), (0, .nameAndType 26 18), (0, u "e1"), (70, .class_ 98), (0, u "java/io/Serializable"), (4, u "(Ljava/lang/Object;)V")] 45

def k25c0 : Code := { maxStack := 2, maxLocals := 2, code := jdk_101_method_1_code, exceptionTable := #[], attributes := #[] }
def k25m0 : Method := { name := "<init>", desc := "(Ljava/lang/Object;)V", sig := { parameters := [(.object "java/lang/Object")], returnType := none }, accessFlags := 0, code := some k25c0 }
/-- java/util/ImmutableCollections$Set12 -/
def k25 : Class := { plain "java/util/ImmutableCollections$Set12" (some 20) with
  accessFlags := 48
  interfaces := #[2]
  cf := some (fileOf pool25 14 #[.nestHost 20] #[{ accessFlags := 0, nameIndex := 5, descriptorIndex := 103, attributes := #[] }] 48 2 #[97] #[{ accessFlags := 18, nameIndex := 17, descriptorIndex := 18, attributes := #[] }, { accessFlags := 18, nameIndex := 26, descriptorIndex := 18, attributes := #[] }])
  fields := #[{ name := "e0", type := (.object "java/lang/Object"), accessFlags := 18, slot := 0, constantValue := 0 }, { name := "e1", type := (.object "java/lang/Object"), accessFlags := 18, slot := 1, constantValue := 0 }]
  methods := #[k25m0]
  instanceTypes := #[(.object "java/lang/Object"), (.object "java/lang/Object")]
  staticTypes := #[]
  resolved := Array.replicate 149 none
  statics := none }

def pool26 : Array CpInfo := pool [(2, .class_ 4), (1, u "java/lang/Object"), (0, u "<init>"), (0, u "()V"), (35, .class_ 44), (1, u "java/util/Objects"), (0, u "requireNonNull"), (0, u "(Ljava/lang/Object;)Ljava/lang/Object;")] 137

def k26m0 : Method := { name := "<init>", desc := "()V", sig := { parameters := [], returnType := none }, accessFlags := 2, code := none }
def k26c1 : Code := { maxStack := 2, maxLocals := 1, code := jdk_31_method_10_code, exceptionTable := #[], attributes := #[] }
def k26m1 : Method := { name := "requireNonNull", desc := "(Ljava/lang/Object;)Ljava/lang/Object;", sig := { parameters := [(.object "java/lang/Object")], returnType := some (.object "java/lang/Object") }, accessFlags := 9, code := some k26c1 }
/-- java/util/Objects -/
def k26 : Class := { plain "java/util/Objects" (some 0) with
  accessFlags := 49
  interfaces := #[]
  cf := some (fileOf pool26 42 #[] #[{ accessFlags := 2, nameIndex := 5, descriptorIndex := 6, attributes := #[] }, { accessFlags := 9, nameIndex := 45, descriptorIndex := 46, attributes := #[] }] 49 2 #[] #[])
  fields := #[]
  methods := #[k26m0, k26m1]
  instanceTypes := #[]
  staticTypes := #[]
  resolved := Array.replicate 184 none
  statics := none }

def pool27 : Array CpInfo := pool [(1, .methodref 2 3), (0, .class_ 4), (0, .nameAndType 5 6), (0, u "java/lang/Record"), (0, u "<init>"), (0, u "()V"), (0, .fieldref 8 9), (0, .class_ 10), (0, .nameAndType 11 12), (0, u "com/example/depeche/depeche/profile/Value$Count"), (0, u "mark"), (0, u "Ljava/lang/String;"), (24, .class_ 38), (0, u "com/example/depeche/depeche/profile/Value$Source"), (0, u "(Ljava/lang/String;)V"), (11, .class_ 52), (0, u "com/example/depeche/depeche/profile/Value")] 19

def k27c0 : Code := { maxStack := 2, maxLocals := 2, code := prog_94_method_1_code, exceptionTable := #[], attributes := #[] }
def k27m0 : Method := { name := "<init>", desc := "(Ljava/lang/String;)V", sig := { parameters := [(.object "java/lang/String")], returnType := none }, accessFlags := 0, code := some k27c0 }
/-- com/example/depeche/depeche/profile/Value$Count -/
def k27 : Class := { plain "com/example/depeche/depeche/profile/Value$Count" (some 13) with
  accessFlags := 48
  interfaces := #[16]
  cf := some (fileOf pool27 8 #[.nestHost 51] #[{ accessFlags := 0, nameIndex := 5, descriptorIndex := 39, attributes := #[] }] 48 2 #[37] #[{ accessFlags := 18, nameIndex := 11, descriptorIndex := 12, attributes := #[] }])
  fields := #[{ name := "mark", type := (.object "java/lang/String"), accessFlags := 18, slot := 0, constantValue := 0 }]
  methods := #[k27m0]
  instanceTypes := #[(.object "java/lang/String")]
  staticTypes := #[]
  resolved := Array.replicate 72 none
  statics := none }

def pool28 : Array CpInfo := pool [(2, .class_ 4), (1, u "java/lang/Object"), (0, u "<init>"), (0, u "()V"), (17, .class_ 26), (1, u "jdk/internal/util/Preconditions"), (28, .class_ 56), (0, u "jdk/internal/util/Preconditions$4"), (57, .class_ 115), (0, u "jdk/internal/util/Preconditions$1"), (7, u "SIOOBE_FORMATTER"), (0, u "Ljava/util/function/BiFunction;"), (0, .class_ 126), (0, u "jdk/internal/util/Preconditions$2"), (3, u "AIOOBE_FORMATTER"), (0, .class_ 132), (0, u "jdk/internal/util/Preconditions$3"), (3, u "IOOBE_FORMATTER")] 57

def k28m0 : Method := { name := "<init>", desc := "()V", sig := { parameters := [], returnType := none }, accessFlags := 1, code := none }
/-- jdk/internal/util/Preconditions -/
def k28 : Class := { plain "jdk/internal/util/Preconditions" (some 0) with
  accessFlags := 33
  interfaces := #[]
  cf := some (fileOf pool28 24 #[.nestMembers #[55, 131, 125, 114]] #[{ accessFlags := 1, nameIndex := 5, descriptorIndex := 6, attributes := #[] }] 33 2 #[] #[{ accessFlags := 25, nameIndex := 123, descriptorIndex := 124, attributes := #[] }, { accessFlags := 25, nameIndex := 130, descriptorIndex := 124, attributes := #[] }, { accessFlags := 25, nameIndex := 136, descriptorIndex := 124, attributes := #[] }])
  fields := #[{ name := "SIOOBE_FORMATTER", type := (.object "java/util/function/BiFunction"), accessFlags := 25, slot := 0, constantValue := 0 }, { name := "AIOOBE_FORMATTER", type := (.object "java/util/function/BiFunction"), accessFlags := 25, slot := 1, constantValue := 0 }, { name := "IOOBE_FORMATTER", type := (.object "java/util/function/BiFunction"), accessFlags := 25, slot := 2, constantValue := 0 }]
  methods := #[k28m0]
  instanceTypes := #[]
  staticTypes := #[(.object "java/util/function/BiFunction"), (.object "java/util/function/BiFunction"), (.object "java/util/function/BiFunction")]
  resolved := Array.replicate 194 none
  statics := some 2 }

def pool29 : Array CpInfo := pool [(9, u "<init>"), (6, .class_ 18), (1, u "java/lang/Object"), (0, u "()V"), (1, .class_ 23), (1, u "jdk/internal/util/ArraysSupport"), (0, u "LOG2_ARRAY_LONG_INDEX_SCALE"), (0, u "I"), (2, u "U"), (0, u "Ljdk/internal/misc/Unsafe;"), (8, u "BIG_ENDIAN"), (0, u "Z"), (8, u "LOG2_BYTE_BIT_SIZE"), (4, u "LOG2_ARRAY_INT_INDEX_SCALE"), (54, u "JLA"), (0, u "Ljdk/internal/access/JavaLangAccess;"), (11, u "LOG2_ARRAY_BOOLEAN_INDEX_SCALE"), (9, u "LOG2_ARRAY_BYTE_INDEX_SCALE"), (5, u "LOG2_ARRAY_CHAR_INDEX_SCALE"), (5, u "LOG2_ARRAY_SHORT_INDEX_SCALE"), (18, u "LOG2_ARRAY_FLOAT_INDEX_SCALE"), (24, u "LOG2_ARRAY_DOUBLE_INDEX_SCALE"), (89, u "T_BOOLEAN"), (2, u "T_CHAR"), (1, u "T_FLOAT"), (1, u "T_DOUBLE"), (1, u "T_BYTE"), (1, u "T_SHORT"), (1, u "T_INT"), (1, u "T_LONG"), (1, u "SOFT_MAX_ARRAY_LENGTH")] 83

def k29m0 : Method := { name := "<init>", desc := "()V", sig := { parameters := [], returnType := none }, accessFlags := 2, code := none }
/-- jdk/internal/util/ArraysSupport -/
def k29 : Class := { plain "jdk/internal/util/ArraysSupport" (some 0) with
  accessFlags := 33
  interfaces := #[]
  cf := some (fileOf pool29 21 #[] #[{ accessFlags := 2, nameIndex := 9, descriptorIndex := 19, attributes := #[] }] 33 16 #[] #[{ accessFlags := 24, nameIndex := 28, descriptorIndex := 29, attributes := #[] }, { accessFlags := 26, nameIndex := 38, descriptorIndex := 39, attributes := #[] }, { accessFlags := 25, nameIndex := 121, descriptorIndex := 25, attributes := #[] }, { accessFlags := 25, nameIndex := 131, descriptorIndex := 25, attributes := #[] }, { accessFlags := 25, nameIndex := 137, descriptorIndex := 25, attributes := #[] }, { accessFlags := 25, nameIndex := 143, descriptorIndex := 25, attributes := #[] }, { accessFlags := 25, nameIndex := 53, descriptorIndex := 25, attributes := #[] }, { accessFlags := 25, nameIndex := 24, descriptorIndex := 25, attributes := #[] }, { accessFlags := 25, nameIndex := 162, descriptorIndex := 25, attributes := #[] }, { accessFlags := 25, nameIndex := 187, descriptorIndex := 25, attributes := #[] }, { accessFlags := 26, nameIndex := 48, descriptorIndex := 25, attributes := #[] }, { accessFlags := 25, nameIndex := 277, descriptorIndex := 25, attributes := #[] }, { accessFlags := 25, nameIndex := 280, descriptorIndex := 25, attributes := #[] }, { accessFlags := 25, nameIndex := 282, descriptorIndex := 25, attributes := #[] }, { accessFlags := 25, nameIndex := 284, descriptorIndex := 25, attributes := #[] }, { accessFlags := 25, nameIndex := 286, descriptorIndex := 25, attributes := #[] }, { accessFlags := 25, nameIndex := 288, descriptorIndex := 25, attributes := #[] }, { accessFlags := 25, nameIndex := 290, descriptorIndex := 25, attributes := #[] }, { accessFlags := 25, nameIndex := 292, descriptorIndex := 25, attributes := #[] }, { accessFlags := 26, nameIndex := 108, descriptorIndex := 109, attributes := #[] }, { accessFlags := 25, nameIndex := 294, descriptorIndex := 25, attributes := #[] }])
  fields := #[{ name := "U", type := (.object "jdk/internal/misc/Unsafe"), accessFlags := 24, slot := 0, constantValue := 0 }, { name := "BIG_ENDIAN", type := .boolean, accessFlags := 26, slot := 1, constantValue := 0 }, { name := "LOG2_ARRAY_BOOLEAN_INDEX_SCALE", type := .int, accessFlags := 25, slot := 2, constantValue := 0 }, { name := "LOG2_ARRAY_BYTE_INDEX_SCALE", type := .int, accessFlags := 25, slot := 3, constantValue := 0 }, { name := "LOG2_ARRAY_CHAR_INDEX_SCALE", type := .int, accessFlags := 25, slot := 4, constantValue := 0 }, { name := "LOG2_ARRAY_SHORT_INDEX_SCALE", type := .int, accessFlags := 25, slot := 5, constantValue := 0 }, { name := "LOG2_ARRAY_INT_INDEX_SCALE", type := .int, accessFlags := 25, slot := 6, constantValue := 0 }, { name := "LOG2_ARRAY_LONG_INDEX_SCALE", type := .int, accessFlags := 25, slot := 7, constantValue := 0 }, { name := "LOG2_ARRAY_FLOAT_INDEX_SCALE", type := .int, accessFlags := 25, slot := 8, constantValue := 0 }, { name := "LOG2_ARRAY_DOUBLE_INDEX_SCALE", type := .int, accessFlags := 25, slot := 9, constantValue := 0 }, { name := "LOG2_BYTE_BIT_SIZE", type := .int, accessFlags := 26, slot := 10, constantValue := 0 }, { name := "T_BOOLEAN", type := .int, accessFlags := 25, slot := 11, constantValue := 0 }, { name := "T_CHAR", type := .int, accessFlags := 25, slot := 12, constantValue := 0 }, { name := "T_FLOAT", type := .int, accessFlags := 25, slot := 13, constantValue := 0 }, { name := "T_DOUBLE", type := .int, accessFlags := 25, slot := 14, constantValue := 0 }, { name := "T_BYTE", type := .int, accessFlags := 25, slot := 15, constantValue := 0 }, { name := "T_SHORT", type := .int, accessFlags := 25, slot := 16, constantValue := 0 }, { name := "T_INT", type := .int, accessFlags := 25, slot := 17, constantValue := 0 }, { name := "T_LONG", type := .int, accessFlags := 25, slot := 18, constantValue := 0 }, { name := "JLA", type := (.object "jdk/internal/access/JavaLangAccess"), accessFlags := 26, slot := 19, constantValue := 0 }, { name := "SOFT_MAX_ARRAY_LENGTH", type := .int, accessFlags := 25, slot := 20, constantValue := 0 }]
  methods := #[k29m0]
  instanceTypes := #[]
  staticTypes := #[(.object "jdk/internal/misc/Unsafe"), .boolean, .int, .int, .int, .int, .int, .int, .int, .int, .int, .int, .int, .int, .int, .int, .int, .int, .int, (.object "jdk/internal/access/JavaLangAccess"), .int]
  resolved := Array.replicate 378 none
  statics := none }

def pool30 : Array CpInfo := pool [(8, .class_ 10), (1, u "java/util/SequencedCollection"), (15, .class_ 27), (0, u "java/lang/Object"), (0, .class_ 29), (0, u "java/util/Collection")] 27

/-- java/util/SequencedCollection -/
def k30 : Class := { plain "java/util/SequencedCollection" (some 0) with
  accessFlags := 1537
  interfaces := #[10]
  cf := some (fileOf pool30 8 #[] #[] 1537 26 #[28] #[])
  fields := #[]
  methods := #[]
  instanceTypes := #[]
  staticTypes := #[]
  resolved := Array.replicate 57 none
  statics := none }

def pool31 : Array CpInfo := pool [(8, .class_ 10), (1, u "java/util/List"), (92, .class_ 104), (0, u "java/lang/Object"), (15, .class_ 121), (0, u "java/util/SequencedCollection")] 129

/-- java/util/List -/
def k31 : Class := { plain "java/util/List" (some 0) with
  accessFlags := 1537
  interfaces := #[30]
  cf := some (fileOf pool31 8 #[] #[] 1537 103 #[120] #[])
  fields := #[]
  methods := #[]
  instanceTypes := #[]
  staticTypes := #[]
  resolved := Array.replicate 251 none
  statics := none }

def pool32 : Array CpInfo := pool [(1, .class_ 2), (0, u "java/util/RandomAccess"), (0, .class_ 4), (0, u "java/lang/Object")] 2

/-- java/util/RandomAccess -/
def k32 : Class := { plain "java/util/RandomAccess" (some 0) with
  accessFlags := 1537
  interfaces := #[]
  cf := some (fileOf pool32 1 #[] #[] 1537 3 #[] #[])
  fields := #[]
  methods := #[]
  instanceTypes := #[]
  staticTypes := #[]
  resolved := Array.replicate 7 none
  statics := none }

def pool33 : Array CpInfo := pool [(2, .class_ 4), (1, u "java/util/ImmutableCollections$AbstractImmutableCollection"), (0, u "<init>"), (0, u "()V"), (1, .class_ 10), (1, u "java/util/ImmutableCollections"), (3, .class_ 16), (1, u "java/util/ImmutableCollections$AbstractImmutableList"), (60, .class_ 78), (0, u "java/util/List"), (45, .class_ 125), (0, u "java/util/RandomAccess")] 70

def k33m0 : Method := { name := "<init>", desc := "()V", sig := { parameters := [], returnType := none }, accessFlags := 0, code := none }
/-- java/util/ImmutableCollections$AbstractImmutableList -/
def k33 : Class := { plain "java/util/ImmutableCollections$AbstractImmutableList" (some 19) with
  accessFlags := 1056
  interfaces := #[31, 32]
  cf := some (fileOf pool33 14 #[.nestHost 8] #[{ accessFlags := 0, nameIndex := 5, descriptorIndex := 6, attributes := #[] }] 1056 2 #[77, 124] #[])
  fields := #[]
  methods := #[k33m0]
  instanceTypes := #[]
  staticTypes := #[]
  resolved := Array.replicate 196 none
  statics := none }

def pool34 : Array CpInfo := pool [(2, .class_ 4), (1, u "java/util/ImmutableCollections$AbstractImmutableList"), (3, .class_ 10), (1, u "java/util/ImmutableCollections$ListN"), (0, u "elements"), (0, u "[Ljava/lang/Object;"), (2, u "allowNulls"), (0, u "Z"), (42, .class_ 60), (0, u "java/io/Serializable"), (53, .class_ 115), (0, u "java/util/ImmutableCollections")] 3

/-- java/util/ImmutableCollections$ListN -/
def k34 : Class := { plain "java/util/ImmutableCollections$ListN" (some 33) with
  accessFlags := 48
  interfaces := #[2]
  cf := some (fileOf pool34 8 #[.nestHost 114] #[] 48 2 #[59] #[{ accessFlags := 18, nameIndex := 11, descriptorIndex := 12, attributes := #[] }, { accessFlags := 18, nameIndex := 15, descriptorIndex := 16, attributes := #[] }])
  fields := #[{ name := "elements", type := (.array (.object "java/lang/Object")), accessFlags := 18, slot := 0, constantValue := 0 }, { name := "allowNulls", type := .boolean, accessFlags := 18, slot := 1, constantValue := 0 }]
  methods := #[]
  instanceTypes := #[(.array (.object "java/lang/Object")), .boolean]
  staticTypes := #[]
  resolved := Array.replicate 119 none
  statics := none }

def pool35 : Array CpInfo := pool [(1, u "java/lang/Cloneable"), (0, .class_ 1), (0, u "java/lang/Object"), (0, .class_ 3)] 3

/-- java/lang/Cloneable -/
def k35 : Class := { plain "java/lang/Cloneable" (some 0) with
  accessFlags := 1537
  interfaces := #[]
  cf := some (fileOf pool35 2 #[] #[] 1537 4 #[] #[])
  fields := #[]
  methods := #[]
  instanceTypes := #[]
  staticTypes := #[]
  resolved := Array.replicate 8 none
  statics := none }

/-- the primitive byte -/
def k36 : Class := { plain "byte" none with kind := .primitive 'B', accessFlags := 0x411 }
/-- [B -/
def k37 : Class := { plain "[B" (some 0) with kind := .array 36 .byte, interfaces := #[35, 2], accessFlags := 1041 }

/-- the primitive char -/
def k38 : Class := { plain "char" none with kind := .primitive 'C', accessFlags := 0x411 }
/-- [C -/
def k39 : Class := { plain "[C" (some 0) with kind := .array 38 .char, interfaces := #[35, 2], accessFlags := 1041 }

/-- the primitive int -/
def k40 : Class := { plain "int" none with kind := .primitive 'I', accessFlags := 0x411 }
/-- [I -/
def k41 : Class := { plain "[I" (some 0) with kind := .array 40 .int, interfaces := #[35, 2], accessFlags := 1041 }

/-- [Ljava/lang/Object; -/
def k42 : Class := { plain "[Ljava/lang/Object;" (some 0) with kind := .array 0 (.object "java/lang/Object"), interfaces := #[35, 2], accessFlags := 1041 }

def heap : Heap := #[{ cls := 7, slots := #[.long 0, .int 1, .null, .int 0, .null, .int 0, .int 0], vm := .statics 7 },
  { cls := 12, slots := #[.long 0, .int 0, .null, .ref 5, .ref 6, .null, .ref 4, .null, .int 0, .int 1], vm := .statics 12 },
  { cls := 28, slots := #[.null, .null, .null], vm := .statics 28 },
  { cls := 42, slots := #[], vm := .none },
  { cls := 21, slots := #[.ref 3, .int 0], vm := .none },
  { cls := 0, slots := #[], vm := .none },
  { cls := 34, slots := #[.null, .int 0], vm := .none }]
def classes : Array Class := #[k0, k1, k2, k3, k4, k5, k6, k7, k8, k9, k10, k11, k12, k13, k14, k15, k16, k17, k18, k19, k20, k21, k22, k23, k24, k25, k26, k27, k28, k29, k30, k31, k32, k33, k34, k35, k36, k37, k38, k39, k40, k41, k42]
def interned : List (Array UInt16 × Addr) := []
def slotsUsed : Nat := 24
def theMethod : MethodId := ⟨1, 1⟩
def args0 : Array Value := #[.int 6, .int 7, .int 8, .int 9, .int 10, .int 11]
def aboutOver (below : List Frame) : State where
  vm := { classes := classes, interned := interned.toArray }
  heap := heap
  slotsUsed := slotsUsed
  threads := #[{ frames := .invoking theMethod args0 :: below }]
def below0 : List Frame := [.native { method := ⟨0, 0⟩, args := #[] }]
def about1 : State := aboutOver below0
def p0 : Program := .bare "" "" ""
def e0 : Env := launch0.env 0 0 0
theorem w_frames : about1.frames = Frame.invoking theMethod args0 :: below0 := rfl
set_option maxRecDepth 65536 in
theorem w_args : argsFit about1.vm theMethod args0 = true := by decide +kernel
set_option maxRecDepth 65536 in
theorem w_heap : heapFits about1 = true := by decide +kernel
set_option maxRecDepth 65536 in
theorem w_runnable : about1.curStatus? = some .runnable := by decide +kernel
set_option maxRecDepth 65536 in
theorem w_alone : about1.alone = true := by decide +kernel
set_option maxRecDepth 65536 in
theorem w_named : about1.methodNamed? x = some theMethod := by decide +kernel
set_option maxRecDepth 65536 in
theorem w_hears : about1.hears theMethod below0 = true := by decide +kernel
set_option maxRecDepth 65536 in
theorem w_ripe : about1.ripe theMethod args0 below0 = true := by decide +kernel
theorem w_running : about1.status = .running := rfl
set_option maxRecDepth 65536 in
theorem w_room : about1.hasRoom e0.platform room_1 = true :=
  launch0.hasRoom_least _ room_1 (by decide +kernel) (by decide +kernel) (by decide +kernel) (by decide +kernel) (by decide +kernel) (by decide +kernel)
theorem allAtoms_all (ts : List Jvm.Cond) (a : Array Jvm.Value) (st : Jvm.State) : (allAtoms ts).before a st = ts.all (fun c => c.before a st) := by
  induction ts with
  | nil => rfl
  | cons c t ih =>
    show (Jvm.Cond.and c (allAtoms t)).before a st = _
    rw [Jvm.Cond.before_and, ih, List.all_cons]
def words1 : List Jvm.Cond := Jvm.Cond.code x code maxLocals ret :: tables_1
/-- a 'code' word, met by the world's own term for the bytes: nothing is compared byte by byte -/
theorem code_word {y : MethodName} {bytes : ByteArray} {mx : Nat} {rt : Option FieldType} {a : Array Value} {s : State} {m : MethodId} {meth : Method} {c : Code} (h1 : s.methodNamed? y = some m) (h2 : s.vm.method? m = some meth) (h3 : meth.code = some c) (h4 : c.code = bytes)
    (h5 : (c.maxLocals == mx && c.exceptionTable.isEmpty && decide (c.maxStack ≤ mostOperands) && decide (meth.sig.returnType = rt) && !meth.locks && decide (parseMethodDescriptor y.desc = some meth.sig)) = true) : (Jvm.Cond.code y bytes mx rt).before a s = true := by
  simp only [Bool.and_eq_true, beq_iff_eq, Bool.not_eq_true', decide_eq_true_eq] at h5
  obtain ⟨⟨⟨⟨⟨g1, g2⟩, g3⟩, g4⟩, g5⟩, g6⟩ := h5
  simp [Cond.before, Cond.holds, Cond.value, h1, h2, h3, h4, g1, g2, g3, g4, g5, g6]
def isCode : Jvm.Cond → Bool
  | .code _ _ _ _ => true
  | _ => false
theorem all_split {L : List Jvm.Cond} {P : Jvm.Cond → Bool} (h1 : L.all (fun c => isCode c || P c) = true) (h2 : ∀ c ∈ L.filter isCode, P c = true) : L.all P = true := by
  refine List.all_eq_true.mpr fun c hc => ?_
  have h := List.all_eq_true.mp h1 c hc
  rcases Bool.eq_false_or_eq_true (isCode c) with hi | hi
  · exact h2 c (List.mem_filter.mpr ⟨hc, hi⟩)
  · simpa [hi] using h
set_option maxRecDepth 65536 in
theorem w_c0 : (Jvm.Cond.code x code maxLocals ret).before args0 about1 = true := code_word (m := ⟨1, 1⟩) (meth := k1m1) (c := k1c1) (by decide +kernel) rfl rfl rfl (by decide +kernel)
set_option maxRecDepth 65536 in
theorem w_c1 : (Jvm.Cond.code ({ cls := "java/lang/String", name := "<init>", desc := "([C)V" } : Jvm.MethodName) jdk_42_method_3_code (2 : Nat) (Option.none : Option Jvm.ClassFile.FieldType)).before args0 about1 = true := code_word (m := ⟨7, 1⟩) (meth := k7m1) (c := k7c1) (by decide +kernel) rfl rfl rfl (by decide +kernel)
set_option maxRecDepth 65536 in
theorem w_c2 : (Jvm.Cond.code ({ cls := "java/lang/String", name := "<init>", desc := "([CIILjava/lang/Void;)V" } : Jvm.MethodName) jdk_42_method_149_code (6 : Nat) (Option.none : Option Jvm.ClassFile.FieldType)).before args0 about1 = true := code_word (m := ⟨7, 4⟩) (meth := k7m4) (c := k7c4) (by decide +kernel) rfl rfl rfl (by decide +kernel)
set_option maxRecDepth 65536 in
theorem w_c3 : (Jvm.Cond.code ({ cls := "java/lang/Object", name := "<init>", desc := "()V" } : Jvm.MethodName) object_method_1_code (1 : Nat) (Option.none : Option Jvm.ClassFile.FieldType)).before args0 about1 = true := code_word (m := ⟨0, 0⟩) (meth := k0m0) (c := k0c0) (by decide +kernel) rfl rfl rfl (by decide +kernel)
set_option maxRecDepth 65536 in
theorem w_c4 : (Jvm.Cond.code ({ cls := "java/lang/StringUTF16", name := "compress", desc := "([CII)[B" } : Jvm.MethodName) jdk_52_method_16_code (6 : Nat) (Option.some (Jvm.ClassFile.FieldType.array Jvm.ClassFile.FieldType.byte))).before args0 about1 = true := code_word (m := ⟨8, 2⟩) (meth := k8m2) (c := k8c2) (by decide +kernel) rfl rfl rfl (by decide +kernel)
set_option maxRecDepth 65536 in
theorem w_c5 : (Jvm.Cond.code ({ cls := "java/lang/StringUTF16", name := "compress", desc := "([CI[BII)I" } : Jvm.MethodName) jdk_52_method_21_code (7 : Nat) (Option.some Jvm.ClassFile.FieldType.int)).before args0 about1 = true := code_word (m := ⟨8, 3⟩) (meth := k8m3) (c := k8c3) (by decide +kernel) rfl rfl rfl (by decide +kernel)
set_option maxRecDepth 65536 in
theorem w_c6 : (Jvm.Cond.code ({ cls := "java/lang/StringUTF16", name := "coderFromArrayLen", desc := "([BI)B" } : Jvm.MethodName) jdk_52_method_15_code (2 : Nat) (Option.some Jvm.ClassFile.FieldType.byte)).before args0 about1 = true := code_word (m := ⟨8, 1⟩) (meth := k8m1) (c := k8c1) (by decide +kernel) rfl rfl rfl (by decide +kernel)
set_option maxRecDepth 65536 in
theorem w_c7 : (Jvm.Cond.code ({ cls := "java/util/Set", name := "of", desc := "()Ljava/util/Set;" } : Jvm.MethodName) jdk_96_method_17_code (0 : Nat) (Option.some (Jvm.ClassFile.FieldType.object "java/util/Set"))).before args0 about1 = true := code_word (m := ⟨11, 0⟩) (meth := k11m0) (c := k11c0) (by decide +kernel) rfl rfl rfl (by decide +kernel)
set_option maxRecDepth 65536 in
theorem w_c8 : (Jvm.Cond.code ({ cls := "com/example/depeche/depeche/profile/Path", name := "<init>", desc := "(Ljava/lang/String;IILjava/lang/String;)V" } : Jvm.MethodName) prog_68_method_2_code (5 : Nat) (Option.none : Option Jvm.ClassFile.FieldType)).before args0 about1 = true := code_word (m := ⟨14, 0⟩) (meth := k14m0) (c := k14c0) (by decide +kernel) rfl rfl rfl (by decide +kernel)
set_option maxRecDepth 65536 in
theorem w_c9 : (Jvm.Cond.code ({ cls := "java/lang/Record", name := "<init>", desc := "()V" } : Jvm.MethodName) jdk_30_method_1_code (1 : Nat) (Option.none : Option Jvm.ClassFile.FieldType)).before args0 about1 = true := code_word (m := ⟨13, 0⟩) (meth := k13m0) (c := k13c0) (by decide +kernel) rfl rfl rfl (by decide +kernel)
set_option maxRecDepth 65536 in
theorem w_c10 : (Jvm.Cond.code ({ cls := "com/example/depeche/depeche/profile/Condition", name := "<init>", desc := "(Lcom/example/depeche/depeche/profile/Path;Ljava/util/Set;Z)V" } : Jvm.MethodName) prog_44_method_2_code (4 : Nat) (Option.none : Option Jvm.ClassFile.FieldType)).before args0 about1 = true := code_word (m := ⟨15, 1⟩) (meth := k15m1) (c := k15c1) (by decide +kernel) rfl rfl rfl (by decide +kernel)
set_option maxRecDepth 65536 in
theorem w_c11 : (Jvm.Cond.code ({ cls := "com/example/depeche/depeche/profile/Value$Field", name := "<init>", desc := "(Lcom/example/depeche/depeche/profile/Path;)V" } : Jvm.MethodName) prog_95_method_1_code (2 : Nat) (Option.none : Option Jvm.ClassFile.FieldType)).before args0 about1 = true := code_word (m := ⟨17, 0⟩) (meth := k17m0) (c := k17c0) (by decide +kernel) rfl rfl rfl (by decide +kernel)
set_option maxRecDepth 65536 in
theorem w_c12 : (Jvm.Cond.code ({ cls := "com/example/depeche/depeche/profile/Condition", name := "<init>", desc := "(Lcom/example/depeche/depeche/profile/Value$Source;Ljava/util/Set;Z)V" } : Jvm.MethodName) prog_44_method_1_code (4 : Nat) (Option.none : Option Jvm.ClassFile.FieldType)).before args0 about1 = true := code_word (m := ⟨15, 0⟩) (meth := k15m0) (c := k15c0) (by decide +kernel) rfl rfl rfl (by decide +kernel)
set_option maxRecDepth 65536 in
theorem w_c13 : (Jvm.Cond.code ({ cls := "java/util/Set", name := "copyOf", desc := "(Ljava/util/Collection;)Ljava/util/Set;" } : Jvm.MethodName) jdk_96_method_29_code (1 : Nat) (Option.some (Jvm.ClassFile.FieldType.object "java/util/Set"))).before args0 about1 = true := code_word (m := ⟨11, 2⟩) (meth := k11m2) (c := k11c2) (by decide +kernel) rfl rfl rfl (by decide +kernel)
set_option maxRecDepth 65536 in
theorem w_c14 : (Jvm.Cond.code ({ cls := "com/example/depeche/depeche/profile/Condition", name := "path", desc := "()Lcom/example/depeche/depeche/profile/Path;" } : Jvm.MethodName) prog_44_method_3_code (3 : Nat) (Option.some (Jvm.ClassFile.FieldType.object "com/example/depeche/depeche/profile/Path"))).before args0 about1 = true := code_word (m := ⟨15, 2⟩) (meth := k15m2) (c := k15c2) (by decide +kernel) rfl rfl rfl (by decide +kernel)
set_option maxRecDepth 65536 in
theorem w_c15 : (Jvm.Cond.code ({ cls := "com/example/depeche/depeche/profile/Value$Field", name := "path", desc := "()Lcom/example/depeche/depeche/profile/Path;" } : Jvm.MethodName) prog_95_method_6_code (1 : Nat) (Option.some (Jvm.ClassFile.FieldType.object "com/example/depeche/depeche/profile/Path"))).before args0 about1 = true := code_word (m := ⟨17, 1⟩) (meth := k17m1) (c := k17c1) (by decide +kernel) rfl rfl rfl (by decide +kernel)
set_option maxRecDepth 65536 in
theorem w_c16 : (Jvm.Cond.code ({ cls := "com/example/depeche/depeche/profile/Path", name := "mark", desc := "()Ljava/lang/String;" } : Jvm.MethodName) prog_68_method_14_code (1 : Nat) (Option.some (Jvm.ClassFile.FieldType.object "java/lang/String"))).before args0 about1 = true := code_word (m := ⟨14, 4⟩) (meth := k14m4) (c := k14c4) (by decide +kernel) rfl rfl rfl (by decide +kernel)
set_option maxRecDepth 65536 in
theorem w_c17 : (Jvm.Cond.code ({ cls := "com/example/depeche/depeche/profile/Path", name := "segment", desc := "()Ljava/lang/String;" } : Jvm.MethodName) prog_68_method_11_code (1 : Nat) (Option.some (Jvm.ClassFile.FieldType.object "java/lang/String"))).before args0 about1 = true := code_word (m := ⟨14, 1⟩) (meth := k14m1) (c := k14c1) (by decide +kernel) rfl rfl rfl (by decide +kernel)
set_option maxRecDepth 65536 in
theorem w_c18 : (Jvm.Cond.code ({ cls := "java/lang/String", name := "equals", desc := "(Ljava/lang/Object;)Z" } : Jvm.MethodName) jdk_42_method_66_code (3 : Nat) (Option.some Jvm.ClassFile.FieldType.boolean)).before args0 about1 = true := code_word (m := ⟨7, 2⟩) (meth := k7m2) (c := k7c2) (by decide +kernel) rfl rfl rfl (by decide +kernel)
set_option maxRecDepth 65536 in
theorem w_c19 : (Jvm.Cond.code ({ cls := "com/example/depeche/depeche/profile/Path", name := "field", desc := "()I" } : Jvm.MethodName) prog_68_method_12_code (1 : Nat) (Option.some Jvm.ClassFile.FieldType.int)).before args0 about1 = true := code_word (m := ⟨14, 2⟩) (meth := k14m2) (c := k14c2) (by decide +kernel) rfl rfl rfl (by decide +kernel)
set_option maxRecDepth 65536 in
theorem w_c20 : (Jvm.Cond.code ({ cls := "com/example/depeche/depeche/profile/Path", name := "component", desc := "()I" } : Jvm.MethodName) prog_68_method_13_code (1 : Nat) (Option.some Jvm.ClassFile.FieldType.int)).before args0 about1 = true := code_word (m := ⟨14, 3⟩) (meth := k14m3) (c := k14c3) (by decide +kernel) rfl rfl rfl (by decide +kernel)
set_option maxRecDepth 65536 in
theorem w_c21 : (Jvm.Cond.code ({ cls := "com/example/depeche/depeche/profile/Value$Text", name := "<init>", desc := "(Ljava/lang/String;)V" } : Jvm.MethodName) prog_98_method_1_code (2 : Nat) (Option.none : Option Jvm.ClassFile.FieldType)).before args0 about1 = true := code_word (m := ⟨22, 0⟩) (meth := k22m0) (c := k22c0) (by decide +kernel) rfl rfl rfl (by decide +kernel)
set_option maxRecDepth 65536 in
theorem w_c22 : (Jvm.Cond.code ({ cls := "com/example/depeche/depeche/profile/Value$Occurrence", name := "<init>", desc := "()V" } : Jvm.MethodName) prog_96_method_1_code (1 : Nat) (Option.none : Option Jvm.ClassFile.FieldType)).before args0 about1 = true := code_word (m := ⟨23, 0⟩) (meth := k23m0) (c := k23c0) (by decide +kernel) rfl rfl rfl (by decide +kernel)
set_option maxRecDepth 65536 in
theorem w_c23 : (Jvm.Cond.code ({ cls := "java/lang/String", name := "valueOf", desc := "(C)Ljava/lang/String;" } : Jvm.MethodName) jdk_42_method_139_code (1 : Nat) (Option.some (Jvm.ClassFile.FieldType.object "java/lang/String"))).before args0 about1 = true := code_word (m := ⟨7, 3⟩) (meth := k7m3) (c := k7c3) (by decide +kernel) rfl rfl rfl (by decide +kernel)
set_option maxRecDepth 65536 in
theorem w_c24 : (Jvm.Cond.code ({ cls := "java/lang/StringLatin1", name := "canEncode", desc := "(C)Z" } : Jvm.MethodName) jdk_43_method_3_code (1 : Nat) (Option.some Jvm.ClassFile.FieldType.boolean)).before args0 about1 = true := code_word (m := ⟨24, 1⟩) (meth := k24m1) (c := k24c1) (by decide +kernel) rfl rfl rfl (by decide +kernel)
set_option maxRecDepth 65536 in
theorem w_c25 : (Jvm.Cond.code ({ cls := "java/lang/StringLatin1", name := "toBytes", desc := "(C)[B" } : Jvm.MethodName) jdk_43_method_46_code (1 : Nat) (Option.some (Jvm.ClassFile.FieldType.array Jvm.ClassFile.FieldType.byte))).before args0 about1 = true := code_word (m := ⟨24, 2⟩) (meth := k24m2) (c := k24c2) (by decide +kernel) rfl rfl rfl (by decide +kernel)
set_option maxRecDepth 65536 in
theorem w_c26 : (Jvm.Cond.code ({ cls := "java/lang/String", name := "<init>", desc := "([BB)V" } : Jvm.MethodName) jdk_42_method_151_code (3 : Nat) (Option.none : Option Jvm.ClassFile.FieldType)).before args0 about1 = true := code_word (m := ⟨7, 5⟩) (meth := k7m5) (c := k7c5) (by decide +kernel) rfl rfl rfl (by decide +kernel)
set_option maxRecDepth 65536 in
theorem w_c27 : (Jvm.Cond.code ({ cls := "java/util/Set", name := "of", desc := "(Ljava/lang/Object;)Ljava/util/Set;" } : Jvm.MethodName) jdk_96_method_18_code (1 : Nat) (Option.some (Jvm.ClassFile.FieldType.object "java/util/Set"))).before args0 about1 = true := code_word (m := ⟨11, 1⟩) (meth := k11m1) (c := k11c1) (by decide +kernel) rfl rfl rfl (by decide +kernel)
set_option maxRecDepth 65536 in
theorem w_c28 : (Jvm.Cond.code ({ cls := "java/util/ImmutableCollections$Set12", name := "<init>", desc := "(Ljava/lang/Object;)V" } : Jvm.MethodName) jdk_101_method_1_code (2 : Nat) (Option.none : Option Jvm.ClassFile.FieldType)).before args0 about1 = true := code_word (m := ⟨25, 0⟩) (meth := k25m0) (c := k25c0) (by decide +kernel) rfl rfl rfl (by decide +kernel)
set_option maxRecDepth 65536 in
theorem w_c29 : (Jvm.Cond.code ({ cls := "java/util/ImmutableCollections$AbstractImmutableSet", name := "<init>", desc := "()V" } : Jvm.MethodName) jdk_100_method_1_code (1 : Nat) (Option.none : Option Jvm.ClassFile.FieldType)).before args0 about1 = true := code_word (m := ⟨20, 0⟩) (meth := k20m0) (c := k20c0) (by decide +kernel) rfl rfl rfl (by decide +kernel)
set_option maxRecDepth 65536 in
theorem w_c30 : (Jvm.Cond.code ({ cls := "java/util/ImmutableCollections$AbstractImmutableCollection", name := "<init>", desc := "()V" } : Jvm.MethodName) jdk_47_method_1_code (1 : Nat) (Option.none : Option Jvm.ClassFile.FieldType)).before args0 about1 = true := code_word (m := ⟨19, 0⟩) (meth := k19m0) (c := k19c0) (by decide +kernel) rfl rfl rfl (by decide +kernel)
set_option maxRecDepth 65536 in
theorem w_c31 : (Jvm.Cond.code ({ cls := "java/util/AbstractCollection", name := "<init>", desc := "()V" } : Jvm.MethodName) jdk_22_method_1_code (1 : Nat) (Option.none : Option Jvm.ClassFile.FieldType)).before args0 about1 = true := code_word (m := ⟨18, 0⟩) (meth := k18m0) (c := k18c0) (by decide +kernel) rfl rfl rfl (by decide +kernel)
set_option maxRecDepth 65536 in
theorem w_c32 : (Jvm.Cond.code ({ cls := "java/util/Objects", name := "requireNonNull", desc := "(Ljava/lang/Object;)Ljava/lang/Object;" } : Jvm.MethodName) jdk_31_method_10_code (1 : Nat) (Option.some (Jvm.ClassFile.FieldType.object "java/lang/Object"))).before args0 about1 = true := code_word (m := ⟨26, 1⟩) (meth := k26m1) (c := k26c1) (by decide +kernel) rfl rfl rfl (by decide +kernel)
set_option maxRecDepth 65536 in
theorem w_c33 : (Jvm.Cond.code ({ cls := "com/example/depeche/depeche/profile/Value$Count", name := "<init>", desc := "(Ljava/lang/String;)V" } : Jvm.MethodName) prog_94_method_1_code (2 : Nat) (Option.none : Option Jvm.ClassFile.FieldType)).before args0 about1 = true := code_word (m := ⟨27, 0⟩) (meth := k27m0) (c := k27c0) (by decide +kernel) rfl rfl rfl (by decide +kernel)
def codes1 : List Jvm.Cond := [Jvm.Cond.code x code maxLocals ret, Jvm.Cond.code ({ cls := "java/lang/String", name := "<init>", desc := "([C)V" } : Jvm.MethodName) jdk_42_method_3_code (2 : Nat) (Option.none : Option Jvm.ClassFile.FieldType), Jvm.Cond.code ({ cls := "java/lang/String", name := "<init>", desc := "([CIILjava/lang/Void;)V" } : Jvm.MethodName) jdk_42_method_149_code (6 : Nat) (Option.none : Option Jvm.ClassFile.FieldType), Jvm.Cond.code ({ cls := "java/lang/Object", name := "<init>", desc := "()V" } : Jvm.MethodName) object_method_1_code (1 : Nat) (Option.none : Option Jvm.ClassFile.FieldType), Jvm.Cond.code ({ cls := "java/lang/StringUTF16", name := "compress", desc := "([CII)[B" } : Jvm.MethodName) jdk_52_method_16_code (6 : Nat) (Option.some (Jvm.ClassFile.FieldType.array Jvm.ClassFile.FieldType.byte)), Jvm.Cond.code ({ cls := "java/lang/StringUTF16", name := "compress", desc := "([CI[BII)I" } : Jvm.MethodName) jdk_52_method_21_code (7 : Nat) (Option.some Jvm.ClassFile.FieldType.int), Jvm.Cond.code ({ cls := "java/lang/StringUTF16", name := "coderFromArrayLen", desc := "([BI)B" } : Jvm.MethodName) jdk_52_method_15_code (2 : Nat) (Option.some Jvm.ClassFile.FieldType.byte), Jvm.Cond.code ({ cls := "java/util/Set", name := "of", desc := "()Ljava/util/Set;" } : Jvm.MethodName) jdk_96_method_17_code (0 : Nat) (Option.some (Jvm.ClassFile.FieldType.object "java/util/Set")), Jvm.Cond.code ({ cls := "com/example/depeche/depeche/profile/Path", name := "<init>", desc := "(Ljava/lang/String;IILjava/lang/String;)V" } : Jvm.MethodName) prog_68_method_2_code (5 : Nat) (Option.none : Option Jvm.ClassFile.FieldType), Jvm.Cond.code ({ cls := "java/lang/Record", name := "<init>", desc := "()V" } : Jvm.MethodName) jdk_30_method_1_code (1 : Nat) (Option.none : Option Jvm.ClassFile.FieldType), Jvm.Cond.code ({ cls := "com/example/depeche/depeche/profile/Condition", name := "<init>", desc := "(Lcom/example/depeche/depeche/profile/Path;Ljava/util/Set;Z)V" } : Jvm.MethodName) prog_44_method_2_code (4 : Nat) (Option.none : Option Jvm.ClassFile.FieldType), Jvm.Cond.code ({ cls := "com/example/depeche/depeche/profile/Value$Field", name := "<init>", desc := "(Lcom/example/depeche/depeche/profile/Path;)V" } : Jvm.MethodName) prog_95_method_1_code (2 : Nat) (Option.none : Option Jvm.ClassFile.FieldType), Jvm.Cond.code ({ cls := "com/example/depeche/depeche/profile/Condition", name := "<init>", desc := "(Lcom/example/depeche/depeche/profile/Value$Source;Ljava/util/Set;Z)V" } : Jvm.MethodName) prog_44_method_1_code (4 : Nat) (Option.none : Option Jvm.ClassFile.FieldType), Jvm.Cond.code ({ cls := "java/util/Set", name := "copyOf", desc := "(Ljava/util/Collection;)Ljava/util/Set;" } : Jvm.MethodName) jdk_96_method_29_code (1 : Nat) (Option.some (Jvm.ClassFile.FieldType.object "java/util/Set")), Jvm.Cond.code ({ cls := "com/example/depeche/depeche/profile/Condition", name := "path", desc := "()Lcom/example/depeche/depeche/profile/Path;" } : Jvm.MethodName) prog_44_method_3_code (3 : Nat) (Option.some (Jvm.ClassFile.FieldType.object "com/example/depeche/depeche/profile/Path")), Jvm.Cond.code ({ cls := "com/example/depeche/depeche/profile/Value$Field", name := "path", desc := "()Lcom/example/depeche/depeche/profile/Path;" } : Jvm.MethodName) prog_95_method_6_code (1 : Nat) (Option.some (Jvm.ClassFile.FieldType.object "com/example/depeche/depeche/profile/Path")), Jvm.Cond.code ({ cls := "com/example/depeche/depeche/profile/Path", name := "mark", desc := "()Ljava/lang/String;" } : Jvm.MethodName) prog_68_method_14_code (1 : Nat) (Option.some (Jvm.ClassFile.FieldType.object "java/lang/String")), Jvm.Cond.code ({ cls := "com/example/depeche/depeche/profile/Path", name := "segment", desc := "()Ljava/lang/String;" } : Jvm.MethodName) prog_68_method_11_code (1 : Nat) (Option.some (Jvm.ClassFile.FieldType.object "java/lang/String")), Jvm.Cond.code ({ cls := "java/lang/String", name := "equals", desc := "(Ljava/lang/Object;)Z" } : Jvm.MethodName) jdk_42_method_66_code (3 : Nat) (Option.some Jvm.ClassFile.FieldType.boolean), Jvm.Cond.code ({ cls := "com/example/depeche/depeche/profile/Path", name := "field", desc := "()I" } : Jvm.MethodName) prog_68_method_12_code (1 : Nat) (Option.some Jvm.ClassFile.FieldType.int), Jvm.Cond.code ({ cls := "com/example/depeche/depeche/profile/Path", name := "component", desc := "()I" } : Jvm.MethodName) prog_68_method_13_code (1 : Nat) (Option.some Jvm.ClassFile.FieldType.int), Jvm.Cond.code ({ cls := "com/example/depeche/depeche/profile/Value$Text", name := "<init>", desc := "(Ljava/lang/String;)V" } : Jvm.MethodName) prog_98_method_1_code (2 : Nat) (Option.none : Option Jvm.ClassFile.FieldType), Jvm.Cond.code ({ cls := "com/example/depeche/depeche/profile/Value$Occurrence", name := "<init>", desc := "()V" } : Jvm.MethodName) prog_96_method_1_code (1 : Nat) (Option.none : Option Jvm.ClassFile.FieldType), Jvm.Cond.code ({ cls := "java/lang/String", name := "valueOf", desc := "(C)Ljava/lang/String;" } : Jvm.MethodName) jdk_42_method_139_code (1 : Nat) (Option.some (Jvm.ClassFile.FieldType.object "java/lang/String")), Jvm.Cond.code ({ cls := "java/lang/StringLatin1", name := "canEncode", desc := "(C)Z" } : Jvm.MethodName) jdk_43_method_3_code (1 : Nat) (Option.some Jvm.ClassFile.FieldType.boolean), Jvm.Cond.code ({ cls := "java/lang/StringLatin1", name := "toBytes", desc := "(C)[B" } : Jvm.MethodName) jdk_43_method_46_code (1 : Nat) (Option.some (Jvm.ClassFile.FieldType.array Jvm.ClassFile.FieldType.byte)), Jvm.Cond.code ({ cls := "java/lang/String", name := "<init>", desc := "([BB)V" } : Jvm.MethodName) jdk_42_method_151_code (3 : Nat) (Option.none : Option Jvm.ClassFile.FieldType), Jvm.Cond.code ({ cls := "java/util/Set", name := "of", desc := "(Ljava/lang/Object;)Ljava/util/Set;" } : Jvm.MethodName) jdk_96_method_18_code (1 : Nat) (Option.some (Jvm.ClassFile.FieldType.object "java/util/Set")), Jvm.Cond.code ({ cls := "java/util/ImmutableCollections$Set12", name := "<init>", desc := "(Ljava/lang/Object;)V" } : Jvm.MethodName) jdk_101_method_1_code (2 : Nat) (Option.none : Option Jvm.ClassFile.FieldType), Jvm.Cond.code ({ cls := "java/util/ImmutableCollections$AbstractImmutableSet", name := "<init>", desc := "()V" } : Jvm.MethodName) jdk_100_method_1_code (1 : Nat) (Option.none : Option Jvm.ClassFile.FieldType), Jvm.Cond.code ({ cls := "java/util/ImmutableCollections$AbstractImmutableCollection", name := "<init>", desc := "()V" } : Jvm.MethodName) jdk_47_method_1_code (1 : Nat) (Option.none : Option Jvm.ClassFile.FieldType), Jvm.Cond.code ({ cls := "java/util/AbstractCollection", name := "<init>", desc := "()V" } : Jvm.MethodName) jdk_22_method_1_code (1 : Nat) (Option.none : Option Jvm.ClassFile.FieldType), Jvm.Cond.code ({ cls := "java/util/Objects", name := "requireNonNull", desc := "(Ljava/lang/Object;)Ljava/lang/Object;" } : Jvm.MethodName) jdk_31_method_10_code (1 : Nat) (Option.some (Jvm.ClassFile.FieldType.object "java/lang/Object")), Jvm.Cond.code ({ cls := "com/example/depeche/depeche/profile/Value$Count", name := "<init>", desc := "(Ljava/lang/String;)V" } : Jvm.MethodName) prog_94_method_1_code (2 : Nat) (Option.none : Option Jvm.ClassFile.FieldType)]
set_option maxRecDepth 65536 in
theorem codes_eq : words1.filter isCode = codes1 := rfl
theorem w_codes : ∀ c ∈ words1.filter isCode, c.before args0 about1 = true := by
  rw [codes_eq]
  intro c hc
  simp only [codes1, List.mem_cons, List.not_mem_nil, or_false] at hc
  rcases hc with rfl | rfl | rfl | rfl | rfl | rfl | rfl | rfl | rfl | rfl | rfl | rfl | rfl | rfl | rfl | rfl | rfl | rfl | rfl | rfl | rfl | rfl | rfl | rfl | rfl | rfl | rfl | rfl | rfl | rfl | rfl | rfl | rfl | rfl
  · exact w_c0
  · exact w_c1
  · exact w_c2
  · exact w_c3
  · exact w_c4
  · exact w_c5
  · exact w_c6
  · exact w_c7
  · exact w_c8
  · exact w_c9
  · exact w_c10
  · exact w_c11
  · exact w_c12
  · exact w_c13
  · exact w_c14
  · exact w_c15
  · exact w_c16
  · exact w_c17
  · exact w_c18
  · exact w_c19
  · exact w_c20
  · exact w_c21
  · exact w_c22
  · exact w_c23
  · exact w_c24
  · exact w_c25
  · exact w_c26
  · exact w_c27
  · exact w_c28
  · exact w_c29
  · exact w_c30
  · exact w_c31
  · exact w_c32
  · exact w_c33
set_option maxRecDepth 65536 in
theorem w_t1 : (words1.take 24).all (fun c => isCode c || c.before args0 about1) = true := by decide +kernel
set_option maxRecDepth 65536 in
theorem w_t2 : ((words1.drop 24).take 24).all (fun c => isCode c || c.before args0 about1) = true := by decide +kernel
set_option maxRecDepth 65536 in
theorem w_t3 : (((words1.drop 24).drop 24).take 24).all (fun c => isCode c || c.before args0 about1) = true := by decide +kernel
set_option maxRecDepth 65536 in
theorem w_t4 : ((((words1.drop 24).drop 24).drop 24).take 24).all (fun c => isCode c || c.before args0 about1) = true := by decide +kernel
set_option maxRecDepth 65536 in
theorem w_t5 : (((((words1.drop 24).drop 24).drop 24).drop 24).take 24).all (fun c => isCode c || c.before args0 about1) = true := by decide +kernel
set_option maxRecDepth 65536 in
theorem w_t6 : ((((((words1.drop 24).drop 24).drop 24).drop 24).drop 24).take 24).all (fun c => isCode c || c.before args0 about1) = true := by decide +kernel
set_option maxRecDepth 65536 in
theorem w_t7 : (((((((words1.drop 24).drop 24).drop 24).drop 24).drop 24).drop 24).take 24).all (fun c => isCode c || c.before args0 about1) = true := by decide +kernel
set_option maxRecDepth 65536 in
theorem w_t8 : ((((((((words1.drop 24).drop 24).drop 24).drop 24).drop 24).drop 24).drop 24).take 24).all (fun c => isCode c || c.before args0 about1) = true := by decide +kernel
set_option maxRecDepth 65536 in
theorem w_t9 : ((((((((words1.drop 24).drop 24).drop 24).drop 24).drop 24).drop 24).drop 24).drop 24).all (fun c => isCode c || c.before args0 about1) = true := by decide +kernel
theorem w_tables : (allAtoms (Jvm.Cond.code x code maxLocals ret :: tables_1)).before args0 about1 = true := by
  rw [allAtoms_all]
  show words1.all (fun c => c.before args0 about1) = true
  refine all_split ?_ w_codes
  rw [← List.take_append_drop 24 words1, List.all_append, w_t1, ← List.take_append_drop 24 (words1.drop 24), List.all_append, w_t2, ← List.take_append_drop 24 ((words1.drop 24).drop 24), List.all_append, w_t3, ← List.take_append_drop 24 (((words1.drop 24).drop 24).drop 24), List.all_append, w_t4, ← List.take_append_drop 24 ((((words1.drop 24).drop 24).drop 24).drop 24), List.all_append, w_t5, ← List.take_append_drop 24 (((((words1.drop 24).drop 24).drop 24).drop 24).drop 24), List.all_append, w_t6, ← List.take_append_drop 24 ((((((words1.drop 24).drop 24).drop 24).drop 24).drop 24).drop 24), List.all_append, w_t7, ← List.take_append_drop 24 (((((((words1.drop 24).drop 24).drop 24).drop 24).drop 24).drop 24).drop 24), List.all_append, w_t8, w_t9]
  rfl
set_option maxRecDepth 65536 in
theorem w_rest : rest_1_c.before args0 about1 = true := by decide +kernel
set_option maxRecDepth 65536 in
theorem w_case : (Jvm.Cond.and given_1 narrow_1).before args0 about1 = true := by decide +kernel
theorem w_applies : (headSpec (Jvm.Cond.code x code maxLocals ret :: tables_1) room_1).applies x e0.platform about1 = true :=
  (Spec.applies_iff w_frames).mpr ⟨w_running, w_runnable, w_alone, w_named, w_hears, w_ripe, w_room, w_tables⟩
theorem atStart : AtStart classFile x code maxLocals ret World_1 tables_1 room_1 Calls_1 rest_1 Pre_1 launch0 p0 e0 about1 theMethod args0 below0 :=
  ⟨lists_1, trivial, launch0.admits_env _ _ _, launch0.least_env, fairChoices_fair.cas, fairChoices_fair.clock, w_frames, w_args, w_heap, w_applies, trivial, w_rest, w_case⟩
end start1
theorem witness_1 : WitnessClaimed_1 := ⟨start1.p0, start1.e0, start1.about1, start1.theMethod, start1.args0, start1.below0, start1.atStart⟩
end Jvm.Pilot.@@N@@
