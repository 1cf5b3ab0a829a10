import JvmDerived
import JvmDerived.Pilot.@@N@@Statement
import JvmDerived.Pilot.@@N@@Code
set_option linter.unusedVariables false
set_option linter.unusedSimpArgs false
namespace Jvm.RoadKit
open Sem ClassFile Op Lib Jvm.Stand Jvm.Free Jvm.LawKit
section Own
variable {p : Program} {l : Launch} {e : Env} {R : Room} {s : State} {m : MethodId} {args : Array Value} {below : List Frame} {meth : Method} {c : Code} {T T' : State} {locs : List Loc} {cells slots : Nat} {g g' : JFrame} {Qf : Option Value → Heap → List Loc → Prop} {E : Outcome → State → Prop} {C S : Nat} {Z : State} {a0 : Array Value} {h : Heap} {pc n : Nat} {Ls : Array Slot} {sk : List Value}
theorem nz {a b : Addr} (h : ¬ @Eq Nat a b) : a ≠ b := h
theorem ny {a b : Nat} (h : a < b) : a < b := h
theorem nx {a b : Nat} (h : a = b) : a = b := h
theorem nw {a b : Nat} (h : ¬ a = b) : ¬ a = b := h
theorem own_nn {z : Int32} {i : Nat} (h : z = Int32.ofNat i) (hi : i < 2 ^ 31) : z.toNatClampNeg = i ∧ ¬ z < 0 := by
  subst h
  have e : (Int32.ofNat i).toInt = i := Int32.toInt_ofNat_of_lt hi
  refine ⟨by rw [Int32.toNatClampNeg, e]; rfl, ?_⟩
  rw [Int32.lt_iff_toInt_lt, e]
  have : (0 : Int32).toInt = 0 := rfl
  omega
theorem retI (X : Stand p l e R s m args below meth c T locs cells slots) (hx : p.tables.exec = Jvm.exec) {z : Int32} {rest : List Value} (hret : meth.sig.returnType = some .int) (hd : decode c.code pc = .ok (.ireturn, 1)) {fs : List Frame}
    (hl : ∀ (f : JFrame) (acts : List Action), f.method = m → f.locked = none → f.entered = [] → (doReturn e (T.setTop f) acts (some (.int z))).1 = T.setFrames fs) : Steps p.tables e below (T.setTop (mkF m pc Ls (.int z :: rest))) (T.setFrames fs) := by
  have hm' : T.vm.method? m = some meth := X.method'
  have hn : narrow .int (.int z) = .int z := rfl
  show Steps p.tables e below (T.setTop { method := m, pc := pc, locals := Ls, stack := _ :: rest, locked := none }) _
  jvm_step X.here [X.here.top, hx, hd, hm', hret, hn]
  first | (intro acts; rw [hl _ acts rfl rfl rfl]) | rw [hl _ _ rfl rfl rfl]
  exact Steps.refl _
theorem retL (X : Stand p l e R s m args below meth c T locs cells slots) (hx : p.tables.exec = Jvm.exec) {z : Int64} {rest : List Value} (hret : meth.sig.returnType = some .long) (hd : decode c.code pc = .ok (.lreturn, 1)) {fs : List Frame}
    (hl : ∀ (f : JFrame) (acts : List Action), f.method = m → f.locked = none → f.entered = [] → (doReturn e (T.setTop f) acts (some (.long z))).1 = T.setFrames fs) : Steps p.tables e below (T.setTop (mkF m pc Ls (.long z :: rest))) (T.setFrames fs) := by
  have hm' : T.vm.method? m = some meth := X.method'
  show Steps p.tables e below (T.setTop { method := m, pc := pc, locals := Ls, stack := _ :: rest, locked := none }) _
  jvm_step X.here [X.here.top, hx, hd, hm', hret, narrow]
  first | (intro acts; rw [hl _ acts rfl rfl rfl]) | rw [hl _ _ rfl rfl rfl]
  exact Steps.refl _
theorem retA (X : Stand p l e R s m args below meth c T locs cells slots) (hx : p.tables.exec = Jvm.exec) {z : Value} {t : FieldType} {rest : List Value} (hz : z.isRef = true) (hret : meth.sig.returnType = some t) (ht : t.isReference = true) (hd : decode c.code pc = .ok (.areturn, 1)) {fs : List Frame}
    (hl : ∀ (f : JFrame) (acts : List Action), f.method = m → f.locked = none → f.entered = [] → (doReturn e (T.setTop f) acts (some z)).1 = T.setFrames fs) : Steps p.tables e below (T.setTop (mkF m pc Ls (z :: rest))) (T.setFrames fs) := by
  have hm' : T.vm.method? m = some meth := X.method'
  show Steps p.tables e below (T.setTop { method := m, pc := pc, locals := Ls, stack := _ :: rest, locked := none }) _
  jvm_step X.here [X.here.top, hx, hd, hm', hret, hz, ht]
  first | (intro acts; rw [hl _ acts rfl rfl rfl]) | rw [hl _ _ rfl rfl rfl]
  exact Steps.refl _
theorem retNz (X : Stand p l e R s m args below meth c T locs cells slots) (hx : p.tables.exec = Jvm.exec) {z z' : Int32} {t : FieldType} {rest : List Value} (hz : nar t z = z') (hret : meth.sig.returnType = some t) (ht : t = .boolean ∨ t = .byte ∨ t = .char ∨ t = .short)
    (hd : decode c.code pc = .ok (.ireturn, 1)) {fs : List Frame} (hl : ∀ (f : JFrame) (acts : List Action), f.method = m → f.locked = none → f.entered = [] → (doReturn e (T.setTop f) acts (some (.int z'))).1 = T.setFrames fs) :
    Steps p.tables e below (T.setTop (mkF m pc Ls (.int z :: rest))) (T.setFrames fs) := by
  subst hz
  exact retN X hx hret ht hd hl
/-- from here the body comes back, with what Qf says of the value, the heap and the places written -/
def Wk (p : Program) (e : Env) (below : List Frame) (E : Outcome → State → Prop) (T : State) (g : JFrame) : Prop :=
  ∃ s₂ o, Steps p.tables e below (T.setTop g) s₂ ∧ s₂.status = .running ∧ Ended s₂ below o ∧ E o s₂
def EndN (s : State) (Qf : Option Value → Heap → List Loc → Prop) (C S : Nat) : Outcome → State → Prop := fun o s₂ => ∃ v L, o = .returned v ∧ Qf v s₂.heap L ∧ FrameEnd s o s₂ L C S
theorem Wk.go (k : ∀ t, Steps p.tables e below (T'.setTop g') t → Steps p.tables e below (T.setTop g) t) (w : Wk p e below E T' g') : Wk p e below E T g := by
  obtain ⟨s₂, o, a, r⟩ := w
  exact ⟨s₂, o, k _ a, r⟩
theorem Wk.leave (X : Stand p l e R s m args below meth c T locs cells slots) {v : Option Value} (hv : meth.sig.returnType = none → v = none) (hlocks : meth.locks = false) (eT : T.heap = h) (hQ : Qf v h locs) (hC : cells ≤ C) (hS : slots ≤ S)
    (k : ∀ fs, (∀ (f : JFrame) (acts : List Action), f.method = m → f.locked = none → f.entered = [] → (doReturn e (T.setTop f) acts v).1 = T.setFrames fs) → Steps p.tables e below (T.setTop g) (T.setFrames fs)) : Wk p e below (EndN s Qf C S) T g := by
  obtain ⟨fs, hr, hrun, hended, hW, hsame⟩ := X.leave hv hlocks
  subst eT
  exact ⟨_, _, k fs hr, hrun, hended, _, _, rfl, hQ, ⟨_, rfl⟩, hW, hsame.mono hC hS⟩
theorem Wk.aloadN (X : Stand p l e R s m args below meth c T locs cells slots) (hx : p.tables.exec = Jvm.exec) {k : Fin 4} {v : Value} (hd : decode c.code pc = .ok (.aload_n k, 1)) (hp : pc + 1 = n) (hl : Ls[k.val]? = some (.val v)) (hv : v.isRef = true) (w : Wk p e below E T (mkF m n Ls (v :: sk))) : Wk p e below E T (mkF m pc Ls sk) := by
  subst hp
  exact Wk.go (fun _ k => XS.aloadN X.here hx rfl hd hl hv k) w
theorem Wk.iloadN (X : Stand p l e R s m args below meth c T locs cells slots) (hx : p.tables.exec = Jvm.exec) {k : Fin 4} {v : Int32} (hd : decode c.code pc = .ok (.iload_n k, 1)) (hp : pc + 1 = n) (hl : Ls[k.val]? = some (.val (.int v))) (w : Wk p e below E T (mkF m n Ls (.int v :: sk))) : Wk p e below E T (mkF m pc Ls sk) := by
  subst hp
  exact Wk.go (fun _ k => XS.iloadN X.here hx rfl hd hl k) w
theorem Wk.lloadN (X : Stand p l e R s m args below meth c T locs cells slots) (hx : p.tables.exec = Jvm.exec) {k : Fin 4} {v : Int64} (hd : decode c.code pc = .ok (.lload_n k, 1)) (hp : pc + 1 = n) (hl : Ls[k.val]? = some (.val (.long v))) (w : Wk p e below E T (mkF m n Ls (.long v :: sk))) : Wk p e below E T (mkF m pc Ls sk) := by
  subst hp
  exact Wk.go (fun _ k => XS.lloadN X.here hx rfl hd hl k) w
theorem Wk.istoreN (X : Stand p l e R s m args below meth c T locs cells slots) (hx : p.tables.exec = Jvm.exec) {k : Fin 4} {v : Int32} {L' : Array Slot} (hd : decode c.code pc = .ok (.istore_n k, 1)) (hp : pc + 1 = n) (hl : storeLocals Ls k.val (.int v) = some L') (w : Wk p e below E T (mkF m n L' sk)) : Wk p e below E T (mkF m pc Ls (.int v :: sk)) := by
  subst hp
  exact Wk.go (fun _ k => XS.istoreN X.here hx rfl hd rfl hl k) w
theorem Wk.lstoreN (X : Stand p l e R s m args below meth c T locs cells slots) (hx : p.tables.exec = Jvm.exec) {k : Fin 4} {v : Int64} {L' : Array Slot} (hd : decode c.code pc = .ok (.lstore_n k, 1)) (hp : pc + 1 = n) (hl : storeLocals Ls k.val (.long v) = some L') (w : Wk p e below E T (mkF m n L' sk)) : Wk p e below E T (mkF m pc Ls (.long v :: sk)) := by
  subst hp
  exact Wk.go (fun _ k => XS.lstoreN X.here hx rfl hd rfl hl k) w
theorem Wk.astoreN (X : Stand p l e R s m args below meth c T locs cells slots) (hx : p.tables.exec = Jvm.exec) {k : Fin 4} {v : Value} {L' : Array Slot} (hd : decode c.code pc = .ok (.astore_n k, 1)) (hp : pc + 1 = n) (hv : v.isRef = true) (hl : storeLocals Ls k.val v = some L') (w : Wk p e below E T (mkF m n L' sk)) : Wk p e below E T (mkF m pc Ls (v :: sk)) := by
  subst hp
  exact Wk.go (fun _ k => XS.astoreN X.here hx rfl hd rfl hv hl k) w
theorem Wk.aload (X : Stand p l e R s m args below meth c T locs cells slots) (hx : p.tables.exec = Jvm.exec) {k : Nat} {v : Value} (hd : decode c.code pc = .ok (.aload k, 2)) (hp : pc + 2 = n) (hl : Ls[k]? = some (.val v)) (hv : v.isRef = true) (w : Wk p e below E T (mkF m n Ls (v :: sk))) : Wk p e below E T (mkF m pc Ls sk) := by
  subst hp
  exact Wk.go (fun _ k => XS.aload X.here hx rfl hd hl hv k) w
theorem Wk.iload (X : Stand p l e R s m args below meth c T locs cells slots) (hx : p.tables.exec = Jvm.exec) {k : Nat} {v : Int32} (hd : decode c.code pc = .ok (.iload k, 2)) (hp : pc + 2 = n) (hl : Ls[k]? = some (.val (.int v))) (w : Wk p e below E T (mkF m n Ls (.int v :: sk))) : Wk p e below E T (mkF m pc Ls sk) := by
  subst hp
  exact Wk.go (fun _ k => XS.iload X.here hx rfl hd hl k) w
theorem Wk.lload (X : Stand p l e R s m args below meth c T locs cells slots) (hx : p.tables.exec = Jvm.exec) {k : Nat} {v : Int64} (hd : decode c.code pc = .ok (.lload k, 2)) (hp : pc + 2 = n) (hl : Ls[k]? = some (.val (.long v))) (w : Wk p e below E T (mkF m n Ls (.long v :: sk))) : Wk p e below E T (mkF m pc Ls sk) := by
  subst hp
  exact Wk.go (fun _ k => XS.lload X.here hx rfl hd hl k) w
theorem Wk.istore (X : Stand p l e R s m args below meth c T locs cells slots) (hx : p.tables.exec = Jvm.exec) {k : Nat} {v : Int32} {L' : Array Slot} (hd : decode c.code pc = .ok (.istore k, 2)) (hp : pc + 2 = n) (hl : storeLocals Ls k (.int v) = some L') (w : Wk p e below E T (mkF m n L' sk)) : Wk p e below E T (mkF m pc Ls (.int v :: sk)) := by
  subst hp
  exact Wk.go (fun _ k => XS.istore X.here hx rfl hd rfl hl k) w
theorem Wk.lstore (X : Stand p l e R s m args below meth c T locs cells slots) (hx : p.tables.exec = Jvm.exec) {k : Nat} {v : Int64} {L' : Array Slot} (hd : decode c.code pc = .ok (.lstore k, 2)) (hp : pc + 2 = n) (hl : storeLocals Ls k (.long v) = some L') (w : Wk p e below E T (mkF m n L' sk)) : Wk p e below E T (mkF m pc Ls (.long v :: sk)) := by
  subst hp
  exact Wk.go (fun _ k => XS.lstore X.here hx rfl hd rfl hl k) w
theorem Wk.astore (X : Stand p l e R s m args below meth c T locs cells slots) (hx : p.tables.exec = Jvm.exec) {k : Nat} {v : Value} {L' : Array Slot} (hd : decode c.code pc = .ok (.astore k, 2)) (hp : pc + 2 = n) (hv : v.isRef = true) (hl : storeLocals Ls k v = some L') (w : Wk p e below E T (mkF m n L' sk)) : Wk p e below E T (mkF m pc Ls (v :: sk)) := by
  subst hp
  exact Wk.go (fun _ k => XS.astore X.here hx rfl hd rfl hv hl k) w
theorem Wk.iconst (X : Stand p l e R s m args below meth c T locs cells slots) (hx : p.tables.exec = Jvm.exec) {i : Int} {z : Int32} (hd : decode c.code pc = .ok (.iconst i, 1)) (hp : pc + 1 = n) (hz : Int32.ofInt i = z) (w : Wk p e below E T (mkF m n Ls (.int z :: sk))) : Wk p e below E T (mkF m pc Ls sk) := by
  subst hp; subst hz
  exact Wk.go (fun _ k => XS.iconst X.here hx rfl hd  k) w
theorem Wk.bipush (X : Stand p l e R s m args below meth c T locs cells slots) (hx : p.tables.exec = Jvm.exec) {i : Int} {z : Int32} (hd : decode c.code pc = .ok (.bipush i, 2)) (hp : pc + 2 = n) (hz : (Int8.ofInt i).toInt32 = z) (w : Wk p e below E T (mkF m n Ls (.int z :: sk))) : Wk p e below E T (mkF m pc Ls sk) := by
  subst hp; subst hz
  exact Wk.go (fun _ k => XS.bipush X.here hx rfl hd  k) w
theorem Wk.sipush (X : Stand p l e R s m args below meth c T locs cells slots) (hx : p.tables.exec = Jvm.exec) {i : Int} {z : Int32} (hd : decode c.code pc = .ok (.sipush i, 3)) (hp : pc + 3 = n) (hz : (Int16.ofInt i).toInt32 = z) (w : Wk p e below E T (mkF m n Ls (.int z :: sk))) : Wk p e below E T (mkF m pc Ls sk) := by
  subst hp; subst hz
  exact Wk.go (fun _ k => XS.sipush X.here hx rfl hd  k) w
theorem Wk.lconst (X : Stand p l e R s m args below meth c T locs cells slots) (hx : p.tables.exec = Jvm.exec) {k : Fin 2} {z : Int64} (hd : decode c.code pc = .ok (.lconst k, 1)) (hp : pc + 1 = n) (hz : Int64.ofNat k = z) (w : Wk p e below E T (mkF m n Ls (.long z :: sk))) : Wk p e below E T (mkF m pc Ls sk) := by
  subst hp; subst hz
  exact Wk.go (fun _ k => XS.lconst X.here hx rfl hd  k) w
theorem Wk.aconstNull (X : Stand p l e R s m args below meth c T locs cells slots) (hx : p.tables.exec = Jvm.exec)  (hd : decode c.code pc = .ok (.aconst_null, 1)) (hp : pc + 1 = n)  (w : Wk p e below E T (mkF m n Ls (.null :: sk))) : Wk p e below E T (mkF m pc Ls sk) := by
  subst hp
  exact Wk.go (fun _ k => XS.aconstNull X.here hx rfl hd  k) w
theorem Wk.iadd (X : Stand p l e R s m args below meth c T locs cells slots) (hx : p.tables.exec = Jvm.exec) {x y : Int32} (hd : decode c.code pc = .ok (.iadd, 1)) (hp : pc + 1 = n)  (w : Wk p e below E T (mkF m n Ls (.int (x + y) :: sk))) : Wk p e below E T (mkF m pc Ls (.int y :: .int x :: sk)) := by
  subst hp
  exact Wk.go (fun _ k => XS.iadd X.here hx rfl hd rfl k) w
theorem Wk.ladd (X : Stand p l e R s m args below meth c T locs cells slots) (hx : p.tables.exec = Jvm.exec) {x y : Int64} (hd : decode c.code pc = .ok (.ladd, 1)) (hp : pc + 1 = n)  (w : Wk p e below E T (mkF m n Ls (.long (x + y) :: sk))) : Wk p e below E T (mkF m pc Ls (.long y :: .long x :: sk)) := by
  subst hp
  exact Wk.go (fun _ k => XS.ladd X.here hx rfl hd rfl k) w
theorem Wk.isub (X : Stand p l e R s m args below meth c T locs cells slots) (hx : p.tables.exec = Jvm.exec) {x y : Int32} (hd : decode c.code pc = .ok (.isub, 1)) (hp : pc + 1 = n)  (w : Wk p e below E T (mkF m n Ls (.int (x - y) :: sk))) : Wk p e below E T (mkF m pc Ls (.int y :: .int x :: sk)) := by
  subst hp
  exact Wk.go (fun _ k => XS.isub X.here hx rfl hd rfl k) w
theorem Wk.lsub (X : Stand p l e R s m args below meth c T locs cells slots) (hx : p.tables.exec = Jvm.exec) {x y : Int64} (hd : decode c.code pc = .ok (.lsub, 1)) (hp : pc + 1 = n)  (w : Wk p e below E T (mkF m n Ls (.long (x - y) :: sk))) : Wk p e below E T (mkF m pc Ls (.long y :: .long x :: sk)) := by
  subst hp
  exact Wk.go (fun _ k => XS.lsub X.here hx rfl hd rfl k) w
theorem Wk.imul (X : Stand p l e R s m args below meth c T locs cells slots) (hx : p.tables.exec = Jvm.exec) {x y : Int32} (hd : decode c.code pc = .ok (.imul, 1)) (hp : pc + 1 = n)  (w : Wk p e below E T (mkF m n Ls (.int (x * y) :: sk))) : Wk p e below E T (mkF m pc Ls (.int y :: .int x :: sk)) := by
  subst hp
  exact Wk.go (fun _ k => XS.imul X.here hx rfl hd rfl k) w
theorem Wk.lmul (X : Stand p l e R s m args below meth c T locs cells slots) (hx : p.tables.exec = Jvm.exec) {x y : Int64} (hd : decode c.code pc = .ok (.lmul, 1)) (hp : pc + 1 = n)  (w : Wk p e below E T (mkF m n Ls (.long (x * y) :: sk))) : Wk p e below E T (mkF m pc Ls (.long y :: .long x :: sk)) := by
  subst hp
  exact Wk.go (fun _ k => XS.lmul X.here hx rfl hd rfl k) w
theorem Wk.iand (X : Stand p l e R s m args below meth c T locs cells slots) (hx : p.tables.exec = Jvm.exec) {x y : Int32} (hd : decode c.code pc = .ok (.iand, 1)) (hp : pc + 1 = n)  (w : Wk p e below E T (mkF m n Ls (.int (x &&& y) :: sk))) : Wk p e below E T (mkF m pc Ls (.int y :: .int x :: sk)) := by
  subst hp
  exact Wk.go (fun _ k => XS.iand X.here hx rfl hd rfl k) w
theorem Wk.land (X : Stand p l e R s m args below meth c T locs cells slots) (hx : p.tables.exec = Jvm.exec) {x y : Int64} (hd : decode c.code pc = .ok (.land, 1)) (hp : pc + 1 = n)  (w : Wk p e below E T (mkF m n Ls (.long (x &&& y) :: sk))) : Wk p e below E T (mkF m pc Ls (.long y :: .long x :: sk)) := by
  subst hp
  exact Wk.go (fun _ k => XS.land X.here hx rfl hd rfl k) w
theorem Wk.ior (X : Stand p l e R s m args below meth c T locs cells slots) (hx : p.tables.exec = Jvm.exec) {x y : Int32} (hd : decode c.code pc = .ok (.ior, 1)) (hp : pc + 1 = n)  (w : Wk p e below E T (mkF m n Ls (.int (x ||| y) :: sk))) : Wk p e below E T (mkF m pc Ls (.int y :: .int x :: sk)) := by
  subst hp
  exact Wk.go (fun _ k => XS.ior X.here hx rfl hd rfl k) w
theorem Wk.lor (X : Stand p l e R s m args below meth c T locs cells slots) (hx : p.tables.exec = Jvm.exec) {x y : Int64} (hd : decode c.code pc = .ok (.lor, 1)) (hp : pc + 1 = n)  (w : Wk p e below E T (mkF m n Ls (.long (x ||| y) :: sk))) : Wk p e below E T (mkF m pc Ls (.long y :: .long x :: sk)) := by
  subst hp
  exact Wk.go (fun _ k => XS.lor X.here hx rfl hd rfl k) w
theorem Wk.ixor (X : Stand p l e R s m args below meth c T locs cells slots) (hx : p.tables.exec = Jvm.exec) {x y : Int32} (hd : decode c.code pc = .ok (.ixor, 1)) (hp : pc + 1 = n)  (w : Wk p e below E T (mkF m n Ls (.int (x ^^^ y) :: sk))) : Wk p e below E T (mkF m pc Ls (.int y :: .int x :: sk)) := by
  subst hp
  exact Wk.go (fun _ k => XS.ixor X.here hx rfl hd rfl k) w
theorem Wk.lxor (X : Stand p l e R s m args below meth c T locs cells slots) (hx : p.tables.exec = Jvm.exec) {x y : Int64} (hd : decode c.code pc = .ok (.lxor, 1)) (hp : pc + 1 = n)  (w : Wk p e below E T (mkF m n Ls (.long (x ^^^ y) :: sk))) : Wk p e below E T (mkF m pc Ls (.long y :: .long x :: sk)) := by
  subst hp
  exact Wk.go (fun _ k => XS.lxor X.here hx rfl hd rfl k) w
theorem Wk.ineg (X : Stand p l e R s m args below meth c T locs cells slots) (hx : p.tables.exec = Jvm.exec) {x : Int32} (hd : decode c.code pc = .ok (.ineg, 1)) (hp : pc + 1 = n)  (w : Wk p e below E T (mkF m n Ls (.int (-x) :: sk))) : Wk p e below E T (mkF m pc Ls (.int x :: sk)) := by
  subst hp
  exact Wk.go (fun _ k => XS.ineg X.here hx rfl hd rfl k) w
theorem Wk.lneg (X : Stand p l e R s m args below meth c T locs cells slots) (hx : p.tables.exec = Jvm.exec) {x : Int64} (hd : decode c.code pc = .ok (.lneg, 1)) (hp : pc + 1 = n)  (w : Wk p e below E T (mkF m n Ls (.long (-x) :: sk))) : Wk p e below E T (mkF m pc Ls (.long x :: sk)) := by
  subst hp
  exact Wk.go (fun _ k => XS.lneg X.here hx rfl hd rfl k) w
theorem Wk.i2l (X : Stand p l e R s m args below meth c T locs cells slots) (hx : p.tables.exec = Jvm.exec) {x : Int32} (hd : decode c.code pc = .ok (.i2l, 1)) (hp : pc + 1 = n)  (w : Wk p e below E T (mkF m n Ls (.long (x.toInt64) :: sk))) : Wk p e below E T (mkF m pc Ls (.int x :: sk)) := by
  subst hp
  exact Wk.go (fun _ k => XS.i2l X.here hx rfl hd rfl k) w
theorem Wk.l2i (X : Stand p l e R s m args below meth c T locs cells slots) (hx : p.tables.exec = Jvm.exec) {x : Int64} (hd : decode c.code pc = .ok (.l2i, 1)) (hp : pc + 1 = n)  (w : Wk p e below E T (mkF m n Ls (.int (x.toInt32) :: sk))) : Wk p e below E T (mkF m pc Ls (.long x :: sk)) := by
  subst hp
  exact Wk.go (fun _ k => XS.l2i X.here hx rfl hd rfl k) w
theorem Wk.i2b (X : Stand p l e R s m args below meth c T locs cells slots) (hx : p.tables.exec = Jvm.exec) {x : Int32} (hd : decode c.code pc = .ok (.i2b, 1)) (hp : pc + 1 = n)  (w : Wk p e below E T (mkF m n Ls (.int (x.toInt8.toInt32) :: sk))) : Wk p e below E T (mkF m pc Ls (.int x :: sk)) := by
  subst hp
  exact Wk.go (fun _ k => XS.i2b X.here hx rfl hd rfl k) w
theorem Wk.i2s (X : Stand p l e R s m args below meth c T locs cells slots) (hx : p.tables.exec = Jvm.exec) {x : Int32} (hd : decode c.code pc = .ok (.i2s, 1)) (hp : pc + 1 = n)  (w : Wk p e below E T (mkF m n Ls (.int (x.toInt16.toInt32) :: sk))) : Wk p e below E T (mkF m pc Ls (.int x :: sk)) := by
  subst hp
  exact Wk.go (fun _ k => XS.i2s X.here hx rfl hd rfl k) w
theorem Wk.i2c (X : Stand p l e R s m args below meth c T locs cells slots) (hx : p.tables.exec = Jvm.exec) {x z : Int32} (hd : decode c.code pc = .ok (.i2c, 1)) (hp : pc + 1 = n) (hz : x.toUInt32.toUInt16.toUInt32.toInt32 = z) (w : Wk p e below E T (mkF m n Ls (.int z :: sk))) : Wk p e below E T (mkF m pc Ls (.int x :: sk)) := by
  subst hp; subst hz
  exact Wk.go (fun _ k => XS.i2c X.here hx rfl hd rfl k) w
theorem Wk.ishl (X : Stand p l e R s m args below meth c T locs cells slots) (hx : p.tables.exec = Jvm.exec) {x y : Int32} (hd : decode c.code pc = .ok (.ishl, 1)) (hp : pc + 1 = n)  (w : Wk p e below E T (mkF m n Ls (.int (x <<< (y &&& 31)) :: sk))) : Wk p e below E T (mkF m pc Ls (.int y :: .int x :: sk)) := by
  subst hp
  exact Wk.go (fun _ k => XS.ishl X.here hx rfl hd rfl k) w
theorem Wk.ishr (X : Stand p l e R s m args below meth c T locs cells slots) (hx : p.tables.exec = Jvm.exec) {x y : Int32} (hd : decode c.code pc = .ok (.ishr, 1)) (hp : pc + 1 = n)  (w : Wk p e below E T (mkF m n Ls (.int (x >>> (y &&& 31)) :: sk))) : Wk p e below E T (mkF m pc Ls (.int y :: .int x :: sk)) := by
  subst hp
  exact Wk.go (fun _ k => XS.ishr X.here hx rfl hd rfl k) w
theorem Wk.iushr (X : Stand p l e R s m args below meth c T locs cells slots) (hx : p.tables.exec = Jvm.exec) {x y : Int32} (hd : decode c.code pc = .ok (.iushr, 1)) (hp : pc + 1 = n)  (w : Wk p e below E T (mkF m n Ls (.int ((x.toUInt32 >>> (y &&& 31).toUInt32).toInt32) :: sk))) : Wk p e below E T (mkF m pc Ls (.int y :: .int x :: sk)) := by
  subst hp
  exact Wk.go (fun _ k => XS.iushr X.here hx rfl hd rfl k) w
theorem Wk.lshl (X : Stand p l e R s m args below meth c T locs cells slots) (hx : p.tables.exec = Jvm.exec) {x z : Int64} {y : Int32} (hd : decode c.code pc = .ok (.lshl, 1)) (hp : pc + 1 = n) (hz : (x <<< (y &&& 63).toInt64) = z) (w : Wk p e below E T (mkF m n Ls (.long z :: sk))) : Wk p e below E T (mkF m pc Ls (.int y :: .long x :: sk)) := by
  subst hp; subst hz
  exact Wk.go (fun _ k => XS.lshl X.here hx rfl hd rfl k) w
theorem Wk.lshr (X : Stand p l e R s m args below meth c T locs cells slots) (hx : p.tables.exec = Jvm.exec) {x z : Int64} {y : Int32} (hd : decode c.code pc = .ok (.lshr, 1)) (hp : pc + 1 = n) (hz : (x >>> (y &&& 63).toInt64) = z) (w : Wk p e below E T (mkF m n Ls (.long z :: sk))) : Wk p e below E T (mkF m pc Ls (.int y :: .long x :: sk)) := by
  subst hp; subst hz
  exact Wk.go (fun _ k => XS.lshr X.here hx rfl hd rfl k) w
theorem Wk.lushr (X : Stand p l e R s m args below meth c T locs cells slots) (hx : p.tables.exec = Jvm.exec) {x z : Int64} {y : Int32} (hd : decode c.code pc = .ok (.lushr, 1)) (hp : pc + 1 = n) (hz : (x.toUInt64 >>> (y &&& 63).toInt64.toUInt64).toInt64 = z) (w : Wk p e below E T (mkF m n Ls (.long z :: sk))) : Wk p e below E T (mkF m pc Ls (.int y :: .long x :: sk)) := by
  subst hp; subst hz
  exact Wk.go (fun _ k => XS.lushr X.here hx rfl hd rfl k) w
theorem Wk.lcmp (X : Stand p l e R s m args below meth c T locs cells slots) (hx : p.tables.exec = Jvm.exec) {x y : Int64} (hd : decode c.code pc = .ok (.lcmp, 1)) (hp : pc + 1 = n)  (w : Wk p e below E T (mkF m n Ls (.int (lcmpW x y) :: sk))) : Wk p e below E T (mkF m pc Ls (.long y :: .long x :: sk)) := by
  subst hp
  exact Wk.go (fun _ k => XS.lcmp X.here hx rfl hd rfl k) w
theorem Wk.idiv (X : Stand p l e R s m args below meth c T locs cells slots) (hx : p.tables.exec = Jvm.exec) {x y : Int32} (hd : decode c.code pc = .ok (.idiv, 1)) (hp : pc + 1 = n) (hy : y ≠ 0) (w : Wk p e below E T (mkF m n Ls (.int (x / y) :: sk))) : Wk p e below E T (mkF m pc Ls (.int y :: .int x :: sk)) := by
  subst hp
  exact Wk.go (fun _ k => XS.idiv X.here hx rfl hd rfl hy k) w
theorem Wk.ldiv (X : Stand p l e R s m args below meth c T locs cells slots) (hx : p.tables.exec = Jvm.exec) {x y : Int64} (hd : decode c.code pc = .ok (.ldiv, 1)) (hp : pc + 1 = n) (hy : y ≠ 0) (w : Wk p e below E T (mkF m n Ls (.long (x / y) :: sk))) : Wk p e below E T (mkF m pc Ls (.long y :: .long x :: sk)) := by
  subst hp
  exact Wk.go (fun _ k => XS.ldiv X.here hx rfl hd rfl hy k) w
theorem Wk.irem (X : Stand p l e R s m args below meth c T locs cells slots) (hx : p.tables.exec = Jvm.exec) {x y : Int32} (hd : decode c.code pc = .ok (.irem, 1)) (hp : pc + 1 = n) (hy : y ≠ 0) (w : Wk p e below E T (mkF m n Ls (.int (x % y) :: sk))) : Wk p e below E T (mkF m pc Ls (.int y :: .int x :: sk)) := by
  subst hp
  exact Wk.go (fun _ k => iremM X hx rfl hd rfl hy k) w
theorem Wk.lrem (X : Stand p l e R s m args below meth c T locs cells slots) (hx : p.tables.exec = Jvm.exec) {x y : Int64} (hd : decode c.code pc = .ok (.lrem, 1)) (hp : pc + 1 = n) (hy : y ≠ 0) (w : Wk p e below E T (mkF m n Ls (.long (x - (x / y) * y) :: sk))) : Wk p e below E T (mkF m pc Ls (.long y :: .long x :: sk)) := by
  subst hp
  exact Wk.go (fun _ k => XS.lrem X.here hx rfl hd rfl hy k) w
theorem Wk.iinc (X : Stand p l e R s m args below meth c T locs cells slots) (hx : p.tables.exec = Jvm.exec) {k : Nat} {cst : Int} {x : Int32} {L' : Array Slot} (hd : decode c.code pc = .ok (.iinc k cst, 3)) (hp : pc + 3 = n) (hl : Ls[k]? = some (.val (.int x))) (hl' : storeLocals Ls k (.int (x + Int32.ofInt cst)) = some L') (w : Wk p e below E T (mkF m n L' sk)) : Wk p e below E T (mkF m pc Ls sk) := by
  subst hp
  exact Wk.go (fun _ k => XS.iinc X.here hx rfl hd hl hl' k) w
theorem Wk.dup (X : Stand p l e R s m args below meth c T locs cells slots) (hx : p.tables.exec = Jvm.exec) {x : Value} (hd : decode c.code pc = .ok (.dup, 1)) (hp : pc + 1 = n) (hc : x.category = 1) (w : Wk p e below E T (mkF m n Ls (x :: x :: sk))) : Wk p e below E T (mkF m pc Ls (x :: sk)) := by
  subst hp
  exact Wk.go (fun _ k => XS.dup X.here hx rfl hd rfl hc k) w
theorem Wk.pop (X : Stand p l e R s m args below meth c T locs cells slots) (hx : p.tables.exec = Jvm.exec) {x : Value} (hd : decode c.code pc = .ok (.pop, 1)) (hp : pc + 1 = n) (hc : x.category = 1) (w : Wk p e below E T (mkF m n Ls sk)) : Wk p e below E T (mkF m pc Ls (x :: sk)) := by
  subst hp
  exact Wk.go (fun _ k => XS.pop X.here hx rfl hd rfl hc k) w
theorem Wk.dupX1 (X : Stand p l e R s m args below meth c T locs cells slots) (hx : p.tables.exec = Jvm.exec) {x y : Value} (hd : decode c.code pc = .ok (.dup_x1, 1)) (hp : pc + 1 = n) (hc : x.category = 1) (hc' : y.category = 1) (w : Wk p e below E T (mkF m n Ls (x :: y :: x :: sk))) : Wk p e below E T (mkF m pc Ls (x :: y :: sk)) := by
  subst hp
  exact Wk.go (fun _ k => XS.dupX1 X.here hx rfl hd rfl hc hc' k) w
theorem Wk.dup2 (X : Stand p l e R s m args below meth c T locs cells slots) (hx : p.tables.exec = Jvm.exec) {x y : Value} (hd : decode c.code pc = .ok (.dup2, 1)) (hp : pc + 1 = n) (hc : x.category = 1) (hc' : y.category = 1) (w : Wk p e below E T (mkF m n Ls (x :: y :: x :: y :: sk))) : Wk p e below E T (mkF m pc Ls (x :: y :: sk)) := by
  subst hp
  exact Wk.go (fun _ k => Jvm.Free.XT.dup2 X.here hx rfl hd rfl hc hc' k) w
theorem Wk.dup2L (X : Stand p l e R s m args below meth c T locs cells slots) (hx : p.tables.exec = Jvm.exec) {x : Int64} (hd : decode c.code pc = .ok (.dup2, 1)) (hp : pc + 1 = n)  (w : Wk p e below E T (mkF m n Ls (.long x :: .long x :: sk))) : Wk p e below E T (mkF m pc Ls (.long x :: sk)) := by
  subst hp
  exact Wk.go (fun _ k => Jvm.Free.XT.dup2L X.here hx rfl hd rfl k) w
theorem Wk.goto (X : Stand p l e R s m args below meth c T locs cells slots) (hx : p.tables.exec = Jvm.exec)  {o : Int} (hd : decode c.code pc = .ok (.goto o, 3))  (ho : 0 ≤ (pc : Int) + o) (hp : ((pc : Int) + o).toNat = n) (w : Wk p e below E T (mkF m n Ls sk)) : Wk p e below E T (mkF m pc Ls sk) := Wk.go (fun _ k => XS.goto X.here hx rfl rfl hd  ho hp k) w
theorem Wk.ifYes (X : Stand p l e R s m args below meth c T locs cells slots) (hx : p.tables.exec = Jvm.exec) {cd : ClassFile.Cond} {x : Int32} {o : Int} (hd : decode c.code pc = .ok (.ifCond cd o, 3)) (hc : ifCond.holds cd x = true) (ho : 0 ≤ (pc : Int) + o) (hp : ((pc : Int) + o).toNat = n) (w : Wk p e below E T (mkF m n Ls sk)) : Wk p e below E T (mkF m pc Ls (.int x :: sk)) := Wk.go (fun _ k => XS.ifYes X.here hx rfl rfl hd rfl hc ho hp k) w
theorem Wk.icmpYes (X : Stand p l e R s m args below meth c T locs cells slots) (hx : p.tables.exec = Jvm.exec) {cd : ClassFile.Cond} {x y : Int32} {o : Int} (hd : decode c.code pc = .ok (.if_icmp cd o, 3)) (hc : if_icmp.holds cd x y = true) (ho : 0 ≤ (pc : Int) + o) (hp : ((pc : Int) + o).toNat = n) (w : Wk p e below E T (mkF m n Ls sk)) : Wk p e below E T (mkF m pc Ls (.int y :: .int x :: sk)) := Wk.go (fun _ k => XS.icmpYes X.here hx rfl rfl hd rfl hc ho hp k) w
theorem Wk.ifnullYes (X : Stand p l e R s m args below meth c T locs cells slots) (hx : p.tables.exec = Jvm.exec)  {o : Int} (hd : decode c.code pc = .ok (.ifnull o, 3))  (ho : 0 ≤ (pc : Int) + o) (hp : ((pc : Int) + o).toNat = n) (w : Wk p e below E T (mkF m n Ls sk)) : Wk p e below E T (mkF m pc Ls (.null :: sk)) := Wk.go (fun _ k => XS.ifnullYes X.here hx rfl rfl hd rfl ho hp k) w
theorem Wk.ifnonnullYes (X : Stand p l e R s m args below meth c T locs cells slots) (hx : p.tables.exec = Jvm.exec) {b : Addr} {o : Int} (hd : decode c.code pc = .ok (.ifnonnull o, 3))  (ho : 0 ≤ (pc : Int) + o) (hp : ((pc : Int) + o).toNat = n) (w : Wk p e below E T (mkF m n Ls sk)) : Wk p e below E T (mkF m pc Ls (.ref b :: sk)) := Wk.go (fun _ k => XS.ifnonnullYes X.here hx rfl rfl hd rfl ho hp k) w
theorem Wk.ifNo (X : Stand p l e R s m args below meth c T locs cells slots) (hx : p.tables.exec = Jvm.exec) {cd : ClassFile.Cond} {o : Int} {x : Int32} (hd : decode c.code pc = .ok (.ifCond cd o, 3)) (hp : pc + 3 = n) (hc : ifCond.holds cd x = false) (w : Wk p e below E T (mkF m n Ls sk)) : Wk p e below E T (mkF m pc Ls (.int x :: sk)) := by
  subst hp
  exact Wk.go (fun _ k => XS.ifNo X.here hx rfl hd rfl hc k) w
theorem Wk.icmpNo (X : Stand p l e R s m args below meth c T locs cells slots) (hx : p.tables.exec = Jvm.exec) {cd : ClassFile.Cond} {o : Int} {x y : Int32} (hd : decode c.code pc = .ok (.if_icmp cd o, 3)) (hp : pc + 3 = n) (hc : if_icmp.holds cd x y = false) (w : Wk p e below E T (mkF m n Ls sk)) : Wk p e below E T (mkF m pc Ls (.int y :: .int x :: sk)) := by
  subst hp
  exact Wk.go (fun _ k => XS.icmpNo X.here hx rfl hd rfl hc k) w
theorem Wk.ifnullNo (X : Stand p l e R s m args below meth c T locs cells slots) (hx : p.tables.exec = Jvm.exec) {o : Int} {b : Addr} (hd : decode c.code pc = .ok (.ifnull o, 3)) (hp : pc + 3 = n)  (w : Wk p e below E T (mkF m n Ls sk)) : Wk p e below E T (mkF m pc Ls (.ref b :: sk)) := by
  subst hp
  exact Wk.go (fun _ k => XS.ifnullNo X.here hx rfl hd rfl k) w
theorem Wk.ifnonnullNo (X : Stand p l e R s m args below meth c T locs cells slots) (hx : p.tables.exec = Jvm.exec) {o : Int} (hd : decode c.code pc = .ok (.ifnonnull o, 3)) (hp : pc + 3 = n)  (w : Wk p e below E T (mkF m n Ls sk)) : Wk p e below E T (mkF m pc Ls (.null :: sk)) := by
  subst hp
  exact Wk.go (fun _ k => XS.ifnonnullNo X.here hx rfl hd rfl k) w
theorem Wk.acmp (X : Stand p l e R s m args below meth c T locs cells slots) (hx : p.tables.exec = Jvm.exec) {cd : ACond} {x y : Value} {same : Bool} {o : Int} (h1 : x.isRef = true) (h2 : y.isRef = true) (hd : decode c.code pc = .ok (.if_acmp cd o, 3)) (hq : decide (x = y) = same) (ho : 0 ≤ (pc : Int) + o) (hp : n = if acV cd same = true then ((pc : Int) + o).toNat else pc + 3) (w : Wk p e below E T (mkF m n Ls sk)) : Wk p e below E T (mkF m pc Ls (y :: x :: sk)) := Wk.go (fun _ k => RoadKit.acmp (g := mkF m pc Ls (y :: x :: sk)) X hx rfl h1 h2 rfl hd rfl hq ho hp k) w
theorem Wk.ldcInt (X : Stand p l e R s m args below meth c T locs cells slots) (hx : p.tables.exec = Jvm.exec) {own : String} {index : Nat} {v : Int32} (hown : s.vm.findClass own = some m.cls) (hc : (Cond.constant own index v).before args s = true) (hd : decode c.code pc = .ok (.ldc index, 2)) (hp : pc + 2 = n) (w : Wk p e below E T (mkF m n Ls (.int v :: sk))) : Wk p e below E T (mkF m pc Ls sk) := by
  subst hp
  exact Wk.go (X.ldcInt hx hown hc (g := mkF m pc Ls sk) rfl hd) w
theorem Wk.ldc2Long (X : Stand p l e R s m args below meth c T locs cells slots) (hx : p.tables.exec = Jvm.exec) {own : String} {index : Nat} {v : Int64} (hown : s.vm.findClass own = some m.cls) (hc : (Cond.constantLong own index v).before args s = true) (hd : decode c.code pc = .ok (.ldc2_w index, 3)) (hp : pc + 3 = n) (w : Wk p e below E T (mkF m n Ls (.long v :: sk))) : Wk p e below E T (mkF m pc Ls sk) := by
  subst hp
  exact Wk.go (X.ldc2Long hx hown hc (g := mkF m pc Ls sk) rfl hd) w
theorem Wk.newO (X : Stand p l e R s m args below meth c T locs cells slots) (hx : p.tables.exec = Jvm.exec) (hZ : Z.Warmed39 s.vm) {own K : String} {index k : Nat} (hown : s.vm.findClass own = some m.cls) (w : (Cond.classLink own index K).before a0 Z = true) (wi : (Cond.instantiable K k).before a0 Z = true) (wz : (Cond.initialized K).before a0 Z = true) (eT : T.heap = h) (hd : decode c.code pc = .ok (.new index, 3)) (hp : pc + 3 = n) (hc : cells + 1 ≤ R.cells) (hl : slots + k ≤ R.slots)
    (kk : ∀ (T' : State) (h' : Heap) (b : Addr), b = h.size → Stand p l e R s m args below meth c T' locs (cells + 1) (slots + k) → T'.heap = h' → Ext h h' → Exa Z h' b K → (∀ {O nm d : String} {ty : FieldType}, Laid Z a0 K O nm d → parseFieldDescriptor d = some ty → Fld Z h' b O nm d (defaultValue ty)) → Unt h' b → Wk p e below E T' (mkF m n Ls (.ref b :: sk))) : Wk p e below E T (mkF m pc Ls sk) := by
  subst hp
  obtain ⟨T', h', X', e', E', A', D', Y', st'⟩ := RoadKit.newO X hx hZ hown w wi wz eT (g := mkF m pc Ls sk) rfl hd hc hl
  exact Wk.go st' (kk T' h' _ rfl X' e' E' A' (fun L q => D' L q) Y')
theorem Wk.getF (X : Stand p l e R s m args below meth c T locs cells slots) (hx : p.tables.exec = Jvm.exec) (hZ : Z.Warmed39 s.vm) {own R0 O f d host : String} {index : Nat} (hown : s.vm.findClass own = some m.cls) (w : (Cond.fieldLink own index R0 f d).before a0 Z = true ∨ (Cond.fieldLinkNest own index R0 f d host).before a0 Z = true) (via : Via Z R0 O f d) (eT : T.heap = h) {a : Addr} {v : Value} (F : Fld Z h a O f d v) (hd : decode c.code pc = .ok (.getfield index, 3)) (hp : pc + 3 = n) (kk : ∀ T' : State, Stand p l e R s m args below meth c T' locs cells slots → T'.heap = h → Wk p e below E T' (mkF m n Ls (v :: sk))) : Wk p e below E T (mkF m pc Ls (.ref a :: sk)) := by
  subst hp
  obtain ⟨T', X', e', st'⟩ := RoadKit.getF X hx hZ hown w via eT F (g := mkF m pc Ls (.ref a :: sk)) rfl rfl hd
  exact Wk.go st' (kk T' X' e')
theorem Wk.getS (X : Stand p l e R s m args below meth c T locs cells slots) (hx : p.tables.exec = Jvm.exec) (hZ : Z.Warmed39 s.vm) {own R0 O f d host : String} {index : Nat} (hown : s.vm.findClass own = some m.cls) (w : (Cond.fieldLink own index R0 f d).before a0 Z = true ∨ (Cond.fieldLinkNest own index R0 f d host).before a0 Z = true) (via : Via Z R0 O f d) (eT : T.heap = h) {v : Value} (F : Sta Z h O f d v) (hd : decode c.code pc = .ok (.getstatic index, 3)) (hp : pc + 3 = n) (kk : ∀ T' : State, Stand p l e R s m args below meth c T' locs cells slots → T'.heap = h → Wk p e below E T' (mkF m n Ls (v :: sk))) : Wk p e below E T (mkF m pc Ls sk) := by
  subst hp
  obtain ⟨T', X', e', st'⟩ := RoadKit.getS2 X hx hZ hown w via eT F (g := mkF m pc Ls sk) rfl hd
  exact Wk.go st' (kk T' X' e')
theorem Wk.putF (X : Stand p l e R s m args below meth c T locs cells slots) (hx : p.tables.exec = Jvm.exec) (hZ : Z.Warmed39 s.vm) {own R0 O f d host : String} {index : Nat} (hown : s.vm.findClass own = some m.cls) (w : (Cond.fieldLink own index R0 f d).before a0 Z = true ∨ (Cond.fieldLinkNest own index R0 f d host).before a0 Z = true) (via : Via Z R0 O f d) (eT : T.heap = h) {K : String} {kk' : Nat} {ty : FieldType} {a : Addr} {v old : Value} (F : Fld Z h a O f d old) (Ea : Exa Z h a K) (L : (Cond.lays K O f d).before a0 Z = true ∨ ((Cond.laysFinal K O f d).before a0 Z = true ∧ own = O ∧ meth.name = "<init>")) (wi : (Cond.instantiable K kk').before a0 Z = true) (hty : parseFieldDescriptor d = some ty) (hn : narrow ty v = v) (hf : fits ty v = true) (hd : decode c.code pc = .ok (.putfield index, 3)) (hp : pc + 3 = n) (kk : ∀ (T' : State) (h' : Heap), Stand p l e R s m args below meth c T' (locs ++ [⟨a, slotOf Z O f d⟩]) cells slots → T'.heap = h' → Wr h h' a (slotOf Z O f d) v → Wk p e below E T' (mkF m n Ls sk)) : Wk p e below E T (mkF m pc Ls (v :: .ref a :: sk)) := by
  subst hp
  obtain ⟨T', h', X', e', W', st'⟩ := RoadKit.putF X hx hZ hown w via eT F Ea L wi hty hn hf (g := mkF m pc Ls (v :: .ref a :: sk)) rfl rfl hd
  exact Wk.go st' (kk T' h' X' e' W')
theorem Wk.putFN (X : Stand p l e R s m args below meth c T locs cells slots) (hx : p.tables.exec = Jvm.exec) (hZ : Z.Warmed39 s.vm) {own R0 O f d : String} {index : Nat} (hown : s.vm.findClass own = some m.cls) (w : (Cond.fieldLink own index R0 f d).before a0 Z = true) (via : Via Z R0 O f d) (eT : T.heap = h) {K : String} {kk' : Nat} {ty : FieldType} {a : Addr} {v old : Value} (F : Fld Z h a O f d old) (Ea : Exa Z h a K) (L : (Cond.lays K O f d).before a0 Z = true ∨ ((Cond.laysFinal K O f d).before a0 Z = true ∧ own = O ∧ meth.name = "<init>")) (wi : (Cond.instantiable K kk').before a0 Z = true) (hty : parseFieldDescriptor d = some ty) {v' : Value} (hn : narrow ty v = v') (hf : fits ty v' = true) (hd : decode c.code pc = .ok (.putfield index, 3)) (hp : pc + 3 = n) (kk : ∀ (T' : State) (h' : Heap), Stand p l e R s m args below meth c T' (locs ++ [⟨a, slotOf Z O f d⟩]) cells slots → T'.heap = h' → Wr h h' a (slotOf Z O f d) v' → Wk p e below E T' (mkF m n Ls sk)) : Wk p e below E T (mkF m pc Ls (v :: .ref a :: sk)) := by
  subst hp
  obtain ⟨T', h', X', e', W', st'⟩ := RoadKit.putFN X hx hZ hown w via eT F Ea L wi hty hn hf (g := mkF m pc Ls (v :: .ref a :: sk)) rfl rfl hd
  exact Wk.go st' (kk T' h' X' e' W')
theorem Wk.initO (X : Stand p l e R s m args below meth c T locs cells slots) (hx : p.tables.exec = Jvm.exec) (hZ : Z.Warmed39 s.vm) {own : String} {idx : Nat} (hown : s.vm.findClass own = some m.cls) (w1 : (Cond.methodLink own idx Lib.objectInit).before a0 Z = true) (w2 : (Cond.instanceMethod Lib.objectInit).before a0 Z = true) (w3 : (Cond.code Lib.objectInit ⟨#[0xb1]⟩ 1 none).before a0 Z = true) (eT : T.heap = h) (hsz : Ls.size = c.maxLocals) {a : Addr} (hd : decode c.code pc = .ok (.invokespecial idx, 3)) (hp : pc + 3 = n) (hf : 1 ≤ R.frames) {w : Nat} (hw : (sk.map fun v => v.category).sum ≤ w) (hl : w + 12 ≤ R.locals) (kk : ∀ T' : State, Stand p l e R s m args below meth c T' locs cells slots → T'.heap = h → Wk p e below E T' (mkF m n Ls sk)) : Wk p e below E T (mkF m pc Ls (.ref a :: sk)) := by
  subst hp
  obtain ⟨T', X', e', st'⟩ := RoadKit.initO X hx hZ hown w1 w2 w3 eT (g := mkF m pc Ls (.ref a :: sk)) rfl hsz rfl hd hf (W := w) (by show 2 * 0 + _ ≤ _; omega) hl
  exact Wk.go st' (kk T' X' e')
theorem Wk.newP (X : Stand p l e R s m args below meth c T locs cells slots) (hx : p.tables.exec = Jvm.exec) (hZ : Z.Warmed39 s.vm) {aty : ArrayType} (w : (Cond.arrayClass (newarray.typeOf aty)).before a0 Z = true) (eT : T.heap = h) (hd : decode c.code pc = .ok (.newarray aty, 2)) (hp : pc + 2 = n) {z : Int32} (hz : ¬ z < 0) {cap : Nat} (hcap : z.toNatClampNeg ≤ cap) (hb : cap * 8 ≤ 536870912) (hc : cells + 1 ≤ R.cells) (hl : slots + cap ≤ R.slots)
    (kk : ∀ (T' : State) (h' : Heap) (b : Addr) (cA : ClassId), b = h.size → Stand p l e R s m args below meth c T' locs (cells + 1) (slots + cap) → T'.heap = h' → Ext h h' → Arr Z h' b (newA cA (newarray.typeOf aty) z) (newarray.typeOf aty) → Wk p e below E T' (mkF m n Ls (.ref b :: sk))) : Wk p e below E T (mkF m pc Ls (.int z :: sk)) := by
  subst hp
  obtain ⟨T', h', cA, X', e', E', A', st'⟩ := RoadKit.newP X hx hZ w eT (g := mkF m pc Ls (.int z :: sk)) rfl hd rfl hz hcap hb hc hl
  exact Wk.go st' (kk T' h' _ cA rfl X' e' E' A')
theorem Wk.newR (X : Stand p l e R s m args below meth c T locs cells slots) (hx : p.tables.exec = Jvm.exec) (hZ : Z.Warmed39 s.vm) {own K : String} {index : Nat} (hown : s.vm.findClass own = some m.cls) (w1 : (Cond.classLink own index K).before a0 Z = true) (w2 : (Cond.arrayOver (.object K)).before a0 Z = true) (eT : T.heap = h) (hd : decode c.code pc = .ok (.anewarray index, 3)) (hp : pc + 3 = n) {z : Int32} (hz : ¬ z < 0) {cap : Nat} (hcap : z.toNatClampNeg ≤ cap) (hb : cap * 8 ≤ 536870912) (hc : cells + 1 ≤ R.cells) (hl : slots + cap ≤ R.slots)
    (kk : ∀ (T' : State) (h' : Heap) (b : Addr) (cA : ClassId), b = h.size → Stand p l e R s m args below meth c T' locs (cells + 1) (slots + cap) → T'.heap = h' → Ext h h' → Arr Z h' b (newA cA (.object K) z) (.object K) → Ovr Z cA K → Wk p e below E T' (mkF m n Ls (.ref b :: sk))) : Wk p e below E T (mkF m pc Ls (.int z :: sk)) := by
  subst hp
  obtain ⟨T', h', cA, X', e', E', A', O', st'⟩ := RoadKit.newR X hx hZ hown w1 w2 eT (g := mkF m pc Ls (.int z :: sk)) rfl hd rfl hz hcap hb hc hl
  exact Wk.go st' (kk T' h' _ cA rfl X' e' E' A' O')
theorem Wk.stI (X : Stand p l e R s m args below meth c T locs cells slots) (hx : p.tables.exec = Jvm.exec) (hZ : Z.Warmed39 s.vm) (eT : T.heap = h) {a : Addr} {cl : Cell} (A : Arr Z h a cl .int) {j : Int32} {x : Int32} (hj : ¬ (j < 0 ∨ cl.slots.size ≤ j.toNatClampNeg)) (hd : decode c.code pc = .ok (.iastore, 1)) (hp : pc + 1 = n) (kk : ∀ (T' : State) (h' : Heap), Stand p l e R s m args below meth c T' (locs ++ [⟨a, j.toNatClampNeg⟩]) cells slots → T'.heap = h' → Wr h h' a j.toNatClampNeg (.int x) → Wk p e below E T' (mkF m n Ls sk)) : Wk p e below E T (mkF m pc Ls ((.int x) :: .int j :: .ref a :: sk)) := by
  subst hp
  obtain ⟨T', h', X', e', W', st'⟩ := RoadKit.stI X hx hZ eT A hj (g := mkF m pc Ls ((.int x) :: .int j :: .ref a :: sk)) rfl rfl hd
  exact Wk.go st' (kk T' h' X' e' W')
theorem Wk.stC (X : Stand p l e R s m args below meth c T locs cells slots) (hx : p.tables.exec = Jvm.exec) (hZ : Z.Warmed39 s.vm) (eT : T.heap = h) {a : Addr} {cl : Cell} (A : Arr Z h a cl .char) {j : Int32} {x : Int32} (hj : ¬ (j < 0 ∨ cl.slots.size ≤ j.toNatClampNeg)) (hd : decode c.code pc = .ok (.castore, 1)) (hp : pc + 1 = n) (kk : ∀ (T' : State) (h' : Heap), Stand p l e R s m args below meth c T' (locs ++ [⟨a, j.toNatClampNeg⟩]) cells slots → T'.heap = h' → Wr h h' a j.toNatClampNeg (.int (nar .char x)) → Wk p e below E T' (mkF m n Ls sk)) : Wk p e below E T (mkF m pc Ls ((.int x) :: .int j :: .ref a :: sk)) := by
  subst hp
  obtain ⟨T', h', X', e', W', st'⟩ := RoadKit.stC X hx hZ eT A hj (g := mkF m pc Ls ((.int x) :: .int j :: .ref a :: sk)) rfl rfl hd
  exact Wk.go st' (kk T' h' X' e' W')
theorem Wk.stS (X : Stand p l e R s m args below meth c T locs cells slots) (hx : p.tables.exec = Jvm.exec) (hZ : Z.Warmed39 s.vm) (eT : T.heap = h) {a : Addr} {cl : Cell} (A : Arr Z h a cl .short) {j : Int32} {x : Int32} (hj : ¬ (j < 0 ∨ cl.slots.size ≤ j.toNatClampNeg)) (hd : decode c.code pc = .ok (.sastore, 1)) (hp : pc + 1 = n) (kk : ∀ (T' : State) (h' : Heap), Stand p l e R s m args below meth c T' (locs ++ [⟨a, j.toNatClampNeg⟩]) cells slots → T'.heap = h' → Wr h h' a j.toNatClampNeg (.int (nar .short x)) → Wk p e below E T' (mkF m n Ls sk)) : Wk p e below E T (mkF m pc Ls ((.int x) :: .int j :: .ref a :: sk)) := by
  subst hp
  obtain ⟨T', h', X', e', W', st'⟩ := RoadKit.stS X hx hZ eT A hj (g := mkF m pc Ls ((.int x) :: .int j :: .ref a :: sk)) rfl rfl hd
  exact Wk.go st' (kk T' h' X' e' W')
theorem Wk.stB (X : Stand p l e R s m args below meth c T locs cells slots) (hx : p.tables.exec = Jvm.exec) (hZ : Z.Warmed39 s.vm) (eT : T.heap = h) {a : Addr} {cl : Cell} (A : Arr Z h a cl .byte) {j : Int32} {x : Int32} (hj : ¬ (j < 0 ∨ cl.slots.size ≤ j.toNatClampNeg)) (hd : decode c.code pc = .ok (.bastore, 1)) (hp : pc + 1 = n) (kk : ∀ (T' : State) (h' : Heap), Stand p l e R s m args below meth c T' (locs ++ [⟨a, j.toNatClampNeg⟩]) cells slots → T'.heap = h' → Wr h h' a j.toNatClampNeg (.int (nar .byte x)) → Wk p e below E T' (mkF m n Ls sk)) : Wk p e below E T (mkF m pc Ls ((.int x) :: .int j :: .ref a :: sk)) := by
  subst hp
  obtain ⟨T', h', X', e', W', st'⟩ := RoadKit.stB X hx hZ eT A hj (g := mkF m pc Ls ((.int x) :: .int j :: .ref a :: sk)) rfl rfl hd
  exact Wk.go st' (kk T' h' X' e' W')
theorem Wk.stZ (X : Stand p l e R s m args below meth c T locs cells slots) (hx : p.tables.exec = Jvm.exec) (hZ : Z.Warmed39 s.vm) (eT : T.heap = h) {a : Addr} {cl : Cell} (A : Arr Z h a cl .boolean) {j : Int32} {x : Int32} (hj : ¬ (j < 0 ∨ cl.slots.size ≤ j.toNatClampNeg)) (hd : decode c.code pc = .ok (.bastore, 1)) (hp : pc + 1 = n) (kk : ∀ (T' : State) (h' : Heap), Stand p l e R s m args below meth c T' (locs ++ [⟨a, j.toNatClampNeg⟩]) cells slots → T'.heap = h' → Wr h h' a j.toNatClampNeg (.int (nar .boolean x)) → Wk p e below E T' (mkF m n Ls sk)) : Wk p e below E T (mkF m pc Ls ((.int x) :: .int j :: .ref a :: sk)) := by
  subst hp
  obtain ⟨T', h', X', e', W', st'⟩ := RoadKit.stZ X hx hZ eT A hj (g := mkF m pc Ls ((.int x) :: .int j :: .ref a :: sk)) rfl rfl hd
  exact Wk.go st' (kk T' h' X' e' W')
theorem Wk.stJ (X : Stand p l e R s m args below meth c T locs cells slots) (hx : p.tables.exec = Jvm.exec) (hZ : Z.Warmed39 s.vm) (eT : T.heap = h) {a : Addr} {cl : Cell} (A : Arr Z h a cl .long) {j : Int32} {x : Int64} (hj : ¬ (j < 0 ∨ cl.slots.size ≤ j.toNatClampNeg)) (hd : decode c.code pc = .ok (.lastore, 1)) (hp : pc + 1 = n) (kk : ∀ (T' : State) (h' : Heap), Stand p l e R s m args below meth c T' (locs ++ [⟨a, j.toNatClampNeg⟩]) cells slots → T'.heap = h' → Wr h h' a j.toNatClampNeg (.long x) → Wk p e below E T' (mkF m n Ls sk)) : Wk p e below E T (mkF m pc Ls ((.long x) :: .int j :: .ref a :: sk)) := by
  subst hp
  obtain ⟨T', h', X', e', W', st'⟩ := RoadKit.stJ X hx hZ eT A hj (g := mkF m pc Ls ((.long x) :: .int j :: .ref a :: sk)) rfl rfl hd
  exact Wk.go st' (kk T' h' X' e' W')
theorem Wk.stR (X : Stand p l e R s m args below meth c T locs cells slots) (hx : p.tables.exec = Jvm.exec) (hZ : Z.Warmed39 s.vm) (eT : T.heap = h) {a : Addr} {cl : Cell} {ty : FieldType} (A : Arr Z h a cl ty) {j : Int32} {v : Value} (hj : ¬ (j < 0 ∨ cl.slots.size ≤ j.toNatClampNeg)) (hty : ty.isReference = true) (F : Sto Z h a v) (hd : decode c.code pc = .ok (.aastore, 1)) (hp : pc + 1 = n) (kk : ∀ (T' : State) (h' : Heap), Stand p l e R s m args below meth c T' (locs ++ [⟨a, j.toNatClampNeg⟩]) cells slots → T'.heap = h' → Wr h h' a j.toNatClampNeg v → Wk p e below E T' (mkF m n Ls sk)) : Wk p e below E T (mkF m pc Ls (v :: .int j :: .ref a :: sk)) := by
  subst hp
  obtain ⟨T', h', X', e', W', st'⟩ := RoadKit.stR X hx hZ eT A hj hty F (g := mkF m pc Ls (v :: .int j :: .ref a :: sk)) rfl rfl hd
  exact Wk.go st' (kk T' h' X' e' W')
theorem Wk.iaload (X : Stand p l e R s m args below meth c T locs cells slots) (hx : p.tables.exec = Jvm.exec) (hZ : Z.Warmed39 s.vm) (eT : T.heap = h) {a : Addr} {cl : Cell} (A : Arr Z h a cl .int) {j : Int32} {v : Value} (hj : ¬ (j < 0 ∨ cl.slots.size ≤ j.toNatClampNeg)) (ha : cl.slots[j.toNatClampNeg]? = some v) (hd : decode c.code pc = .ok (.iaload, 1)) (hp : pc + 1 = n) (w : Wk p e below E T (mkF m n Ls (v :: sk))) : Wk p e below E T (mkF m pc Ls (.int j :: .ref a :: sk)) := by
  subst hp
  exact Wk.go (X.iaload hx (by rw [eT]; exact A.1) (State.isArrayOf_alike hZ.alike A.2.1) A.2.2 hj ha (g := mkF m pc Ls (.int j :: .ref a :: sk)) rfl rfl hd) w
theorem Wk.caload (X : Stand p l e R s m args below meth c T locs cells slots) (hx : p.tables.exec = Jvm.exec) (hZ : Z.Warmed39 s.vm) (eT : T.heap = h) {a : Addr} {cl : Cell} (A : Arr Z h a cl .char) {j : Int32} {v : Value} (hj : ¬ (j < 0 ∨ cl.slots.size ≤ j.toNatClampNeg)) (ha : cl.slots[j.toNatClampNeg]? = some v) (hd : decode c.code pc = .ok (.caload, 1)) (hp : pc + 1 = n) (w : Wk p e below E T (mkF m n Ls (v :: sk))) : Wk p e below E T (mkF m pc Ls (.int j :: .ref a :: sk)) := by
  subst hp
  exact Wk.go (X.caload hx (by rw [eT]; exact A.1) (State.isArrayOf_alike hZ.alike A.2.1) A.2.2 hj ha (g := mkF m pc Ls (.int j :: .ref a :: sk)) rfl rfl hd) w
theorem Wk.saload (X : Stand p l e R s m args below meth c T locs cells slots) (hx : p.tables.exec = Jvm.exec) (hZ : Z.Warmed39 s.vm) (eT : T.heap = h) {a : Addr} {cl : Cell} (A : Arr Z h a cl .short) {j : Int32} {v : Value} (hj : ¬ (j < 0 ∨ cl.slots.size ≤ j.toNatClampNeg)) (ha : cl.slots[j.toNatClampNeg]? = some v) (hd : decode c.code pc = .ok (.saload, 1)) (hp : pc + 1 = n) (w : Wk p e below E T (mkF m n Ls (v :: sk))) : Wk p e below E T (mkF m pc Ls (.int j :: .ref a :: sk)) := by
  subst hp
  exact Wk.go (X.saload hx (by rw [eT]; exact A.1) (State.isArrayOf_alike hZ.alike A.2.1) A.2.2 hj ha (g := mkF m pc Ls (.int j :: .ref a :: sk)) rfl rfl hd) w
theorem Wk.laload (X : Stand p l e R s m args below meth c T locs cells slots) (hx : p.tables.exec = Jvm.exec) (hZ : Z.Warmed39 s.vm) (eT : T.heap = h) {a : Addr} {cl : Cell} (A : Arr Z h a cl .long) {j : Int32} {v : Value} (hj : ¬ (j < 0 ∨ cl.slots.size ≤ j.toNatClampNeg)) (ha : cl.slots[j.toNatClampNeg]? = some v) (hd : decode c.code pc = .ok (.laload, 1)) (hp : pc + 1 = n) (w : Wk p e below E T (mkF m n Ls (v :: sk))) : Wk p e below E T (mkF m pc Ls (.int j :: .ref a :: sk)) := by
  subst hp
  exact Wk.go (X.laload hx (by rw [eT]; exact A.1) (State.isArrayOf_alike hZ.alike A.2.1) A.2.2 hj ha (g := mkF m pc Ls (.int j :: .ref a :: sk)) rfl rfl hd) w
theorem Wk.baloadBytes (X : Stand p l e R s m args below meth c T locs cells slots) (hx : p.tables.exec = Jvm.exec) (hZ : Z.Warmed39 s.vm) (eT : T.heap = h) {a : Addr} {cl : Cell} (A : Arr Z h a cl .byte) {j : Int32} {v : Value} (hj : ¬ (j < 0 ∨ cl.slots.size ≤ j.toNatClampNeg)) (ha : cl.slots[j.toNatClampNeg]? = some v) (hd : decode c.code pc = .ok (.baload, 1)) (hp : pc + 1 = n) (w : Wk p e below E T (mkF m n Ls (v :: sk))) : Wk p e below E T (mkF m pc Ls (.int j :: .ref a :: sk)) := by
  subst hp
  exact Wk.go (X.baloadBytes hx (by rw [eT]; exact A.1) (State.isArrayOf_alike hZ.alike A.2.1) A.2.2 hj ha (g := mkF m pc Ls (.int j :: .ref a :: sk)) rfl rfl hd) w
theorem Wk.aaload (X : Stand p l e R s m args below meth c T locs cells slots) (hx : p.tables.exec = Jvm.exec) (hZ : Z.Warmed39 s.vm) (eT : T.heap = h) {a : Addr} {cl : Cell} {ty : FieldType} (A : Arr Z h a cl ty) {j : Int32} {v : Value} (hty : ty.isReference = true) (hj : ¬ (j < 0 ∨ cl.slots.size ≤ j.toNatClampNeg)) (ha : cl.slots[j.toNatClampNeg]? = some v) (hd : decode c.code pc = .ok (.aaload, 1)) (hp : pc + 1 = n) (w : Wk p e below E T (mkF m n Ls (v :: sk))) : Wk p e below E T (mkF m pc Ls (.int j :: .ref a :: sk)) := by
  subst hp
  exact Wk.go (X.aaload hx (by rw [eT]; exact A.1) (State.isArrayOf_alike hZ.alike A.2.1) hty A.2.2 hj ha (g := mkF m pc Ls (.int j :: .ref a :: sk)) rfl rfl hd) w
theorem Wk.arrlen (X : Stand p l e R s m args below meth c T locs cells slots) (hx : p.tables.exec = Jvm.exec) (hZ : Z.Warmed39 s.vm) (eT : T.heap = h) {a : Addr} {cl : Cell} {ty : FieldType} {z : Int32} (A : Arr Z h a cl ty) (S' : cl.slots.size = z.toNatClampNeg) (hz : ¬ z < 0) (hd : decode c.code pc = .ok (.arraylength, 1)) (hp : pc + 1 = n) (w : Wk p e below E T (mkF m n Ls (.int z :: sk))) : Wk p e below E T (mkF m pc Ls (.ref a :: sk)) := by
  subst hp
  have q := X.arraylength hx (by rw [eT]; exact A.1) (State.isArrayOf_alike hZ.alike A.2.1) (g := mkF m pc Ls (.ref a :: sk)) rfl rfl hd
  rw [len_of S' hz] at q
  exact Wk.go q w
theorem Wk.castY (X : Stand p l e R s m args below meth c T locs cells slots) (hx : p.tables.exec = Jvm.exec) (hZ : Z.Warmed39 s.vm) {own K : String} {index : Nat} (hown : s.vm.findClass own = some m.cls) (w : (Cond.classLink own index K).before a0 Z = true) (eT : T.heap = h) {a : Addr} (F : Ins Z h a K true) (hd : decode c.code pc = .ok (.checkcast index, 3)) (hp : pc + 3 = n) (kk : ∀ T' : State, Stand p l e R s m args below meth c T' locs cells slots → T'.heap = h → Wk p e below E T' (mkF m n Ls (.ref a :: sk))) : Wk p e below E T (mkF m pc Ls (.ref a :: sk)) := by
  subst hp
  obtain ⟨T', X', e', st'⟩ := RoadKit.castY X hx hZ hown w eT F (g := mkF m pc Ls (.ref a :: sk)) rfl rfl hd
  exact Wk.go st' (kk T' X' e')
theorem Wk.instY (X : Stand p l e R s m args below meth c T locs cells slots) (hx : p.tables.exec = Jvm.exec) (hZ : Z.Warmed39 s.vm) {own K : String} {index : Nat} (hown : s.vm.findClass own = some m.cls) (w : (Cond.classLink own index K).before a0 Z = true) (eT : T.heap = h) {a : Addr} (F : Ins Z h a K true) (hd : decode c.code pc = .ok (.instanceof index, 3)) (hp : pc + 3 = n) (kk : ∀ T' : State, Stand p l e R s m args below meth c T' locs cells slots → T'.heap = h → Wk p e below E T' (mkF m n Ls (.int 1 :: sk))) : Wk p e below E T (mkF m pc Ls (.ref a :: sk)) := by
  subst hp
  obtain ⟨T', X', e', st'⟩ := RoadKit.instY X hx hZ hown w eT F (g := mkF m pc Ls (.ref a :: sk)) rfl rfl hd
  exact Wk.go st' (kk T' X' e')
theorem Wk.back {rc rs : Nat} {Q : Option Value → Heap → List Loc → Prop} {rest : List Value} (call : ∃ (v : Option Value) (vm₁ : Vm) (B : Pt), s.WarmedH vm₁ ∧ Stand p l e R s m args below meth c B.U B.locs B.cells B.slots ∧ (∃ L, Q v B.U.heap L ∧ B.locs = locs ++ L ∧ B.cells = cells + rc ∧ B.slots = slots + rs) ∧ Steps p.tables e below (T.setTop (mkF m pc Ls sk)) (B.U.setTop (mkF m n Ls (v.toList ++ rest)))) (kk : ∀ (v : Option Value) (T' : State) (L : List Loc), Stand p l e R s m args below meth c T' (locs ++ L) (cells + rc) (slots + rs) → Q v T'.heap L → Wk p e below E T' (mkF m n Ls (v.toList ++ rest))) : Wk p e below E T (mkF m pc Ls sk) := by
  obtain ⟨v, _, ⟨T', L', c', s'⟩, -, X', ⟨L, hQ, h1, h2, h3⟩, k⟩ := call
  dsimp only [Pt.U, Pt.locs, Pt.cells, Pt.slots] at X' h1 h2 h3 k hQ
  subst h1 h2 h3
  exact Wk.go (fun _ r => k.trans r) (kk v T' L X' hQ)
theorem Wk.backS {rc rs : Nat} {Q : Option Value → Heap → List Loc → Prop} {rest : List Value} (call : ∃ (v : Option Value) (vm₁ : Vm) (B : Pt), s.WarmedH vm₁ ∧ Stand p l e R s m args below meth c B.U B.locs B.cells B.slots ∧ (∃ L, Q v B.U.heap L ∧ B.locs = locs ++ L ∧ B.cells = cells + rc ∧ B.slots = slots + rs) ∧ ∀ target, Steps p.tables e below (B.U.setTop (mkF m n Ls (v.toList ++ rest))) target → Steps p.tables e below (T.setTop (mkF m pc Ls sk)) target) (kk : ∀ (v : Option Value) (T' : State) (L : List Loc), Stand p l e R s m args below meth c T' (locs ++ L) (cells + rc) (slots + rs) → Q v T'.heap L → Wk p e below E T' (mkF m n Ls (v.toList ++ rest))) : Wk p e below E T (mkF m pc Ls sk) := by
  obtain ⟨v, _, ⟨T', L', c', s'⟩, -, X', ⟨L, hQ, h1, h2, h3⟩, k⟩ := call
  dsimp only [Pt.U, Pt.locs, Pt.cells, Pt.slots] at X' h1 h2 h3 k hQ
  subst h1 h2 h3
  exact Wk.go k (kk v T' L X' hQ)
theorem Wk.cpA (X : Stand p l e R s m args below meth c T locs cells slots) (hx : p.tables.exec = Jvm.exec) (hZ : Z.Warmed39 s.vm) {own : String} {index : Nat} (hown : s.vm.findClass own = some m.cls) (w1 : (Cond.methodLink own index Jvm.Stand.acN).before a0 Z = true) (w2 : (Cond.native Jvm.Stand.acN).before a0 Z = true) (w3 : (Cond.static Jvm.Stand.acN).before a0 Z = true) (w4 : (Cond.initialized "java/lang/System").before a0 Z = true) (eT : T.heap = h) {a b : Addr} {k k' : ClassId} {ty ty' : FieldType} {z z' sp dp nn : Int32} {vs vd us vn : List Value} {dv dd : Value} (A : Arv Z h a k ty z vs dv) (B : Arv Z h b k' ty' z' vd dd) (hty : (ty = ty' ∧ refKind ty = false) ∨ (refKind ty = true ∧ refKind ty' = true ∧ StoL Z h b us)) {i j q : Nat} (h1 : sp = Int32.ofNat i) (h2 : dp = Int32.ofNat j) (h3 : nn = Int32.ofNat q) (hi : i < 2 ^ 31) (hj : j < 2 ^ 31) (hq : q < 2 ^ 31) (h4 : i + q ≤ z.toNatClampNeg) (h5 : j + q ≤ z'.toNatClampNeg) (hus : us = (List.range q).map fun y => vs.getD (i + y) dv) (hl : j + q ≤ vd.length) {n0 : Nat} (N : Fr n0 locs) (ge : n0 ≤ b) (hvn : vd.take j ++ us ++ vd.drop (j + q) = vn) (hsz : Ls.size = c.maxLocals) (hd : decode c.code pc = .ok (.invokestatic index, 3)) (hp : pc + 3 = n) (hf : 1 ≤ R.frames) {w : Nat} (hw : (sk.map fun v => v.category).sum ≤ w) (hlo : w + (nativeFrameWords "java/lang/System" "arraycopy" 5 + 11) ≤ R.locals)
    (kk : ∀ (T' : State) (h' : Heap) (L : List Loc), Stand p l e R s m args below meth c T' L cells slots → T'.heap = h' → Fr n0 L → Keep h h' [b] → Arv Z h' b k' ty' z' vn dd → Wk p e below E T' (mkF m n Ls sk)) : Wk p e below E T (mkF m pc Ls (.int nn :: .int dp :: .ref b :: .int sp :: .ref a :: sk)) := by
  subst hp hvn
  obtain ⟨e1, e1'⟩ := own_nn h1 hi
  obtain ⟨e2, e2'⟩ := own_nn h2 hj
  obtain ⟨e3, e3'⟩ := own_nn h3 hq
  obtain ⟨T', h', L, X', e', N', K', A', st'⟩ := RoadKit.cpA X hx hZ hown w1 w2 w3 w4 eT A B hty e1' e2' e3' (by rw [e1, e3]; exact h4) (by rw [e2, e3]; exact h5) (by rw [e1, e3]; exact hus) (by rw [e2, e3]; exact hl) N ge (g := mkF m pc Ls (.int nn :: .int dp :: .ref b :: .int sp :: .ref a :: sk)) rfl hsz rfl hd hf (W := w) (by show 2 * 0 + _ ≤ _; omega) hlo
  rw [e2, e3] at A'
  exact Wk.go st' (kk T' h' L X' e' N' K' A')
end Own
end Jvm.RoadKit
namespace Jvm.RoadKit
open Sem ClassFile Op Lib Bundle Jvm.Stand Jvm.Free Jvm.LawKit Jvm.Free.SB Jvm.Free.SBG
section OwnWide
variable {p : Program} {l : Launch} {e : Env} {R : Room} {s u : State} {m : MethodId} {args : Array Value} {below : List Frame} {meth : Method} {c : Code} {T T' : State} {locs : List Loc} {cells slots : Nat} {g g' : JFrame} {Qf : Option Value → Heap → List Loc → Prop} {E : Outcome → State → Prop} {C S : Nat} {Z : State} {a0 : Array Value} {h h0 : Heap} {pc n : Nat} {Ls : Array Slot} {sk : List Value} {EL : List (String × Nat)} {own text : String} {index k0 : Nat}
/-- the base of the Stand at hand: the true start with the tables at hand -/
def Base (s u : State) (k : Nat) : Prop := u = s.setVm u.vm ∧ s.Since u.vm k
theorem Base.start (s : State) (k : Nat) : Base s s k := ⟨rfl, (State.WarmedH.refl s).since k⟩
def EndW (Z : State) (EL : List (String × Nat)) (s : State) (Qf : Option Value → Heap → List Loc → Prop) (C S : Nat) : Outcome → State → Prop := fun o s₂ => ∃ v L, o = .returned v ∧ Qf v s₂.heap L ∧ CHr Z EL s.vm s.heap s₂.vm s₂.heap ∧ ReturnedEndW s o s₂ L C S
theorem Wk.leaveW (X : Stand p l e R u m args below meth c T locs cells slots) (hB : Base s u k0) (hk : k0 ≤ h.size) {v : Option Value} (hv : meth.sig.returnType = none → v = none) (hlocks : meth.locks = false) (eT : T.heap = h) (hh : s.heap = h0) (hQ : Qf v h locs) (hZ : Z.Warmed39 u.vm) (hEL : EW Z a0 EL) (hR : CHr Z EL s.vm h0 u.vm h) (hC : cells ≤ C) (hS : slots ≤ S)
    (k : ∀ fs, (∀ (f : JFrame) (acts : List Action), f.method = m → f.locked = none → f.entered = [] → (doReturn e (T.setTop f) acts v).1 = T.setFrames fs) → Steps p.tables e below (T.setTop g) (T.setFrames fs)) : Wk p e below (EndW Z EL s Qf C S) T g := by
  subst eT hh
  obtain ⟨hu, hSi⟩ := hB
  have X2 : Stand p l e R (s.setVm u.vm) m args below meth c T locs cells slots := hu ▸ X
  obtain ⟨fs, hr, hrun, hended, h1, h2, h3, h4⟩ := X2.leaveW hSi hk hv hlocks
  have q : CHr Z EL s.vm s.heap T.vm T.heap := hR.trans (CHv.at X2 hZ hEL hR.1)
  exact ⟨_, _, k fs hr, hrun, hended, _, _, rfl, hQ, q, h1, h2, h3, h4.mono hC hS⟩
/-- ldc of a constant of EL, read -/
theorem Wk.ldcL (X : Stand p l e R u m args below meth c T locs cells slots) (hx : p.tables.exec = Jvm.exec) (hZ : Z.Warmed39 u.vm) (hown : u.vm.findClass own = some m.cls) (w : (Cond.stringLink own index text).before a0 Z = true) (wS : ∀ a ∈ Bundle.stringAtoms, a.before a0 Z = true)
    (eT : T.heap = h) (hB : Base s u k0) (hk : k0 ≤ h.size) (hEL : EW Z a0 EL) (hmem : (own, index) ∈ EL) (hR : CHr Z EL s.vm h0 u.vm h)
    {vs : List Value} {z : Int32} (ht : (∀ c ∈ text.toList, c.toNat < 256) ∧ text.toList.map (fun c => Value.int (Jvm.Lit.byteI c.toNat.toUInt16)) = vs) (hz : ¬ z < 0) (hl : z.toNatClampNeg = vs.length)
    (hd : decode c.code pc = .ok (.ldc index, 2)) (hp : pc + 2 = n) {nn : Nat} (hn : 4 * text.toList.length ≤ nn) (hbig : nn ≤ 536870912) (hc : cells + 2 ≤ R.cells) (hl' : slots + (nn + 4) ≤ R.slots)
    (kk : ∀ (u' T' : State) (h' : Heap) (a b : Addr) (k : ClassId), Stand p l e R u' m args below meth c T' locs (cells + 2) (slots + (nn + 4)) → T'.heap = h' → Ext h h' → Base s u' h'.size → Z.Warmed39 u'.vm → u'.vm.findClass own = some m.cls →
      Exa Z h' a "java/lang/String" → Fld Z h' a "java/lang/String" "coder" "B" (.int 0) → Fld Z h' a "java/lang/String" "value" "[B" (.ref b) → Arv Z h' b k .byte z vs (.int 0) → CHr Z EL u.vm h u'.vm h' → CHr Z EL s.vm h0 u'.vm h' → (∀ x, Safe Z EL u'.vm h' x → x ≠ a ∧ x ≠ b) → Wk p e below E T' (mkF m n Ls (.ref a :: sk))) :
    Wk p e below E T (mkF m pc Ls sk) := by
  subst hp
  obtain ⟨hu, hSi⟩ := hB
  have X2 : Stand p l e R (s.setVm u.vm) m args below meth c T locs cells slots := hu ▸ X
  obtain ⟨a, T', h', k1, b, k, X', e', Ex, hS', hk', hZ', hf', A, F1, F2, V, -, -, hC, -, hne, st⟩ := ldcCH X2 hx hZ hown w wS eT hSi hk hEL hmem hR.1 ht hz hl (g := mkF m pc Ls sk) rfl hd hn hbig hc hl'
  exact Wk.go st (kk (s.setVm T'.vm) T' h' a b k X' e' Ex ⟨rfl, hS'.1, fun j q h1 h2 => ⟨(hS'.2 j q h1 h2).1, Nat.lt_of_lt_of_le (hS'.2 j q h1 h2).2 hk'⟩⟩ hZ' hf' A F1 F2 V hC (hR.trans hC) hne)
/-- a callee that may load constants and keeps the invariant; what it may write is safe -/
theorem backWd {y : MethodName} {bytes : ByteArray} {maxL : Nat} {ret : Option FieldType} {rm : Room} {len W : Nat} {as' : Array Value} {Q : Option Value → Heap → List Loc → Prop} {ss : List Addr}
    (hM : MetFree l y (head1 [Cond.code y bytes maxL ret] rm) (fun a U => a = as' ∧ Z.Warmed39 U.vm ∧ U.heap = h ∧ CHv Z EL U.vm h ∧ ∀ x ∈ ss, Safe Z EL U.vm h x) (fun _ _ _ _ _ => True) (fun _ U o U' => ∃ v L, o = .returned v ∧ Q v U'.heap L ∧ CHr Z EL U.vm U.heap U'.vm U'.heap ∧ ReturnedEndW U o U' L rm.cells rm.slots))
    (hZ : Z.Warmed39 u.vm) (wc : (Cond.code y bytes maxL ret).before a0 Z = true) (wz : (Cond.initialized y.cls).before a0 Z = true) (hf : rm.frames + 1 ≤ R.frames) (hl : W + (maxL + 11) + rm.locals ≤ R.locals) (hEL : EW Z a0 EL) (H : CHv Z EL u.vm h) (hlt : ∀ x ∈ ss, x < h.size) (hs : ∀ x ∈ ss, Safe Z EL u.vm h x) :
    BackS l R p e below u args y len W (fun A a => a = as' ∧ A.U.heap = h ∧ A.cells + rm.cells ≤ R.cells ∧ A.slots + rm.slots ≤ R.slots)
      (fun A _ v B => ∃ L, Q v B.U.heap L ∧ B.locs = A.locs ++ L ∧ B.cells = A.cells + rm.cells ∧ B.slots = A.slots + rm.slots ∧ CHr Z EL u.vm h B.U.vm B.U.heap) :=
  BackS.of_freeW (bytes := bytes) (maxL := maxL) (ret := ret) (E := fun _ first o t L k n => k = rm.cells ∧ n = rm.slots ∧ (∃ v, o = .returned v ∧ Q v t.heap L) ∧ CHr Z EL first.vm first.heap t.vm t.heap) hM hf hl
    (fun m meth c A a Y hp => have hU : Z.Warmed39 A.U.vm := wtrans hZ Y.warmed
      ⟨by show (Cond.and _ .tt).before a A.U = true; rw [Cond.before_and, mv hU wc]; rfl, mv hU wc, mv hU wz, hp.2.2.1, hp.2.2.2⟩)
    (fun m meth c A a g mk Y hp => have q := CHv.at (s := u) (vm0 := u.vm) Y hZ hEL H
      ⟨hp.1, wtrans hZ Y.warmed, hp.2.1, q.1, fun x hx => q.safe (hlt x hx) (hs x hx)⟩) (fun _ _ _ _ _ _ _ _ _ => trivial)
    (fun _ _ _ _ ⟨v, L, h1, h2, h3, h4⟩ => ⟨L, _, _, h4, rfl, rfl, ⟨v, h1, h2⟩, h3⟩)
    (fun m meth c A a g mk v t L k n Y hp _ _ ⟨e1, e2, ⟨v', e3, e4⟩, e5⟩ => by
      cases e3; subst e1 e2
      refine ⟨L, e4, rfl, rfl, rfl, (CHv.at (s := u) (vm0 := u.vm) Y hZ hEL H).trans ?_⟩
      rw [← hp.2.1]; exact e5)
theorem Wk.backW {rc rs : Nat} {Q : Option Value → Heap → List Loc → Prop} {rest : List Value} (eT : T.heap = h) (hB : Base s u k0) (hk : k0 ≤ h.size) (hZ : Z.Warmed39 u.vm) (hown : u.vm.findClass own = some m.cls) (hR : CHr Z EL s.vm h0 u.vm h)
    (call : ∃ (v : Option Value) (vm₁ : Vm) (B : Pt), u.WarmedH vm₁ ∧ Stand p l e R (u.setVm B.U.vm) m args below meth c B.U B.locs B.cells B.slots ∧ u.Since B.U.vm B.U.heap.size ∧ T.heap.size ≤ B.U.heap.size ∧ (∃ L, Q v B.U.heap L ∧ B.locs = locs ++ L ∧ B.cells = cells + rc ∧ B.slots = slots + rs ∧ CHr Z EL u.vm h B.U.vm B.U.heap) ∧ Steps p.tables e below (T.setTop (mkF m pc Ls sk)) (B.U.setTop (mkF m n Ls (v.toList ++ rest))))
    (kk : ∀ (v : Option Value) (u' T' : State) (L : List Loc), Stand p l e R u' m args below meth c T' (locs ++ L) (cells + rc) (slots + rs) → Base s u' T'.heap.size → Z.Warmed39 u'.vm → u'.vm.findClass own = some m.cls → CHr Z EL u.vm h u'.vm T'.heap → CHr Z EL s.vm h0 u'.vm T'.heap → Q v T'.heap L → Wk p e below E T' (mkF m n Ls (v.toList ++ rest))) :
    Wk p e below E T (mkF m pc Ls sk) := by
  obtain ⟨v, _, ⟨T', L', c', s'⟩, -, X', h2, hg, ⟨L, hQ, q1, q2, q3, hA⟩, k⟩ := call
  dsimp only [Pt.U, Pt.locs, Pt.cells, Pt.slots] at X' h2 hg q1 q2 q3 k hQ hA
  subst q1 q2 q3 eT
  obtain ⟨hu, hSi⟩ := hB
  have X2 : Stand p l e R ((s.setVm u.vm).setVm T'.vm) m args below meth c T' (locs ++ L) (cells + rc) (slots + rs) := hu ▸ X'
  have h3 : (s.setVm u.vm).Since T'.vm T'.heap.size := hu ▸ h2
  obtain ⟨X3, hS3, hZ3, ho3⟩ := rebS hSi hk X2 h3 hg (Z := Z) (own := own) hZ hown
  exact Wk.go (fun _ r => k.trans r) (kk v (s.setVm T'.vm) T' L X3 ⟨rfl, hS3⟩ hZ3 ho3 hA (hR.trans hA) hQ)
end OwnWide
end Jvm.RoadKit
/- laws to paste: Road.backV, Road.lenW, Road.chN, Road.codOf (cut by pick.py; bodies as the Statement names them) -/
namespace Jvm.Pilot.@@N@@
namespace StrChars
open Jvm Sem ClassFile Op Lib Jvm.Stand Jvm.Free.XT Jvm.Free.ALB Jvm.Free.JM Jvm.Free
open Jvm.Lib.Cold (StaticIs)
/-- a char array whose places are chars -/
def Ch (a : Addr) (A : Cell) (U : State) : Prop := Arr .char a A U ∧ Typed .char A
theorem Ch.mv {a : Addr} {A : Cell} {U U' : State} (h : Ch a A U) (hal : U.vm.Alike U'.vm) (hh : U'.heap = U.heap) : Ch a A U' := ⟨h.1.mv hal hh, h.2⟩
theorem Ch.keep {a : Addr} {A : Cell} {U U' : State} (h : Ch a A U) (hal : U.vm.Alike U'.vm) (hk : U'.heap[a]? = some A) : Ch a A U' := ⟨h.1.keep hal hk, h.2⟩
/-- what place i of a char[]'s cell holds -/
def cv (A : Cell) (i : Nat) : Int32 := match A.slots[i]? with | some (.int x) => x | _ => 0
theorem Ch.get {a : Addr} {A : Cell} {U : State} (h : Ch a A U) {i : Nat} (hi : i < A.slots.size) : A.slots[i]? = some (.int (cv A i)) := by
  have e := Array.getElem?_eq_getElem hi
  have f := h.2 i _ e
  unfold cv; rw [e]
  generalize A.slots[i] = v at f
  cases v <;> simp [fits] at f ⊢
/-- the byte that i2b leaves of a char -/
def lo8 (x : Int32) : Int32 := x.toInt8.toInt32
theorem fits_lo8 (y : Int32) : fits .byte (.int (lo8 y)) = true := by
  have h1 := y.toInt8.le_toInt
  have h2 := y.toInt8.toInt_lt
  simp only [lo8, fits, Bool.and_eq_true, decide_eq_true_eq, Int32.le_iff_toInt_le, Int8.toInt_toInt32, show (-128 : Int32).toInt = -128 from by decide, show (127 : Int32).toInt = 127 from by decide]
  omega
/-- A' is A but that each place j of lo .. hi - 1 holds f j -/
def Laid (A A' : Cell) (lo hi : Nat) (f : Nat → Value) : Prop := A'.cls = A.cls ∧ A'.vm = A.vm ∧ A'.slots.size = A.slots.size ∧ ∀ i, A'.slots[i]? = if lo ≤ i ∧ i < hi then some (f i) else A.slots[i]?
theorem Laid.zero (A : Cell) (lo : Nat) (f : Nat → Value) : Laid A A lo (lo + 0) f := ⟨rfl, rfl, rfl, fun i => by rw [if_neg (by omega)]⟩
theorem Laid.step {A Ak : Cell} {lo k : Nat} {f : Nat → Value} {v : Value} (h : Laid A Ak lo k f) (hlo : lo ≤ k) (hk : k < Ak.slots.size) (hv : v = f k) : Laid A (Ak.setSlot k v) lo (k + 1) f := by
  refine ⟨h.1, h.2.1, by simpa [Cell.setSlot] using h.2.2.1, fun i => ?_⟩
  by_cases e : k = i
  · subst e; rw [Cell.slots_setSlot_self v hk, if_pos (by omega), hv]
  · rw [Cell.slots_setSlot_ne v e, h.2.2.2 i]
    by_cases q : lo ≤ i ∧ i < k
    · rw [if_pos q, if_pos (by omega)]
    · rw [if_neg q, if_neg (by omega)]
def U16 : String := "java/lang/StringUTF16"
namespace Cmp5
def yN : MethodName := ⟨"java/lang/StringUTF16", "compress", "([CI[BII)I"⟩
abbrev yB : ByteArray := jdk_52_method_21_code
theorem d0 : decode yB 0 = .ok (.iconst 0, 1) := by decide +kernel
theorem d1 : decode yB 1 = .ok (.istore 5, 2) := by decide +kernel
theorem d3 : decode yB 3 = .ok (.iload 5, 2) := by decide +kernel
theorem d5 : decode yB 5 = .ok (.iload 4, 2) := by decide +kernel
theorem d7 : decode yB 7 = .ok (.if_icmp (.ge) 37, 3) := by decide +kernel
theorem d10 : decode yB 10 = .ok (.aload_n 0, 1) := by decide +kernel
theorem d11 : decode yB 11 = .ok (.iload_n 1, 1) := by decide +kernel
theorem d12 : decode yB 12 = .ok (.caload, 1) := by decide +kernel
theorem d13 : decode yB 13 = .ok (.istore 6, 2) := by decide +kernel
theorem d15 : decode yB 15 = .ok (.iload 6, 2) := by decide +kernel
theorem d17 : decode yB 17 = .ok (.sipush 255, 3) := by decide +kernel
theorem d20 : decode yB 20 = .ok (.if_icmp (.le) 6, 3) := by decide +kernel
theorem d26 : decode yB 26 = .ok (.aload_n 2, 1) := by decide +kernel
theorem d27 : decode yB 27 = .ok (.iload_n 3, 1) := by decide +kernel
theorem d28 : decode yB 28 = .ok (.iload 6, 2) := by decide +kernel
theorem d30 : decode yB 30 = .ok (.i2b, 1) := by decide +kernel
theorem d31 : decode yB 31 = .ok (.bastore, 1) := by decide +kernel
theorem d32 : decode yB 32 = .ok (.iinc 1 1, 3) := by decide +kernel
theorem d35 : decode yB 35 = .ok (.iinc 3 1, 3) := by decide +kernel
theorem d38 : decode yB 38 = .ok (.iinc 5 1, 3) := by decide +kernel
theorem d41 : decode yB 41 = .ok (.goto (-38), 3) := by decide +kernel
theorem d44 : decode yB 44 = .ok (.iload 4, 2) := by decide +kernel
theorem d46 : decode yB 46 = .ok (.ireturn, 1) := by decide +kernel
def site : List Cond := []
def tab : Cond := tabOf yN yB 7 (some .int) site
def P (b : Addr) (A : Cell) (d : Addr) (B : Cell) (o q len : Nat) (args : Array Value) (s : State) : Prop := args = #[.ref b, .int (Int32.ofNat o), .ref d, .int (Int32.ofNat q), .int (Int32.ofNat len)] ∧ Ch b A s ∧ Arr .byte d B s ∧ b ≠ d ∧ o + len ≤ A.slots.size ∧ q + len ≤ B.slots.size ∧ ∀ i, i < len → ¬ 255 < cv A (o + i)
def E (b : Addr) (A : Cell) (d : Addr) (B : Cell) (o q len : Nat) (r : Option Value) (s u : State) : Prop := r = some (.int (Int32.ofNat len)) ∧ ∃ B', Put d B' s u ∧ Laid B B' q (q + len) (fun j => Value.int (lo8 (cv A (o + (j - q)))))
/-- no char of the range above 255: len; the places written hold each char's low byte -/
theorem law (l : Launch) (b : Addr) (A : Cell) (d : Addr) (B : Cell) (o q len : Nat) : Law l yN 5 5 0 0 yB 7 (some .int) site (P b A d B o q len) (E b A d B o q len) (copyLocs d q len) 0 0 := by
  refine Law.of_walk (plainFor_of_name (by decide +kernel)) (by decide +kernel) (by decide +kernel) (by decide) (fun _ _ h => by rw [h.1]; rfl) (fun _ U U' hal hh h => ⟨h.1, h.2.1.mv hal hh, h.2.2.1.mv hal hh, h.2.2.2⟩) (fun r U U' V V' h1 hal h2 h => ⟨h.1, h.2.elim fun B' q => ⟨B', q.1.mv h1 h2, q.2⟩⟩) ?_
  intro p e s m args below meth c s₁ X0 hexec hbytes hml hret hlk hnm hown hh0 W hP
  obtain ⟨rfl, hA, hB, hne, l1, l2, hp⟩ := hP
  have c1 : Steps p.tables e below (s₁.setTop (entryFrame m #[.ref b, .int (Int32.ofNat o), .ref d, .int (Int32.ofNat q), .int (Int32.ofNat len)] 7)) (s₁.setTop (mkF m 0 #[.val (.ref b), .val (.int (Int32.ofNat o)), .val (.ref d), .val (.int (Int32.ofNat q)), .val (.int (Int32.ofNat len)), .unset, .unset] [])) := entry rfl
  have hA0 := hA.1.mv X0.warmed.alike hh0
  have hB0 := hB.mv X0.warmed.alike hh0
  have a31 := hA.1.2.2.2
  have c2 : Steps p.tables e below (s₁.setTop (entryFrame m #[.ref b, .int (Int32.ofNat o), .ref d, .int (Int32.ofNat q), .int (Int32.ofNat len)] 7)) (s₁.setTop (mkF m 3 #[.val (.ref b), .val (.int (Int32.ofNat o)), .val (.ref d), .val (.int (Int32.ofNat q)), .val (.int (Int32.ofNat len)), .val (.int 0), .unset] [])) := c1.trans (by
    refine iconstV X0.here hexec rfl 0 (hb hbytes d0) (by decide) ?_
    refine XS.istore X0.here hexec rfl (hb hbytes d1) rfl rfl ?_
    exact Steps.refl _)
  have loop : ∀ (r i : Nat), i + r = len → ∀ (z : Slot), (z = .unset ∨ ∃ w, z = .val w ∧ w.category = 1) → ∀ (Tl : State) (Bk : Cell), Stand p l e { frames := 0, locals := 0, cells := 0, slots := 0 } s m #[.ref b, .int (Int32.ofNat o), .ref d, .int (Int32.ofNat q), .int (Int32.ofNat len)] below meth c Tl ([] ++ copyLocs d q i) 0 0 → Put d Bk s₁ Tl → Laid B Bk q (q + i) (fun j => Value.int (lo8 (cv A (o + (j - q))))) →
      Steps p.tables e below (s₁.setTop (entryFrame m #[.ref b, .int (Int32.ofNat o), .ref d, .int (Int32.ofNat q), .int (Int32.ofNat len)] 7)) (Tl.setTop (mkF m 3 #[.val (.ref b), .val (.int (Int32.ofNat (o + i))), .val (.ref d), .val (.int (Int32.ofNat (q + i))), .val (.int (Int32.ofNat len)), .val (.int (Int32.ofNat i)), z] [])) → ∃ (T' : State) (B' : Cell) (z' : Slot), Stand p l e { frames := 0, locals := 0, cells := 0, slots := 0 } s m #[.ref b, .int (Int32.ofNat o), .ref d, .int (Int32.ofNat q), .int (Int32.ofNat len)] below meth c T' ([] ++ copyLocs d q len) 0 0 ∧ Put d B' s₁ T' ∧ Laid B B' q (q + len) (fun j => Value.int (lo8 (cv A (o + (j - q))))) ∧
      Steps p.tables e below (s₁.setTop (entryFrame m #[.ref b, .int (Int32.ofNat o), .ref d, .int (Int32.ofNat q), .int (Int32.ofNat len)] 7)) (T'.setTop (mkF m 3 #[.val (.ref b), .val (.int (Int32.ofNat (o + len))), .val (.ref d), .val (.int (Int32.ofNat (q + len))), .val (.int (Int32.ofNat len)), .val (.int (Int32.ofNat len)), z'] [])) := by
    intro r
    induction r with
    | zero =>
      intro i hi z hz Tl Bk Xl pl fl cl
      have hil : i = len := by omega
      rw [hil] at Xl fl cl
      exact ⟨Tl, Bk, z, Xl, pl, fl, cl⟩
    | succ r ih =>
      intro i hi z hz Tl Bk Xl pl fl cl
      have all := X0.warmed.alike.symm.trans Xl.warmed.alike
      have hAl := hA0.keep all (pl.other hne hA0.1)
      have hBk := hB0.like all pl.1 fl.1 fl.2.1 fl.2.2.1
      have hlt : q + i < Bk.slots.size := by rw [fl.2.2.1]; omega
      have c3 : Steps p.tables e below (s₁.setTop (entryFrame m #[.ref b, .int (Int32.ofNat o), .ref d, .int (Int32.ofNat q), .int (Int32.ofNat len)] 7)) (Tl.setTop (mkF m 12 #[.val (.ref b), .val (.int (Int32.ofNat (o + i))), .val (.ref d), .val (.int (Int32.ofNat (q + i))), .val (.int (Int32.ofNat len)), .val (.int (Int32.ofNat i)), z] [.int (Int32.ofNat (o + i)), .ref b])) := cl.trans (by
        refine XS.iload Xl.here hexec rfl (hb hbytes d3) rfl ?_
        refine XS.iload Xl.here hexec rfl (hb hbytes d5) rfl ?_
        refine XS.icmpNo Xl.here hexec rfl (hb hbytes d7) rfl (ii_ge_f (lt32 (by omega) (by omega))) ?_
        refine XS.aloadN Xl.here hexec rfl (hb hbytes d10) rfl rfl ?_
        refine XS.iloadN Xl.here hexec rfl (hb hbytes d11) rfl ?_
        exact Steps.refl _)
      have c4 : Steps p.tables e below (s₁.setTop (entryFrame m #[.ref b, .int (Int32.ofNat o), .ref d, .int (Int32.ofNat q), .int (Int32.ofNat len)] 7)) (Tl.setTop (mkF m 13 #[.val (.ref b), .val (.int (Int32.ofNat (o + i))), .val (.ref d), .val (.int (Int32.ofNat (q + i))), .val (.int (Int32.ofNat len)), .val (.int (Int32.ofNat i)), z] [.int (cv A (o + i))])) := c3.trans (by
        refine Xl.aget hexec hAl rfl (hA.get (i := o + i) (by omega)) rfl rfl (hb hbytes d12) ?_
        exact Steps.refl _)
      have c5 : Steps p.tables e below (s₁.setTop (entryFrame m #[.ref b, .int (Int32.ofNat o), .ref d, .int (Int32.ofNat q), .int (Int32.ofNat len)] 7)) (Tl.setTop (mkF m 15 #[.val (.ref b), .val (.int (Int32.ofNat (o + i))), .val (.ref d), .val (.int (Int32.ofNat (q + i))), .val (.int (Int32.ofNat len)), .val (.int (Int32.ofNat i)), .val (.int (cv A (o + i)))] [])) := c4.trans (by
        refine XS.istoreS Xl.here hexec rfl (hb hbytes d13) rfl rfl hz ?_
        exact Steps.refl _)
      have c6 : Steps p.tables e below (s₁.setTop (entryFrame m #[.ref b, .int (Int32.ofNat o), .ref d, .int (Int32.ofNat q), .int (Int32.ofNat len)] 7)) (Tl.setTop (mkF m 31 #[.val (.ref b), .val (.int (Int32.ofNat (o + i))), .val (.ref d), .val (.int (Int32.ofNat (q + i))), .val (.int (Int32.ofNat len)), .val (.int (Int32.ofNat i)), .val (.int (cv A (o + i)))] [.int (lo8 (cv A (o + i))), .int (Int32.ofNat (q + i)), .ref d])) := c5.trans (by
        refine XS.iload Xl.here hexec rfl (hb hbytes d15) rfl ?_
        refine sipushV Xl.here hexec rfl 255 (hb hbytes d17) (by decide) ?_
        refine XS.icmpYes Xl.here hexec rfl (pc0 := 20) rfl (hb hbytes d20) rfl (ii_le_t (hp i (by omega))) (by decide) rfl ?_
        refine XS.aloadN Xl.here hexec rfl (hb hbytes d26) rfl rfl ?_
        refine XS.iloadN Xl.here hexec rfl (hb hbytes d27) rfl ?_
        refine XS.iload Xl.here hexec rfl (hb hbytes d28) rfl ?_
        refine i2b Xl.here hexec rfl (hb hbytes d30) rfl ?_
        exact Steps.refl _)
      obtain ⟨T7, X7, p7, st7⟩ := Xl.aput hexec hBk rfl hlt rfl (fits_lo8 (cv A (o + i))) (g := (mkF m 31 #[.val (.ref b), .val (.int (Int32.ofNat (o + i))), .val (.ref d), .val (.int (Int32.ofNat (q + i))), .val (.int (Int32.ofNat len)), .val (.int (Int32.ofNat i)), .val (.int (cv A (o + i)))] [.int (lo8 (cv A (o + i))), .int (Int32.ofNat (q + i)), .ref d])) rfl (rest := []) rfl (hb hbytes d31)
      have c8 : Steps p.tables e below (s₁.setTop (entryFrame m #[.ref b, .int (Int32.ofNat o), .ref d, .int (Int32.ofNat q), .int (Int32.ofNat len)] 7)) (T7.setTop (mkF m 32 #[.val (.ref b), .val (.int (Int32.ofNat (o + i))), .val (.ref d), .val (.int (Int32.ofNat (q + i))), .val (.int (Int32.ofNat len)), .val (.int (Int32.ofNat i)), .val (.int (cv A (o + i)))] [])) := c6.trans (st7 _ (Steps.refl _))
      have c9 : Steps p.tables e below (s₁.setTop (entryFrame m #[.ref b, .int (Int32.ofNat o), .ref d, .int (Int32.ofNat q), .int (Int32.ofNat len)] 7)) (T7.setTop (mkF m 3 #[.val (.ref b), .val (.int (Int32.ofNat (o + i) + 1)), .val (.ref d), .val (.int (Int32.ofNat (q + i) + 1)), .val (.int (Int32.ofNat len)), .val (.int (Int32.ofNat i + 1)), .val (.int (cv A (o + i)))] [])) := c8.trans (by
        refine iincV X7.here hexec rfl 1 (hb hbytes d32) (by decide) rfl rfl ?_
        refine iincV X7.here hexec rfl 1 (hb hbytes d35) (by decide) rfl rfl ?_
        refine iincV X7.here hexec rfl 1 (hb hbytes d38) (by decide) rfl rfl ?_
        refine XS.goto X7.here hexec rfl (pc0 := 41) rfl (hb hbytes d41) (by decide) rfl ?_
        exact Steps.refl _)
      have c10 : Steps p.tables e below (s₁.setTop (entryFrame m #[.ref b, .int (Int32.ofNat o), .ref d, .int (Int32.ofNat q), .int (Int32.ofNat len)] 7)) (T7.setTop (mkF m 3 #[.val (.ref b), .val (.int (Int32.ofNat (o + (i + 1)))), .val (.ref d), .val (.int (Int32.ofNat (q + (i + 1)))), .val (.int (Int32.ofNat len)), .val (.int (Int32.ofNat (i + 1))), .val (.int (cv A (o + i)))] [])) := by
        have := c9
        rw [succ32, succ32, succ32] at this
        exact this
      exact ih (i + 1) (by omega) _ (Or.inr ⟨_, rfl, rfl⟩) T7 _ (by rw [copyLocs_step, ← List.append_assoc]; exact X7) (pl.trans p7) (fl.step (by omega) hlt (by simp)) c10
  obtain ⟨T9, B9, z9, X9, p9, f9, g9⟩ := loop len 0 (by omega) .unset (Or.inl rfl) s₁ B (by simpa [copyLocs] using X0) ⟨hB0.1, fun _ _ => rfl, rfl⟩ (Laid.zero _ _ _) c2
  have c11 : Steps p.tables e below (s₁.setTop (entryFrame m #[.ref b, .int (Int32.ofNat o), .ref d, .int (Int32.ofNat q), .int (Int32.ofNat len)] 7)) (T9.setTop (mkF m 46 #[.val (.ref b), .val (.int (Int32.ofNat (o + len))), .val (.ref d), .val (.int (Int32.ofNat (q + len))), .val (.int (Int32.ofNat len)), .val (.int (Int32.ofNat len)), z9] [.int (Int32.ofNat len)])) := g9.trans (by
    refine XS.iload X9.here hexec rfl (hb hbytes d3) rfl ?_
    refine XS.iload X9.here hexec rfl (hb hbytes d5) rfl ?_
    refine XS.icmpYes X9.here hexec rfl (pc0 := 7) rfl (hb hbytes d7) rfl (ii_ge_t (nlt32 (by omega) (Nat.le_refl _))) (by decide) rfl ?_
    refine XS.iload X9.here hexec rfl (hb hbytes d44) rfl ?_
    exact Steps.refl _)
  exact ⟨T9, some (.int (Int32.ofNat len)), _, _, _, X9, by simp, rfl, rfl, (fun h => by cases h), ⟨rfl, B9, p9.from hh0, f9⟩, fun fs hl => c11.trans (X9.ireturnOut hexec hret rfl (Or.inl rfl) (hb hbytes d46) hl)⟩
end Cmp5
namespace Cmp3
def yN : MethodName := ⟨"java/lang/StringUTF16", "compress", "([CII)[B"⟩
abbrev yB : ByteArray := jdk_52_method_16_code
theorem d0 : decode yB 0 = .ok (.iload_n 2, 1) := by decide +kernel
theorem d1 : decode yB 1 = .ok (.newarray .byte, 2) := by decide +kernel
theorem d3 : decode yB 3 = .ok (.astore_n 3, 1) := by decide +kernel
theorem d4 : decode yB 4 = .ok (.aload_n 0, 1) := by decide +kernel
theorem d5 : decode yB 5 = .ok (.iload_n 1, 1) := by decide +kernel
theorem d6 : decode yB 6 = .ok (.aload_n 3, 1) := by decide +kernel
theorem d7 : decode yB 7 = .ok (.iconst 0, 1) := by decide +kernel
theorem d8 : decode yB 8 = .ok (.iload_n 2, 1) := by decide +kernel
theorem d9 : decode yB 9 = .ok (.invokestatic 115, 3) := by decide +kernel
theorem d12 : decode yB 12 = .ok (.istore 4, 2) := by decide +kernel
theorem d14 : decode yB 14 = .ok (.iload 4, 2) := by decide +kernel
theorem d16 : decode yB 16 = .ok (.iload_n 2, 1) := by decide +kernel
theorem d17 : decode yB 17 = .ok (.if_icmp (.eq) 40, 3) := by decide +kernel
theorem d57 : decode yB 57 = .ok (.aload_n 3, 1) := by decide +kernel
theorem d58 : decode yB 58 = .ok (.areturn, 1) := by decide +kernel
def site : List Cond := [.arrayClass .byte, Cmp5.tab] ++ staticW U16 115 Cmp5.yN
def tab : Cond := tabOf yN yB 6 (some (.array .byte)) site
def P (b : Addr) (A : Cell) (o len : Nat) (args : Array Value) (s : State) : Prop := args = #[.ref b, .int (Int32.ofNat o), .int (Int32.ofNat len)] ∧ Ch b A s ∧ o + len ≤ A.slots.size ∧ len ≤ 536870912 ∧ ∀ i, i < len → ¬ 255 < cv A (o + i)
def E (b : Addr) (A : Cell) (o len : Nat) (r : Option Value) (s u : State) : Prop := NewArr .byte "[B" len (fun j => .int (lo8 (cv A (o + j)))) r s u ∧ u.heap.size = s.heap.size + 1
/-- no char of the range above 255: a new byte[] of their low bytes -/
theorem law (l : Launch) (b : Addr) (A : Cell) (o len : Nat) : Law l yN 3 3 1 18 yB 6 (some (.array .byte)) site (P b A o len) (E b A o len) [] 1 len := by
  refine Law.of_walk (plainFor_of_name (by decide +kernel)) (by decide +kernel) (by decide +kernel) (by decide) (fun _ _ h => by rw [h.1]; rfl) (fun _ U U' hal hh h => ⟨h.1, h.2.1.mv hal hh, h.2.2⟩) (fun r U U' V V' h1 hal h2 h => ⟨NewArr.mv r U U' V V' h1 hal h2 h.1, by rw [h1, h2]; exact h.2⟩) ?_
  intro p e s m args below meth c s₁ X0 hexec hbytes hml hret hlk hnm hown hh0 W hP
  obtain ⟨rfl, hA, l1, l2, hp⟩ := hP
  have a31 := hA.1.2.2.2
  have c1 : Steps p.tables e below (s₁.setTop (entryFrame m #[.ref b, .int (Int32.ofNat o), .int (Int32.ofNat len)] 6)) (s₁.setTop (mkF m 0 #[.val (.ref b), .val (.int (Int32.ofNat o)), .val (.int (Int32.ofNat len)), .unset, .unset, .unset] [])) := entry rfl
  have c2 : Steps p.tables e below (s₁.setTop (entryFrame m #[.ref b, .int (Int32.ofNat o), .int (Int32.ofNat len)] 6)) (s₁.setTop (mkF m 1 #[.val (.ref b), .val (.int (Int32.ofNat o)), .val (.int (Int32.ofNat len)), .unset, .unset, .unset] [.int (Int32.ofNat len)])) := c1.trans (by
    refine XS.iloadN X0.here hexec rfl (hb hbytes d0) rfl ?_
    exact Steps.refl _)
  obtain ⟨T3, B3, X3, ba3, bs3, bv3, bh3, bf3, st3⟩ := X0.anew hexec (atype := .byte) (wk W (.arrayClass .byte)) rfl (by show len * 1 ≤ _; omega) (by omega) (g := (mkF m 1 #[.val (.ref b), .val (.int (Int32.ofNat o)), .val (.int (Int32.ofNat len)), .unset, .unset, .unset] [.int (Int32.ofNat len)])) rfl (hb hbytes d1) (rest := []) rfl (Nat.le_refl _) (by show 0 + len ≤ len; omega)
  rw [hh0] at ba3 st3
  have kp3 : XT.Kept s T3 := (XT.Kept.of_eq hh0).push bh3
  have hA3 := hA.keep X3.warmed.alike (kp3 _ _ hA.1.1)
  have hne : b ≠ s.heap.size := hA.1.ne
  have c4 : Steps p.tables e below (s₁.setTop (entryFrame m #[.ref b, .int (Int32.ofNat o), .int (Int32.ofNat len)] 6)) (T3.setTop (mkF m 3 #[.val (.ref b), .val (.int (Int32.ofNat o)), .val (.int (Int32.ofNat len)), .unset, .unset, .unset] [.ref s.heap.size])) := c2.trans (st3 _ (Steps.refl _))
  have c5 : Steps p.tables e below (s₁.setTop (entryFrame m #[.ref b, .int (Int32.ofNat o), .int (Int32.ofNat len)] 6)) (T3.setTop (mkF m 9 #[.val (.ref b), .val (.int (Int32.ofNat o)), .val (.int (Int32.ofNat len)), .val (.ref s.heap.size), .unset, .unset] [.int (Int32.ofNat len), .int 0, .ref s.heap.size, .int (Int32.ofNat o), .ref b])) := c4.trans (by
    refine XS.astoreN X3.here hexec rfl (hb hbytes d3) rfl rfl rfl ?_
    refine XS.aloadN X3.here hexec rfl (hb hbytes d4) rfl rfl ?_
    refine XS.iloadN X3.here hexec rfl (hb hbytes d5) rfl ?_
    refine XS.aloadN X3.here hexec rfl (hb hbytes d6) rfl rfl ?_
    refine iconstV X3.here hexec rfl 0 (hb hbytes d7) (by decide) ?_
    refine XS.iloadN X3.here hexec rfl (hb hbytes d8) rfl ?_
    exact Steps.refl _)
  obtain ⟨v6, T6, X6, E6, g6⟩ := X3.callS hexec (Cmp5.law l b A s.heap.size B3 o 0 len) hown (wks W (staticW U16 115 Cmp5.yN)) (wk W Cmp5.tab) (W := 0) (Nat.le_of_ble_eq_true rfl) (Nat.le_of_ble_eq_true rfl) (Nat.le_refl _) (by show 0 + len + 0 ≤ len; omega) (g := (mkF m 9 #[.val (.ref b), .val (.int (Int32.ofNat o)), .val (.int (Int32.ofNat len)), .val (.ref s.heap.size), .unset, .unset] [.int (Int32.ofNat len), .int (Int32.ofNat 0), .ref s.heap.size, .int (Int32.ofNat o), .ref b])) rfl (by rw [hml]; rfl) c5 (argsL := [.ref b, .int (Int32.ofNat o), .ref s.heap.size, .int (Int32.ofNat 0), .int (Int32.ofNat len)]) (rest := []) rfl rfl (by show 2 * 0 + 0 ≤ _; decide) (hb hbytes d9) (⟨rfl, hA3, ba3, hne, l1, by rw [bs3]; simp, hp⟩)
  obtain ⟨rfl, B6, p6, f6⟩ := E6
  have c7 : Steps p.tables e below (s₁.setTop (entryFrame m #[.ref b, .int (Int32.ofNat o), .int (Int32.ofNat len)] 6)) (T6.setTop (mkF m 12 #[.val (.ref b), .val (.int (Int32.ofNat o)), .val (.int (Int32.ofNat len)), .val (.ref s.heap.size), .unset, .unset] [.int (Int32.ofNat len)])) := g6
  have c8 : Steps p.tables e below (s₁.setTop (entryFrame m #[.ref b, .int (Int32.ofNat o), .int (Int32.ofNat len)] 6)) (T6.setTop (mkF m 58 #[.val (.ref b), .val (.int (Int32.ofNat o)), .val (.int (Int32.ofNat len)), .val (.ref s.heap.size), .val (.int (Int32.ofNat len)), .unset] [.ref s.heap.size])) := c7.trans (by
    refine XS.istore X6.here hexec rfl (hb hbytes d12) rfl rfl ?_
    refine XS.iload X6.here hexec rfl (hb hbytes d14) rfl ?_
    refine XS.iloadN X6.here hexec rfl (hb hbytes d16) rfl ?_
    refine XS.icmpYes X6.here hexec rfl (pc0 := 17) rfl (hb hbytes d17) rfl (ii_eq_t rfl) (by decide) rfl ?_
    refine XS.aloadN X6.here hexec rfl (hb hbytes d57) rfl rfl ?_
    exact Steps.refl _)
  have X8 := X6.wide (L' := []) (cells' := 1) (slots' := len) (fun x hx hlt => by
    simp only [List.nil_append, copyLocs, List.mem_map, List.mem_range] at hx
    obtain ⟨i, -, rfl⟩ := hx
    exact absurd hlt (Nat.lt_irrefl _)) (Nat.le_refl _) (by omega)
  exact ⟨T6, some (.ref s.heap.size), _, _, _, X8, rfl, rfl, rfl, (fun h => by cases h), ⟨⟨rfl, B6, ba3.like (X3.warmed.alike.symm.trans X6.warmed.alike) p6.1 f6.1 f6.2.1 f6.2.2.1, f6.2.1.trans bv3, by rw [X6.warmed.alike.findClass, f6.1]; exact bf3, by rw [f6.2.2.1, bs3]; simp, fun j hj => by rw [f6.2.2.2 j, if_pos (by omega)]; rfl, kp3.put p6 (Nat.le_refl _)⟩, by rw [p6.2.2, bh3, hh0]; simp⟩, fun fs hl => c8.trans (X8.areturnOut hexec rfl hret rfl (hb hbytes d58) hl)⟩
end Cmp3
namespace CodL
def yN : MethodName := ⟨"java/lang/StringUTF16", "coderFromArrayLen", "([BI)B"⟩
abbrev yB : ByteArray := jdk_52_method_15_code
theorem d0 : decode yB 0 = .ok (.iload_n 1, 1) := by decide +kernel
theorem d1 : decode yB 1 = .ok (.aload_n 0, 1) := by decide +kernel
theorem d2 : decode yB 2 = .ok (.arraylength, 1) := by decide +kernel
theorem d3 : decode yB 3 = .ok (.isub, 1) := by decide +kernel
theorem d4 : decode yB 4 = .ok (.bipush 31, 2) := by decide +kernel
theorem d6 : decode yB 6 = .ok (.iushr, 1) := by decide +kernel
theorem d7 : decode yB 7 = .ok (.i2b, 1) := by decide +kernel
theorem d8 : decode yB 8 = .ok (.ireturn, 1) := by decide +kernel
def site : List Cond := []
def tab : Cond := tabOf yN yB 2 (some .byte) site
def P (d : Addr) (B : Cell) (args : Array Value) (s : State) : Prop := args = #[.ref d, .int (Int32.ofNat B.slots.size)] ∧ Arr .byte d B s
def E (r : Option Value) (s u : State) : Prop := XT.PureE (some (.int 0)) r s u
/-- an array as long as the number of chars: LATIN1 -/
theorem law (l : Launch) (d : Addr) (B : Cell) : Law l yN 2 2 0 0 yB 2 (some .byte) site (P d B) E [] 0 0 := by
  refine Law.of_walk (plainFor_of_name (by decide +kernel)) (by decide +kernel) (by decide +kernel) (by decide) (fun _ _ h => by rw [h.1]; rfl) (fun _ U U' hal hh h => ⟨h.1, h.2.mv hal hh⟩) (fun r U U' V V' h1 hal h2 h => XT.PureE.mv r U U' V V' h1 hal h2 h) ?_
  intro p e s m args below meth c s₁ X0 hexec hbytes hml hret hlk hnm hown hh0 W hP
  obtain ⟨rfl, hB⟩ := hP
  have hB0 := hB.mv X0.warmed.alike hh0
  have c1 : Steps p.tables e below (s₁.setTop (entryFrame m #[.ref d, .int (Int32.ofNat B.slots.size)] 2)) (s₁.setTop (mkF m 0 #[.val (.ref d), .val (.int (Int32.ofNat B.slots.size))] [])) := entry rfl
  have c2 : Steps p.tables e below (s₁.setTop (entryFrame m #[.ref d, .int (Int32.ofNat B.slots.size)] 2)) (s₁.setTop (mkF m 2 #[.val (.ref d), .val (.int (Int32.ofNat B.slots.size))] [.ref d, .int (Int32.ofNat B.slots.size)])) := c1.trans (by
    refine XS.iloadN X0.here hexec rfl (hb hbytes d0) rfl ?_
    refine XS.aloadN X0.here hexec rfl (hb hbytes d1) rfl rfl ?_
    exact Steps.refl _)
  have c3 : Steps p.tables e below (s₁.setTop (entryFrame m #[.ref d, .int (Int32.ofNat B.slots.size)] 2)) (s₁.setTop (mkF m 8 #[.val (.ref d), .val (.int (Int32.ofNat B.slots.size))] [.int (lo8 (ushr (Int32.ofNat B.slots.size - Int32.ofNat B.slots.size) 31))])) := c2.trans (by
    refine X0.alen hexec hB0 rfl rfl (hb hbytes d2) ?_
    refine XS.isub X0.here hexec rfl (hb hbytes d3) rfl ?_
    refine bipushV X0.here hexec rfl 31 (hb hbytes d4) (by decide) ?_
    refine iushr X0.here hexec rfl (hb hbytes d6) rfl ?_
    refine i2b X0.here hexec rfl (hb hbytes d7) rfl ?_
    exact Steps.refl _)
  have e0 : lo8 (ushr (Int32.ofNat B.slots.size - Int32.ofNat B.slots.size) 31) = 0 := by rw [Int32.sub_self]; decide
  rw [e0] at c3
  exact ⟨s₁, some (.int 0), _, _, _, X0, rfl, rfl, rfl, (fun h => by cases h), ⟨rfl, hh0⟩, fun fs hl => c3.trans (X0.ireturnOut hexec hret rfl (Or.inr (Or.inr (Or.inl rfl))) (hb hbytes d8) hl)⟩
end CodL
/-- the String at a is Latin-1 over a new byte[] (the heap's one new cell): the low bytes of the len chars of A from o on; every cell but a is kept -/
def Got (a : Addr) (D : Cell) (fV fC : Field) (A : Cell) (o len : Nat) (r : Option Value) (s u : State) : Prop := r = none ∧ ∃ D' V : Cell, Blank "java/lang/String" a D' u ∧ Same D D' [fV.slot, fC.slot] ∧ D'.slots[fV.slot]? = some (.ref s.heap.size) ∧ D'.slots[fC.slot]? = some (.int 0) ∧ Arr .byte s.heap.size V u ∧ V.vm = .none ∧ u.vm.findClass "[B" = some V.cls ∧ V.slots.size = len ∧ (∀ j, j < len → V.slots[j]? = some (.int (lo8 (cv A (o + j))))) ∧ (∀ (y : Addr) (c : Cell), y ≠ a → s.heap[y]? = some c → u.heap[y]? = some c) ∧ u.heap.size = s.heap.size + 1
theorem Got.mv {a : Addr} {D A : Cell} {fV fC : Field} {o len : Nat} : ∀ r (U U' V V' : State), U'.heap = U.heap → V.vm.Alike V'.vm → V'.heap = V.heap → Got a D fV fC A o len r U V → Got a D fV fC A o len r U' V' :=
  fun r U U' V V' h1 hal h2 ⟨e0, D', X, a1, a2, a3, a4, a5, a6, a7, a8, a9, a10, a11⟩ => ⟨e0, D', X, a1.mv hal h2, a2, by rw [h1]; exact a3, a4, by rw [h1]; exact a5.mv hal h2, a6, by rw [hal.findClass]; exact a7, a8, a9, by rw [h1, h2]; exact a10, by rw [h1, h2]; exact a11⟩
namespace New4
def yN : MethodName := ⟨"java/lang/String", "<init>", "([CIILjava/lang/Void;)V"⟩
abbrev yB : ByteArray := jdk_42_method_149_code
theorem d0 : decode yB 0 = .ok (.aload_n 0, 1) := by decide +kernel
theorem d1 : decode yB 1 = .ok (.invokespecial 1, 3) := by decide +kernel
theorem d4 : decode yB 4 = .ok (.iload_n 3, 1) := by decide +kernel
theorem d5 : decode yB 5 = .ok (.ifCond (.ne) 22, 3) := by decide +kernel
theorem d27 : decode yB 27 = .ok (.getstatic 38, 3) := by decide +kernel
theorem d30 : decode yB 30 = .ok (.ifCond (.eq) 28, 3) := by decide +kernel
theorem d33 : decode yB 33 = .ok (.aload_n 1, 1) := by decide +kernel
theorem d34 : decode yB 34 = .ok (.iload_n 2, 1) := by decide +kernel
theorem d35 : decode yB 35 = .ok (.iload_n 3, 1) := by decide +kernel
theorem d36 : decode yB 36 = .ok (.invokestatic 177, 3) := by decide +kernel
theorem d39 : decode yB 39 = .ok (.astore 5, 2) := by decide +kernel
theorem d41 : decode yB 41 = .ok (.aload_n 0, 1) := by decide +kernel
theorem d42 : decode yB 42 = .ok (.aload 5, 2) := by decide +kernel
theorem d44 : decode yB 44 = .ok (.iload_n 3, 1) := by decide +kernel
theorem d45 : decode yB 45 = .ok (.invokestatic 47, 3) := by decide +kernel
theorem d48 : decode yB 48 = .ok (.putfield 15, 3) := by decide +kernel
theorem d51 : decode yB 51 = .ok (.aload_n 0, 1) := by decide +kernel
theorem d52 : decode yB 52 = .ok (.aload 5, 2) := by decide +kernel
theorem d54 : decode yB 54 = .ok (.putfield 9, 3) := by decide +kernel
theorem d57 : decode yB 57 = .ok (.return_, 1) := by decide +kernel
def site : List Cond := [.fieldLink "java/lang/String" 38 "java/lang/String" "COMPACT_STRINGS" "Z", Cmp3.tab, CodL.tab, .laysFinal "java/lang/String" "java/lang/String" "value" "[B", .fieldLink "java/lang/String" 9 "java/lang/String" "value" "[B", .laysFinal "java/lang/String" "java/lang/String" "coder" "B", .fieldLink "java/lang/String" 15 "java/lang/String" "coder" "B"] ++ objW "java/lang/String" 1 ++ staticW "java/lang/String" 177 Cmp3.yN ++ staticW "java/lang/String" 47 CodL.yN
def tab : Cond := tabOf yN yB 6 none site
def P (a : Addr) (D : Cell) (fV fC : Field) (b : Addr) (A : Cell) (z : Int32) (o len : Nat) (args : Array Value) (s : State) : Prop := args = #[.ref a, .ref b, .int (Int32.ofNat o), .int (Int32.ofNat len), .null] ∧ Blank "java/lang/String" a D s ∧ Found "java/lang/String" "value" "[B" fV s ∧ Found "java/lang/String" "coder" "B" fC s ∧ Ch b A s ∧ StaticIs s "java/lang/String" "COMPACT_STRINGS" "Z" (.int z) ∧ ¬ z = 0 ∧ 0 < len ∧ o + len ≤ A.slots.size ∧ len ≤ 536870912 ∧ ∀ i, i < len → ¬ 255 < cv A (o + i)
def E (a : Addr) (D : Cell) (fV fC : Field) (A : Cell) (o len : Nat) (r : Option Value) (s u : State) : Prop := Got a D fV fC A o len r s u
/-- len > 0, no char of the range above 255: a Latin-1 String of their low bytes -/
theorem law (l : Launch) (a : Addr) (D : Cell) (fV fC : Field) (b : Addr) (A : Cell) (z : Int32) (o len : Nat) : Law l yN 5 4 2 35 yB 6 none site (P a D fV fC b A z o len) (E a D fV fC A o len) [⟨a, fC.slot⟩, ⟨a, fV.slot⟩] 1 len := by
  refine Law.of_walk (plainFor_of_name (by decide +kernel)) (by decide +kernel) (by decide +kernel) (by decide) (fun _ _ h => by rw [h.1]; rfl) (fun _ U U' hal hh h => ⟨h.1, h.2.1.mv hal hh, h.2.2.1.al hal, h.2.2.2.1.al hal, h.2.2.2.2.1.mv hal hh, h.2.2.2.2.2.1.there hal hh, h.2.2.2.2.2.2⟩) (fun r U U' V V' h1 hal h2 h => Got.mv r U U' V V' h1 hal h2 h) ?_
  intro p e s m args below meth c s₁ X0 hexec hbytes hml hret hlk hnm hown hh0 W hP
  obtain ⟨rfl, hB, f1, f2, hA, s1, hz, l0, l1, l2, hp⟩ := hP
  have a31 := hA.1.2.2.2
  have c1 : Steps p.tables e below (s₁.setTop (entryFrame m #[.ref a, .ref b, .int (Int32.ofNat o), .int (Int32.ofNat len), .null] 6)) (s₁.setTop (mkF m 0 #[.val (.ref a), .val (.ref b), .val (.int (Int32.ofNat o)), .val (.int (Int32.ofNat len)), .val .null, .unset] [])) := entry rfl
  have c2 : Steps p.tables e below (s₁.setTop (entryFrame m #[.ref a, .ref b, .int (Int32.ofNat o), .int (Int32.ofNat len), .null] 6)) (s₁.setTop (mkF m 1 #[.val (.ref a), .val (.ref b), .val (.int (Int32.ofNat o)), .val (.int (Int32.ofNat len)), .val .null, .unset] [.ref a])) := c1.trans (by
    refine XS.aloadN X0.here hexec rfl (hb hbytes d0) rfl rfl ?_
    exact Steps.refl _)
  obtain ⟨T3, X3, q3, st3⟩ := X0.oinit hexec hown (wks W (objW "java/lang/String" 1)) (g := (mkF m 1 #[.val (.ref a), .val (.ref b), .val (.int (Int32.ofNat o)), .val (.int (Int32.ofNat len)), .val .null, .unset] [.ref a])) rfl (by rw [hml]; rfl) (rest := []) rfl (hb hbytes d1) (W := 0) (by show 2 * 0 + 0 ≤ _; decide) (Nat.le_of_ble_eq_true rfl) (Nat.le_of_ble_eq_true rfl)
  have hh3 := q3.trans hh0
  have c4 : Steps p.tables e below (s₁.setTop (entryFrame m #[.ref a, .ref b, .int (Int32.ofNat o), .int (Int32.ofNat len), .null] 6)) (T3.setTop (mkF m 27 #[.val (.ref a), .val (.ref b), .val (.int (Int32.ofNat o)), .val (.int (Int32.ofNat len)), .val .null, .unset] [])) := (c2.trans (st3 _ (Steps.refl _))).trans (by
    refine XS.iloadN X3.here hexec rfl (hb hbytes d4) rfl ?_
    refine XS.ifYes X3.here hexec rfl (pc0 := 5) rfl (hb hbytes d5) rfl (i0_ne_t (nz32 (by omega) l0)) (by decide) rfl ?_
    exact Steps.refl _)
  obtain ⟨T5, X5, q5, st5⟩ := X3.sget hexec hown (wk W (.fieldLink "java/lang/String" 38 "java/lang/String" "COMPACT_STRINGS" "Z")) s1 (fun _ _ h => by rw [hh3]; exact h) (g := (mkF m 27 #[.val (.ref a), .val (.ref b), .val (.int (Int32.ofNat o)), .val (.int (Int32.ofNat len)), .val .null, .unset] [])) rfl (hb hbytes d27)
  have hh5 := q5.trans hh3
  have c6 : Steps p.tables e below (s₁.setTop (entryFrame m #[.ref a, .ref b, .int (Int32.ofNat o), .int (Int32.ofNat len), .null] 6)) (T5.setTop (mkF m 30 #[.val (.ref a), .val (.ref b), .val (.int (Int32.ofNat o)), .val (.int (Int32.ofNat len)), .val .null, .unset] [.int z])) := c4.trans (st5 _ (Steps.refl _))
  have c7 : Steps p.tables e below (s₁.setTop (entryFrame m #[.ref a, .ref b, .int (Int32.ofNat o), .int (Int32.ofNat len), .null] 6)) (T5.setTop (mkF m 36 #[.val (.ref a), .val (.ref b), .val (.int (Int32.ofNat o)), .val (.int (Int32.ofNat len)), .val .null, .unset] [.int (Int32.ofNat len), .int (Int32.ofNat o), .ref b])) := c6.trans (by
    refine XS.ifNo X5.here hexec rfl (hb hbytes d30) rfl (i0_eq_f hz) ?_
    refine XS.aloadN X5.here hexec rfl (hb hbytes d33) rfl rfl ?_
    refine XS.iloadN X5.here hexec rfl (hb hbytes d34) rfl ?_
    refine XS.iloadN X5.here hexec rfl (hb hbytes d35) rfl ?_
    exact Steps.refl _)
  obtain ⟨v8, T8, X8, E8, g8⟩ := X5.callS hexec (Cmp3.law l b A o len) hown (wks W (staticW "java/lang/String" 177 Cmp3.yN)) (wk W Cmp3.tab) (W := 0) (Nat.le_of_ble_eq_true rfl) (Nat.le_of_ble_eq_true rfl) (Nat.le_refl _) (by show 0 + len ≤ len; omega) (g := (mkF m 36 #[.val (.ref a), .val (.ref b), .val (.int (Int32.ofNat o)), .val (.int (Int32.ofNat len)), .val .null, .unset] [.int (Int32.ofNat len), .int (Int32.ofNat o), .ref b])) rfl (by rw [hml]; rfl) c7 (argsL := [.ref b, .int (Int32.ofNat o), .int (Int32.ofNat len)]) (rest := []) rfl rfl (by show 2 * 0 + 0 ≤ _; decide) (hb hbytes d36) (⟨rfl, hA.mv X5.warmed.alike hh5, l1, l2, hp⟩)
  obtain ⟨e8, z8⟩ := E8
  obtain ⟨rfl, N, n1, n2, n3, n4, n5, n6⟩ := NewArr.mv _ T5 s _ _ hh5.symm (Vm.Alike.refl _) rfl e8
  rw [hh5] at z8
  have hB1 := hB.keep X8.warmed.alike (n6 _ _ hB.1)
  have hne : s.heap.size ≠ a := (Nat.ne_of_lt (Array.getElem?_eq_some_iff.mp hB.1).1).symm
  have c9 : Steps p.tables e below (s₁.setTop (entryFrame m #[.ref a, .ref b, .int (Int32.ofNat o), .int (Int32.ofNat len), .null] 6)) (T8.setTop (mkF m 39 #[.val (.ref a), .val (.ref b), .val (.int (Int32.ofNat o)), .val (.int (Int32.ofNat len)), .val .null, .unset] [.ref s.heap.size])) := g8
  have c10 : Steps p.tables e below (s₁.setTop (entryFrame m #[.ref a, .ref b, .int (Int32.ofNat o), .int (Int32.ofNat len), .null] 6)) (T8.setTop (mkF m 45 #[.val (.ref a), .val (.ref b), .val (.int (Int32.ofNat o)), .val (.int (Int32.ofNat len)), .val .null, .val (.ref s.heap.size)] [.int (Int32.ofNat N.slots.size), .ref s.heap.size, .ref a])) := by
    have hc : Steps p.tables e below (s₁.setTop (entryFrame m #[.ref a, .ref b, .int (Int32.ofNat o), .int (Int32.ofNat len), .null] 6)) (T8.setTop (mkF m 45 #[.val (.ref a), .val (.ref b), .val (.int (Int32.ofNat o)), .val (.int (Int32.ofNat len)), .val .null, .val (.ref s.heap.size)] [.int (Int32.ofNat len), .ref s.heap.size, .ref a])) := c9.trans (by
      refine XS.astore X8.here hexec rfl (hb hbytes d39) rfl rfl rfl ?_
      refine XS.aloadN X8.here hexec rfl (hb hbytes d41) rfl rfl ?_
      refine XS.aload X8.here hexec rfl (hb hbytes d42) rfl rfl ?_
      refine XS.iloadN X8.here hexec rfl (hb hbytes d44) rfl ?_
      exact Steps.refl _)
    rw [n4]; exact hc
  obtain ⟨v11, T11, X11, E11, g11⟩ := X8.callS hexec (CodL.law l s.heap.size N) hown (wks W (staticW "java/lang/String" 47 CodL.yN)) (wk W CodL.tab) (W := 1) (Nat.le_of_ble_eq_true rfl) (Nat.le_of_ble_eq_true rfl) (Nat.le_refl _) (by show 0 + len + 0 ≤ len; omega) (g := (mkF m 45 #[.val (.ref a), .val (.ref b), .val (.int (Int32.ofNat o)), .val (.int (Int32.ofNat len)), .val .null, .val (.ref s.heap.size)] [.int (Int32.ofNat N.slots.size), .ref s.heap.size, .ref a])) rfl (by rw [hml]; rfl) c10 (argsL := [.ref s.heap.size, .int (Int32.ofNat N.slots.size)]) (rest := [.ref a]) rfl rfl (by show 2 * 0 + (1 + 0) ≤ _; decide) (hb hbytes d45) (⟨rfl, n1⟩)
  obtain ⟨rfl, q11⟩ := E11
  have hB11 := hB1.mv (X8.warmed.alike.symm.trans X11.warmed.alike) q11
  have c12 : Steps p.tables e below (s₁.setTop (entryFrame m #[.ref a, .ref b, .int (Int32.ofNat o), .int (Int32.ofNat len), .null] 6)) (T11.setTop (mkF m 48 #[.val (.ref a), .val (.ref b), .val (.int (Int32.ofNat o)), .val (.int (Int32.ofNat len)), .val .null, .val (.ref s.heap.size)] [.int 0, .ref a])) := g11
  obtain ⟨T13, X13, p13, bl13, sl13, st13⟩ := X11.finit hexec hown (wk W (.fieldLink "java/lang/String" 15 "java/lang/String" "coder" "B")) (Or.inr ⟨_, (wk W (.laysFinal "java/lang/String" "java/lang/String" "coder" "B"))⟩) (Or.inl ⟨rfl, hnm⟩) f2 (Or.inl rfl) hB11 (t := .byte) (by decide +kernel) rfl (g := (mkF m 48 #[.val (.ref a), .val (.ref b), .val (.int (Int32.ofNat o)), .val (.int (Int32.ofNat len)), .val .null, .val (.ref s.heap.size)] [.int 0, .ref a])) rfl (rest := []) rfl (hb hbytes d48)
  have c14 : Steps p.tables e below (s₁.setTop (entryFrame m #[.ref a, .ref b, .int (Int32.ofNat o), .int (Int32.ofNat len), .null] 6)) (T13.setTop (mkF m 54 #[.val (.ref a), .val (.ref b), .val (.int (Int32.ofNat o)), .val (.int (Int32.ofNat len)), .val .null, .val (.ref s.heap.size)] [.ref s.heap.size, .ref a])) := (c12.trans (st13 _ (Steps.refl _))).trans (by
    refine XS.aloadN X13.here hexec rfl (hb hbytes d51) rfl rfl ?_
    refine XS.aload X13.here hexec rfl (hb hbytes d52) rfl rfl ?_
    exact Steps.refl _)
  obtain ⟨T15, X15, p15, bl15, sl15, st15⟩ := X13.finit hexec hown (wk W (.fieldLink "java/lang/String" 9 "java/lang/String" "value" "[B")) (Or.inr ⟨_, (wk W (.laysFinal "java/lang/String" "java/lang/String" "value" "[B"))⟩) (Or.inl ⟨rfl, hnm⟩) f1 (Or.inl rfl) bl13 (t := (.array .byte)) (by decide +kernel) rfl (g := (mkF m 54 #[.val (.ref a), .val (.ref b), .val (.int (Int32.ofNat o)), .val (.int (Int32.ofNat len)), .val .null, .val (.ref s.heap.size)] [.ref s.heap.size, .ref a])) rfl (rest := []) rfl (hb hbytes d54)
  have c16 : Steps p.tables e below (s₁.setTop (entryFrame m #[.ref a, .ref b, .int (Int32.ofNat o), .int (Int32.ofNat len), .null] 6)) (T15.setTop (mkF m 57 #[.val (.ref a), .val (.ref b), .val (.int (Int32.ofNat o)), .val (.int (Int32.ofNat len)), .val .null, .val (.ref s.heap.size)] [])) := c14.trans (st15 _ (Steps.refl _))
  have ap := apart (Or.inr ⟨_, (wk W (.laysFinal "java/lang/String" "java/lang/String" "value" "[B"))⟩) (Or.inr ⟨_, (wk W (.laysFinal "java/lang/String" "java/lang/String" "coder" "B"))⟩) f1 f2 (t₁ := .array .byte) (t₂ := .byte) (by decide +kernel) (by decide +kernel) (by decide)
  have al := X8.warmed.alike.symm.trans X15.warmed.alike
  have n7 : T11.heap[s.heap.size]? = some N := by rw [q11]; exact n1.1
  exact ⟨T15, none, _, _, _, X15, by simp, rfl, by omega, (fun _ => rfl), ⟨rfl, _, N, bl15, ((Same.refl D _).set _ (by simp)).set _ (by simp), sl15, (Cell.slots_setSlot_ne _ ap).trans sl13, n1.keep al (p15.other hne (p13.other hne n7)), n2, by rw [al.findClass]; exact n3, n4, n5, fun y c h1 h2 => p15.other h1 (p13.other h1 (by rw [q11]; exact n6 y c h2)), by rw [p15.2.2, p13.2.2, q11]; exact z8⟩, fun fs hl => c16.trans (X15.returnOut hexec hret (hb hbytes d57) hl)⟩
end New4
namespace New1
def yN : MethodName := ⟨"java/lang/String", "<init>", "([C)V"⟩
abbrev yB : ByteArray := jdk_42_method_3_code
theorem d0 : decode yB 0 = .ok (.aload_n 0, 1) := by decide +kernel
theorem d1 : decode yB 1 = .ok (.aload_n 1, 1) := by decide +kernel
theorem d2 : decode yB 2 = .ok (.iconst 0, 1) := by decide +kernel
theorem d3 : decode yB 3 = .ok (.aload_n 1, 1) := by decide +kernel
theorem d4 : decode yB 4 = .ok (.arraylength, 1) := by decide +kernel
theorem d5 : decode yB 5 = .ok (.aconst_null, 1) := by decide +kernel
theorem d6 : decode yB 6 = .ok (.invokespecial 27, 3) := by decide +kernel
theorem d9 : decode yB 9 = .ok (.return_, 1) := by decide +kernel
def site : List Cond := [New4.tab] ++ initW "java/lang/String" 27 New4.yN
def tab : Cond := tabOf yN yB 2 none site
def P (a : Addr) (D : Cell) (fV fC : Field) (b : Addr) (A : Cell) (z : Int32) (args : Array Value) (s : State) : Prop := args = #[.ref a, .ref b] ∧ Blank "java/lang/String" a D s ∧ Found "java/lang/String" "value" "[B" fV s ∧ Found "java/lang/String" "coder" "B" fC s ∧ Ch b A s ∧ StaticIs s "java/lang/String" "COMPACT_STRINGS" "Z" (.int z) ∧ ¬ z = 0 ∧ 0 < A.slots.size ∧ A.slots.size ≤ 536870912 ∧ ∀ i, i < A.slots.size → ¬ 255 < cv A i
def E (a : Addr) (D : Cell) (fV fC : Field) (A : Cell) (r : Option Value) (s u : State) : Prop := Got a D fV fC A 0 A.slots.size r s u
/-- new String(chars), not empty, no char above 255: a Latin-1 String of their low bytes -/
theorem law (l : Launch) (a : Addr) (D : Cell) (fV fC : Field) (b : Addr) (A : Cell) (z : Int32) : Law l yN 2 1 3 52 yB 2 none site (P a D fV fC b A z) (E a D fV fC A) [⟨a, fC.slot⟩, ⟨a, fV.slot⟩] 1 A.slots.size := by
  refine Law.of_walk (plainFor_of_name (by decide +kernel)) (by decide +kernel) (by decide +kernel) (by decide) (fun _ _ h => by rw [h.1]; rfl) (fun _ U U' hal hh h => ⟨h.1, h.2.1.mv hal hh, h.2.2.1.al hal, h.2.2.2.1.al hal, h.2.2.2.2.1.mv hal hh, h.2.2.2.2.2.1.there hal hh, h.2.2.2.2.2.2⟩) (fun r U U' V V' h1 hal h2 h => Got.mv r U U' V V' h1 hal h2 h) ?_
  intro p e s m args below meth c s₁ X0 hexec hbytes hml hret hlk hnm hown hh0 W hP
  obtain ⟨rfl, hB, f1, f2, hA, s1, hz, l0, l2, hp⟩ := hP
  have c1 : Steps p.tables e below (s₁.setTop (entryFrame m #[.ref a, .ref b] 2)) (s₁.setTop (mkF m 0 #[.val (.ref a), .val (.ref b)] [])) := entry rfl
  have c2 : Steps p.tables e below (s₁.setTop (entryFrame m #[.ref a, .ref b] 2)) (s₁.setTop (mkF m 6 #[.val (.ref a), .val (.ref b)] [.null, .int (Int32.ofNat A.slots.size), .int 0, .ref b, .ref a])) := c1.trans (by
    refine XS.aloadN X0.here hexec rfl (hb hbytes d0) rfl rfl ?_
    refine XS.aloadN X0.here hexec rfl (hb hbytes d1) rfl rfl ?_
    refine iconstV X0.here hexec rfl 0 (hb hbytes d2) (by decide) ?_
    refine XS.aloadN X0.here hexec rfl (hb hbytes d3) rfl rfl ?_
    refine X0.alen hexec (hA.1.mv X0.warmed.alike hh0) rfl rfl (hb hbytes d4) ?_
    refine XS.aconstNull X0.here hexec rfl (hb hbytes d5) ?_
    exact Steps.refl _)
  obtain ⟨v3, T3, X3, E3, g3⟩ := X0.callN hexec (New4.law l a D fV fC b A z 0 A.slots.size) rfl hown (wks W (initW "java/lang/String" 27 New4.yN)) (W New4.tab (by simp only [site, List.mem_cons, List.mem_append, true_or, or_true])) (W := 0) (Nat.le_of_ble_eq_true rfl) (Nat.le_of_ble_eq_true rfl) (Nat.le_refl _) (by show 0 + A.slots.size ≤ A.slots.size; omega) (g := (mkF m 6 #[.val (.ref a), .val (.ref b)] [.null, .int (Int32.ofNat A.slots.size), .int (Int32.ofNat 0), .ref b, .ref a])) rfl (by rw [hml]; rfl) c2 (argsL := [.ref b, .int (Int32.ofNat 0), .int (Int32.ofNat A.slots.size), .null]) (rest := []) rfl rfl (by show 2 * 0 + 0 ≤ _; decide) (hb hbytes d6) (⟨rfl, hB.mv X0.warmed.alike hh0, f1.al X0.warmed.alike, f2.al X0.warmed.alike, hA.mv X0.warmed.alike hh0, s1.there X0.warmed.alike hh0, hz, l0, by omega, l2, fun i hi => by rw [Nat.zero_add]; exact hp i hi⟩)
  have e0 := Got.mv _ s₁ s _ _ hh0.symm (Vm.Alike.refl _) rfl E3
  obtain rfl := e0.1
  have c4 : Steps p.tables e below (s₁.setTop (entryFrame m #[.ref a, .ref b] 2)) (T3.setTop (mkF m 9 #[.val (.ref a), .val (.ref b)] [])) := g3
  exact ⟨T3, none, _, _, _, X3, by simp, rfl, by omega, (fun _ => rfl), e0, fun fs hl => c4.trans (X3.returnOut hexec hret (hb hbytes d9) hl)⟩
theorem pays {l : Launch} {R : Room} {p : Program} {e : Env} {below : List Frame} {s : State} {sargs : Array Value} {len W : Nat} (a : Addr) (D : Cell) (fV fC : Field) (b : Addr) (A : Cell) (z : Int32) (htab : tab.before sargs s = true) (hfr : 4 ≤ R.frames) (hlo : W + 65 ≤ R.locals) :
    Back l R p e below s sargs yN len W (fun A₁ a₁ => A₁.cells + 1 ≤ R.cells ∧ A₁.slots + A.slots.size ≤ R.slots ∧ P a D fV fC b A z a₁ A₁.U) (fun A₁ _ v₁ B₁ => E a D fV fC A v₁ A₁.U B₁.U ∧ B₁.locs = A₁.locs ++ [⟨a, fC.slot⟩, ⟨a, fV.slot⟩] ∧ B₁.cells = A₁.cells + 1 ∧ B₁.slots = A₁.slots + A.slots.size) :=
  (law l a D fV fC b A z).pays htab hfr (by omega)
end New1
/-- the byte, read back as charAt reads it, is the char -/
theorem lo8_mask {x : Int32} (h0 : ¬ x < 0) (h1 : ¬ 255 < x) : lo8 x &&& 255 = x := by
  have t : ∀ k : Fin 256, lo8 (Int32.ofNat k.val) &&& 255 = Int32.ofNat k.val := by decide +kernel
  rw [Int32.lt_iff_toInt_lt] at h0 h1
  have e0 : (0 : Int32).toInt = 0 := rfl
  have e1 : (255 : Int32).toInt = 255 := rfl
  obtain ⟨k, hk⟩ : ∃ k : Nat, x.toInt = k := ⟨x.toInt.toNat, by omega⟩
  have hx : x = Int32.ofNat k := Int32.toInt_inj.mp (by rw [hk, Int32.toInt_ofNat_small (by omega)])
  rw [hx]
  exact t ⟨k, by omega⟩
end StrChars
namespace StrChars.Road
open Jvm Sem ClassFile Op Lib Jvm.Stand Jvm.Free Jvm.Free.XT
open Jvm.Lib.Cold (StaticIs)
abbrev ST : String := "java/lang/String"
/-- every table word that New1's law asks, flat -/
abbrev words : List Jvm.Cond := [.code New1.yN New1.yB 2 none, .initialized ST, .methodLink ST 27 New4.yN, .instanceMethod New4.yN,
  .code New4.yN New4.yB 6 none, .fieldLink ST 38 ST "COMPACT_STRINGS" "Z", .laysFinal ST ST "value" "[B", .fieldLink ST 9 ST "value" "[B", .laysFinal ST ST "coder" "B", .fieldLink ST 15 ST "coder" "B",
  .methodLink ST 1 Lib.objectInit, .instanceMethod Lib.objectInit, .code Lib.objectInit ⟨#[0xb1]⟩ 1 none, .methodLink ST 177 Cmp3.yN, .static Cmp3.yN, .methodLink ST 47 CodL.yN, .static CodL.yN,
  .code Cmp3.yN Cmp3.yB 6 (some (.array .byte)), .initialized U16, .arrayClass .byte, .methodLink U16 115 Cmp5.yN, .static Cmp5.yN, .code Cmp5.yN Cmp5.yB 7 (some .int), .code CodL.yN CodL.yB 2 (some .byte)]
theorem tab_of {a : Array Value} {s : State} (h : ∀ w ∈ words, w.before a s = true) : New1.tab.before a s = true := by
  have h5 : Cmp5.tab.before a s = true := unparts (wk h (.code Cmp5.yN Cmp5.yB 7 (some .int))) (wks h (.initialized Cmp5.yN.cls :: Cmp5.site))
  have hc : CodL.tab.before a s = true := unparts (wk h (.code CodL.yN CodL.yB 2 (some .byte))) (wks h (.initialized CodL.yN.cls :: CodL.site))
  have q5 : ∀ w ∈ Cmp5.tab :: words, w.before a s = true := fun w hw => (List.mem_cons.mp hw).elim (fun e => e ▸ h5) (h w)
  have h3 : Cmp3.tab.before a s = true := unparts (wk q5 (.code Cmp3.yN Cmp3.yB 6 (some (.array .byte)))) (wks q5 (.initialized Cmp3.yN.cls :: Cmp3.site))
  have q3 : ∀ w ∈ Cmp3.tab :: CodL.tab :: words, w.before a s = true := fun w hw => (List.mem_cons.mp hw).elim (fun e => e ▸ h3) fun hw => (List.mem_cons.mp hw).elim (fun e => e ▸ hc) (h w)
  have h4 : New4.tab.before a s = true := unparts (wk q3 (.code New4.yN New4.yB 6 none)) (wks q3 (.initialized New4.yN.cls :: New4.site))
  have q4 : ∀ w ∈ New4.tab :: words, w.before a s = true := fun w hw => (List.mem_cons.mp hw).elim (fun e => e ▸ h4) (h w)
  exact unparts (wk q4 (.code New1.yN New1.yB 2 none)) (wks q4 (.initialized New1.yN.cls :: New1.site))
/-- the words ride from the start Z to the walk's own state -/
theorem moved {Z s : State} {a0 args : Array Value} (hZ : Z.Warmed39 s.vm) (hw : ∀ d ∈ words, d.before a0 Z = true) : ∀ d ∈ words, d.before args s = true := fun d hd => by
  have q := hw d hd
  have t : ∀ d ∈ words, d = .arrayClass .byte ∨ (d.onTables && d.keepsFace) = true := by decide +kernel
  rcases t d hd with rfl | t
  · exact RoadKit.mvA hZ q
  · exact RoadKit.mv hZ q t
/-- WHAT COMES BACK, over the tables of the start Z: h the heap at the call, h' behind it -/
def Q (Z : State) (x : Addr) (A : Cell) (h : Heap) (v : Option Value) (h' : Heap) (L : List Loc) : Prop := v = none ∧ (∀ y ∈ L, y.base = x) ∧ RoadKit.Keep h h' [x] ∧ h'.size = h.size + 1 ∧ RoadKit.Exa Z h' x ST ∧ RoadKit.Fld Z h' x ST "value" "[B" (.ref h.size) ∧ RoadKit.Fld Z h' x ST "coder" "B" (.int 0) ∧
  (∃ V : Cell, RoadKit.Arr Z h' h.size V .byte ∧ V.vm = .none ∧ Z.vm.findClass "[B" = some V.cls ∧ V.slots.size = A.slots.size ∧ ∀ j, j < A.slots.size → V.slots[j]? = some (.int (lo8 (cv A j)))) ∧
  ∀ (O n d : String) (w : Value), RoadKit.Fld Z h x O n d w → RoadKit.slotOf Z O n d ≠ RoadKit.slotOf Z ST "value" "[B" → RoadKit.slotOf Z O n d ≠ RoadKit.slotOf Z ST "coder" "B" → RoadKit.Fld Z h' x O n d w
/-- **new String(chars) AT A CALL, IN THE ROAD'S FORM**: for specialBack behind newO: x the fresh String, b the char[] with the cell A -/
theorem back {p : Program} {l : Launch} {e : Env} {R : Room} {s : State} {args : Array Value} {below : List Frame} {len W : Nat} {Z : State} {a0 : Array Value} {h : Heap} (hZ : Z.Warmed39 s.vm) (hw : ∀ d ∈ words, d.before a0 Z = true) {kI : Nat} (wi : (Jvm.Cond.instantiable ST kI).before a0 Z = true)
    {x b : Addr} {A : Cell} {z : Int32} {v0 c0 : Value} (E : RoadKit.Exa Z h x ST) (V : RoadKit.Fld Z h x ST "value" "[B" v0) (C : RoadKit.Fld Z h x ST "coder" "B" c0) (K : RoadKit.Arr Z h b A .char) (hty : Typed .char A) (S : RoadKit.Sta Z h ST "COMPACT_STRINGS" "Z" (.int z)) (hz : ¬ z = 0)
    (l0 : 0 < A.slots.size) (l2 : A.slots.size ≤ 536870912) (hp : ∀ i, i < A.slots.size → ¬ 255 < cv A i) (hfr : 4 ≤ R.frames) (hlo : W + 65 ≤ R.locals) :
    Back l R p e below s args New1.yN len W (fun P a => a = #[.ref x, .ref b] ∧ P.U.heap = h ∧ P.cells + 1 ≤ R.cells ∧ P.slots + A.slots.size ≤ R.slots)
      (fun P _ v B => ∃ L, Q Z x A h v B.U.heap L ∧ B.locs = P.locs ++ L ∧ B.cells = P.cells + 1 ∧ B.slots = P.slots + A.slots.size) := by
  intro m meth c P g ig mk a X hg hsize hdg hW hn hp'
  obtain ⟨rfl, rfl, r1, r2⟩ := hp'
  have al : Z.vm.Alike P.U.vm := hZ.alike.trans X.warmed.alike
  obtain ⟨D, cfV, kV, iV, fV, hD, gV, stV, knV, obV, asV, slV⟩ := id V
  obtain ⟨D', cfC, kC, iC, fC, hD', gC, stC, -, -, asC, slC⟩ := id C
  cases hD.symm.trans hD'
  obtain ⟨D2, kD, e1, e2, e3, e4, e5⟩ := id E
  cases hD.symm.trans e1
  obtain ⟨c2, k2, i1, i2, i3, -⟩ := Cond.instantiable_spec wi
  cases e2.symm.trans i1
  cases e3.symm.trans i2
  obtain ⟨kU, u1, u2⟩ := al.2.2 _ _ e3
  have hB : Blank ST x D P.U := ⟨hD, ⟨knV, fun q hq => by rw [hq] at obV; cases obV⟩, by rw [al.findClass]; exact e2, kU, u1, by rw [u2]; exact i3, by rw [u2]; exact e5 i3⟩
  have F1 : Found ST "value" "[B" fV P.U := ⟨SBG.found_only al ⟨cfV, kV, iV, gV⟩, stV⟩
  have F2 : Found ST "coder" "B" fC P.U := ⟨SBG.found_only al ⟨cfC, kC, iC, gC⟩, stC⟩
  have hA : Ch b A P.U := ⟨⟨K.1, State.isArrayOf_alike al K.2.1, K.2.2, by omega⟩, hty⟩
  have hS : StaticIs P.U ST "COMPACT_STRINGS" "Z" (.int z) := by
    obtain ⟨cfS, iS, kS, fS, st, cS, t1, t2, t3, t4, t5, t6, t7⟩ := S
    exact StaticIs.there (s := { Z with heap := P.U.heap }) ⟨cfS, iS, kS, fS, st, cS, t1, t2, t3, t4, t5, (fun q => by rw [q] at t6; cases t6), t7⟩ al rfl
  obtain ⟨v, B, X', ⟨⟨hv, E', V', q1, q2, q3, q4, q5, q6, q7, q8, q9, q10, q11⟩, hl, hc, hs⟩, st⟩ := New1.pays x D fV fC b A z (tab_of (moved hZ hw)) hfr hlo m meth c P g ig mk _ X hg hsize hdg hW hn ⟨r1, r2, rfl, hB, F1, F2, hA, hS, hz, l0, l2, hp⟩
  have al' : Z.vm.Alike B.U.vm := hZ.alike.trans X'.warmed.alike
  have hsz : E'.slots.size = D.slots.size := by
    obtain ⟨-, -, -, kB, w1, w2, w3⟩ := q1
    obtain ⟨kB', y1, y2⟩ := al'.2.2 _ _ e3
    rw [q2.2.1] at w1
    cases w1.symm.trans y1
    rw [w3, e5 i3, y2]
  refine ⟨v, B, X', ⟨_, ⟨hv, ?_, ⟨by omega, fun y cy hy hn' => q10 y cy (by simpa using hn') hy, fun y cy hy => ?_⟩, q11, ⟨E', _, q1.1, by rw [q2.2.1]; exact e2, by rw [q2.2.1]; exact e3, by rw [q2.1]; exact obV, fun _ => by rw [hsz]; exact e5 i3⟩,
    ⟨E', cfV, kV, iV, fV, q1.1, gV, stV, by rw [q2.1]; exact knV, by rw [q2.1]; exact obV, by rw [q2.2.1]; exact asV, q3⟩, ⟨E', cfC, kC, iC, fC, q1.1, gC, stC, by rw [q2.1]; exact knV, by rw [q2.1]; exact obV, by rw [q2.2.1]; exact asC, q4⟩,
    ⟨V', ⟨q5.1, State.isArrayOf_alike al'.symm q5.2.1, q5.2.2.1⟩, q6, by rw [← al'.findClass]; exact q7, q8, fun j hj => by have := q9 j hj; rwa [Nat.zero_add] at this⟩, fun O n d w F n1 n2 => ?_⟩, hl, hc, hs⟩, st⟩
  · intro y hy
    simp only [List.mem_cons, List.not_mem_nil, or_false] at hy
    rcases hy with rfl | rfl <;> rfl
  · by_cases q : y = x
    · subst q
      cases hD.symm.trans hy
      exact ⟨E', q1.1, q2.2.1, q2.1, hsz⟩
    · exact ⟨cy, q10 y cy q hy, rfl, rfl, rfl⟩
  · obtain ⟨D3, cf, k, i, f, g1, g2, g3, g4, g5, g6, g7⟩ := F
    cases hD.symm.trans g1
    simp only [RoadKit.slotOf, g2, gV, gC, Option.map_some, Option.getD_some] at n1 n2
    exact ⟨E', cf, k, i, f, q1.1, g2, g3, by rw [q2.1]; exact g4, by rw [q2.1]; exact g5, by rw [q2.2.1]; exact g6, by rw [q2.2.2 f.slot (by simp [n1, n2])]; exact g7⟩
end StrChars.Road
namespace StrChars.Road
open Jvm Sem ClassFile Op Lib Jvm.Stand Jvm.Free Jvm.Free.XT
/-- WHAT COMES BACK, the byte[] as a list of values -/
def QA (Z : State) (x : Addr) (zn : Int32) (cs : List Int32) (h : Heap) (v : Option Value) (h' : Heap) (L : List Loc) : Prop := v = none ∧ (∀ y ∈ L, y.base = x) ∧ RoadKit.Keep h h' [x] ∧ h'.size = h.size + 1 ∧ RoadKit.Exa Z h' x ST ∧ RoadKit.Fld Z h' x ST "value" "[B" (.ref h.size) ∧ RoadKit.Fld Z h' x ST "coder" "B" (.int 0) ∧
  (∃ kb, Z.vm.findClass "[B" = some kb ∧ RoadKit.Arv Z h' h.size kb .byte zn (cs.map fun c => .int (lo8 c)) (.int 0)) ∧
  ∀ (O n d : String) (w : Value), RoadKit.Fld Z h x O n d w → RoadKit.slotOf Z O n d ≠ RoadKit.slotOf Z ST "value" "[B" → RoadKit.slotOf Z O n d ≠ RoadKit.slotOf Z ST "coder" "B" → RoadKit.Fld Z h' x O n d w
/-- **new String(chars) AT A CALL, THE ARRAYS AS LISTS**: the char[] at b holds cs, not empty, no char above 255 -/
theorem backArv {p : Program} {l : Launch} {e : Env} {R : Room} {s : State} {args : Array Value} {below : List Frame} {len W : Nat} {Z : State} {a0 : Array Value} {h : Heap} (hZ : Z.Warmed39 s.vm) (hw : ∀ d ∈ words, d.before a0 Z = true) {kI : Nat} (wi : (Jvm.Cond.instantiable ST kI).before a0 Z = true)
    {x b : Addr} {k : ClassId} {zn z : Int32} {cs : List Int32} {dv v0 c0 : Value} (E : RoadKit.Exa Z h x ST) (V : RoadKit.Fld Z h x ST "value" "[B" v0) (C : RoadKit.Fld Z h x ST "coder" "B" c0) (K : RoadKit.Arv Z h b k .char zn (cs.map Value.int) dv) (S : RoadKit.Sta Z h ST "COMPACT_STRINGS" "Z" (.int z)) (hz : ¬ z = 0)
    (hlen : zn.toNatClampNeg = cs.length) (h0 : 0 < cs.length) (hbig : cs.length ≤ 536870912) (hall : ∀ c ∈ cs, ¬ 255 < c) (hfr : 4 ≤ R.frames) (hlo : W + 65 ≤ R.locals) :
    Back l R p e below s args New1.yN len W (fun P a => a = #[.ref x, .ref b] ∧ P.U.heap = h ∧ P.cells + 1 ≤ R.cells ∧ P.slots + cs.length ≤ R.slots)
      (fun P _ v B => ∃ L, QA Z x zn cs h v B.U.heap L ∧ B.locs = P.locs ++ L ∧ B.cells = P.cells + 1 ∧ B.slots = P.slots + cs.length) := by
  obtain ⟨A, K1, K2, K3, K4, K5, K6⟩ := K
  have e : A.slots.size = cs.length := K3.trans hlen
  have hat : ∀ (i : Nat) (hi : i < cs.length), A.slots[i]? = some (.int cs[i]) := fun i hi => by rw [K5 i (by omega)]; simp [List.getD_eq_getElem?_getD, hi]
  have hcv : ∀ (i : Nat) (hi : i < cs.length), cv A i = cs[i] := fun i hi => by unfold cv; rw [hat i hi]
  have hty : Typed .char A := fun i v hv => by
    have hi : i < A.slots.size := (Array.getElem?_eq_some_iff.mp hv).1
    have q := K5 i hi
    rw [hv] at q
    rw [Option.some.inj q]
    exact K6 i hi
  refine Back.mono (back hZ hw wi E V C K1 hty S hz (by omega) (by omega) (fun i hi => by rw [hcv i (by omega)]; exact hall _ (List.getElem_mem _)) hfr hlo) (fun P a hp => ⟨hp.1, hp.2.1, hp.2.2.1, by rw [e]; exact hp.2.2.2⟩) (fun P a v B hp hq => ?_)
  obtain ⟨L, ⟨q1, q2, q3, q4, q5, q6, q7, ⟨V', v1, v2, v3, v4, v5⟩, q9⟩, hl, hc, hs⟩ := hq
  refine ⟨L, ⟨q1, q2, q3, q4, q5, q6, q7, ⟨V'.cls, v3, V', v1, rfl, by rw [v4, e, hlen], K4, fun i hi => ?_, fun i hi => ?_⟩, q9⟩, hl, hc, by rw [hs, e]⟩
  · have hi' : i < cs.length := by omega
    rw [v5 i (by omega), hcv i hi']; simp [List.getD_eq_getElem?_getD, hi']
  · have hi' : i < cs.length := by omega
    simp only [List.getD_eq_getElem?_getD, List.getElem?_map, List.getElem?_eq_getElem hi', Option.map_some, Option.getD_some]
    exact fits_lo8 _
end StrChars.Road
namespace StrChars.Road
open Jvm Sem ClassFile Op Lib Jvm.Stand Jvm.Free Jvm.Free.XT
/-- WHAT COMES BACK, in the writer's own shape -/
def QV (Z : State) (x : Addr) (N : Int32) (bs : List Int32) (h : Heap) (n0 : Nat) (v : Option Value) (h' : Heap) (L : List Loc) : Prop := v = none ∧ RoadKit.Fr n0 L ∧ RoadKit.Keep h h' [x] ∧ RoadKit.Exa Z h' x ST ∧ RoadKit.Fld Z h' x ST "coder" "B" (.int 0) ∧
  ∃ (t : Addr) (kb : ClassId), n0 ≤ t ∧ h.size ≤ t ∧ ¬ t = x ∧ RoadKit.Fld Z h' x ST "value" "[B" (.ref t) ∧ RoadKit.Arv Z h' t kb .byte N (bs.map Value.int) (.int 0)
/-- **new String(chars) AT A CALL, FOR THE WRITER**: a char[] of n known ints, each 0 to 255 -/
theorem backV {p : Program} {l : Launch} {e : Env} {R : Room} {s : State} {args : Array Value} {below : List Frame} {len W : Nat} {Z : State} {a0 : Array Value} {h : Heap} (hZ : Z.Warmed39 s.vm) (hw : ∀ d ∈ words, d.before a0 Z = true) {kI : Nat} (wi : (Jvm.Cond.instantiable ST kI).before a0 Z = true)
    {x b : Addr} {kC : ClassId} {cs bs : List Int32} {d v0 c0 : Value} {z N : Int32} {n n0 : Nat} (hx0 : n0 ≤ x) (hh0 : n0 ≤ h.size) (E : RoadKit.Exa Z h x ST) (V : RoadKit.Fld Z h x ST "value" "[B" v0) (C : RoadKit.Fld Z h x ST "coder" "B" c0) (K : RoadKit.Arv Z h b kC .char N (cs.map Value.int) d) (S : RoadKit.Sta Z h ST "COMPACT_STRINGS" "Z" (.int z)) (hz : ¬ z = 0)
    (hn : cs.length = n) (hN : N = Int32.ofNat n) (l0 : 0 < n) (l2 : n ≤ 4000) (hp : ∀ c ∈ cs, ¬ c < 0 ∧ ¬ (255 : Int32) < c) (hb : bs = cs.map (fun c => c.toInt8.toInt32)) (hfr : 4 ≤ R.frames) (hlo : W + 65 ≤ R.locals) :
    Back l R p e below s args (⟨"java/lang/String", "<init>", "([C)V"⟩ : MethodName) len W (fun P a => a = #[.ref x, .ref b] ∧ P.U.heap = h ∧ P.cells + 1 ≤ R.cells ∧ P.slots + n ≤ R.slots)
      (fun P _ v B => ∃ L, QV Z x N bs h n0 v B.U.heap L ∧ B.locs = P.locs ++ L ∧ B.cells = P.cells + 1 ∧ B.slots = P.slots + n) := by
  subst hn hN hb
  refine Back.mono (backArv hZ hw wi E V C K S hz (n32 (by omega)) l0 (by omega) (fun c hc => (hp c hc).2) hfr hlo) (fun P a hp => hp) (fun P a v B hp hq => ?_)
  obtain ⟨L, ⟨q1, q2, q3, q4, q5, q6, q7, ⟨kb, v1, v2⟩, q9⟩, hl, hc, hs⟩ := hq
  exact ⟨L, ⟨q1, fun y hy => by rw [q2 y hy]; exact hx0, q3, q5, q7, h.size, kb, hh0, Nat.le_refl _, Nat.ne_of_gt E.lt, q6, by rw [List.map_map]; exact v2⟩, hl, hc, hs⟩
end StrChars.Road
namespace StrChars
open Jvm Sem ClassFile Op Lib Jvm.Stand Jvm.Free.XT Jvm.Free.ALB Jvm.Free.JM Jvm.Free
open Jvm.Lib.Cold (StaticIs)
def hi8 (x : Int32) : Int32 := lo8 (x >>> ((8 : Int32) &&& 31))
/-- what StringUTF16.getChar makes of two bytes -/
def pairCh (u v : Int32) : Int32 := (((u &&& 255) <<< ((0 : Int32) &&& 31)) ||| ((v &&& 255) <<< ((8 : Int32) &&& 31))).toUInt32.toUInt16.toUInt32.toInt32
theorem shr0 (c : Int32) : c >>> ((0 : Int32) &&& 31) = c := by
  have e : ((0 : Int32) &&& 31) = 0 := by decide
  rw [e]
  apply Int32.toBitVec_inj.mp
  rw [Int32.toBitVec_shiftRight]
  have e1 : ((0 : Int32).toBitVec.smod 32) = 0#32 := by decide
  rw [e1, BitVec.sshiftRight_eq']
  exact BitVec.sshiftRight_zero
theorem lo8_and (x : Int32) : (lo8 x &&& 255).toBitVec.toNat = x.toBitVec.toNat % 256 := by
  have h : (lo8 x).toBitVec = (x.toBitVec.signExtend 8).signExtend 32 := by rw [lo8, Int8.toBitVec_toInt32, Int32.toBitVec_toInt8]
  rw [Int32.toBitVec_and, BitVec.toNat_and, h]
  have e : ((x.toBitVec.signExtend 8).signExtend 32).toNat % 256 = x.toBitVec.toNat % 256 := by
    rw [BitVec.toNat_signExtend]
    have hlt := x.toBitVec.isLt
    simp only [BitVec.toNat_setWidth, BitVec.toNat_signExtend]
    split <;> split <;> omega
  rw [← e]
  exact Nat.and_two_pow_sub_one_eq_mod _ 8
theorem pair_says {c : Int32} (h0 : ¬ c < 0) (h1 : ¬ 65535 < c) : pairCh (lo8 c) (hi8 c) = c := by
  rw [Int32.lt_iff_toInt_lt] at h0 h1
  have e0 : (0 : Int32).toInt = 0 := rfl
  have e1 : (65535 : Int32).toInt = 65535 := rfl
  have hc : c.toInt = c.toBitVec.toNat := by
    have := c.toBitVec.isLt
    have e : c.toInt = c.toBitVec.toInt := rfl
    rw [e] at h0 h1
    rw [e]
    rw [BitVec.toInt_eq_toNat_cond] at h0 h1 ⊢
    split at h0 <;> split <;> omega
  have hn : c.toBitVec.toNat < 65536 := by omega
  have a1 := lo8_and c
  have a2 : (hi8 c &&& 255).toBitVec.toNat = c.toBitVec.toNat / 256 := by
    rw [hi8, lo8_and]
    have e : ((8 : Int32) &&& 31) = 8 := by decide
    rw [e, Int32.toBitVec_shiftRight]
    have e2 : ((8 : Int32).toBitVec.smod 32) = 8#32 := by decide
    rw [e2, BitVec.sshiftRight_eq', BitVec.toNat_sshiftRight_of_msb_false (by rw [BitVec.msb_eq_false_iff_two_mul_lt]; omega)]
    show c.toBitVec.toNat >>> 8 % 256 = _
    rw [Nat.shiftRight_eq_div_pow]
    omega
  unfold pairCh
  apply Int32.toBitVec_inj.mp
  apply BitVec.eq_of_toNat_eq
  have f0 : ((0 : Int32) &&& 31) = 0 := by decide
  have f8 : ((8 : Int32) &&& 31) = 8 := by decide
  rw [f0, f8]
  have g : (((lo8 c &&& 255) <<< (0 : Int32)) ||| ((hi8 c &&& 255) <<< (8 : Int32))).toBitVec.toNat = c.toBitVec.toNat := by
    rw [Int32.toBitVec_or, Int32.toBitVec_shiftLeft, Int32.toBitVec_shiftLeft]
    have s0 : ((0 : Int32).toBitVec.smod 32) = 0#32 := by decide
    have s8 : ((8 : Int32).toBitVec.smod 32) = 8#32 := by decide
    rw [s0, s8, BitVec.toNat_or]
    simp only [BitVec.shiftLeft_eq', BitVec.toNat_shiftLeft, a1, a2]
    show (c.toBitVec.toNat % 256) <<< 0 % 2 ^ 32 ||| (c.toBitVec.toNat / 256) <<< 8 % 2 ^ 32 = _
    rw [Nat.shiftLeft_zero, Nat.mod_eq_of_lt (show c.toBitVec.toNat % 256 < 2 ^ 32 by omega), Nat.mod_eq_of_lt (show (c.toBitVec.toNat / 256) <<< 8 < 2 ^ 32 by rw [Nat.shiftLeft_eq]; omega), Nat.or_comm, ← Nat.shiftLeft_add_eq_or_of_lt (by omega), Nat.shiftLeft_eq]
    omega
  show BitVec.toNat (((((lo8 c &&& 255) <<< (0 : Int32)) ||| ((hi8 c &&& 255) <<< (8 : Int32))).toBitVec.setWidth 16).setWidth 32) = _
  rw [BitVec.toNat_setWidth, BitVec.toNat_setWidth, g]
  omega
end StrChars
namespace StrChars
open Jvm Sem ClassFile Op Lib Jvm.Stand Jvm.Free.XT Jvm.Free.ALB Jvm.Free.JM Jvm.Free
open Jvm.Lib.Cold (StaticIs)
theorem shr1 {n : Nat} (h : 2 * n < 2 ^ 31) : Int32.ofNat (2 * n) >>> ((1 : Int32) &&& 31) = Int32.ofNat n := by
  have e : ((1 : Int32) &&& 31) = 1 := by decide
  rw [e]
  apply Int32.toBitVec_inj.mp
  rw [Int32.toBitVec_shiftRight]
  have e1 : ((1 : Int32).toBitVec.smod 32) = 1#32 := by decide
  have hm : (BitVec.ofNat 32 (2 * n)).toNat = 2 * n := by rw [BitVec.toNat_ofNat, Nat.mod_eq_of_lt (by omega)]
  rw [e1, BitVec.sshiftRight_eq']
  apply BitVec.eq_of_toNat_eq
  show ((BitVec.ofNat 32 (2 * n)).sshiftRight 1).toNat = (BitVec.ofNat 32 n).toNat
  rw [BitVec.toNat_sshiftRight_of_msb_false (by rw [BitVec.msb_eq_false_iff_two_mul_lt, hm]; omega), hm, BitVec.toNat_ofNat, Nat.shiftRight_eq_div_pow]
  omega
/-- charAt's cast of a byte read back -/
def chr8 (u : Int32) : Int32 := (u &&& 255).toUInt32.toUInt16.toUInt32.toInt32
theorem chr8_lo8 {c : Int32} (h0 : ¬ c < 0) (h1 : ¬ 255 < c) : chr8 (lo8 c) = c := by
  have t : ∀ k : Fin 256, (Int32.ofNat k.val).toUInt32.toUInt16.toUInt32.toInt32 = Int32.ofNat k.val := by decide +kernel
  unfold chr8
  rw [lo8_mask h0 h1]
  rw [Int32.lt_iff_toInt_lt] at h0 h1
  have e0 : (0 : Int32).toInt = 0 := rfl
  have e1 : (255 : Int32).toInt = 255 := rfl
  obtain ⟨k, hk⟩ : ∃ k : Nat, c.toInt = k := ⟨c.toInt.toNat, by omega⟩
  have hx : c = Int32.ofNat k := Int32.toInt_inj.mp (by rw [hk, Int32.toInt_ofNat_small (by omega)])
  rw [hx]
  exact t ⟨k, by omega⟩
theorem narrow_ch {c : Int32} (h0 : ¬ c < 0) (h1 : ¬ 65535 < c) : narrow .char (.int c) = .int c := by
  have q : narrow .char (.int (pairCh (lo8 c) (hi8 c))) = .int (pairCh (lo8 c) (hi8 c)) := narrow_c _
  rwa [pair_says h0 h1] at q
/-- the array's cell V codes the n chars f 0 .. f (n - 1) by the coder cd, as the JDK does: coder 1 just where some char is above 255 -/
def Cod (cd : Int32) (n : Nat) (f : Nat → Int32) (V : Cell) : Prop := (cd = 0 ∧ V.slots.size = n ∧ ∀ j, j < n → V.slots[j]? = some (.int (lo8 (f j))) ∧ ¬ 255 < f j) ∨ (cd = 1 ∧ V.slots.size = 2 * n ∧ (∀ j, j < n → V.slots[2 * j]? = some (.int (lo8 (f j))) ∧ V.slots[2 * j + 1]? = some (.int (hi8 (f j)))) ∧ ∃ j, j < n ∧ 255 < f j)
theorem Cod.cd {cd : Int32} {n : Nat} {f : Nat → Int32} {V : Cell} (h : Cod cd n f V) : cd = 0 ∨ cd = 1 := h.imp (fun q => q.1) fun q => q.1
theorem Cod.len {cd : Int32} {n : Nat} {f : Nat → Int32} {V : Cell} (h : Cod cd n f V) (hs : V.slots.size < 2 ^ 31) : Int32.ofNat V.slots.size >>> (cd &&& 31) = Int32.ofNat n := by
  rcases h with ⟨rfl, h, -⟩ | ⟨rfl, h, -⟩
  · rw [shr0, h]
  · rw [h, shr1 (by omega)]
/-- **x is a String of the n chars f 0 .. f (n - 1)**, Latin-1 or UTF-16; its array at t has the cell V -/
def Txt (x t : Addr) (V : Cell) (cd : Int32) (n : Nat) (f : Nat → Int32) (U : State) : Prop := Exact "java/lang/String" x U ∧ Has x "java/lang/String" "value" "[B" (.ref t) U ∧ Has x "java/lang/String" "coder" "B" (.int cd) U ∧ XT.Arr .byte t V U ∧ Cod cd n f V ∧ ∀ j, j < n → ¬ f j < 0 ∧ ¬ 65535 < f j
theorem Txt.mv {x t : Addr} {V : Cell} {cd : Int32} {n : Nat} {f : Nat → Int32} {U U' : State} (h : Txt x t V cd n f U) (hal : U.vm.Alike U'.vm) (hh : U'.heap = U.heap) : Txt x t V cd n f U' := ⟨h.1.mv hal hh, h.2.1.mv hal hh, h.2.2.1.mv hal hh, h.2.2.2.1.mv hal hh, h.2.2.2.2⟩
namespace Cdr
def yN : MethodName := ⟨"java/lang/String", "coder", "()B"⟩
abbrev yB : ByteArray := jdk_42_method_152_code
theorem d0 : decode yB 0 = .ok (.getstatic 38, 3) := by decide +kernel
theorem d3 : decode yB 3 = .ok (.ifCond (.eq) 10, 3) := by decide +kernel
theorem d6 : decode yB 6 = .ok (.aload_n 0, 1) := by decide +kernel
theorem d7 : decode yB 7 = .ok (.getfield 15, 3) := by decide +kernel
theorem d10 : decode yB 10 = .ok (.goto 4, 3) := by decide +kernel
theorem d14 : decode yB 14 = .ok (.ireturn, 1) := by decide +kernel
def site : List Cond := [.fieldLink "java/lang/String" 38 "java/lang/String" "COMPACT_STRINGS" "Z", .fieldLink "java/lang/String" 15 "java/lang/String" "coder" "B"]
def tab : Cond := tabOf yN yB 1 (some .byte) site
def P (x : Addr) (cd z : Int32) (args : Array Value) (s : State) : Prop := args = #[.ref x] ∧ Has x "java/lang/String" "coder" "B" (.int cd) s ∧ (cd = 0 ∨ cd = 1) ∧ StaticIs s "java/lang/String" "COMPACT_STRINGS" "Z" (.int z) ∧ ¬ z = 0
def E (cd : Int32) (r : Option Value) (s u : State) : Prop := XT.PureE (some (.int cd)) r s u
theorem law (l : Launch) (x : Addr) (cd z : Int32) : Law l yN 1 0 0 0 yB 1 (some .byte) site (P x cd z) (E cd) [] 0 0 := by
  refine Law.of_walk (plainFor_of_name (by decide +kernel)) (by decide +kernel) (by decide +kernel) (by decide) (fun _ _ h => by rw [h.1]; rfl) (fun _ U U' hal hh h => ⟨h.1, h.2.1.mv hal hh, h.2.2.1, h.2.2.2.1.there hal hh, h.2.2.2.2⟩) (fun r U U' V V' h1 hal h2 h => XT.PureE.mv r U U' V V' h1 hal h2 h) ?_
  intro p e s m args below meth c s₁ X0 hexec hbytes hml hret hlk hnm hown hh0 W hP
  obtain ⟨rfl, hx, hc, s1, hz⟩ := hP
  have c1 : Steps p.tables e below (s₁.setTop (entryFrame m #[.ref x] 1)) (s₁.setTop (mkF m 0 #[.val (.ref x)] [])) := entry rfl
  obtain ⟨T2, X2, q2, st2⟩ := X0.sget hexec hown (wk W (.fieldLink "java/lang/String" 38 "java/lang/String" "COMPACT_STRINGS" "Z")) s1 (fun _ _ h => by rw [hh0]; exact h) (g := (mkF m 0 #[.val (.ref x)] [])) rfl (hb hbytes d0)
  have hh2 := q2.trans hh0
  have c3 : Steps p.tables e below (s₁.setTop (entryFrame m #[.ref x] 1)) (T2.setTop (mkF m 7 #[.val (.ref x)] [.ref x])) := (c1.trans (st2 _ (Steps.refl _))).trans (by
    refine XS.ifNo X2.here hexec rfl (hb hbytes d3) rfl (i0_eq_f hz) ?_
    refine XS.aloadN X2.here hexec rfl (hb hbytes d6) rfl rfl ?_
    exact Steps.refl _)
  obtain ⟨T4, X4, q4, st4⟩ := X2.hget hexec hown (wk W (.fieldLink "java/lang/String" 15 "java/lang/String" "coder" "B")) (hx.mv X2.warmed.alike hh2) (g := (mkF m 7 #[.val (.ref x)] [.ref x])) rfl (rest := []) rfl (hb hbytes d7)
  have c5 : Steps p.tables e below (s₁.setTop (entryFrame m #[.ref x] 1)) (T4.setTop (mkF m 14 #[.val (.ref x)] [.int cd])) := (c3.trans (st4 _ (Steps.refl _))).trans (by
    refine XS.goto X4.here hexec rfl (pc0 := 10) rfl (hb hbytes d10) (by decide) rfl ?_
    exact Steps.refl _)
  exact ⟨T4, some (.int cd), _, _, _, X4, rfl, rfl, rfl, (fun h => by cases h), ⟨rfl, q4.trans hh2⟩, fun fs hl => c5.trans (X4.ireturnOut hexec hret (by rcases hc with rfl | rfl <;> rfl) (Or.inr (Or.inr (Or.inl rfl))) (hb hbytes d14) hl)⟩
end Cdr
namespace Len
def yN : MethodName := ⟨"java/lang/String", "length", "()I"⟩
abbrev yB : ByteArray := jdk_42_method_54_code
theorem d0 : decode yB 0 = .ok (.aload_n 0, 1) := by decide +kernel
theorem d1 : decode yB 1 = .ok (.getfield 9, 3) := by decide +kernel
theorem d4 : decode yB 4 = .ok (.arraylength, 1) := by decide +kernel
theorem d5 : decode yB 5 = .ok (.aload_n 0, 1) := by decide +kernel
theorem d6 : decode yB 6 = .ok (.invokevirtual 335, 3) := by decide +kernel
theorem d9 : decode yB 9 = .ok (.ishr, 1) := by decide +kernel
theorem d10 : decode yB 10 = .ok (.ireturn, 1) := by decide +kernel
def site : List Cond := [.fieldLink "java/lang/String" 9 "java/lang/String" "value" "[B", Cdr.tab] ++ virtW "java/lang/String" 335 "java/lang/String" Cdr.yN Cdr.yN
def tab : Cond := tabOf yN yB 1 (some .int) site
def P (x t : Addr) (V : Cell) (cd : Int32) (n : Nat) (f : Nat → Int32) (z : Int32) (args : Array Value) (s : State) : Prop := args = #[.ref x] ∧ Txt x t V cd n f s ∧ StaticIs s "java/lang/String" "COMPACT_STRINGS" "Z" (.int z) ∧ ¬ z = 0
def E (n : Nat) (r : Option Value) (s u : State) : Prop := XT.PureE (some (.int (Int32.ofNat n))) r s u
/-- length() of a String of n chars, in either coding -/
theorem law (l : Launch) (x t : Addr) (V : Cell) (cd : Int32) (n : Nat) (f : Nat → Int32) (z : Int32) : Law l yN 1 0 1 13 yB 1 (some .int) site (P x t V cd n f z) (E n) [] 0 0 := by
  refine Law.of_walk (plainFor_of_name (by decide +kernel)) (by decide +kernel) (by decide +kernel) (by decide) (fun _ _ h => by rw [h.1]; rfl) (fun _ U U' hal hh h => ⟨h.1, h.2.1.mv hal hh, h.2.2.1.there hal hh, h.2.2.2⟩) (fun r U U' V V' h1 hal h2 h => XT.PureE.mv r U U' V V' h1 hal h2 h) ?_
  intro p e s m args below meth c s₁ X0 hexec hbytes hml hret hlk hnm hown hh0 W hP
  obtain ⟨rfl, hx, s1, hz⟩ := hP
  have v31 := hx.2.2.2.1.2.2.2
  have c1 : Steps p.tables e below (s₁.setTop (entryFrame m #[.ref x] 1)) (s₁.setTop (mkF m 1 #[.val (.ref x)] [.ref x])) := Steps.trans (entry rfl) (by
    show Steps p.tables e below (s₁.setTop (mkF m 0 #[.val (.ref x)] [])) _
    refine XS.aloadN X0.here hexec rfl (hb hbytes d0) rfl rfl ?_
    exact Steps.refl _)
  obtain ⟨T2, X2, q2, st2⟩ := X0.hget hexec hown (wk W (.fieldLink "java/lang/String" 9 "java/lang/String" "value" "[B")) (hx.mv X0.warmed.alike hh0).2.1 (g := (mkF m 1 #[.val (.ref x)] [.ref x])) rfl (rest := []) rfl (hb hbytes d1)
  have hh2 := q2.trans hh0
  have hx2 := hx.mv X2.warmed.alike hh2
  have c3 : Steps p.tables e below (s₁.setTop (entryFrame m #[.ref x] 1)) (T2.setTop (mkF m 6 #[.val (.ref x)] [.ref x, .int (Int32.ofNat V.slots.size)])) := (c1.trans (st2 _ (Steps.refl _))).trans (by
    refine X2.alen hexec hx2.2.2.2.1 rfl rfl (hb hbytes d4) ?_
    refine XS.aloadN X2.here hexec rfl (hb hbytes d5) rfl rfl ?_
    exact Steps.refl _)
  obtain ⟨v4, T4, X4, E4, g4⟩ := X2.callV hexec (Cdr.law l x cd z) hown (wks W (virtW "java/lang/String" 335 "java/lang/String" Cdr.yN Cdr.yN)) rfl (by decide) (wk W Cdr.tab) (W := 1) (Nat.le_of_ble_eq_true rfl) (Nat.le_of_ble_eq_true rfl) (Nat.le_refl _) (Nat.le_refl _) (hx2.1.fc X2.warmed.alike) hx2.1.is (g := (mkF m 6 #[.val (.ref x)] [.ref x, .int (Int32.ofNat V.slots.size)])) rfl (by rw [hml]; rfl) c3 (argsL := []) (rest := [.int (Int32.ofNat V.slots.size)]) rfl rfl (by show 2 * 0 + (1 + 0) ≤ _; decide) (hb hbytes d6) (⟨rfl, hx2.2.2.1, hx.2.2.2.2.1.cd, s1.there X2.warmed.alike hh2, hz⟩)
  obtain ⟨rfl, q4⟩ := E4
  have c5 : Steps p.tables e below (s₁.setTop (entryFrame m #[.ref x] 1)) (T4.setTop (mkF m 10 #[.val (.ref x)] [.int (Int32.ofNat V.slots.size >>> (cd &&& 31))])) := Steps.trans g4 (by
    refine ishr X4.here hexec rfl (hb hbytes d9) rfl ?_
    exact Steps.refl _)
  rw [hx.2.2.2.2.1.len v31] at c5
  exact ⟨T4, some (.int (Int32.ofNat n)), _, _, _, X4, rfl, rfl, rfl, (fun h => by cases h), ⟨rfl, q4.trans hh2⟩, fun fs hl => c5.trans (X4.ireturnOut hexec hret rfl (Or.inl rfl) (hb hbytes d10) hl)⟩
theorem pays {l : Launch} {R : Room} {p : Program} {e : Env} {below : List Frame} {s : State} {sargs : Array Value} {len W : Nat} (x t : Addr) (V : Cell) (cd : Int32) (n : Nat) (f : Nat → Int32) (z : Int32) (htab : tab.before sargs s = true) (hfr : 2 ≤ R.frames) (hlo : W + 25 ≤ R.locals) :
    Back l R p e below s sargs yN len W (fun A₁ a₁ => A₁.cells + 0 ≤ R.cells ∧ A₁.slots + 0 ≤ R.slots ∧ P x t V cd n f z a₁ A₁.U) (fun A₁ _ v₁ B₁ => E n v₁ A₁.U B₁.U ∧ B₁.locs = A₁.locs ++ [] ∧ B₁.cells = A₁.cells + 0 ∧ B₁.slots = A₁.slots + 0) :=
  (law l x t V cd n f z).pays htab hfr (by omega)
end Len
namespace IsL
def yN : MethodName := ⟨"java/lang/String", "isLatin1", "()Z"⟩
abbrev yB : ByteArray := jdk_42_method_154_code
theorem d0 : decode yB 0 = .ok (.getstatic 38, 3) := by decide +kernel
theorem d3 : decode yB 3 = .ok (.ifCond (.eq) 14, 3) := by decide +kernel
theorem d6 : decode yB 6 = .ok (.aload_n 0, 1) := by decide +kernel
theorem d7 : decode yB 7 = .ok (.getfield 15, 3) := by decide +kernel
theorem d10 : decode yB 10 = .ok (.ifCond (.ne) 7, 3) := by decide +kernel
theorem d13 : decode yB 13 = .ok (.iconst 1, 1) := by decide +kernel
theorem d14 : decode yB 14 = .ok (.goto 4, 3) := by decide +kernel
theorem d17 : decode yB 17 = .ok (.iconst 0, 1) := by decide +kernel
theorem d18 : decode yB 18 = .ok (.ireturn, 1) := by decide +kernel
def site : List Cond := [.fieldLink "java/lang/String" 38 "java/lang/String" "COMPACT_STRINGS" "Z", .fieldLink "java/lang/String" 15 "java/lang/String" "coder" "B"]
def tab : Cond := tabOf yN yB 1 (some .boolean) site
def P (x : Addr) (cd z : Int32) (args : Array Value) (s : State) : Prop := args = #[.ref x] ∧ Has x "java/lang/String" "coder" "B" (.int cd) s ∧ (cd = 0 ∨ cd = 1) ∧ StaticIs s "java/lang/String" "COMPACT_STRINGS" "Z" (.int z) ∧ ¬ z = 0
def E (cd : Int32) (r : Option Value) (s u : State) : Prop := XT.PureE (some (.int (1 - cd))) r s u
theorem law (l : Launch) (x : Addr) (cd z : Int32) : Law l yN 1 0 0 0 yB 1 (some .boolean) site (P x cd z) (E cd) [] 0 0 := by
  refine Law.of_walk (plainFor_of_name (by decide +kernel)) (by decide +kernel) (by decide +kernel) (by decide) (fun _ _ h => by rw [h.1]; rfl) (fun _ U U' hal hh h => ⟨h.1, h.2.1.mv hal hh, h.2.2.1, h.2.2.2.1.there hal hh, h.2.2.2.2⟩) (fun r U U' V V' h1 hal h2 h => XT.PureE.mv r U U' V V' h1 hal h2 h) ?_
  intro p e s m args below meth c s₁ X0 hexec hbytes hml hret hlk hnm hown hh0 W hP
  obtain ⟨rfl, hx, hc, s1, hz⟩ := hP
  have c1 : Steps p.tables e below (s₁.setTop (entryFrame m #[.ref x] 1)) (s₁.setTop (mkF m 0 #[.val (.ref x)] [])) := entry rfl
  obtain ⟨T2, X2, q2, st2⟩ := X0.sget hexec hown (wk W (.fieldLink "java/lang/String" 38 "java/lang/String" "COMPACT_STRINGS" "Z")) s1 (fun _ _ h => by rw [hh0]; exact h) (g := (mkF m 0 #[.val (.ref x)] [])) rfl (hb hbytes d0)
  have hh2 := q2.trans hh0
  have c3 : Steps p.tables e below (s₁.setTop (entryFrame m #[.ref x] 1)) (T2.setTop (mkF m 7 #[.val (.ref x)] [.ref x])) := (c1.trans (st2 _ (Steps.refl _))).trans (by
    refine XS.ifNo X2.here hexec rfl (hb hbytes d3) rfl (i0_eq_f hz) ?_
    refine XS.aloadN X2.here hexec rfl (hb hbytes d6) rfl rfl ?_
    exact Steps.refl _)
  obtain ⟨T4, X4, q4, st4⟩ := X2.hget hexec hown (wk W (.fieldLink "java/lang/String" 15 "java/lang/String" "coder" "B")) (hx.mv X2.warmed.alike hh2) (g := (mkF m 7 #[.val (.ref x)] [.ref x])) rfl (rest := []) rfl (hb hbytes d7)
  have c5 : Steps p.tables e below (s₁.setTop (entryFrame m #[.ref x] 1)) (T4.setTop (mkF m 10 #[.val (.ref x)] [.int cd])) := c3.trans (st4 _ (Steps.refl _))
  have c6 : Steps p.tables e below (s₁.setTop (entryFrame m #[.ref x] 1)) (T4.setTop (mkF m 18 #[.val (.ref x)] [.int (1 - cd)])) := by
    rcases hc with rfl | rfl
    · exact c5.trans (by
        refine XS.ifNo X4.here hexec rfl (hb hbytes d10) rfl (i0_ne_f rfl) ?_
        refine iconstV X4.here hexec rfl 1 (hb hbytes d13) (by decide) ?_
        refine XS.goto X4.here hexec rfl (pc0 := 14) rfl (hb hbytes d14) (by decide) rfl ?_
        exact Steps.refl _)
    · exact c5.trans (by
        refine XS.ifYes X4.here hexec rfl (pc0 := 10) rfl (hb hbytes d10) rfl (i0_ne_t (by decide)) (by decide) rfl ?_
        refine iconstV X4.here hexec rfl 0 (hb hbytes d17) (by decide) ?_
        exact Steps.refl _)
  exact ⟨T4, some (.int (1 - cd)), _, _, _, X4, rfl, rfl, rfl, (fun h => by cases h), ⟨rfl, q4.trans hh2⟩, fun fs hl => c6.trans (X4.ireturnOut hexec hret (by rcases hc with rfl | rfl <;> rfl) (Or.inr (Or.inl rfl)) (hb hbytes d18) hl)⟩
end IsL
namespace LChA
def yN : MethodName := ⟨"java/lang/StringLatin1", "charAt", "([BI)C"⟩
abbrev yB : ByteArray := jdk_43_method_2_code
theorem d0 : decode yB 0 = .ok (.iload_n 1, 1) := by decide +kernel
theorem d1 : decode yB 1 = .ok (.aload_n 0, 1) := by decide +kernel
theorem d2 : decode yB 2 = .ok (.arraylength, 1) := by decide +kernel
theorem d3 : decode yB 3 = .ok (.invokestatic 9, 3) := by decide +kernel
theorem d6 : decode yB 6 = .ok (.aload_n 0, 1) := by decide +kernel
theorem d7 : decode yB 7 = .ok (.iload_n 1, 1) := by decide +kernel
theorem d8 : decode yB 8 = .ok (.baload, 1) := by decide +kernel
theorem d9 : decode yB 9 = .ok (.sipush 255, 3) := by decide +kernel
theorem d12 : decode yB 12 = .ok (.iand, 1) := by decide +kernel
theorem d13 : decode yB 13 = .ok (.i2c, 1) := by decide +kernel
theorem d14 : decode yB 14 = .ok (.ireturn, 1) := by decide +kernel
def site : List Cond := [JO.Str_checkIndex.tab] ++ staticW "java/lang/StringLatin1" 9 JO.Str_checkIndex.yN
def tab : Cond := tabOf yN yB 2 (some .char) site
def P (t : Addr) (V : Cell) (i : Nat) (u : Int32) (fm : Value) (args : Array Value) (s : State) : Prop := args = #[.ref t, .int (Int32.ofNat i)] ∧ XT.Arr .byte t V s ∧ V.slots[i]? = some (.int u) ∧ (StaticIs s "jdk/internal/util/Preconditions" "SIOOBE_FORMATTER" "Ljava/util/function/BiFunction;" fm ∧ fm.isRef = true)
def E (u : Int32) (r : Option Value) (s w : State) : Prop := XT.PureE (some (.int (chr8 u))) r s w
theorem law (l : Launch) (t : Addr) (V : Cell) (i : Nat) (u : Int32) (fm : Value) : Law l yN 2 2 2 27 yB 2 (some .char) site (P t V i u fm) (E u) [] 0 0 := by
  refine Law.of_walk (plainFor_of_name (by decide +kernel)) (by decide +kernel) (by decide +kernel) (by decide) (fun _ _ h => by rw [h.1]; rfl) (fun _ U U' hal hh h => ⟨h.1, h.2.1.mv hal hh, h.2.2.1, h.2.2.2.1.there hal hh, h.2.2.2.2⟩) (fun r U U' V V' h1 hal h2 h => XT.PureE.mv r U U' V V' h1 hal h2 h) ?_
  intro p e s m args below meth c s₁ X0 hexec hbytes hml hret hlk hnm hown hh0 W hP
  obtain ⟨rfl, hV, hu, s1, rf⟩ := hP
  have v31 := hV.2.2.2
  have hi : i < V.slots.size := (Array.getElem?_eq_some_iff.mp hu).1
  have c1 : Steps p.tables e below (s₁.setTop (entryFrame m #[.ref t, .int (Int32.ofNat i)] 2)) (s₁.setTop (mkF m 0 #[.val (.ref t), .val (.int (Int32.ofNat i))] [])) := entry rfl
  have c2 : Steps p.tables e below (s₁.setTop (entryFrame m #[.ref t, .int (Int32.ofNat i)] 2)) (s₁.setTop (mkF m 3 #[.val (.ref t), .val (.int (Int32.ofNat i))] [.int (Int32.ofNat V.slots.size), .int (Int32.ofNat i)])) := c1.trans (by
    refine XS.iloadN X0.here hexec rfl (hb hbytes d0) rfl ?_
    refine XS.aloadN X0.here hexec rfl (hb hbytes d1) rfl rfl ?_
    refine X0.alen hexec (hV.mv X0.warmed.alike hh0) rfl rfl (hb hbytes d2) ?_
    exact Steps.refl _)
  obtain ⟨v3, T3, X3, E3, g3⟩ := X0.callS hexec (JO.Str_checkIndex.law l (Int32.ofNat i) (Int32.ofNat V.slots.size) fm) hown (wks W (staticW "java/lang/StringLatin1" 9 JO.Str_checkIndex.yN)) (wk W JO.Str_checkIndex.tab) (W := 0) (Nat.le_of_ble_eq_true rfl) (Nat.le_of_ble_eq_true rfl) (Nat.le_refl _) (Nat.le_refl _) (g := (mkF m 3 #[.val (.ref t), .val (.int (Int32.ofNat i))] [.int (Int32.ofNat V.slots.size), .int (Int32.ofNat i)])) rfl (by rw [hml]; rfl) c2 (argsL := [.int (Int32.ofNat i), .int (Int32.ofNat V.slots.size)]) (rest := []) rfl rfl (by show 2 * 0 + 0 ≤ _; decide) (hb hbytes d3) (⟨rfl, rf, s1.there X0.warmed.alike hh0, Int32.ofNat_not_neg (by omega), lt32 v31 hi⟩)
  obtain ⟨rfl, q3⟩ := E3
  have hh3 := q3.trans hh0
  have c4 : Steps p.tables e below (s₁.setTop (entryFrame m #[.ref t, .int (Int32.ofNat i)] 2)) (T3.setTop (mkF m 14 #[.val (.ref t), .val (.int (Int32.ofNat i))] [.int (chr8 u)])) := Steps.trans g3 (by
    refine XS.aloadN X3.here hexec rfl (hb hbytes d6) rfl rfl ?_
    refine XS.iloadN X3.here hexec rfl (hb hbytes d7) rfl ?_
    refine X3.aget hexec (hV.mv X3.warmed.alike hh3) rfl hu rfl rfl (hb hbytes d8) ?_
    refine sipushV X3.here hexec rfl 255 (hb hbytes d9) (by decide) ?_
    refine XS.iand X3.here hexec rfl (hb hbytes d12) rfl ?_
    refine i2c X3.here hexec rfl (hb hbytes d13) rfl ?_
    exact Steps.refl _)
  exact ⟨T3, some (.int (chr8 u)), _, _, _, X3, rfl, rfl, rfl, (fun h => by cases h), ⟨rfl, hh3⟩, fun fs hl => c4.trans (X3.ireturnOut hexec hret (narrow_c _) (Or.inr (Or.inr (Or.inr (Or.inl rfl)))) (hb hbytes d14) hl)⟩
end LChA
end StrChars
namespace StrChars.Road
open Jvm Sem ClassFile Op Lib Jvm.Stand Jvm.Free Jvm.Free.XT
open Jvm.Lib.Cold (StaticIs)
theorem consq {a : Array Value} {s : State} {c : Jvm.Cond} {L : List Jvm.Cond} (h0 : c.before a s = true) (h : ∀ w ∈ L, w.before a s = true) : ∀ w ∈ c :: L, w.before a s = true := fun w hw => (List.mem_cons.mp hw).elim (fun e => e ▸ h0) (h w)
/-- the words of String.length(), either coding -/
abbrev wordsLen : List Jvm.Cond := [.code Len.yN Len.yB 1 (some .int), .initialized ST, .fieldLink ST 9 ST "value" "[B", .fieldLink ST 38 ST "COMPACT_STRINGS" "Z", .fieldLink ST 15 ST "coder" "B", .code Cdr.yN Cdr.yB 1 (some .byte), .methodLink ST 335 Cdr.yN, .declares Cdr.yN, .selects ST Cdr.yN Cdr.yN, .instanceMethod Cdr.yN]
theorem tabLen_of {a : Array Value} {s : State} (h : ∀ w ∈ wordsLen, w.before a s = true) : Len.tab.before a s = true := by
  have hc : Cdr.tab.before a s = true := unparts (wk h (.code Cdr.yN Cdr.yB 1 (some .byte))) (wks h (.initialized Cdr.yN.cls :: Cdr.site))
  have q := consq hc h
  exact unparts (wk q (.code Len.yN Len.yB 1 (some .int))) (wks q (.initialized Len.yN.cls :: Len.site))
theorem movedLen {Z s : State} {a0 args : Array Value} (hZ : Z.Warmed39 s.vm) (hw : ∀ d ∈ wordsLen, d.before a0 Z = true) : ∀ d ∈ wordsLen, d.before args s = true := fun d hd => by
  have q := hw d hd
  have t : ∀ d ∈ wordsLen, d = .arrayClass .byte ∨ (d.onTables && d.keepsFace) = true := by decide +kernel
  rcases t d hd with rfl | t
  · exact RoadKit.mvA hZ q
  · exact RoadKit.mv hZ q t
/-- the bytes of the chars cs, low before high -/
def wideBytes : List Int32 → List Value
  | [] => []
  | c :: cs => .int (lo8 c) :: .int (hi8 c) :: wideBytes cs
theorem wide_lo (d : Value) : ∀ (cs : List Int32) (j : Nat), j < cs.length → (wideBytes cs).getD (2 * j) d = .int (lo8 (cs.getD j 0))
  | [], j, h => absurd h (Nat.not_lt_zero j)
  | c :: cs, 0, _ => rfl
  | c :: cs, j + 1, h => by
    have q := wide_lo d cs j (by simpa using h)
    rw [show 2 * (j + 1) = 2 * j + 1 + 1 from by omega]
    simpa [wideBytes] using q
theorem wide_hi (d : Value) : ∀ (cs : List Int32) (j : Nat), j < cs.length → (wideBytes cs).getD (2 * j + 1) d = .int (hi8 (cs.getD j 0))
  | [], j, h => absurd h (Nat.not_lt_zero j)
  | c :: cs, 0, _ => rfl
  | c :: cs, j + 1, h => by
    have q := wide_hi d cs j (by simpa using h)
    rw [show 2 * (j + 1) + 1 = 2 * j + 1 + 1 + 1 from by omega]
    simpa [wideBytes] using q
theorem low_at (d : Value) (cs : List Int32) (j : Nat) (h : j < cs.length) : (cs.map fun c => Value.int (lo8 c)).getD j d = .int (lo8 (cs.getD j 0)) := by
  simp [List.getD_eq_getElem?_getD, h]
/-- an array of N2 bytes vs codes the chars cs by the coder cd -/
def CodA (cs : List Int32) (cd N2 : Int32) (vs : List Value) : Prop := (cd = 0 ∧ N2 = Int32.ofNat cs.length ∧ vs = (cs.map fun c => Value.int (lo8 c)) ∧ ∀ c ∈ cs, ¬ 255 < c) ∨ (cd = 1 ∧ N2 = Int32.ofNat (2 * cs.length) ∧ vs = wideBytes cs ∧ ∃ c ∈ cs, 255 < c)
theorem CodA.cod {cs : List Int32} {cd N2 : Int32} {vs : List Value} {V : Cell} (h : CodA cs cd N2 vs) (hn : 2 * cs.length < 2 ^ 31) (hs : V.slots.size = N2.toNatClampNeg) (hv : RoadKit.Has V vs (.int 0)) : Cod cd cs.length (fun j => cs.getD j 0) V := by
  rcases h with ⟨rfl, rfl, rfl, h⟩ | ⟨rfl, rfl, rfl, c, hc, hw⟩
  · rw [n32 (by omega)] at hs
    exact Or.inl ⟨rfl, hs, fun j hj => ⟨by rw [hv j (by omega), low_at _ _ _ hj], by
      have e : cs.getD j 0 = cs[j] := by simp [List.getD_eq_getElem?_getD, hj]
      show ¬ 255 < cs.getD j 0
      rw [e]; exact h _ (List.getElem_mem _)⟩⟩
  · rw [n32 (by omega)] at hs
    obtain ⟨j, hj, rfl⟩ := List.getElem_of_mem hc
    exact Or.inr ⟨rfl, hs, fun j hj => ⟨by rw [hv _ (by omega), wide_lo _ _ _ hj], by rw [hv _ (by omega), wide_hi _ _ _ hj]⟩, j, hj, by
      have e : cs.getD j 0 = cs[j] := by simp [List.getD_eq_getElem?_getD, hj]
      show 255 < cs.getD j 0
      rw [e]; exact hw⟩
/-- an object of exactly java/lang/String, its two fields found: as the laws ask it -/
theorem strObj {Z U : State} {a0 : Array Value} {kI : Nat} (wi : (Jvm.Cond.instantiable ST kI).before a0 Z = true) (al : Z.vm.Alike U.vm) {x : Addr} {v0 c0 : Value} (E : RoadKit.Exa Z U.heap x ST) (V : RoadKit.Fld Z U.heap x ST "value" "[B" v0) (C : RoadKit.Fld Z U.heap x ST "coder" "B" c0) :
    ∃ (D : Cell) (fV fC : Field), Blank ST x D U ∧ Found ST "value" "[B" fV U ∧ Found ST "coder" "B" fC U ∧ D.slots[fV.slot]? = some v0 ∧ D.slots[fC.slot]? = some c0 ∧ RoadKit.slotOf Z ST "value" "[B" = fV.slot ∧ RoadKit.slotOf Z ST "coder" "B" = fC.slot := by
  obtain ⟨D, cfV, kV, iV, fV, hD, gV, stV, knV, obV, asV, slV⟩ := V
  obtain ⟨D', cfC, kC, iC, fC, hD', gC, stC, -, -, asC, slC⟩ := C
  cases hD.symm.trans hD'
  obtain ⟨D2, kD, e1, e2, e3, e4, e5⟩ := E
  cases hD.symm.trans e1
  obtain ⟨c2, k2, i1, i2, i3, -⟩ := Cond.instantiable_spec wi
  cases e2.symm.trans i1
  cases e3.symm.trans i2
  obtain ⟨kU, u1, u2⟩ := al.2.2 _ _ e3
  exact ⟨D, fV, fC, ⟨hD, ⟨knV, fun q hq => by rw [hq] at obV; cases obV⟩, by rw [al.findClass]; exact e2, kU, u1, by rw [u2]; exact i3, by rw [u2]; exact e5 i3⟩, ⟨SBG.found_only al ⟨cfV, kV, iV, gV⟩, stV⟩, ⟨SBG.found_only al ⟨cfC, kC, iC, gC⟩, stC⟩, slV, slC, by simp [RoadKit.slotOf, gV], by simp [RoadKit.slotOf, gC]⟩
theorem sta_is {Z U : State} (al : Z.vm.Alike U.vm) {C n d : String} {v : Value} (S : RoadKit.Sta Z U.heap C n d v) : StaticIs U C n d v := by
  obtain ⟨cfS, iS, kS, fS, st, cS, t1, t2, t3, t4, t5, t6, t7⟩ := S
  exact StaticIs.there (s := { Z with heap := U.heap }) ⟨cfS, iS, kS, fS, st, cS, t1, t2, t3, t4, t5, (fun q => by rw [q] at t6; cases t6), t7⟩ al rfl
/-- **length() OF SUCH A STRING** -/
theorem lenW {p : Program} {l : Launch} {e : Env} {R : Room} {s : State} {args : Array Value} {below : List Frame} {len W : Nat} {Z : State} {a0 : Array Value} {h : Heap} (hZ : Z.Warmed39 s.vm) (hw : ∀ d ∈ wordsLen, d.before a0 Z = true) {kI : Nat} (wi : (Jvm.Cond.instantiable ST kI).before a0 Z = true)
    {x t : Addr} {kb : ClassId} {cs : List Int32} {cd N2 z : Int32} {vs : List Value} (E : RoadKit.Exa Z h x ST) (V : RoadKit.Fld Z h x ST "value" "[B" (.ref t)) (C : RoadKit.Fld Z h x ST "coder" "B" (.int cd)) (K : RoadKit.Arv Z h t kb .byte N2 vs (.int 0)) (hc : CodA cs cd N2 vs) (hb : ∀ c ∈ cs, ¬ c < 0 ∧ ¬ (65535 : Int32) < c)
    (S : RoadKit.Sta Z h ST "COMPACT_STRINGS" "Z" (.int z)) (hz : ¬ z = 0) (l2 : cs.length ≤ 4000) (hfr : 2 ≤ R.frames) (hlo : W + 25 ≤ R.locals) :
    Back l R p e below s args (⟨"java/lang/String", "length", "()I"⟩ : MethodName) len W (fun P a => a = #[.ref x] ∧ P.U.heap = h ∧ P.cells + 0 ≤ R.cells ∧ P.slots + 0 ≤ R.slots)
      (fun P _ v B => ∃ L, (v = some (.int (Int32.ofNat cs.length)) ∧ L = [] ∧ B.U.heap = h) ∧ B.locs = P.locs ++ L ∧ B.cells = P.cells + 0 ∧ B.slots = P.slots + 0) := by
  obtain ⟨A, K1, K2, K3, K4, K5, K6⟩ := K
  have hcod := hc.cod (by omega) K3 K5
  intro m meth c P g ig mk a X hg hsize hdg hW hn hp'
  obtain ⟨rfl, rfl, r1, r2⟩ := hp'
  have al : Z.vm.Alike P.U.vm := hZ.alike.trans X.warmed.alike
  obtain ⟨D, fV, fC, hB, F1, F2, g1, g2, -, -⟩ := strObj wi al E V C
  have hx : Txt x t A cd cs.length (fun j => cs.getD j 0) P.U := ⟨⟨_, hB.2.2.1, D, hB.1, rfl, by cases q : D.vm <;> first | rfl | exact absurd q (hB.2.1.2 _)⟩, Has.of hB F1 g1, Has.of hB F2 g2, ⟨K1.1, State.isArrayOf_alike al K1.2.1, K1.2.2, by rcases hcod with ⟨-, q, -⟩ | ⟨-, q, -⟩ <;> omega⟩, hcod, fun j hj => by
    have e : cs.getD j 0 = cs[j] := by simp [List.getD_eq_getElem?_getD, hj]
    show ¬ cs.getD j 0 < 0 ∧ ¬ 65535 < cs.getD j 0
    rw [e]; exact hb _ (List.getElem_mem _)⟩
  obtain ⟨v, B, X', ⟨⟨hv, hh⟩, hl, hk, hs⟩, st⟩ := Len.pays x t A cd cs.length (fun j => cs.getD j 0) z (tabLen_of (movedLen hZ hw)) hfr hlo m meth c P g ig mk _ X hg hsize hdg hW hn ⟨r1, r2, rfl, hx, sta_is al S, hz⟩
  exact ⟨v, B, X', ⟨[], ⟨hv, rfl, hh⟩, hl, hk, hs⟩, st⟩
end StrChars.Road
namespace StrChars.Road
open Jvm Sem ClassFile Op Lib Jvm.Stand Jvm.Free Jvm.Free.XT
open Jvm.Lib.Cold (StaticIs)
/-- the road's facts of a String, as the laws ask it -/
theorem txt_of {Z U : State} {a0 : Array Value} {kI : Nat} (wi : (Jvm.Cond.instantiable ST kI).before a0 Z = true) (al : Z.vm.Alike U.vm) {x t : Addr} {kb : ClassId} {cs : List Int32} {cd N2 : Int32} {vs : List Value} (E : RoadKit.Exa Z U.heap x ST) (V : RoadKit.Fld Z U.heap x ST "value" "[B" (.ref t)) (C : RoadKit.Fld Z U.heap x ST "coder" "B" (.int cd)) (K : RoadKit.Arv Z U.heap t kb .byte N2 vs (.int 0)) (hc : CodA cs cd N2 vs) (hb : ∀ c ∈ cs, ¬ c < 0 ∧ ¬ (65535 : Int32) < c) (l2 : cs.length ≤ 4000) :
    ∃ A, Txt x t A cd cs.length (fun j => cs.getD j 0) U := by
  obtain ⟨A, K1, K2, K3, K4, K5, K6⟩ := K
  have hcod := hc.cod (by omega) K3 K5
  obtain ⟨D, fV, fC, hB, F1, F2, g1, g2, -, -⟩ := strObj wi al E V C
  exact ⟨A, ⟨_, hB.2.2.1, D, hB.1, rfl, by cases q : D.vm <;> first | rfl | exact absurd q (hB.2.1.2 _)⟩, Has.of hB F1 g1, Has.of hB F2 g2, ⟨K1.1, State.isArrayOf_alike al K1.2.1, K1.2.2, by rcases hcod with ⟨-, q, -⟩ | ⟨-, q, -⟩ <;> omega⟩, hcod, fun j hj => by
    have e : cs.getD j 0 = cs[j] := by simp [List.getD_eq_getElem?_getD, hj]
    show ¬ cs.getD j 0 < 0 ∧ ¬ 65535 < cs.getD j 0
    rw [e]; exact hb _ (List.getElem_mem _)⟩
end StrChars.Road
namespace StrChars
open Jvm Sem ClassFile Op Lib Jvm.Stand Jvm.Free.XT Jvm.Free.ALB Jvm.Free.JM Jvm.Free
open Jvm.Lib.Cold (StaticIs)
namespace ChN
def yN : MethodName := ⟨"java/lang/String", "charAt", "(I)C"⟩
abbrev yB : ByteArray := jdk_42_method_56_code
theorem d0 : decode yB 0 = .ok (.aload_n 0, 1) := by decide +kernel
theorem d1 : decode yB 1 = .ok (.invokevirtual 492, 3) := by decide +kernel
theorem d4 : decode yB 4 = .ok (.ifCond (.eq) 12, 3) := by decide +kernel
theorem d7 : decode yB 7 = .ok (.aload_n 0, 1) := by decide +kernel
theorem d8 : decode yB 8 = .ok (.getfield 9, 3) := by decide +kernel
theorem d11 : decode yB 11 = .ok (.iload_n 1, 1) := by decide +kernel
theorem d12 : decode yB 12 = .ok (.invokestatic 495, 3) := by decide +kernel
theorem d15 : decode yB 15 = .ok (.ireturn, 1) := by decide +kernel
def site : List Cond := [.fieldLink "java/lang/String" 9 "java/lang/String" "value" "[B", IsL.tab, LChA.tab] ++ virtW "java/lang/String" 492 "java/lang/String" IsL.yN IsL.yN ++ staticW "java/lang/String" 495 LChA.yN
def tab : Cond := tabOf yN yB 2 (some .char) site
def P (x t : Addr) (V : Cell) (n : Nat) (f : Nat → Int32) (z : Int32) (fm : Value) (i : Nat) (args : Array Value) (s : State) : Prop := args = #[.ref x, .int (Int32.ofNat i)] ∧ Txt x t V 0 n f s ∧ i < n ∧ StaticIs s "java/lang/String" "COMPACT_STRINGS" "Z" (.int z) ∧ ¬ z = 0 ∧ StaticIs s "jdk/internal/util/Preconditions" "SIOOBE_FORMATTER" "Ljava/util/function/BiFunction;" fm ∧ fm.isRef = true
def E (f : Nat → Int32) (i : Nat) (r : Option Value) (s u : State) : Prop := XT.PureE (some (.int (f i))) r s u
/-- charAt(i) of a Latin-1 String of n chars, i < n: f i -/
theorem law (l : Launch) (x t : Addr) (V : Cell) (n : Nat) (f : Nat → Int32) (z : Int32) (fm : Value) (i : Nat) : Law l yN 2 1 3 40 yB 2 (some .char) site (P x t V n f z fm i) (E f i) [] 0 0 := by
  refine Law.of_walk (plainFor_of_name (by decide +kernel)) (by decide +kernel) (by decide +kernel) (by decide) (fun _ _ h => by rw [h.1]; rfl) (fun _ U U' hal hh h => ⟨h.1, h.2.1.mv hal hh, h.2.2.1, h.2.2.2.1.there hal hh, h.2.2.2.2.1, h.2.2.2.2.2.1.there hal hh, h.2.2.2.2.2.2⟩) (fun r U U' V V' h1 hal h2 h => XT.PureE.mv r U U' V V' h1 hal h2 h) ?_
  intro p e s m args below meth c s₁ X0 hexec hbytes hml hret hlk hnm hown hh0 W hP
  obtain ⟨rfl, hx, hi, s1, hz, s3, rf⟩ := hP
  have v31 := hx.2.2.2.1.2.2.2
  have hr := hx.2.2.2.2.2 i hi
  have hx0 := hx.mv X0.warmed.alike hh0
  have c1 : Steps p.tables e below (s₁.setTop (entryFrame m #[.ref x, .int (Int32.ofNat i)] 2)) (s₁.setTop (mkF m 1 #[.val (.ref x), .val (.int (Int32.ofNat i))] [.ref x])) := Steps.trans (entry rfl) (by
    show Steps p.tables e below (s₁.setTop (mkF m 0 #[.val (.ref x), .val (.int (Int32.ofNat i))] [])) _
    refine XS.aloadN X0.here hexec rfl (hb hbytes d0) rfl rfl ?_
    exact Steps.refl _)
  obtain ⟨v2, T2, X2, E2, g2⟩ := X0.callV hexec (IsL.law l x 0 z) hown (wks W (virtW "java/lang/String" 492 "java/lang/String" IsL.yN IsL.yN)) rfl (by decide) (wk W IsL.tab) (W := 0) (Nat.le_of_ble_eq_true rfl) (Nat.le_of_ble_eq_true rfl) (Nat.le_refl _) (Nat.le_refl _) (hx0.1.fc X0.warmed.alike) hx0.1.is (g := (mkF m 1 #[.val (.ref x), .val (.int (Int32.ofNat i))] [.ref x])) rfl (by rw [hml]; rfl) c1 (argsL := []) (rest := []) rfl rfl (by show 2 * 0 + 0 ≤ _; decide) (hb hbytes d1) (⟨rfl, hx0.2.2.1, hx.2.2.2.2.1.cd, s1.there X0.warmed.alike hh0, hz⟩)
  obtain ⟨rfl, q2⟩ := E2
  have hh2 := q2.trans hh0
  have hx2 := hx.mv X2.warmed.alike hh2
  obtain ⟨-, k1, k2⟩ | ⟨k0, -⟩ := hx.2.2.2.2.1
  · have c3 : Steps p.tables e below (s₁.setTop (entryFrame m #[.ref x, .int (Int32.ofNat i)] 2)) (T2.setTop (mkF m 8 #[.val (.ref x), .val (.int (Int32.ofNat i))] [.ref x])) := Steps.trans g2 (by
      refine XS.ifNo X2.here hexec rfl (hb hbytes d4) rfl (i0_eq_f (by decide)) ?_
      refine XS.aloadN X2.here hexec rfl (hb hbytes d7) rfl rfl ?_
      exact Steps.refl _)
    obtain ⟨T4, X4, q4, st4⟩ := X2.hget hexec hown (wk W (.fieldLink "java/lang/String" 9 "java/lang/String" "value" "[B")) hx2.2.1 (g := (mkF m 8 #[.val (.ref x), .val (.int (Int32.ofNat i))] [.ref x])) rfl (rest := []) rfl (hb hbytes d8)
    have hh4 := q4.trans hh2
    have c5 : Steps p.tables e below (s₁.setTop (entryFrame m #[.ref x, .int (Int32.ofNat i)] 2)) (T4.setTop (mkF m 12 #[.val (.ref x), .val (.int (Int32.ofNat i))] [.int (Int32.ofNat i), .ref t])) := (c3.trans (st4 _ (Steps.refl _))).trans (by
      refine XS.iloadN X4.here hexec rfl (hb hbytes d11) rfl ?_
      exact Steps.refl _)
    obtain ⟨v6, T6, X6, E6, g6⟩ := X4.callS hexec (LChA.law l t V i (lo8 (f i)) fm) hown (wks W (staticW "java/lang/String" 495 LChA.yN)) (wk W LChA.tab) (W := 0) (Nat.le_of_ble_eq_true rfl) (Nat.le_of_ble_eq_true rfl) (Nat.le_refl _) (Nat.le_refl _) (g := (mkF m 12 #[.val (.ref x), .val (.int (Int32.ofNat i))] [.int (Int32.ofNat i), .ref t])) rfl (by rw [hml]; rfl) c5 (argsL := [.ref t, .int (Int32.ofNat i)]) (rest := []) rfl rfl (by show 2 * 0 + 0 ≤ _; decide) (hb hbytes d12) (⟨rfl, hx.2.2.2.1.mv X4.warmed.alike hh4, (k2 i hi).1, s3.there X4.warmed.alike hh4, rf⟩)
    obtain ⟨rfl, q6⟩ := E6
    rw [chr8_lo8 hr.1 (k2 i hi).2] at g6
    exact ⟨T6, some (.int (f i)), _, _, _, X6, rfl, rfl, rfl, (fun h => by cases h), ⟨rfl, q6.trans hh4⟩, fun fs hl => Steps.trans g6 (X6.ireturnOut hexec hret (narrow_ch hr.1 hr.2) (Or.inr (Or.inr (Or.inr (Or.inl rfl)))) (hb hbytes d15) hl)⟩
  · exact absurd k0 (by decide)
theorem pays {l : Launch} {R : Room} {p : Program} {e : Env} {below : List Frame} {s : State} {sargs : Array Value} {len W : Nat} (x t : Addr) (V : Cell) (n : Nat) (f : Nat → Int32) (z : Int32) (fm : Value) (i : Nat) (htab : tab.before sargs s = true) (hfr : 4 ≤ R.frames) (hlo : W + 53 ≤ R.locals) :
    Back l R p e below s sargs yN len W (fun A₁ a₁ => A₁.cells + 0 ≤ R.cells ∧ A₁.slots + 0 ≤ R.slots ∧ P x t V n f z fm i a₁ A₁.U) (fun A₁ _ v₁ B₁ => E f i v₁ A₁.U B₁.U ∧ B₁.locs = A₁.locs ++ [] ∧ B₁.cells = A₁.cells + 0 ∧ B₁.slots = A₁.slots + 0) :=
  (law l x t V n f z fm i).pays htab hfr (by omega)
end ChN
end StrChars
namespace StrChars.Road
open Jvm Sem ClassFile Op Lib Jvm.Stand Jvm.Free Jvm.Free.XT
open Jvm.Lib.Cold (StaticIs)
/-- the words of String.charAt(int), the Latin-1 road alone -/
abbrev wordsChN : List Jvm.Cond := [.code ChN.yN ChN.yB 2 (some .char), .initialized ST, .fieldLink ST 9 ST "value" "[B", .fieldLink ST 38 ST "COMPACT_STRINGS" "Z", .fieldLink ST 15 ST "coder" "B", .code IsL.yN IsL.yB 1 (some .boolean), .methodLink ST 492 IsL.yN, .declares IsL.yN, .selects ST IsL.yN IsL.yN, .instanceMethod IsL.yN,
  .methodLink ST 495 LChA.yN, .static LChA.yN, .code LChA.yN LChA.yB 2 (some .char), .initialized "java/lang/StringLatin1", .methodLink "java/lang/StringLatin1" 9 JO.Str_checkIndex.yN, .static JO.Str_checkIndex.yN, .code JO.Str_checkIndex.yN JO.Str_checkIndex.yB 2 none,
  .fieldLink ST 1053 "jdk/internal/util/Preconditions" "SIOOBE_FORMATTER" "Ljava/util/function/BiFunction;", .methodLink ST 1059 JC.PreCheck.yN, .static JC.PreCheck.yN, .code JC.PreCheck.yN JC.PreCheck.yB 3 (some .int), .initialized "jdk/internal/util/Preconditions"]
theorem tabChN_of {a : Array Value} {s : State} (h : ∀ w ∈ wordsChN, w.before a s = true) : ChN.tab.before a s = true := by
  have hp : JC.PreCheck.tab.before a s = true := unparts (wk h (.code JC.PreCheck.yN JC.PreCheck.yB 3 (some .int))) (wks h (.initialized JC.PreCheck.yN.cls :: JC.PreCheck.site))
  have qk := consq hp h
  have hk : JO.Str_checkIndex.tab.before a s = true := unparts (wk qk (.code JO.Str_checkIndex.yN JO.Str_checkIndex.yB 2 none)) (wks qk (.initialized JO.Str_checkIndex.yN.cls :: JO.Str_checkIndex.site))
  have ql := consq hk h
  have hl : LChA.tab.before a s = true := unparts (wk ql (.code LChA.yN LChA.yB 2 (some .char))) (wks ql (.initialized LChA.yN.cls :: LChA.site))
  have hi : IsL.tab.before a s = true := unparts (wk h (.code IsL.yN IsL.yB 1 (some .boolean))) (wks h (.initialized IsL.yN.cls :: IsL.site))
  have q := consq hi (consq hl h)
  exact unparts (wk q (.code ChN.yN ChN.yB 2 (some .char))) (wks q (.initialized ChN.yN.cls :: ChN.site))
theorem movedChN {Z s : State} {a0 args : Array Value} (hZ : Z.Warmed39 s.vm) (hw : ∀ d ∈ wordsChN, d.before a0 Z = true) : ∀ d ∈ wordsChN, d.before args s = true := fun d hd => by
  have t : ∀ d ∈ wordsChN, (d.onTables && d.keepsFace) = true := by decide +kernel
  exact RoadKit.mv hZ (hw d hd) (t d hd)
/-- **charAt(i) OF A LATIN-1 STRING**, i < n: the char -/
theorem chN {p : Program} {l : Launch} {e : Env} {R : Room} {s : State} {args : Array Value} {below : List Frame} {len W : Nat} {Z : State} {a0 : Array Value} {h : Heap} (hZ : Z.Warmed39 s.vm) (hw : ∀ d ∈ wordsChN, d.before a0 Z = true) {kI : Nat} (wi : (Jvm.Cond.instantiable ST kI).before a0 Z = true)
    {x t : Addr} {kb : ClassId} {cs : List Int32} {N2 z : Int32} {vs : List Value} {fm : Value} {i : Nat} {j : Int32} (E : RoadKit.Exa Z h x ST) (V : RoadKit.Fld Z h x ST "value" "[B" (.ref t)) (C : RoadKit.Fld Z h x ST "coder" "B" (.int 0)) (K : RoadKit.Arv Z h t kb .byte N2 vs (.int 0)) (hc : CodA cs 0 N2 vs) (hb : ∀ c ∈ cs, ¬ c < 0 ∧ ¬ (65535 : Int32) < c)
    (S : RoadKit.Sta Z h ST "COMPACT_STRINGS" "Z" (.int z)) (hz : ¬ z = 0) (F : RoadKit.Sta Z h "jdk/internal/util/Preconditions" "SIOOBE_FORMATTER" "Ljava/util/function/BiFunction;" fm) (rf : fm.isRef = true) (l2 : cs.length ≤ 4000) (hi : i < cs.length) (hj : j = Int32.ofNat i) (hfr : 4 ≤ R.frames) (hlo : W + 53 ≤ R.locals) :
    Back l R p e below s args (⟨"java/lang/String", "charAt", "(I)C"⟩ : MethodName) len W (fun P a => a = #[.ref x, .int j] ∧ P.U.heap = h ∧ P.cells + 0 ≤ R.cells ∧ P.slots + 0 ≤ R.slots)
      (fun P _ v B => ∃ L, (v = some (.int (cs.getD i 0)) ∧ L = [] ∧ B.U.heap = h) ∧ B.locs = P.locs ++ L ∧ B.cells = P.cells + 0 ∧ B.slots = P.slots + 0) := by
  subst hj
  intro m meth c P g ig mk a X hg hsize hdg hW hn hp'
  obtain ⟨rfl, rfl, r1, r2⟩ := hp'
  have al : Z.vm.Alike P.U.vm := hZ.alike.trans X.warmed.alike
  obtain ⟨A, hx⟩ := txt_of wi al E V C K hc hb l2
  obtain ⟨v, B, X', ⟨⟨hv, hh⟩, hl, hk, hs⟩, st⟩ := ChN.pays x t A cs.length (fun j => cs.getD j 0) z fm i (tabChN_of (movedChN hZ hw)) hfr hlo m meth c P g ig mk _ X hg hsize hdg hW hn ⟨r1, r2, rfl, hx, hi, sta_is al S, hz, sta_is al F, rf⟩
  exact ⟨v, B, X', ⟨[], ⟨hv, rfl, hh⟩, hl, hk, hs⟩, st⟩
/-- what backV says of its String, as the contracts of this text ask it: cs's low bytes, coder 0 -/
theorem codOf {cs : List Int32} {n : Nat} (hn : cs.length = n) (hb : ∀ c ∈ cs, ¬ 255 < c) : CodA cs 0 (Int32.ofNat n) ((cs.map lo8).map Value.int) := Or.inl ⟨rfl, by rw [hn], by simp [List.map_map, Function.comp_def], hb⟩
end StrChars.Road
end Jvm.Pilot.@@N@@
namespace Jvm.Pilot.@@N@@
open Jvm Jvm.ClassFile Sem Op Lib Jvm.Free Jvm.Stand Jvm.LawKit Jvm.RoadKit Bundle Jvm.Pilot.@@N@@.Jvm.D
theorem own_fld {args : Array Value} {s : State} {t u : Term} {C n d : String} {a : Addr} {z : Int32} (ev : t.eval args s none [] s = some (.ref a)) (hu : u.eval args s none [] s = some (.int z)) (h : (Jvm.Cond.eq (Term.field t C n d) u).value args s none s [] = some true) : Fld s s.heap a C n d (.int z) := by
  obtain ⟨x, y, h1, h2, -, k2⟩ := cmp_v (Or.inl h)
  rw [hu] at h2
  cases h2
  obtain ⟨x', rfl⟩ := k2
  have e2 : x' = z := gotT (P := x' = z) (by simp [Cond.value, h1, hu]) h
  subst e2
  rw [fld_at ev] at h1
  exact Fld.start h1
theorem own_fldL {args : Array Value} {s : State} {t : Term} {C n d : String} {a : Addr} {z : Int64} (ev : t.eval args s none [] s = some (.ref a)) (h : (Jvm.Cond.eq (Term.field t C n d) (Term.long z)).value args s none s [] = some true) : Fld s s.heap a C n d (.long z) := by
  obtain ⟨x, y, h1, h2, -, k2⟩ := cmp_v (Or.inl h)
  rw [long_at] at h2
  cases h2
  obtain ⟨x', rfl⟩ := k2
  have e2 : x' = z := gotT (eq_L h1 (long_at z)) h
  subst e2
  rw [fld_at ev] at h1
  exact Fld.start h1
theorem own_c255 (x : Int32) : nar .char ((x &&& (255 : Int32)).toUInt32.toUInt16.toUInt32.toInt32) = (x &&& (255 : Int32)).toUInt32.toUInt16.toUInt32.toInt32 := by
  show ((x &&& (255 : Int32)).toUInt32.toUInt16.toUInt32.toInt32).toUInt32.toUInt16.toUInt32.toInt32 = _
  rw [i2c_mask, i2c_mask]
theorem own_r255 (x : Int32) : ¬ ((x &&& (255 : Int32)).toUInt32.toUInt16.toUInt32.toInt32) < 0 ∧ ¬ (255 : Int32) < ((x &&& (255 : Int32)).toUInt32.toUInt16.toUInt32.toInt32) := by
  rw [i2c_mask]
  have h := c_and x 255 (by decide)
  have e : (255 : Int32).toInt = 255 := rfl
  have e0 : (0 : Int32).toInt = 0 := rfl
  constructor <;> rw [Int32.lt_iff_toInt_lt] <;> omega
theorem own_ne0 {args : Array Value} {s : State} {t : Term} {z : Int32} (ev : t.eval args s none [] s = some (.int z)) (h : (Jvm.Cond.not (Jvm.Cond.eq t (Term.int (0 : Int32)))).value args s none s [] = some true) : ¬ z = 0 := by
  have h2 := not_v h
  exact gotF (P := z = 0) (by simp [Cond.value, ev, Term.eval]) h2
theorem own_len {args : Array Value} {s : State} {t : Term} {a : Addr} {c : Cell} {ty : FieldType} {z : Int32} (ev : t.eval args s none [] s = some (.ref a)) (A : Arr s s.heap a c ty) (h : (Jvm.Cond.eq (Term.length t) (Term.int z)).value args s none s [] = some true) : c.slots.size < 2 ^ 31 ∧ c.slots.size.toInt32 = z := by
  have hA := A.fin (Vm.Alike.refl _)
  by_cases q : c.slots.size < 2 ^ 31
  · exact ⟨q, gotT (Cond.eq_ints (len_f ev hA q) (Term.int_eval z)) h⟩
  · obtain ⟨x, y, h1, -⟩ := cmp_v (Or.inl h)
    simp [Term.eval, ev, hA, q] at h1
theorem own_narb (x : Int32) : nar .byte (x.toInt8.toInt32) = x.toInt8.toInt32 := by simp [nar]
theorem own_fitb {z : Int32} (h : nar .byte z = z) : fits .byte (.int z) = true := by
  rw [← h]
  exact fits_nar_byte _
abbrev bsV (cs : List Int32) : List Value := (cs.map (fun c => c.toInt8.toInt32)).map Value.int
theorem bsV_len (cs : List Int32) : (bsV cs).length = cs.length := by simp [bsV]
theorem own_usb (cx : List Int32) : (List.range cx.length).map (fun y => (bsV cx).getD (0 + y) (.int (0 : Int32))) = bsV cx := by
  apply List.ext_getElem
  · simp [bsV]
  · intro i h1 h2
    have h3 : i < cx.length := by simpa using h1
    simp [bsV, h3]
theorem own_vn (cs cx : List Int32) : (bsV cs ++ List.replicate cx.length (Value.int (0 : Int32))).take cs.length ++ (List.range cx.length).map (fun y => (bsV cx).getD (0 + y) (Value.int (0 : Int32))) ++ (bsV cs ++ List.replicate cx.length (Value.int (0 : Int32))).drop (cs.length + cx.length) = bsV (cs ++ cx) := by
  rw [own_usb, List.take_left' (bsV_len cs), List.drop_of_length_le (by simp [bsV]), List.append_nil]
  simp [bsV]
theorem own_vr (cs : List Int32) : (List.replicate cs.length (Value.int (0 : Int32))).take 0 ++ (List.range cs.length).map (fun y => (bsV cs).getD (0 + y) (.int (0 : Int32))) ++ (List.replicate cs.length (Value.int (0 : Int32))).drop (0 + cs.length) = bsV cs := by
  rw [own_usb, List.drop_of_length_le (by simp)]
  simp
theorem own_padr (N n : Nat) (d : Value) : ∀ i, (List.replicate n d).getD i d = (List.replicate N d).getD i d := fun i => (pad_rep [] d n i).trans (pad_rep [] d N i).symm
theorem own_shl0 (x : Int32) : (x <<< ((0 : Int32) &&& 31)) = x := by
  apply Int32.toBitVec_inj.mp
  simp
theorem own_shr0 (x : Int32) : (x >>> ((0 : Int32) &&& 31)) = x := by
  apply Int32.toBitVec_inj.mp
  simp
theorem own_ofadd (a b : Nat) : Int32.ofNat a + Int32.ofNat b = Int32.ofNat (a + b) := (Int32.ofNat_add a b).symm
theorem own_toi {a : Nat} (h : a < 2 ^ 31) : (Int32.ofNat a).toInt = a := Int32.toInt_ofNat_of_lt h
theorem own_lt {a b : Nat} (ha : a < 2 ^ 31) (hb : b < 2 ^ 31) : (Int32.ofNat a < Int32.ofNat b) ↔ a < b := by
  rw [Int32.lt_iff_toInt_lt, own_toi ha, own_toi hb]; omega
theorem own_eqi {a b : Nat} (ha : a < 2 ^ 31) (hb : b < 2 ^ 31) : (Int32.ofNat a = Int32.ofNat b) ↔ a = b := by
  refine ⟨fun q => ?_, fun q => by rw [q]⟩
  have := congrArg Int32.toInt q
  rw [own_toi ha, own_toi hb] at this
  omega
theorem own_ofsub {a b : Nat} (h : b ≤ a) : Int32.ofNat a - Int32.ofNat b = Int32.ofNat (a - b) := by
  have q := own_ofadd (a - b) b
  rw [Nat.sub_add_cancel h] at q
  rw [← q]
  exact Int32.add_sub_cancel _ _
theorem own_ec {q N : Nat} (h : q ≤ N) (hN : N ≤ 4000) : ¬ (0 : Int32) < Int32.ofNat q - (Int32.ofNat N >>> ((0 : Int32) &&& 31)) := by
  rw [own_shr0, Int32.lt_iff_toInt_lt, Int32.toInt_sub, own_toi (by omega), own_toi (by omega)]
  have e0 : (0 : Int32).toInt = 0 := rfl
  rw [e0, Int.bmod_def]
  split <;> omega
theorem own_nonneg {a : Nat} (h : a < 2 ^ 31) : ¬ Int32.ofNat a < 0 := (own_nn rfl h).2
theorem own_cl {a : Nat} (h : a < 2 ^ 31) : (Int32.ofNat a).toNatClampNeg = a := (own_nn rfl h).1
theorem own_up {cs : List Int32} (h : ∀ c ∈ cs, ¬ c < 0 ∧ ¬ (255 : Int32) < c) : ∀ c ∈ cs, ¬ c < 0 ∧ ¬ (65535 : Int32) < c := fun c hc => ⟨(h c hc).1, fun q => (h c hc).2 (Int32.lt_trans (by decide) q)⟩
theorem own_same {Z : State} {a0 : Array Value} {y y' : MethodName} (w1 : (Jvm.Cond.instanceMethod y).before a0 Z = true) (w2 : (Jvm.Cond.instanceMethod y').before a0 Z = true) {C : String} (w3 : (Jvm.Cond.selects C y' y').before a0 Z = true) (hy : y.cls = y'.cls ∧ y.cls ≠ "java/lang/invoke/MethodHandle" ∧ y.cls ≠ "java/lang/invoke/VarHandle") : (Jvm.Cond.sameMethod y.cls y.cls y.name y.desc).before a0 Z = true := by
  obtain ⟨mk, methM, hnamed, -, -, -⟩ := Cond.instanceMethod_spec w1
  obtain ⟨mk', methM', hnamed', -, -, -⟩ := Cond.instanceMethod_spec w2
  have hf := State.methodFound?_of_named hnamed hy.2
  have hc := findClass_of_methodNamed hnamed
  have hc' := findClass_of_methodNamed hnamed'
  rw [← hy.1] at hc'
  have e : mk'.cls = mk.cls := Option.some.inj (hc'.symm.trans hc)
  obtain ⟨kr, hkr, hni⟩ := (notFace_of_selects w3) mk' hnamed'
  rw [e] at hkr
  have hnn : Z.methodNamed? ⟨y.cls, y.name, y.desc⟩ = some mk := hnamed
  simp [Cond.before, Cond.holds, Cond.value, hc, hf, hnn, hkr, hni]
theorem own_decl {Z : State} {a0 : Array Value} {y : MethodName} {b : ByteArray} {ml : Nat} {rt : Option FieldType} (w1 : (Jvm.Cond.instanceMethod y).before a0 Z = true) (w2 : (Jvm.Cond.code y b ml rt).before a0 Z = true) : (Jvm.Cond.declares y).before a0 Z = true := by
  obtain ⟨mk, methM, hn, hm, hs, -⟩ := Cond.instanceMethod_spec w1
  obtain ⟨m2, cM, q1, -, -, -, -, -, -, hsig⟩ := Cond.code_spec hn w2
  cases hm.symm.trans q1
  simp [Cond.before, Cond.holds, Cond.value, hn, hm, hs, hsig]
theorem own_sub0 (x : Int32) : x - (0 : Int32) = x := Int32.sub_zero x
theorem own_nf {Z : State} {args : Array Value} {y y' : MethodName} (w1 : (Jvm.Cond.declares y).before args Z = true) (w2 : (Jvm.Cond.instanceMethod y').before args Z = true) {C : String} (w3 : (Jvm.Cond.selects C y' y').before args Z = true) (hy : y.cls = y'.cls := by rfl) : NotFace Z y := fun r0 hr => by
  obtain ⟨mk', methM', hnamed', -, -, -⟩ := Cond.instanceMethod_spec w2
  have hc := findClass_of_methodNamed hr
  have hc' := findClass_of_methodNamed hnamed'
  rw [← hy] at hc'
  have e : mk'.cls = r0.cls := Option.some.inj (hc'.symm.trans hc)
  rw [← e]
  exact (notFace_of_selects (args := args) w3) mk' hnamed'
def dl (n : Nat) : List Int32 := if h : n < 10 then [Int32.ofNat (48 + n)] else dl (n / 10) ++ [Int32.ofNat (48 + n % 10)]
termination_by n
decreasing_by omega
def sgl (x : Int32) : List Int32 := if x < 0 then [45] else []
def mg (x : Int32) : Nat := x.toInt.natAbs
theorem dl_lt {n : Nat} (h : n < 10) : dl n = [Int32.ofNat (48 + n)] := by rw [dl]; simp [h]
theorem dl_ge {n : Nat} (h : 10 ≤ n) : dl n = dl (n / 10) ++ [Int32.ofNat (48 + n % 10)] := by rw [dl]; simp [Nat.not_lt.mpr h]
theorem dl_ge2 {n : Nat} (h : 100 ≤ n) : dl n = dl (n / 100) ++ [Int32.ofNat (48 + n / 10 % 10), Int32.ofNat (48 + n % 10)] := by
  rw [dl_ge (by omega), dl_ge (by omega), Nat.div_div_eq_div_mul]; simp
theorem dl_two {n : Nat} (h1 : 10 ≤ n) (h2 : n < 100) : dl n = [Int32.ofNat (48 + n / 10), Int32.ofNat (48 + n % 10)] := by
  rw [dl_ge h1, dl_lt (by omega)]; simp
theorem dl_len : ∀ (k n : Nat), n < 10 ^ (k + 1) → (k = 0 ∨ 10 ^ k ≤ n) → (dl n).length = k + 1
  | 0, n, h, _ => by rw [dl_lt (by simpa using h)]; rfl
  | k + 1, n, h, h2 => by
    have h3 : 10 ^ (k + 1) ≤ n := h2.resolve_left (by omega)
    have hp : 0 < 10 ^ k := Nat.pow_pos (by decide)
    rw [Nat.pow_succ] at h h3
    rw [dl_ge (by omega), List.length_append, dl_len k (n / 10) (by omega) (Or.inr (by omega))]; simp
theorem dl_pos (n : Nat) : 1 ≤ (dl n).length := by
  by_cases h : n < 10
  · rw [dl_lt h]; simp
  · rw [dl_ge (by omega)]; simp
theorem dl_get : ∀ (k n j : Nat), (dl n).length = k + 1 → j ≤ k → (dl n).getD j 0 = Int32.ofNat (48 + n / 10 ^ (k - j) % 10)
  | 0, n, j, h, hj => by
    obtain rfl : j = 0 := by omega
    by_cases q : n < 10
    · rw [dl_lt q]; simp [Nat.mod_eq_of_lt q]
    · rw [dl_ge (by omega)] at h; have := dl_pos (n / 10); simp only [List.length_append, List.length_singleton] at h; omega
  | k + 1, n, j, h, hj => by
    by_cases q : n < 10
    · rw [dl_lt q] at h; simp at h
    · rw [dl_ge (by omega)] at h ⊢
      have hl : (dl (n / 10)).length = k + 1 := by simpa using h
      by_cases e : j = k + 1
      · subst e; rw [← hl]; simp [List.getD_eq_getElem?_getD]
      · rw [List.getD_eq_getElem?_getD, List.getElem?_append_left (by omega), ← List.getD_eq_getElem?_getD, dl_get k (n / 10) j hl (by omega), Nat.div_div_eq_div_mul, show k + 1 - j = (k - j) + 1 by omega, Nat.pow_succ, Nat.mul_comm]
theorem dl_rng (n : Nat) : ∀ c ∈ dl n, ¬ c < 0 ∧ ¬ (255 : Int32) < c := by
  have key : ∀ d : Nat, d < 10 → ¬ Int32.ofNat (48 + d) < 0 ∧ ¬ (255 : Int32) < Int32.ofNat (48 + d) := by decide
  induction n using Nat.strongRecOn with
  | _ n ih =>
    intro c hc
    by_cases q : n < 10
    · rw [dl_lt q] at hc; obtain rfl := List.mem_singleton.mp hc; exact key _ q
    · rw [dl_ge (by omega)] at hc
      rcases List.mem_append.mp hc with z | z
      · exact ih _ (by omega) c z
      · obtain rfl := List.mem_singleton.mp z; exact key _ (by omega)
theorem own_oi {z : Int} (h1 : -2147483648 ≤ z) (h2 : z ≤ 2147483647) : (Int32.ofInt z).toInt = z := Int32.toInt_ofInt_of_le h1 (by omega)
theorem own_dv {v : Nat} (h : v ≤ 2147483648) : Int32.ofInt (-(v : Int)) / (100 : Int32) = Int32.ofInt (-((v / 100 : Nat) : Int)) := by
  apply Int32.toInt_inj.mp
  rw [Int32.toInt_div, own_oi (by omega) (by omega), own_oi (by omega) (by omega)]
  have e : (100 : Int32).toInt = 100 := rfl
  rw [e]
  have : (-(v : Int)).tdiv 100 = -((v / 100 : Nat) : Int) := by rw [Int.neg_tdiv]; rfl
  rw [this]
  rw [Int.bmod_def]; omega
theorem own_rm {v : Nat} : Int32.ofInt (-((v / 100 : Nat) : Int)) * (100 : Int32) - Int32.ofInt (-(v : Int)) = Int32.ofNat (v % 100) := by
  have e : (100 : Int32) = Int32.ofInt 100 := rfl
  rw [e, ← Int32.ofInt_mul, ← Int32.ofInt_sub, ← Int32.ofInt_eq_ofNat]
  congr 1
  omega
theorem own_ng {v : Nat} : -(Int32.ofInt (-(v : Int))) = Int32.ofNat v := by
  rw [← Int32.ofInt_neg, ← Int32.ofInt_eq_ofNat]; congr 1; omega
theorem own_ltn {v k : Nat} (hv : v ≤ 2147483648) (hk : k ≤ 2147483647) : (Int32.ofInt (-(k : Int)) < Int32.ofInt (-(v : Int))) ↔ v < k := by
  rw [Int32.lt_iff_toInt_lt, own_oi (by omega) (by omega), own_oi (by omega) (by omega)]; omega
theorem own_mg (x : Int32) (h : x < 0) : x = Int32.ofInt (-(mg x : Int)) := by
  apply Int32.toInt_inj.mp
  rw [Int32.lt_iff_toInt_lt] at h
  have e : (0 : Int32).toInt = 0 := rfl
  have b := x.le_toInt
  have b2 := x.toInt_lt
  unfold mg
  rw [own_oi (by omega) (by omega)]; omega
theorem own_mg2 (x : Int32) (h : ¬ x < 0) : -x = Int32.ofInt (-(mg x : Int)) := by
  rw [Int32.lt_iff_toInt_lt] at h
  have e : (0 : Int32).toInt = 0 := rfl
  have b := x.le_toInt
  have b2 := x.toInt_lt
  have q : x = Int32.ofInt (mg x : Int) := by
    apply Int32.toInt_inj.mp
    unfold mg
    rw [own_oi (by omega) (by omega)]; omega
  rw [Int32.ofInt_neg, ← q]
theorem mg_le (x : Int32) : mg x ≤ 2147483648 := by
  have b := x.le_toInt
  have b2 := x.toInt_lt
  unfold mg; omega
theorem own_arv {Z : State} {h : Heap} {a : Addr} {k : ClassId} {ty : FieldType} {z : Int32} {vs vs' : List Value} {d : Value} (q : vs = vs') (F : Arv Z h a k ty z vs d) : Arv Z h a k ty z vs' d := q ▸ F
def PlS (x : Slot) : Prop := x = .unset ∨ ∃ a : Int32, x = .val (.int a)
def dgO : List Value := (List.range 100).map (fun i => Value.int (Int32.ofNat (48 + i % 10)))
def dgT : List Value := (List.range 100).map (fun i => Value.int (Int32.ofNat (48 + i / 10)))
theorem own_dO (v : Nat) : dgO.getD (v % 100) (.int (0 : Int32)) = .int (Int32.ofNat (48 + v % 10)) := by
  have h : v % 100 < 100 := Nat.mod_lt _ (by decide)
  have e : v % 100 % 10 = v % 10 := by omega
  simp only [dgO, List.getD_eq_getElem?_getD, List.getElem?_map, List.getElem?_range h, Option.map_some, Option.getD_some, e]
theorem own_dT (v : Nat) : dgT.getD (v % 100) (.int (0 : Int32)) = .int (Int32.ofNat (48 + v / 10 % 10)) := by
  have h : v % 100 < 100 := Nat.mod_lt _ (by decide)
  have e : v % 100 / 10 = v / 10 % 10 := by omega
  simp only [dgT, List.getD_eq_getElem?_getD, List.getElem?_map, List.getElem?_range h, Option.map_some, Option.getD_some, e]
theorem own_pd0 (cs : List Int32) (r : Nat) : ∀ i, (bsV cs ++ List.replicate r (Value.int (0 : Int32)) ++ bsV []).getD i (.int (0 : Int32)) = (bsV cs).getD i (.int (0 : Int32)) := fun i => by
  have e : bsV ([] : List Int32) = [] := rfl
  rw [e, List.append_nil]
  exact pad_rep (bsV cs) _ r i
theorem own_st1 (cs TL : List Int32) (d : Int32) {r : Nat} (h : 1 ≤ r) : (bsV cs ++ List.replicate r (Value.int (0 : Int32)) ++ bsV TL).set (cs.length + (r - 1)) (.int d.toInt8.toInt32) = bsV cs ++ List.replicate (r - 1) (Value.int (0 : Int32)) ++ bsV (d :: TL) := by
  obtain ⟨q, rfl⟩ : ∃ q, r = q + 1 := ⟨r - 1, by omega⟩
  rw [Nat.add_sub_cancel, List.append_assoc, List.set_append_right _ _ (by rw [bsV_len]; omega), bsV_len, Nat.add_sub_cancel_left, List.replicate_succ', List.append_assoc, List.set_append_right _ _ (by simp), List.length_replicate, Nat.sub_self]
  simp [bsV]
theorem own_dec {i : Int32} {c r : Nat} (e : i = Int32.ofNat (c + r)) (h : 1 ≤ r) : i + (-1 : Int32) = Int32.ofNat (c + (r - 1)) := by
  rw [e, show (-1 : Int32) = -(1 : Int32) from rfl, ← Int32.sub_eq_add_neg]
  have q := own_ofsub (a := c + r) (b := 1) (by omega)
  rw [show Int32.ofNat 1 = (1 : Int32) from rfl] at q
  rw [q]; congr 1; omega
theorem own_fin {cs G TL : List Int32} {r : Nat} (h : G = TL) (hr : r = 0) : bsV cs ++ List.replicate r (Value.int (0 : Int32)) ++ bsV TL = bsV (cs ++ G) := by
  subst h hr; simp [bsV]
theorem own_ssz {x0 p : Int32} {v k : Nat} (e : x0 = Int32.ofInt (-(v : Int))) (hv : v ≤ 2147483648) (hk : 10 ^ (k + 1) ≤ 2147483647) (hp : p = Int32.ofInt (-((10 ^ (k + 1) : Nat) : Int))) (h1 : p < x0) (hq : k = 0 ∨ ∃ q, ¬ q < x0 ∧ q = Int32.ofInt (-((10 ^ k : Nat) : Int))) : (dl v).length = k + 1 := by
  subst e hp
  refine dl_len k v ((own_ltn hv hk).mp h1) (hq.imp id ?_)
  rintro ⟨q, h2, rfl⟩
  have : 10 ^ k ≤ 2147483647 := Nat.le_trans (Nat.pow_le_pow_right (by decide) (by omega)) hk
  exact Nat.le_of_not_lt fun z => h2 ((own_ltn hv this).mpr z)
theorem own_ssx {x0 q : Int32} {v : Nat} (e : x0 = Int32.ofInt (-(v : Int))) (hv : v ≤ 2147483648) (h2 : ¬ q < x0) (hq : q = Int32.ofInt (-((10 ^ 9 : Nat) : Int))) : (dl v).length = 10 := by
  subst e hq
  exact dl_len 9 v (by omega) (Or.inr (Nat.le_of_not_lt fun z => h2 ((own_ltn hv (by decide)).mpr z)))
theorem sgl_rng (x : Int32) : ∀ c ∈ sgl x, ¬ c < 0 ∧ ¬ (255 : Int32) < c := fun c hc => by
  unfold sgl at hc; split at hc
  · obtain rfl := List.mem_singleton.mp hc; decide
  · cases hc
theorem own_rapp {a b : List Int32} (h1 : ∀ c ∈ a, ¬ c < 0 ∧ ¬ (255 : Int32) < c) (h2 : ∀ c ∈ b, ¬ c < 0 ∧ ¬ (255 : Int32) < c) : ∀ c ∈ a ++ b, ¬ c < 0 ∧ ¬ (255 : Int32) < c := fun c hc => (List.mem_append.mp hc).elim (h1 c) (h2 c)
theorem dl_le (v : Nat) (h : v ≤ 2147483648) : (dl v).length ≤ 10 := by
  have key : ∀ (k n : Nat), n < 10 ^ (k + 1) → (dl n).length ≤ k + 1 := fun k => by
    induction k with
    | zero => intro n h; rw [dl_lt (by simpa using h)]; simp
    | succ k ih =>
      intro n h
      by_cases q : n < 10
      · rw [dl_lt q]; simp
      · rw [dl_ge (by omega), List.length_append]
        have := ih (n / 10) (by rw [Nat.pow_succ] at h; omega)
        simp only [List.length_singleton]; omega
  exact key 9 v (by omega)
theorem sgl_le (x : Int32) : (sgl x).length ≤ 1 := by unfold sgl; split <;> simp
theorem own_cL (x : Int64) : nar .char (((x &&& (255 : Int64)).toInt32).toUInt32.toUInt16.toUInt32.toInt32) = ((x &&& (255 : Int64)).toInt32).toUInt32.toUInt16.toUInt32.toInt32 := by
  rw [Int64.toInt32_and]; exact own_c255 x.toInt32
theorem own_rL (x : Int64) : ¬ (((x &&& (255 : Int64)).toInt32).toUInt32.toUInt16.toUInt32.toInt32) < 0 ∧ ¬ (255 : Int32) < (((x &&& (255 : Int64)).toInt32).toUInt32.toUInt16.toUInt32.toInt32) := by
  rw [Int64.toInt32_and]; exact own_r255 x.toInt32
theorem own_l64 {v : Nat} (h : v < 2 ^ 63) : (Int64.ofNat v).toInt = v := Int64.toInt_ofNat_of_lt h
theorem own_l32 (x : Int32) : x.toInt64.toInt = x.toInt := Int32.toInt_toInt64 x
theorem own_abs1 (x : Int32) (h : x.toInt64 < (0 : Int64)) : -(x.toInt64) = Int64.ofNat (mg x) := by
  have e : (0 : Int64).toInt = 0 := rfl
  rw [Int64.lt_iff_toInt_lt, own_l32, e] at h
  have b := x.le_toInt
  have q : x.toInt64 = Int64.ofInt (-(mg x : Int)) := by
    apply Int64.toInt_inj.mp
    rw [own_l32, Int64.toInt_ofInt_of_le (by unfold mg; omega) (by unfold mg; omega)]; unfold mg; omega
  rw [q, ← Int64.ofInt_neg, ← Int64.ofInt_eq_ofNat]; congr 1; omega
theorem own_abs2 (x : Int32) (h : ¬ x.toInt64 < (0 : Int64)) : x.toInt64 = Int64.ofNat (mg x) := by
  have e : (0 : Int64).toInt = 0 := rfl
  rw [Int64.lt_iff_toInt_lt, own_l32, e] at h
  have b := x.toInt_lt
  apply Int64.toInt_inj.mp
  rw [own_l32, own_l64 (by unfold mg; omega)]; unfold mg; omega
theorem own_lt64 {a b : Nat} (ha : a < 2 ^ 63) (hb : b < 2 ^ 63) : (Int64.ofNat a < Int64.ofNat b) ↔ a < b := by
  rw [Int64.lt_iff_toInt_lt, own_l64 ha, own_l64 hb]; omega
theorem own_dv64 {a b : Nat} (ha : a < 2 ^ 62) (hb : b < 2 ^ 62) : Int64.ofNat a / Int64.ofNat b = Int64.ofNat (a / b) := by
  have q : a / b ≤ a := Nat.div_le_self a b
  apply Int64.toInt_inj.mp
  rw [Int64.toInt_div, own_l64 (by omega), own_l64 (by omega), own_l64 (by omega)]
  rw [show ((a : Int).tdiv (b : Int)) = ((a / b : Nat) : Int) from rfl]
  generalize a / b = c at *
  rw [Int.bmod_def]
  split <;> omega
theorem own_md64 {a : Nat} (ha : a < 2 ^ 62) : Int64.ofNat a - (Int64.ofNat a / (10 : Int64)) * (10 : Int64) = Int64.ofNat (a % 10) := by
  rw [show (10 : Int64) = Int64.ofNat 10 from rfl, own_dv64 ha (by decide)]
  rw [← Int64.ofInt_eq_ofNat, ← Int64.ofInt_eq_ofNat, ← Int64.ofInt_eq_ofNat, ← Int64.ofInt_eq_ofNat, ← Int64.ofInt_mul, ← Int64.ofInt_sub]; congr 1; omega
theorem own_dg {d : Nat} (h : d < 10) : (((48 : Int64) + Int64.ofNat d).toInt32).toUInt32.toUInt16.toUInt32.toInt32 = Int32.ofNat (48 + d) := by
  have key : ∀ d : Nat, d < 10 → (((48 : Int64) + Int64.ofNat d).toInt32).toUInt32.toUInt16.toUInt32.toInt32 = Int32.ofNat (48 + d) := by decide
  exact key d h
theorem own_tbl {args : Array Value} {s : State} {t E : Term} {a : Addr} {f : Nat → Int32} (et : ∀ idx, t.eval args s none idx s = some (.ref a)) (hx : (Jvm.Cond.exactly t "[B").value args s none s [] = some true) (hl : (Jvm.Cond.eq (Term.length t) (Term.int (100 : Int32))).value args s none s [] = some true) (hall : (Jvm.Cond.all t (Jvm.Cond.eq (Term.elem t (Term.index 0)) E)).value args s none s [] = some true)
    (wa : (Jvm.Cond.arrayClass .byte).before args s = true) (hE : ∀ i, i < 100 → E.eval args s none [i] s = some (.int (f i))) (hf : ∀ i, i < 100 → fits .byte (.int (f i)) = true) : ∃ k, Arv s s.heap a k .byte (100 : Int32) ((List.range 100).map fun i => Value.int (f i)) (.int (0 : Int32)) := by
  obtain ⟨cell, k, h1, h2, h3, h4, -⟩ := Exa.start (et []) hx
  obtain ⟨c, k', comp, q1, q2, q3⟩ := Cond.arrayClass_spec wa
  have e1 : "[" ++ FieldType.byte.toString = "[B" := by decide
  rw [e1, h2] at q1
  cases q1
  have hl1 := eqv_i (Term.int_eval 100) hl
  have hA : s.arrayAt? a = some cell ∧ cell.slots.size < 2 ^ 31 ∧ cell.slots.size.toInt32 = 100 := by
    simp only [Term.eval, et [], Option.bind_eq_bind, Option.bind_some] at hl1
    cases hc : s.arrayAt? a with
    | none => simp [hc] at hl1
    | some c2 =>
      have e2 : c2 = cell := by
        unfold State.arrayAt? at hc
        simp only [h1, q2, Option.bind_eq_bind, Option.bind_some] at hc
        split at hc
        · cases hc
        · rw [q3] at hc; exact (Option.some.inj hc).symm
      subst e2
      simp only [hc, Option.bind_some] at hl1
      refine ⟨rfl, ?_⟩
      split at hl1
      · rename_i z; exact ⟨by omega, by simpa using hl1⟩
      · cases hl1
  obtain ⟨hat, hs, hsz⟩ := hA
  have hun : cell.vm ≠ .unknown := fun z => by
    unfold State.arrayAt? at hat
    simp [h1, q2, z] at hat
  have hz : cell.slots.size = 100 := by
    have := congrArg Int32.toInt hsz
    rw [show cell.slots.size.toInt32 = Int32.ofNat cell.slots.size from rfl, Int32.toInt_ofNat_of_lt hs] at this
    have e : (100 : Int32).toInt = 100 := rfl
    omega
  have A : Arr s s.heap a cell .byte := ⟨h1, ⟨fun z e => (by rw [e] at h4; cases h4), k', q2, comp, q3⟩, hun⟩
  refine ⟨cell.cls, cell, A, rfl, hz, by decide, fun i hi => ?_, fun i hi => ?_⟩
  · have hi2 : i < 100 := by omega
    have v := eqv_i (hE i hi2) (Cond.all_elim (et []) hat hall i hi)
    have w := (elem_in v (et [i]) (j := Int32.ofNat i) rfl h1).2
    rw [(own_nn (z := Int32.ofNat i) rfl (by omega)).1] at w
    rw [w, List.getD_eq_getElem?_getD, List.getElem?_map, List.getElem?_range hi2]; rfl
  · have hi2 : i < 100 := by omega
    rw [List.getD_eq_getElem?_getD, List.getElem?_map, List.getElem?_range hi2]; exact hf i hi2
theorem own_e1 {args : Array Value} {s : State} (i : Nat) (hi : i < 100) : (Term.add (Term.int 48) (Term.rem (Term.index 0) (Term.int 10))).eval args s none [i] s = some (.int (Int32.ofNat (48 + i % 10))) := by
  have key : ∀ i : Nat, i < 100 → (48 : Int32) + Int32.ofNat i % 10 = Int32.ofNat (48 + i % 10) := by decide
  show some (Value.int ((48 : Int32) + Int32.ofNat i % 10)) = _
  rw [key i hi]
theorem own_e2 {args : Array Value} {s : State} (i : Nat) (hi : i < 100) : (Term.add (Term.int 48) (Term.div (Term.index 0) (Term.int 10))).eval args s none [i] s = some (.int (Int32.ofNat (48 + i / 10))) := by
  have key : ∀ i : Nat, i < 100 → (48 : Int32) + Int32.ofNat i / 10 = Int32.ofNat (48 + i / 10) := by decide
  show some (Value.int ((48 : Int32) + Int32.ofNat i / 10)) = _
  rw [key i hi]
theorem own_fitr {n : String} {v : Value} (h : v.isRef = true) : fits (.object n) v = true := by rcases ref_cases h with rfl | ⟨x, rfl⟩ <;> rfl
theorem own_narr {n : String} {v : Value} (h : v.isRef = true) : narrow (.object n) v = v := by rcases ref_cases h with rfl | ⟨x, rfl⟩ <;> rfl
theorem own_as3 (c1 d : List Int32) : (([] ++ c1) ++ [58]) ++ d = c1 ++ 58 :: d := by simp
theorem own_and3 (p : Int32) : (p &&& (3 : Int32)) = 0 ∨ (p &&& (3 : Int32)) = 1 ∨ (p &&& (3 : Int32)) = 2 ∨ (p &&& (3 : Int32)) = 3 := by
  have h := c_and p 3 (by decide)
  have e : (3 : Int32).toInt = 3 := rfl
  generalize p &&& (3 : Int32) = q at *
  have k : q.toInt = 0 ∨ q.toInt = 1 ∨ q.toInt = 2 ∨ q.toInt = 3 := by omega
  rcases k with k | k | k | k
  · exact Or.inl (Int32.toInt_inj.mp k)
  · exact Or.inr (Or.inl (Int32.toInt_inj.mp k))
  · exact Or.inr (Or.inr (Or.inl (Int32.toInt_inj.mp k)))
  · exact Or.inr (Or.inr (Or.inr (Int32.toInt_inj.mp k)))
theorem own_ix {k j : Nat} (h : j ≤ k) : Int32.ofNat (k + 1) - (1 : Int32) - Int32.ofNat j = Int32.ofNat (k - j) := by
  have q := own_ofsub (a := k + 1) (b := 1) (by omega)
  rw [show Int32.ofNat 1 = (1 : Int32) from rfl, Nat.add_sub_cancel] at q
  rw [q, own_ofsub h]
theorem own_pw : ∀ k : Nat, k < 10 → ([(.long (1 : Int64)), (.long (10 : Int64)), (.long (100 : Int64)), (.long (1000 : Int64)), (.long (10000 : Int64)), (.long (100000 : Int64)), (.long (1000000 : Int64)), (.long (10000000 : Int64)), (.long (100000000 : Int64)), (.long (1000000000 : Int64))] : List Value).getD k (.long (0 : Int64)) = .long (Int64.ofNat (10 ^ k)) := by decide
theorem own_pnz {k : Nat} (h : k < 10) : ¬ (Int64.ofNat (10 ^ k)) = 0 := by
  have key : ∀ k : Nat, k < 10 → ¬ (Int64.ofNat (10 ^ k)) = 0 := by decide
  exact key k h
theorem own_p62 {k : Nat} (h : k < 10) : 10 ^ k < 2 ^ 62 := by
  have key : ∀ k : Nat, k < 10 → 10 ^ k < 2 ^ 62 := by decide
  exact key k h
theorem own_dq {v q : Nat} (h : v ≤ 2147483648) : v / q < 2 ^ 62 := Nat.lt_of_le_of_lt (Nat.div_le_self v q) (by omega)
theorem own_h58 (ch sg d : List Int32) : ((ch ++ 58 :: sg) ++ d).getD ch.length 0 = 58 := by simp [List.getD_eq_getElem?_getD]
theorem own_h45 (ch d : List Int32) : ((ch ++ 58 :: [45]) ++ d).getD (ch.length + 1) 0 = 45 := by
  rw [List.append_assoc, List.getD_eq_getElem?_getD, List.getElem?_append_right (by omega), Nat.add_sub_cancel_left]; rfl
theorem own_hz {p hz sg : Int32} {a b : Nat} (qh : hz = Int32.ofNat a) (lz : b = a + 1 + (sgl p).length) (q : (p < 0 ∧ sg = 1) ∨ (¬ p < 0 ∧ sg = 0)) : hz + (1 : Int32) + sg = Int32.ofNat b := by
  subst qh lz
  rcases q with ⟨q, rfl⟩ | ⟨q, rfl⟩
  · rw [show sgl p = [45] from if_pos q, ← own_ofadd, ← own_ofadd]; rfl
  · rw [show sgl p = [] from if_neg q, ← own_ofadd, ← own_ofadd]; rfl
theorem own_gr (a b : List Int32) (j : Nat) : (a ++ b).getD (a.length + j) 0 = b.getD j 0 := by
  rw [List.getD_eq_getElem?_getD, List.getD_eq_getElem?_getD, List.getElem?_append_right (by omega), Nat.add_sub_cancel_left]
abbrev own_EL : List (String × Nat) := [("com/example/net_thirty/netthirty/mail/MailServer", 32), ("java/lang/String", 7)]
theorem own_wS : ∀ d ∈ Bundle.stringAtoms, d ∈ tables_1 := by decide +kernel
theorem own_ew {Z : State} {a0 : Array Value} (hw : ∀ d ∈ tables_1, d.before a0 Z = true) : EW Z a0 own_EL := EW.cons (hw _ (List.mem_of_getElem? (i := 114) rfl)) (by decide) (EW.cons (hw _ (List.mem_of_getElem? (i := 15) rfl)) (by decide) (EW.nil))
theorem own_ws : ∀ d ∈ StrChars.Road.words, d ∈ tables_1 := by decide +kernel
theorem own_wl : ∀ d ∈ StrChars.Road.wordsLen, d ∈ tables_1 := by decide +kernel
theorem own_wc : ∀ d ∈ StrChars.Road.wordsChN, d ∈ tables_1 := by decide +kernel
def Q_rmCE (Z : State) (p1 : Int32) (h0 : Heap) (n0 : Nat) (v : Option Value) (h : Heap) (L : List Loc) : Prop := v = some (.int (1 : Int32)) ∧ Fr n0 L ∧ h = h0
theorem ef_rmCE (m : MethodId) (x0 : Int32) : entryFrame m #[(.int x0)] 1 = mkF m 0 #[.val (.int x0)] [] := by first | (simp [entryFrame, mkF, argsToLocals, Value.category]; done) | rfl
theorem pn_java_lang_StringLatin1 : plainName "java/lang/StringLatin1" = true := by first | (simp [plainName, overriddenIn]; done) | decide +kernel
theorem d_jdk_43_m3_0 : decode jdk_43_method_3_code 0 = .ok (.iload_n 0, 1) := by decide +kernel
theorem d_jdk_43_m3_1 : decode jdk_43_method_3_code 1 = .ok (.sipush 255, 3) := by decide +kernel
theorem d_jdk_43_m3_4 : decode jdk_43_method_3_code 4 = .ok (.if_icmp .gt 7, 3) := by decide +kernel
theorem d_jdk_43_m3_7 : decode jdk_43_method_3_code 7 = .ok (.iconst 1, 1) := by decide +kernel
theorem d_jdk_43_m3_8 : decode jdk_43_method_3_code 8 = .ok (.goto 4, 3) := by decide +kernel
theorem d_jdk_43_m3_12 : decode jdk_43_method_3_code 12 = .ok (.ireturn, 1) := by decide +kernel
set_option maxRecDepth 65536 in
set_option maxHeartbeats 40000000 in
theorem rmCE (l : Launch) (Z : State) (a0 : Array Value) (hw : ∀ d ∈ tables_1, d.before a0 Z = true) (ws : List Jvm.Cond) (p1 : Int32) (h0 : Heap) (n0 : Nat) (Z0 : n0 ≤ h0.size) (h1 : ¬ (255 : Int32) < p1) :
    MetFree l (⟨"java/lang/StringLatin1", "canEncode", "(C)Z"⟩ : MethodName) (head1 (Jvm.Cond.code (⟨"java/lang/StringLatin1", "canEncode", "(C)Z"⟩ : MethodName) jdk_43_method_3_code 1 (some .boolean) :: ws) ({ frames := 0, cells := 0, slots := 0, locals := 0 } : Room)) (fun a U => a = #[(.int p1)] ∧ Z.Warmed39 U.vm ∧ U.heap = h0) (fun _ _ _ _ _ => True) (fun _ U o U' => ∃ v L, o = .returned v ∧ Q_rmCE Z p1 h0 n0 v U'.heap L ∧ FrameEnd U o U' L ({ frames := 0, cells := 0, slots := 0, locals := 0 } : Room).cells ({ frames := 0, cells := 0, slots := 0, locals := 0 } : Room).slots) := by
  refine MetFree.of_bodySF (plainFor_of_name pn_java_lang_StringLatin1) hisR ?_
  intro p e s m args below meth c s₁ Bd hml0 hP hK
  obtain ⟨rfl, hZ, hh⟩ := hP
  have hx := Bd.exec
  have hby := Bd.bytes
  have hlk := BodyLoose.notSynchronized Bd
  have hml : c.maxLocals = 1 := hml0
  have hown : s.vm.findClass "java/lang/StringLatin1" = some m.cls := findClass_of_methodNamed Bd.named
  have hnm := (name_of_methodNamed Bd.named Bd.method).1
  have X0 : Stand p l e ({ frames := 0, cells := 0, slots := 0, locals := 0 } : Room) s m #[(.int p1)] below meth c s₁ [] 0 0 := Stand.of_body Bd
  have e0 : s₁.heap = h0 := by rw [← hh, Bd.state]; rfl
  have N0 := Fr.nil n0
  have K0 := Keep.refl h0 []
  clear hh
  show Wk p e below (EndN s (Q_rmCE Z p1 h0 n0) ({ frames := 0, cells := 0, slots := 0, locals := 0 } : Room).cells ({ frames := 0, cells := 0, slots := 0, locals := 0 } : Room).slots) s₁ (entryFrame m #[(.int p1)] 1)
  rw [ef_rmCE]
  refine Wk.iloadN X0 hx (hb hby d_jdk_43_m3_0) (n := 1) rfl rfl ?_
  refine Wk.sipush X0 hx (hb hby d_jdk_43_m3_1) (n := 4) rfl (z := (255 : Int32)) rfl ?_
  have hc4_1 : ¬ ((255 : Int32) < p1) := h1
  refine Wk.icmpNo X0 hx (hb hby d_jdk_43_m3_4) (n := 7) rfl (flt hc4_1).2.2.1 ?_
  refine Wk.iconst X0 hx (hb hby d_jdk_43_m3_7) (n := 8) rfl (z := (1 : Int32)) rfl ?_
  refine Wk.goto X0 hx (hb hby d_jdk_43_m3_8) (by decide) (n := 12) (by decide) ?_
  exact Wk.leave X0 (v := some (.int (1 : Int32))) (fun h => by rw [Bd.returns] at h; cases h) hlk e0 ⟨rfl, N0, rfl⟩ (by decide) (by decide) (fun fs hr => retNz X0 hx (t := .boolean) rfl Bd.returns (by simp) (hb hby d_jdk_43_m3_12) hr)
def Q_rmTB (Z : State) (p1 : Int32) (h0 : Heap) (n0 : Nat) (v : Option Value) (h : Heap) (L : List Loc) : Prop := ∃ (t : Addr) (kb : ClassId), v = some (.ref t) ∧ Fr n0 L ∧ Keep h0 h [] ∧ Arv Z h t kb .byte (1 : Int32) [(.int p1.toInt8.toInt32)] (.int (0 : Int32)) ∧ (h0.size ≤ t)
theorem ef_rmTB (m : MethodId) (x0 : Int32) : entryFrame m #[(.int x0)] 1 = mkF m 0 #[.val (.int x0)] [] := by first | (simp [entryFrame, mkF, argsToLocals, Value.category]; done) | rfl
theorem d_jdk_43_m46_0 : decode jdk_43_method_46_code 0 = .ok (.iconst 1, 1) := by decide +kernel
theorem d_jdk_43_m46_1 : decode jdk_43_method_46_code 1 = .ok (.newarray .byte, 2) := by decide +kernel
theorem d_jdk_43_m46_3 : decode jdk_43_method_46_code 3 = .ok (.dup, 1) := by decide +kernel
theorem d_jdk_43_m46_4 : decode jdk_43_method_46_code 4 = .ok (.iconst 0, 1) := by decide +kernel
theorem d_jdk_43_m46_5 : decode jdk_43_method_46_code 5 = .ok (.iload_n 0, 1) := by decide +kernel
theorem d_jdk_43_m46_6 : decode jdk_43_method_46_code 6 = .ok (.i2b, 1) := by decide +kernel
theorem d_jdk_43_m46_7 : decode jdk_43_method_46_code 7 = .ok (.bastore, 1) := by decide +kernel
theorem d_jdk_43_m46_8 : decode jdk_43_method_46_code 8 = .ok (.areturn, 1) := by decide +kernel
set_option maxRecDepth 65536 in
set_option maxHeartbeats 40000000 in
theorem rmTB (l : Launch) (Z : State) (a0 : Array Value) (hw : ∀ d ∈ tables_1, d.before a0 Z = true) (ws : List Jvm.Cond) (p1 : Int32) (h0 : Heap) (n0 : Nat) (Z0 : n0 ≤ h0.size) :
    MetFree l (⟨"java/lang/StringLatin1", "toBytes", "(C)[B"⟩ : MethodName) (head1 (Jvm.Cond.code (⟨"java/lang/StringLatin1", "toBytes", "(C)[B"⟩ : MethodName) jdk_43_method_46_code 1 (some (.array .byte)) :: ws) ({ frames := 0, cells := 1, slots := 1, locals := 0 } : Room)) (fun a U => a = #[(.int p1)] ∧ Z.Warmed39 U.vm ∧ U.heap = h0) (fun _ _ _ _ _ => True) (fun _ U o U' => ∃ v L, o = .returned v ∧ Q_rmTB Z p1 h0 n0 v U'.heap L ∧ FrameEnd U o U' L ({ frames := 0, cells := 1, slots := 1, locals := 0 } : Room).cells ({ frames := 0, cells := 1, slots := 1, locals := 0 } : Room).slots) := by
  refine MetFree.of_bodySF (plainFor_of_name pn_java_lang_StringLatin1) hisR ?_
  intro p e s m args below meth c s₁ Bd hml0 hP hK
  obtain ⟨rfl, hZ, hh⟩ := hP
  have hx := Bd.exec
  have hby := Bd.bytes
  have hlk := BodyLoose.notSynchronized Bd
  have hml : c.maxLocals = 1 := hml0
  have hown : s.vm.findClass "java/lang/StringLatin1" = some m.cls := findClass_of_methodNamed Bd.named
  have hnm := (name_of_methodNamed Bd.named Bd.method).1
  have X0 : Stand p l e ({ frames := 0, cells := 1, slots := 1, locals := 0 } : Room) s m #[(.int p1)] below meth c s₁ [] 0 0 := Stand.of_body Bd
  have e0 : s₁.heap = h0 := by rw [← hh, Bd.state]; rfl
  have N0 := Fr.nil n0
  have K0 := Keep.refl h0 []
  clear hh
  show Wk p e below (EndN s (Q_rmTB Z p1 h0 n0) ({ frames := 0, cells := 1, slots := 1, locals := 0 } : Room).cells ({ frames := 0, cells := 1, slots := 1, locals := 0 } : Room).slots) s₁ (entryFrame m #[(.int p1)] 1)
  rw [ef_rmTB]
  refine Wk.iconst X0 hx (hb hby d_jdk_43_m46_0) (n := 1) rfl (z := (1 : Int32)) rfl ?_
  refine Wk.newP X0 hx hZ (hw _ (List.mem_of_getElem? (i := 16) rfl)) e0 (hb hby d_jdk_43_m46_1) (n := 3) rfl (by decide) (cap := 1) (by decide) (by decide) (by decide) (by decide) fun T1 H1 b1 k1 gn1 X1 e1 Ex1 An1 => ?_
  have gn1 := nx gn1
  have sz1 := Ex1.1
  have K1 := K0.ext Ex1
  have Vn1 : Arv Z H1 b1 k1 .byte (1 : Int32) [(.int (0 : Int32))] (.int (0 : Int32)) := (Arv.new An1 (by decide)).pad (pad_rep [] (.int (0 : Int32)) 1)
  have lt1 := ny Vn1.lt
  refine Wk.dup X1 hx (hb hby d_jdk_43_m46_3) (n := 4) rfl rfl ?_
  refine Wk.iconst X1 hx (hb hby d_jdk_43_m46_4) (n := 5) rfl (z := (0 : Int32)) rfl ?_
  refine Wk.iloadN X1 hx (hb hby d_jdk_43_m46_5) (n := 6) rfl rfl ?_
  refine Wk.i2b X1 hx (hb hby d_jdk_43_m46_6) (n := 7) rfl ?_
  obtain ⟨cl2, Ar2, qn2, Sz2, N_2, H_2, Gn2⟩ := id Vn1
  have hin2 : ¬ ((0 : Int32) < 0 ∨ cl2.slots.size ≤ ((0 : Int32)).toNatClampNeg) := inb_of Sz2 ⟨by decide, by decide⟩
  refine Wk.stB X1 hx hZ e1 Ar2 hin2 (hb hby d_jdk_43_m46_7) (n := 8) rfl fun T2 H2 X2 e2 Wn2 => ?_
  have Vn2 := Arv.set Ar2 qn2 Sz2 N_2 H_2 Gn2 (fits_nar_byte _) Wn2 0 rfl (Nat.le_of_ble_eq_true rfl)
  have Un2 : Arv Z H2 b1 k1 .byte (1 : Int32) [(.int p1.toInt8.toInt32)] (.int (0 : Int32)) := (by have q := Vn2; rw [show p1.toInt8.toInt32.toInt8.toInt32 = p1.toInt8.toInt32 from own_narb p1] at q; exact q)
  have sz2 := Wn2.size
  have K2 := K1.wr Wn2 (Or.inr (by omega))
  have N2 := Fr.snoc X2 N0 (by omega)
  exact Wk.leave X2 (v := some (.ref b1)) (fun h => by rw [Bd.returns] at h; cases h) hlk e2 ⟨b1, k1, rfl, N2, K2, Un2, (by omega)⟩ (by decide) (by decide) (fun fs hr => retA X2 hx rfl Bd.returns rfl (hb hby d_jdk_43_m46_8) hr)
def Q_rmSI (Z : State) (a1 : Addr) (a2 : Addr) (p1 : Int32) (u1 : Value) (u2 : Value) (h0 : Heap) (n0 : Nat) (v : Option Value) (h : Heap) (L : List Loc) : Prop := v = none ∧ Fr n0 L ∧ Keep h0 h [a1] ∧ Exa Z h a1 "java/lang/String" ∧ Fld Z h a1 "java/lang/String" "value" "[B" (.ref a2) ∧ Fld Z h a1 "java/lang/String" "coder" "B" (.int p1)
theorem ef_rmSI (m : MethodId) (x0 : Addr) (x1 : Addr) (x2 : Int32) : entryFrame m #[(.ref x0), (.ref x1), (.int x2)] 3 = mkF m 0 #[.val (.ref x0), .val (.ref x1), .val (.int x2)] [] := by first | (simp [entryFrame, mkF, argsToLocals, Value.category]; done) | rfl
theorem pn_java_lang_String : plainName "java/lang/String" = true := by first | (simp [plainName, overriddenIn]; done) | decide +kernel
theorem d_jdk_42_m151_0 : decode jdk_42_method_151_code 0 = .ok (.aload_n 0, 1) := by decide +kernel
theorem d_jdk_42_m151_1 : decode jdk_42_method_151_code 1 = .ok (.invokespecial 1, 3) := by decide +kernel
theorem d_jdk_42_m151_4 : decode jdk_42_method_151_code 4 = .ok (.aload_n 0, 1) := by decide +kernel
theorem d_jdk_42_m151_5 : decode jdk_42_method_151_code 5 = .ok (.aload_n 1, 1) := by decide +kernel
theorem d_jdk_42_m151_6 : decode jdk_42_method_151_code 6 = .ok (.putfield 9, 3) := by decide +kernel
theorem d_jdk_42_m151_9 : decode jdk_42_method_151_code 9 = .ok (.aload_n 0, 1) := by decide +kernel
theorem d_jdk_42_m151_10 : decode jdk_42_method_151_code 10 = .ok (.iload_n 2, 1) := by decide +kernel
theorem d_jdk_42_m151_11 : decode jdk_42_method_151_code 11 = .ok (.putfield 15, 3) := by decide +kernel
theorem d_jdk_42_m151_14 : decode jdk_42_method_151_code 14 = .ok (.return_, 1) := by decide +kernel
set_option maxRecDepth 65536 in
set_option maxHeartbeats 40000000 in
theorem rmSI (l : Launch) (Z : State) (a0 : Array Value) (hw : ∀ d ∈ tables_1, d.before a0 Z = true) (ws : List Jvm.Cond) (a1 : Addr) (a2 : Addr) (p1 : Int32) (u1 : Value) (u2 : Value) (h0 : Heap) (n0 : Nat) (Z0 : n0 ≤ h0.size) (E1 : Exa Z h0 a1 "java/lang/String") (F1 : Fld Z h0 a1 "java/lang/String" "value" "[B" u1) (F2 : Fld Z h0 a1 "java/lang/String" "coder" "B" u2) (g1 : n0 ≤ a1) (hb1 : nar .byte p1 = p1) :
    MetFree l (⟨"java/lang/String", "<init>", "([BB)V"⟩ : MethodName) (head1 (Jvm.Cond.code (⟨"java/lang/String", "<init>", "([BB)V"⟩ : MethodName) jdk_42_method_151_code 3 none :: ws) ({ frames := 1, cells := 0, slots := 0, locals := 12 } : Room)) (fun a U => a = #[(.ref a1), (.ref a2), (.int p1)] ∧ Z.Warmed39 U.vm ∧ U.heap = h0) (fun _ _ _ _ _ => True) (fun _ U o U' => ∃ v L, o = .returned v ∧ Q_rmSI Z a1 a2 p1 u1 u2 h0 n0 v U'.heap L ∧ FrameEnd U o U' L ({ frames := 1, cells := 0, slots := 0, locals := 12 } : Room).cells ({ frames := 1, cells := 0, slots := 0, locals := 12 } : Room).slots) := by
  refine MetFree.of_bodySF (plainFor_of_name pn_java_lang_String) hisR ?_
  intro p e s m args below meth c s₁ Bd hml0 hP hK
  obtain ⟨rfl, hZ, hh⟩ := hP
  have hx := Bd.exec
  have hby := Bd.bytes
  have hlk := BodyLoose.notSynchronized Bd
  have hml : c.maxLocals = 3 := hml0
  have hown : s.vm.findClass "java/lang/String" = some m.cls := findClass_of_methodNamed Bd.named
  have hnm := (name_of_methodNamed Bd.named Bd.method).1
  have X0 : Stand p l e ({ frames := 1, cells := 0, slots := 0, locals := 12 } : Room) s m #[(.ref a1), (.ref a2), (.int p1)] below meth c s₁ [] 0 0 := Stand.of_body Bd
  have e0 : s₁.heap = h0 := by rw [← hh, Bd.state]; rfl
  have N0 := Fr.nil n0
  have K0 := Keep.refl h0 [a1]
  clear hh
  show Wk p e below (EndN s (Q_rmSI Z a1 a2 p1 u1 u2 h0 n0) ({ frames := 1, cells := 0, slots := 0, locals := 12 } : Room).cells ({ frames := 1, cells := 0, slots := 0, locals := 12 } : Room).slots) s₁ (entryFrame m #[(.ref a1), (.ref a2), (.int p1)] 3)
  rw [ef_rmSI]
  have lt_E1 := ny E1.lt
  have lt_F1 := ny F1.lt
  have lt_F2 := ny F2.lt
  refine Wk.aloadN X0 hx (hb hby d_jdk_42_m151_0) (n := 1) rfl rfl rfl ?_
  refine Wk.initO X0 hx hZ hown (hw _ (List.mem_of_getElem? (i := 12) rfl)) (hw _ (List.mem_of_getElem? (i := 13) rfl)) (hw _ (List.mem_of_getElem? (i := 14) rfl)) e0 (by rw [hml]; rfl) (hb hby d_jdk_42_m151_1) (n := 4) rfl (by decide) (w := 0) (Nat.le_of_eq rfl) (by decide) fun T1 X1 e1 => ?_
  refine Wk.aloadN X1 hx (hb hby d_jdk_42_m151_4) (n := 5) rfl rfl rfl ?_
  refine Wk.aloadN X1 hx (hb hby d_jdk_42_m151_5) (n := 6) rfl rfl rfl ?_
  refine Wk.putF X1 hx hZ hown (host := "") (Or.inl (hw _ (List.mem_of_getElem? (i := 21) rfl))) Via.refl e1 F1 E1 (Or.inr ⟨(hw _ (List.mem_of_getElem? (i := 17) rfl)), rfl, hnm⟩) (hw _ (List.mem_of_getElem? (i := 3) rfl)) (ty := (.array .byte)) (by decide) rfl rfl (hb hby d_jdk_42_m151_6) (n := 9) rfl fun T2 H2 X2 e2 Wn2 => ?_
  have sz2 := Wn2.size
  have Fn2 := F1.same Wn2
  have K2 := K0.wr Wn2 (Or.inl (List.mem_of_getElem? (i := 0) rfl))
  have N2 := Fr.snoc X2 N0 (by omega)
  refine Wk.aloadN X2 hx (hb hby d_jdk_42_m151_9) (n := 10) rfl rfl rfl ?_
  refine Wk.iloadN X2 hx (hb hby d_jdk_42_m151_10) (n := 11) rfl rfl ?_
  have f3 := (F2.other Wn2 (Or.inr (slot_ne (Or.inr (hw _ (List.mem_of_getElem? (i := 18) rfl))) (Or.inr (hw _ (List.mem_of_getElem? (i := 17) rfl))) (by decide) (t := .byte) (t' := (.array .byte)) (by decide) (by decide))))
  have f4 := (E1.wr Wn2)
  refine Wk.putFN X2 hx hZ hown (hw _ (List.mem_of_getElem? (i := 22) rfl)) Via.refl e2 f3 f4 (Or.inr ⟨(hw _ (List.mem_of_getElem? (i := 18) rfl)), rfl, hnm⟩) (hw _ (List.mem_of_getElem? (i := 3) rfl)) (ty := .byte) (by decide) (v' := (.int p1)) (congrArg Value.int hb1) (own_fitb hb1) (hb hby d_jdk_42_m151_11) (n := 14) rfl fun T5 H5 X5 e5 Wn5 => ?_
  have sz5 := Wn5.size
  have Fn5 := f3.same Wn5
  have K5 := K2.wr Wn5 (Or.inl (List.mem_of_getElem? (i := 0) rfl))
  have N5 := Fr.snoc X5 N2 (by omega)
  have f6 := (f4.wr Wn5)
  have f7 := (Fn2.other Wn5 (Or.inr (slot_ne (Or.inr (hw _ (List.mem_of_getElem? (i := 17) rfl))) (Or.inr (hw _ (List.mem_of_getElem? (i := 18) rfl))) (by decide) (t := (.array .byte)) (t' := .byte) (by decide) (by decide))))
  exact Wk.leave X5 (v := none) (fun _ => rfl) hlk e5 ⟨rfl, N5, K5, f6, f7, Fn5⟩ (by decide) (by decide) (fun fs hr => X5.returnOut hx Bd.returns (hb hby d_jdk_42_m151_14) hr)
def Q_rmSVO (Z : State) (p1 : Int32) (zc : Int32) (h0 : Heap) (n0 : Nat) (v : Option Value) (h : Heap) (L : List Loc) : Prop := ∃ (r : Addr) (t : Addr) (kb : ClassId), v = some (.ref r) ∧ Fr n0 L ∧ Keep h0 h [] ∧ Exa Z h r "java/lang/String" ∧ Fld Z h r "java/lang/String" "value" "[B" (.ref t) ∧ Fld Z h r "java/lang/String" "coder" "B" (.int (0 : Int32)) ∧ Arv Z h t kb .byte (1 : Int32) [(.int p1.toInt8.toInt32)] (.int (0 : Int32)) ∧ (h0.size ≤ r) ∧ (h0.size ≤ t)
theorem ef_rmSVO (m : MethodId) (x0 : Int32) : entryFrame m #[(.int x0)] 1 = mkF m 0 #[.val (.int x0)] [] := by first | (simp [entryFrame, mkF, argsToLocals, Value.category]; done) | rfl
theorem d_jdk_42_m139_0 : decode jdk_42_method_139_code 0 = .ok (.getstatic 38, 3) := by decide +kernel
theorem d_jdk_42_m139_3 : decode jdk_42_method_139_code 3 = .ok (.ifCond .eq 23, 3) := by decide +kernel
theorem d_jdk_42_m139_6 : decode jdk_42_method_139_code 6 = .ok (.iload_n 0, 1) := by decide +kernel
theorem d_jdk_42_m139_7 : decode jdk_42_method_139_code 7 = .ok (.invokestatic 1015, 3) := by decide +kernel
theorem pd_0 : parseMethodDescriptor "(C)Z" = some ⟨[.char], some .boolean⟩ := by decide +kernel
theorem d_jdk_42_m139_10 : decode jdk_42_method_139_code 10 = .ok (.ifCond .eq 16, 3) := by decide +kernel
theorem d_jdk_42_m139_13 : decode jdk_42_method_139_code 13 = .ok (.new 10, 3) := by decide +kernel
theorem d_jdk_42_m139_16 : decode jdk_42_method_139_code 16 = .ok (.dup, 1) := by decide +kernel
theorem d_jdk_42_m139_17 : decode jdk_42_method_139_code 17 = .ok (.iload_n 0, 1) := by decide +kernel
theorem d_jdk_42_m139_18 : decode jdk_42_method_139_code 18 = .ok (.invokestatic 1018, 3) := by decide +kernel
theorem pd_1 : parseMethodDescriptor "(C)[B" = some ⟨[.char], some (.array .byte)⟩ := by decide +kernel
theorem d_jdk_42_m139_21 : decode jdk_42_method_139_code 21 = .ok (.iconst 0, 1) := by decide +kernel
theorem d_jdk_42_m139_22 : decode jdk_42_method_139_code 22 = .ok (.invokespecial 209, 3) := by decide +kernel
theorem pd_2 : parseMethodDescriptor "([BB)V" = some ⟨[(.array .byte), .byte], none⟩ := by decide +kernel
theorem d_jdk_42_m139_25 : decode jdk_42_method_139_code 25 = .ok (.areturn, 1) := by decide +kernel
set_option maxRecDepth 65536 in
set_option maxHeartbeats 40000000 in
theorem rmSVO (l : Launch) (Z : State) (a0 : Array Value) (hw : ∀ d ∈ tables_1, d.before a0 Z = true) (ws : List Jvm.Cond) (p1 : Int32) (zc : Int32) (h0 : Heap) (n0 : Nat) (Z0 : n0 ≤ h0.size) (S4 : Sta Z Z.heap "java/lang/String" "COMPACT_STRINGS" "Z" (.int zc)) (O1 : Old Z n0 h0) (hCS : ¬ zc = 0) (h1 : ¬ (255 : Int32) < p1) :
    MetFree l (⟨"java/lang/String", "valueOf", "(C)Ljava/lang/String;"⟩ : MethodName) (head1 (Jvm.Cond.code (⟨"java/lang/String", "valueOf", "(C)Ljava/lang/String;"⟩ : MethodName) jdk_42_method_139_code 1 (some (.object "java/lang/String")) :: ws) ({ frames := 2, cells := 2, slots := 5, locals := 27 } : Room)) (fun a U => a = #[(.int p1)] ∧ Z.Warmed39 U.vm ∧ U.heap = h0) (fun _ _ _ _ _ => True) (fun _ U o U' => ∃ v L, o = .returned v ∧ Q_rmSVO Z p1 zc h0 n0 v U'.heap L ∧ FrameEnd U o U' L ({ frames := 2, cells := 2, slots := 5, locals := 27 } : Room).cells ({ frames := 2, cells := 2, slots := 5, locals := 27 } : Room).slots) := by
  refine MetFree.of_bodySF (plainFor_of_name pn_java_lang_String) hisR ?_
  intro p e s m args below meth c s₁ Bd hml0 hP hK
  obtain ⟨rfl, hZ, hh⟩ := hP
  have hx := Bd.exec
  have hby := Bd.bytes
  have hlk := BodyLoose.notSynchronized Bd
  have hml : c.maxLocals = 1 := hml0
  have hown : s.vm.findClass "java/lang/String" = some m.cls := findClass_of_methodNamed Bd.named
  have hnm := (name_of_methodNamed Bd.named Bd.method).1
  have X0 : Stand p l e ({ frames := 2, cells := 2, slots := 5, locals := 27 } : Room) s m #[(.int p1)] below meth c s₁ [] 0 0 := Stand.of_body Bd
  have e0 : s₁.heap = h0 := by rw [← hh, Bd.state]; rfl
  have N0 := Fr.nil n0
  have K0 := Keep.refl h0 []
  clear hh
  show Wk p e below (EndN s (Q_rmSVO Z p1 zc h0 n0) ({ frames := 2, cells := 2, slots := 5, locals := 27 } : Room).cells ({ frames := 2, cells := 2, slots := 5, locals := 27 } : Room).slots) s₁ (entryFrame m #[(.int p1)] 1)
  rw [ef_rmSVO]
  refine Wk.getS X0 hx hZ hown (host := "") (Or.inl (hw _ (List.mem_of_getElem? (i := 86) rfl))) Via.refl e0 (Sta.ext O1.2 S4) (hb hby d_jdk_42_m139_0) (n := 3) rfl fun T1 X1 e1 => ?_
  have hc3_2 : ¬ (zc = (0 : Int32)) := hCS
  refine Wk.ifNo X1 hx (hb hby d_jdk_42_m139_3) (n := 6) rfl ((if0 _ _).trans (feq hc3_2).1) ?_
  refine Wk.iloadN X1 hx (hb hby d_jdk_42_m139_6) (n := 7) rfl rfl ?_
  have cl3_ := fun (Ls : Array Slot) (hLs : Ls.size = c.maxLocals) => Jvm.LawKit.callS X1 hx (y := (⟨"java/lang/StringLatin1", "canEncode", "(C)Z"⟩ : MethodName)) hown (mvT hZ (hw _ (List.mem_of_getElem? (i := 228) rfl))) (mvT hZ (hw _ (List.mem_of_getElem? (i := 229) rfl))) (mvT hZ (hw _ (List.mem_of_getElem? (i := 199) rfl))) (mvT hZ (hw _ (List.mem_of_getElem? (i := 230) rfl))) (by decide) (backOf (W := 0) (rmCE l Z a0 hw [] p1 h0 n0 (by omega) h1) hZ (hw _ (List.mem_of_getElem? (i := 230) rfl)) (hw _ (List.mem_of_getElem? (i := 199) rfl)) (by decide) (by decide)) (g := mkF m 7 Ls [(.int p1)]) rfl hLs (argsL := [(.int p1)]) (rest := []) (lenOf pd_0 rfl) rfl (by show 2 * 0 + _ ≤ _; exact Nat.le_of_eq rfl) (hb hby d_jdk_42_m139_7) (fun _ _ => ⟨rfl, e1, (by decide : 0 + 0 ≤ _), (by decide : 0 + 0 ≤ _)⟩)
  refine Wk.backS (n := 10) (rc := 0) (rs := 0) (Q := Q_rmCE Z p1 h0 n0) (cl3_ _ (by rw [hml]; rfl)) fun vn3 T3 L3 X3 hQ3 => ?_
  clear cl3_
  obtain ⟨rfl, M3, e3⟩ := hQ3
  have N3 := Fr.app N0 M3
  show Wk p e below _ T3 (mkF m 10 _ [(.int (1 : Int32))])
  have hc10_4 : ¬ ((1 : Int32) = (0 : Int32)) := by decide
  refine Wk.ifNo X3 hx (hb hby d_jdk_42_m139_10) (n := 13) rfl ((if0 _ _).trans (feq hc10_4).1) ?_
  refine Wk.newO X3 hx hZ hown (hw _ (List.mem_of_getElem? (i := 231) rfl)) (hw _ (List.mem_of_getElem? (i := 3) rfl)) (hw _ (List.mem_of_getElem? (i := 4) rfl)) e3 (hb hby d_jdk_42_m139_13) (n := 16) rfl (by decide) (by decide) fun T5 H5 b5 gn5 X5 e5 Ex5 An5 Dn5 Yn5 => ?_
  have gn5 := nx gn5
  have sz5 := Ex5.1
  have lt5 := ny An5.lt
  have K5 := K0.ext Ex5
  have Fn5_value : Fld Z H5 b5 "java/lang/String" "value" "[B" .null := Dn5 (Or.inr (hw _ (List.mem_of_getElem? (i := 17) rfl))) (ty := (.array .byte)) (by decide)
  have Fn5_coder : Fld Z H5 b5 "java/lang/String" "coder" "B" (.int (0 : Int32)) := Dn5 (Or.inr (hw _ (List.mem_of_getElem? (i := 18) rfl))) (ty := .byte) (by decide)
  refine Wk.dup X5 hx (hb hby d_jdk_42_m139_16) (n := 17) rfl rfl ?_
  refine Wk.iloadN X5 hx (hb hby d_jdk_42_m139_17) (n := 18) rfl rfl ?_
  have cl6_ := fun (Ls : Array Slot) (hLs : Ls.size = c.maxLocals) => Jvm.LawKit.callS X5 hx (y := (⟨"java/lang/StringLatin1", "toBytes", "(C)[B"⟩ : MethodName)) hown (mvT hZ (hw _ (List.mem_of_getElem? (i := 232) rfl))) (mvT hZ (hw _ (List.mem_of_getElem? (i := 233) rfl))) (mvT hZ (hw _ (List.mem_of_getElem? (i := 199) rfl))) (mvT hZ (hw _ (List.mem_of_getElem? (i := 234) rfl))) (by decide) (backOf (W := 2) (rmTB l Z a0 hw [] p1 H5 n0 (by omega)) hZ (hw _ (List.mem_of_getElem? (i := 234) rfl)) (hw _ (List.mem_of_getElem? (i := 199) rfl)) (by decide) (by decide)) (g := mkF m 18 Ls [(.int p1), (.ref b5), (.ref b5)]) rfl hLs (argsL := [(.int p1)]) (rest := [(.ref b5), (.ref b5)]) (lenOf pd_1 rfl) rfl (by show 2 * 0 + _ ≤ _; exact Nat.le_of_eq rfl) (hb hby d_jdk_42_m139_18) (fun _ _ => ⟨rfl, e5, (by decide : 0 + 0 + 1 + 1 ≤ _), (by decide : 0 + 0 + 4 + 1 ≤ _)⟩)
  refine Wk.backS (n := 21) (rc := 1) (rs := 1) (Q := Q_rmTB Z p1 H5 n0) (cl6_ _ (by rw [hml]; rfl)) fun vn6 T6 L6 X6 hQ6 => ?_
  clear cl6_
  obtain ⟨t_6, kb_6, rfl, M6, J6, p6_0, gt_6⟩ := hQ6
  have N6 := Fr.app N3 M6
  have sz6 := J6.1
  have K6 := K5.trans J6 (fun x hx => nomatch hx)
  have lt_p6_0 := ny p6_0.lt
  show Wk p e below _ T6 (mkF m 21 _ [(.ref t_6), (.ref b5), (.ref b5)])
  refine Wk.iconst X6 hx (hb hby d_jdk_42_m139_21) (n := 22) rfl (z := (0 : Int32)) rfl ?_
  have f7 := (An5.keep J6)
  have f8 := (Fn5_value.keep J6 nin0)
  have f9 := (Fn5_coder.keep J6 nin0)
  have cl10_ := fun (Ls : Array Slot) (hLs : Ls.size = c.maxLocals) => X6.specialBack hx (y := (⟨"java/lang/String", "<init>", "([BB)V"⟩ : MethodName)) rfl hown (mvT hZ (hw _ (List.mem_of_getElem? (i := 235) rfl))) (mvT hZ (hw _ (List.mem_of_getElem? (i := 236) rfl))) (mvT hZ (hw _ (List.mem_of_getElem? (i := 237) rfl))) (by decide) (backOf (W := 1) (rmSI l Z a0 hw [] b5 t_6 (0 : Int32) .null (.int (0 : Int32)) T6.heap n0 (by omega) f7 f8 f9 (by omega) rfl) hZ (hw _ (List.mem_of_getElem? (i := 237) rfl)) (hw _ (List.mem_of_getElem? (i := 4) rfl)) (by decide) (by decide)) (g := mkF m 22 Ls [(.int (0 : Int32)), (.ref t_6), (.ref b5), (.ref b5)]) rfl hLs (Steps.refl _) (a := b5) (argsL := [(.ref t_6), (.int (0 : Int32))]) (rest := [(.ref b5)]) (lenOf pd_2 rfl) rfl (by show 2 * 0 + _ ≤ _; exact Nat.le_of_eq rfl) (hb hby d_jdk_42_m139_22) (fun _ _ => ⟨rfl, rfl, (by decide : 0 + 0 + 1 + 1 + 0 ≤ _), (by decide : 0 + 0 + 4 + 1 + 0 ≤ _)⟩)
  refine Wk.back (n := 25) (rc := 0) (rs := 0) (Q := Q_rmSI Z b5 t_6 (0 : Int32) .null (.int (0 : Int32)) T6.heap n0) (cl10_ _ (by rw [hml]; rfl)) fun vn10 T10 L10 X10 hQ10 => ?_
  clear cl10_
  obtain ⟨rfl, M10, J10, p10_0, p10_1, p10_2⟩ := hQ10
  have N10 := Fr.app N6 M10
  have sz10 := J10.1
  have K10 := K6.trans J10 (allS (Or.inr (by omega)) all0)
  have lt_p10_0 := ny p10_0.lt
  show Wk p e below _ T10 (mkF m 25 _ [(.ref b5)])
  have f11 := (p6_0.keep J10 (ninS (nz (by omega)) nin0))
  exact Wk.leave X10 (v := some (.ref b5)) (fun h => by rw [Bd.returns] at h; cases h) hlk rfl ⟨b5, t_6, kb_6, rfl, N10, K10, p10_0, p10_1, p10_2, f11, (by omega), (by omega)⟩ (by decide) (by decide) (fun fs hr => retA X10 hx rfl Bd.returns rfl (hb hby d_jdk_42_m139_25) hr)
def Q_sbI1 (Z : State) (a1 : Addr) (u1 : Value) (zc : Int32) (h0 : Heap) (n0 : Nat) (v : Option Value) (h : Heap) (L : List Loc) : Prop := ∃ (t : Addr) (kb : ClassId), v = none ∧ Fr n0 L ∧ Keep h0 h [a1] ∧ Exa Z h a1 "java/lang/StringBuilder" ∧ Fld Z h a1 "java/lang/AbstractStringBuilder" "value" "[B" (.ref t) ∧ Fld Z h a1 "java/lang/AbstractStringBuilder" "coder" "B" (.int (0 : Int32)) ∧ Fld Z h a1 "java/lang/AbstractStringBuilder" "count" "I" (.int (Int32.ofNat ([] : List Int32).length)) ∧ Arv Z h t kb .byte (Int32.ofNat 16) (bsV ([] : List Int32)) (.int (0 : Int32)) ∧ (h0.size ≤ t)
theorem ef_sbI1 (m : MethodId) (x0 : Addr) : entryFrame m #[(.ref x0), (.int (16 : Int32))] 2 = mkF m 0 #[.val (.ref x0), .val (.int (16 : Int32))] [] := by first | (simp [entryFrame, mkF, argsToLocals, Value.category]; done) | rfl
theorem pn_java_lang_AbstractStringBuilder : plainName "java/lang/AbstractStringBuilder" = true := by first | (simp [plainName, overriddenIn]; done) | decide +kernel
theorem d_jdk_68_m2_0 : decode jdk_68_method_2_code 0 = .ok (.aload_n 0, 1) := by decide +kernel
theorem d_jdk_68_m2_1 : decode jdk_68_method_2_code 1 = .ok (.invokespecial 3, 3) := by decide +kernel
theorem d_jdk_68_m2_4 : decode jdk_68_method_2_code 4 = .ok (.getstatic 18, 3) := by decide +kernel
theorem d_jdk_68_m2_7 : decode jdk_68_method_2_code 7 = .ok (.ifCond .eq 18, 3) := by decide +kernel
theorem d_jdk_68_m2_10 : decode jdk_68_method_2_code 10 = .ok (.aload_n 0, 1) := by decide +kernel
theorem d_jdk_68_m2_11 : decode jdk_68_method_2_code 11 = .ok (.iload_n 1, 1) := by decide +kernel
theorem d_jdk_68_m2_12 : decode jdk_68_method_2_code 12 = .ok (.newarray .byte, 2) := by decide +kernel
theorem d_jdk_68_m2_14 : decode jdk_68_method_2_code 14 = .ok (.putfield 15, 3) := by decide +kernel
theorem d_jdk_68_m2_17 : decode jdk_68_method_2_code 17 = .ok (.aload_n 0, 1) := by decide +kernel
theorem d_jdk_68_m2_18 : decode jdk_68_method_2_code 18 = .ok (.iconst 0, 1) := by decide +kernel
theorem d_jdk_68_m2_19 : decode jdk_68_method_2_code 19 = .ok (.putfield 22, 3) := by decide +kernel
theorem d_jdk_68_m2_22 : decode jdk_68_method_2_code 22 = .ok (.goto 16, 3) := by decide +kernel
theorem d_jdk_68_m2_38 : decode jdk_68_method_2_code 38 = .ok (.return_, 1) := by decide +kernel
set_option maxRecDepth 65536 in
set_option maxHeartbeats 40000000 in
theorem sbI1 (l : Launch) (Z : State) (a0 : Array Value) (hw : ∀ d ∈ tables_1, d.before a0 Z = true) (ws : List Jvm.Cond) (a1 : Addr) (u1 : Value) (zc : Int32) (h0 : Heap) (n0 : Nat) (Z0 : n0 ≤ h0.size) (E1 : Exa Z h0 a1 "java/lang/StringBuilder") (F1 : Fld Z h0 a1 "java/lang/AbstractStringBuilder" "value" "[B" u1) (F2 : Fld Z h0 a1 "java/lang/AbstractStringBuilder" "coder" "B" (.int (0 : Int32))) (F3 : Fld Z h0 a1 "java/lang/AbstractStringBuilder" "count" "I" (.int (0 : Int32))) (S4 : Sta Z Z.heap "java/lang/String" "COMPACT_STRINGS" "Z" (.int zc)) (O1 : Old Z n0 h0) (g1 : n0 ≤ a1) (hCS : ¬ zc = 0) :
    MetFree l (⟨"java/lang/AbstractStringBuilder", "<init>", "(I)V"⟩ : MethodName) (head1 (Jvm.Cond.code (⟨"java/lang/AbstractStringBuilder", "<init>", "(I)V"⟩ : MethodName) jdk_68_method_2_code 2 none :: ws) ({ frames := 1, cells := 1, slots := 16, locals := 12 } : Room)) (fun a U => a = #[(.ref a1), (.int (16 : Int32))] ∧ Z.Warmed39 U.vm ∧ U.heap = h0) (fun _ _ _ _ _ => True) (fun _ U o U' => ∃ v L, o = .returned v ∧ Q_sbI1 Z a1 u1 zc h0 n0 v U'.heap L ∧ FrameEnd U o U' L ({ frames := 1, cells := 1, slots := 16, locals := 12 } : Room).cells ({ frames := 1, cells := 1, slots := 16, locals := 12 } : Room).slots) := by
  refine MetFree.of_bodySF (plainFor_of_name pn_java_lang_AbstractStringBuilder) hisR ?_
  intro p e s m args below meth c s₁ Bd hml0 hP hK
  obtain ⟨rfl, hZ, hh⟩ := hP
  have hx := Bd.exec
  have hby := Bd.bytes
  have hlk := BodyLoose.notSynchronized Bd
  have hml : c.maxLocals = 2 := hml0
  have hown : s.vm.findClass "java/lang/AbstractStringBuilder" = some m.cls := findClass_of_methodNamed Bd.named
  have hnm := (name_of_methodNamed Bd.named Bd.method).1
  have X0 : Stand p l e ({ frames := 1, cells := 1, slots := 16, locals := 12 } : Room) s m #[(.ref a1), (.int (16 : Int32))] below meth c s₁ [] 0 0 := Stand.of_body Bd
  have e0 : s₁.heap = h0 := by rw [← hh, Bd.state]; rfl
  have N0 := Fr.nil n0
  have K0 := Keep.refl h0 [a1]
  clear hh
  show Wk p e below (EndN s (Q_sbI1 Z a1 u1 zc h0 n0) ({ frames := 1, cells := 1, slots := 16, locals := 12 } : Room).cells ({ frames := 1, cells := 1, slots := 16, locals := 12 } : Room).slots) s₁ (entryFrame m #[(.ref a1), (.int (16 : Int32))] 2)
  rw [ef_sbI1]
  have lt_E1 := ny E1.lt
  have lt_F1 := ny F1.lt
  have lt_F2 := ny F2.lt
  have lt_F3 := ny F3.lt
  refine Wk.aloadN X0 hx (hb hby d_jdk_68_m2_0) (n := 1) rfl rfl rfl ?_
  refine Wk.initO X0 hx hZ hown (hw _ (List.mem_of_getElem? (i := 60) rfl)) (hw _ (List.mem_of_getElem? (i := 13) rfl)) (hw _ (List.mem_of_getElem? (i := 14) rfl)) e0 (by rw [hml]; rfl) (hb hby d_jdk_68_m2_1) (n := 4) rfl (by decide) (w := 0) (Nat.le_of_eq rfl) (by decide) fun T1 X1 e1 => ?_
  refine Wk.getS X1 hx hZ hown (host := "") (Or.inl (hw _ (List.mem_of_getElem? (i := 61) rfl))) Via.refl e1 (Sta.ext O1.2 S4) (hb hby d_jdk_68_m2_4) (n := 7) rfl fun T2 X2 e2 => ?_
  have hc7_3 : ¬ (zc = (0 : Int32)) := hCS
  refine Wk.ifNo X2 hx (hb hby d_jdk_68_m2_7) (n := 10) rfl ((if0 _ _).trans (feq hc7_3).1) ?_
  refine Wk.aloadN X2 hx (hb hby d_jdk_68_m2_10) (n := 11) rfl rfl rfl ?_
  refine Wk.iloadN X2 hx (hb hby d_jdk_68_m2_11) (n := 12) rfl rfl ?_
  refine Wk.newP X2 hx hZ (hw _ (List.mem_of_getElem? (i := 16) rfl)) e2 (hb hby d_jdk_68_m2_12) (n := 14) rfl (by decide) (cap := 16) (by decide) (by decide) (by decide) (by decide) fun T4 H4 b4 k4 gn4 X4 e4 Ex4 An4 => ?_
  have gn4 := nx gn4
  have sz4 := Ex4.1
  have K4 := K0.ext Ex4
  have Vn4 : Arv Z H4 b4 k4 .byte (16 : Int32) [(.int (0 : Int32)), (.int (0 : Int32)), (.int (0 : Int32)), (.int (0 : Int32)), (.int (0 : Int32)), (.int (0 : Int32)), (.int (0 : Int32)), (.int (0 : Int32)), (.int (0 : Int32)), (.int (0 : Int32)), (.int (0 : Int32)), (.int (0 : Int32)), (.int (0 : Int32)), (.int (0 : Int32)), (.int (0 : Int32)), (.int (0 : Int32))] (.int (0 : Int32)) := (Arv.new An4 (by decide)).pad (pad_rep [] (.int (0 : Int32)) 16)
  have lt4 := ny Vn4.lt
  have f5 := (F1.ext Ex4)
  have f6 := (E1.ext Ex4)
  refine Wk.putF X4 hx hZ hown (host := "") (Or.inl (hw _ (List.mem_of_getElem? (i := 62) rfl))) Via.refl e4 f5 f6 (Or.inl (hw _ (List.mem_of_getElem? (i := 63) rfl))) (hw _ (List.mem_of_getElem? (i := 49) rfl)) (ty := (.array .byte)) (by decide) rfl rfl (hb hby d_jdk_68_m2_14) (n := 17) rfl fun T7 H7 X7 e7 Wn7 => ?_
  have sz7 := Wn7.size
  have Fn7 := f5.same Wn7
  have K7 := K4.wr Wn7 (Or.inl (List.mem_of_getElem? (i := 0) rfl))
  have N7 := Fr.snoc X7 N0 (by omega)
  refine Wk.aloadN X7 hx (hb hby d_jdk_68_m2_17) (n := 18) rfl rfl rfl ?_
  refine Wk.iconst X7 hx (hb hby d_jdk_68_m2_18) (n := 19) rfl (z := (0 : Int32)) rfl ?_
  have f8 := ((F2.ext Ex4).other Wn7 (Or.inr (slot_ne (Or.inl (hw _ (List.mem_of_getElem? (i := 65) rfl))) (Or.inl (hw _ (List.mem_of_getElem? (i := 63) rfl))) (by decide) (t := .byte) (t' := (.array .byte)) (by decide) (by decide))))
  have f9 := (f6.wr Wn7)
  refine Wk.putFN X7 hx hZ hown (hw _ (List.mem_of_getElem? (i := 64) rfl)) Via.refl e7 f8 f9 (Or.inl (hw _ (List.mem_of_getElem? (i := 65) rfl))) (hw _ (List.mem_of_getElem? (i := 49) rfl)) (ty := .byte) (by decide) (v' := (.int (0 : Int32))) rfl rfl (hb hby d_jdk_68_m2_19) (n := 22) rfl fun T10 H10 X10 e10 Wn10 => ?_
  have sz10 := Wn10.size
  have Fn10 := f8.same Wn10
  have K10 := K7.wr Wn10 (Or.inl (List.mem_of_getElem? (i := 0) rfl))
  have N10 := Fr.snoc X10 N7 (by omega)
  refine Wk.goto X10 hx (hb hby d_jdk_68_m2_22) (by decide) (n := 38) (by decide) ?_
  have f11 := ((Vn4.other Wn7 (nz (by omega))).other Wn10 (nz (by omega)))
  have f12 := (f9.wr Wn10)
  have f13 := (Fn7.other Wn10 (Or.inr (slot_ne (Or.inl (hw _ (List.mem_of_getElem? (i := 63) rfl))) (Or.inl (hw _ (List.mem_of_getElem? (i := 65) rfl))) (by decide) (t := (.array .byte)) (t' := .byte) (by decide) (by decide))))
  have f14 := (((F3.ext Ex4).other Wn7 (Or.inr (slot_ne (Or.inl (hw _ (List.mem_of_getElem? (i := 88) rfl))) (Or.inl (hw _ (List.mem_of_getElem? (i := 63) rfl))) (by decide) (t := .int) (t' := (.array .byte)) (by decide) (by decide)))).other Wn10 (Or.inr (slot_ne (Or.inl (hw _ (List.mem_of_getElem? (i := 88) rfl))) (Or.inl (hw _ (List.mem_of_getElem? (i := 65) rfl))) (by decide) (t := .int) (t' := .byte) (by decide) (by decide))))
  exact Wk.leave X10 (v := none) (fun _ => rfl) hlk e10 ⟨b4, k4, rfl, N10, K10, f12, f13, Fn10, f14, (Arv.pad f11 (fun i => (pad_rep [] _ 16 i).symm)), (by omega)⟩ (by decide) (by decide) (fun fs hr => X10.returnOut hx Bd.returns (hb hby d_jdk_68_m2_38) hr)
def Q_sbI0 (Z : State) (a1 : Addr) (u1 : Value) (zc : Int32) (h0 : Heap) (n0 : Nat) (v : Option Value) (h : Heap) (L : List Loc) : Prop := ∃ (t : Addr) (kb : ClassId), v = none ∧ Fr n0 L ∧ Keep h0 h [a1] ∧ Exa Z h a1 "java/lang/StringBuilder" ∧ Fld Z h a1 "java/lang/AbstractStringBuilder" "value" "[B" (.ref t) ∧ Fld Z h a1 "java/lang/AbstractStringBuilder" "coder" "B" (.int (0 : Int32)) ∧ Fld Z h a1 "java/lang/AbstractStringBuilder" "count" "I" (.int (Int32.ofNat ([] : List Int32).length)) ∧ Arv Z h t kb .byte (Int32.ofNat 16) (bsV ([] : List Int32)) (.int (0 : Int32)) ∧ (h0.size ≤ t)
theorem ef_sbI0 (m : MethodId) (x0 : Addr) : entryFrame m #[(.ref x0)] 1 = mkF m 0 #[.val (.ref x0)] [] := by first | (simp [entryFrame, mkF, argsToLocals, Value.category]; done) | rfl
theorem pn_java_lang_StringBuilder : plainName "java/lang/StringBuilder" = true := by first | (simp [plainName, overriddenIn]; done) | decide +kernel
theorem d_jdk_67_m1_0 : decode jdk_67_method_1_code 0 = .ok (.aload_n 0, 1) := by decide +kernel
theorem d_jdk_67_m1_1 : decode jdk_67_method_1_code 1 = .ok (.bipush 16, 2) := by decide +kernel
theorem d_jdk_67_m1_3 : decode jdk_67_method_1_code 3 = .ok (.invokespecial 1, 3) := by decide +kernel
theorem pd_3 : parseMethodDescriptor "(I)V" = some ⟨[.int], none⟩ := by decide +kernel
theorem d_jdk_67_m1_6 : decode jdk_67_method_1_code 6 = .ok (.return_, 1) := by decide +kernel
set_option maxRecDepth 65536 in
set_option maxHeartbeats 40000000 in
theorem sbI0 (l : Launch) (Z : State) (a0 : Array Value) (hw : ∀ d ∈ tables_1, d.before a0 Z = true) (ws : List Jvm.Cond) (a1 : Addr) (u1 : Value) (zc : Int32) (h0 : Heap) (n0 : Nat) (Z0 : n0 ≤ h0.size) (E1 : Exa Z h0 a1 "java/lang/StringBuilder") (F1 : Fld Z h0 a1 "java/lang/AbstractStringBuilder" "value" "[B" u1) (F2 : Fld Z h0 a1 "java/lang/AbstractStringBuilder" "coder" "B" (.int (0 : Int32))) (F3 : Fld Z h0 a1 "java/lang/AbstractStringBuilder" "count" "I" (.int (0 : Int32))) (S4 : Sta Z Z.heap "java/lang/String" "COMPACT_STRINGS" "Z" (.int zc)) (O1 : Old Z n0 h0) (g1 : n0 ≤ a1) (hCS : ¬ zc = 0) :
    MetFree l (⟨"java/lang/StringBuilder", "<init>", "()V"⟩ : MethodName) (head1 (Jvm.Cond.code (⟨"java/lang/StringBuilder", "<init>", "()V"⟩ : MethodName) jdk_67_method_1_code 1 none :: ws) ({ frames := 2, cells := 1, slots := 16, locals := 25 } : Room)) (fun a U => a = #[(.ref a1)] ∧ Z.Warmed39 U.vm ∧ U.heap = h0) (fun _ _ _ _ _ => True) (fun _ U o U' => ∃ v L, o = .returned v ∧ Q_sbI0 Z a1 u1 zc h0 n0 v U'.heap L ∧ FrameEnd U o U' L ({ frames := 2, cells := 1, slots := 16, locals := 25 } : Room).cells ({ frames := 2, cells := 1, slots := 16, locals := 25 } : Room).slots) := by
  refine MetFree.of_bodySF (plainFor_of_name pn_java_lang_StringBuilder) hisR ?_
  intro p e s m args below meth c s₁ Bd hml0 hP hK
  obtain ⟨rfl, hZ, hh⟩ := hP
  have hx := Bd.exec
  have hby := Bd.bytes
  have hlk := BodyLoose.notSynchronized Bd
  have hml : c.maxLocals = 1 := hml0
  have hown : s.vm.findClass "java/lang/StringBuilder" = some m.cls := findClass_of_methodNamed Bd.named
  have hnm := (name_of_methodNamed Bd.named Bd.method).1
  have X0 : Stand p l e ({ frames := 2, cells := 1, slots := 16, locals := 25 } : Room) s m #[(.ref a1)] below meth c s₁ [] 0 0 := Stand.of_body Bd
  have e0 : s₁.heap = h0 := by rw [← hh, Bd.state]; rfl
  have N0 := Fr.nil n0
  have K0 := Keep.refl h0 [a1]
  clear hh
  show Wk p e below (EndN s (Q_sbI0 Z a1 u1 zc h0 n0) ({ frames := 2, cells := 1, slots := 16, locals := 25 } : Room).cells ({ frames := 2, cells := 1, slots := 16, locals := 25 } : Room).slots) s₁ (entryFrame m #[(.ref a1)] 1)
  rw [ef_sbI0]
  have lt_E1 := ny E1.lt
  have lt_F1 := ny F1.lt
  have lt_F2 := ny F2.lt
  have lt_F3 := ny F3.lt
  refine Wk.aloadN X0 hx (hb hby d_jdk_67_m1_0) (n := 1) rfl rfl rfl ?_
  refine Wk.bipush X0 hx (hb hby d_jdk_67_m1_1) (n := 3) rfl (z := (16 : Int32)) rfl ?_
  have cl1_ := fun (Ls : Array Slot) (hLs : Ls.size = c.maxLocals) => X0.specialBack hx (y := (⟨"java/lang/AbstractStringBuilder", "<init>", "(I)V"⟩ : MethodName)) rfl hown (mvT hZ (hw _ (List.mem_of_getElem? (i := 54) rfl))) (mvT hZ (hw _ (List.mem_of_getElem? (i := 55) rfl))) (mvT hZ (hw _ (List.mem_of_getElem? (i := 59) rfl))) (by decide) (backOf (W := 0) (sbI1 l Z a0 hw [] a1 u1 zc h0 n0 (by omega) E1 F1 F2 F3 S4 O1 (by omega) hCS) hZ (hw _ (List.mem_of_getElem? (i := 59) rfl)) (hw _ (List.mem_of_getElem? (i := 58) rfl)) (by decide) (by decide)) (g := mkF m 3 Ls [(.int (16 : Int32)), (.ref a1)]) rfl hLs (Steps.refl _) (a := a1) (argsL := [(.int (16 : Int32))]) (rest := []) (lenOf pd_3 rfl) rfl (by show 2 * 0 + _ ≤ _; exact Nat.le_of_eq rfl) (hb hby d_jdk_67_m1_3) (fun _ _ => ⟨rfl, e0, (by decide : 0 + 1 ≤ _), (by decide : 0 + 16 ≤ _)⟩)
  refine Wk.back (n := 6) (rc := 1) (rs := 16) (Q := Q_sbI1 Z a1 u1 zc h0 n0) (cl1_ _ (by rw [hml]; rfl)) fun vn1 T1 L1 X1 hQ1 => ?_
  clear cl1_
  obtain ⟨t_1, kb_1, rfl, M1, J1, p1_0, p1_1, p1_2, p1_3, p1_4, gt_1⟩ := hQ1
  have N1 := Fr.app N0 M1
  have sz1 := J1.1
  have K1 := K0.trans J1 (allS (Or.inl (List.mem_of_getElem? (i := 0) rfl)) all0)
  have lt_p1_0 := ny p1_0.lt
  have lt_p1_4 := ny p1_4.lt
  show Wk p e below _ T1 (mkF m 6 _ [])
  exact Wk.leave X1 (v := none) (fun _ => rfl) hlk rfl ⟨t_1, kb_1, rfl, N1, K1, p1_0, p1_1, p1_2, p1_3, p1_4, (by omega)⟩ (by decide) (by decide) (fun fs hr => X1.returnOut hx Bd.returns (hb hby d_jdk_67_m1_6) hr)
def Q_sbCo (Z : State) (a1 : Addr) (zc : Int32) (h0 : Heap) (n0 : Nat) (v : Option Value) (h : Heap) (L : List Loc) : Prop := v = some (.int (0 : Int32)) ∧ Fr n0 L ∧ h = h0
theorem ef_sbCo (m : MethodId) (x0 : Addr) : entryFrame m #[(.ref x0)] 1 = mkF m 0 #[.val (.ref x0)] [] := by first | (simp [entryFrame, mkF, argsToLocals, Value.category]; done) | rfl
theorem d_jdk_42_m152_0 : decode jdk_42_method_152_code 0 = .ok (.getstatic 38, 3) := by decide +kernel
theorem d_jdk_42_m152_3 : decode jdk_42_method_152_code 3 = .ok (.ifCond .eq 10, 3) := by decide +kernel
theorem d_jdk_42_m152_6 : decode jdk_42_method_152_code 6 = .ok (.aload_n 0, 1) := by decide +kernel
theorem d_jdk_42_m152_7 : decode jdk_42_method_152_code 7 = .ok (.getfield 15, 3) := by decide +kernel
theorem d_jdk_42_m152_10 : decode jdk_42_method_152_code 10 = .ok (.goto 4, 3) := by decide +kernel
theorem d_jdk_42_m152_14 : decode jdk_42_method_152_code 14 = .ok (.ireturn, 1) := by decide +kernel
set_option maxRecDepth 65536 in
set_option maxHeartbeats 40000000 in
theorem sbCo (l : Launch) (Z : State) (a0 : Array Value) (hw : ∀ d ∈ tables_1, d.before a0 Z = true) (ws : List Jvm.Cond) (a1 : Addr) (zc : Int32) (h0 : Heap) (n0 : Nat) (Z0 : n0 ≤ h0.size) (F1 : Fld Z h0 a1 "java/lang/String" "coder" "B" (.int (0 : Int32))) (S4 : Sta Z Z.heap "java/lang/String" "COMPACT_STRINGS" "Z" (.int zc)) (O1 : Old Z n0 h0) (hCS : ¬ zc = 0) :
    MetFree l (⟨"java/lang/String", "coder", "()B"⟩ : MethodName) (head1 (Jvm.Cond.code (⟨"java/lang/String", "coder", "()B"⟩ : MethodName) jdk_42_method_152_code 1 (some .byte) :: ws) ({ frames := 0, cells := 0, slots := 0, locals := 0 } : Room)) (fun a U => a = #[(.ref a1)] ∧ Z.Warmed39 U.vm ∧ U.heap = h0) (fun _ _ _ _ _ => True) (fun _ U o U' => ∃ v L, o = .returned v ∧ Q_sbCo Z a1 zc h0 n0 v U'.heap L ∧ FrameEnd U o U' L ({ frames := 0, cells := 0, slots := 0, locals := 0 } : Room).cells ({ frames := 0, cells := 0, slots := 0, locals := 0 } : Room).slots) := by
  refine MetFree.of_bodySF (plainFor_of_name pn_java_lang_String) hisR ?_
  intro p e s m args below meth c s₁ Bd hml0 hP hK
  obtain ⟨rfl, hZ, hh⟩ := hP
  have hx := Bd.exec
  have hby := Bd.bytes
  have hlk := BodyLoose.notSynchronized Bd
  have hml : c.maxLocals = 1 := hml0
  have hown : s.vm.findClass "java/lang/String" = some m.cls := findClass_of_methodNamed Bd.named
  have hnm := (name_of_methodNamed Bd.named Bd.method).1
  have X0 : Stand p l e ({ frames := 0, cells := 0, slots := 0, locals := 0 } : Room) s m #[(.ref a1)] below meth c s₁ [] 0 0 := Stand.of_body Bd
  have e0 : s₁.heap = h0 := by rw [← hh, Bd.state]; rfl
  have N0 := Fr.nil n0
  have K0 := Keep.refl h0 []
  clear hh
  show Wk p e below (EndN s (Q_sbCo Z a1 zc h0 n0) ({ frames := 0, cells := 0, slots := 0, locals := 0 } : Room).cells ({ frames := 0, cells := 0, slots := 0, locals := 0 } : Room).slots) s₁ (entryFrame m #[(.ref a1)] 1)
  rw [ef_sbCo]
  have lt_F1 := ny F1.lt
  refine Wk.getS X0 hx hZ hown (host := "") (Or.inl (hw _ (List.mem_of_getElem? (i := 86) rfl))) Via.refl e0 (Sta.ext O1.2 S4) (hb hby d_jdk_42_m152_0) (n := 3) rfl fun T1 X1 e1 => ?_
  have hc3_2 : ¬ (zc = (0 : Int32)) := hCS
  refine Wk.ifNo X1 hx (hb hby d_jdk_42_m152_3) (n := 6) rfl ((if0 _ _).trans (feq hc3_2).1) ?_
  refine Wk.aloadN X1 hx (hb hby d_jdk_42_m152_6) (n := 7) rfl rfl rfl ?_
  refine Wk.getF X1 hx hZ hown (host := "") (Or.inl (hw _ (List.mem_of_getElem? (i := 22) rfl))) Via.refl e1 F1 (hb hby d_jdk_42_m152_7) (n := 10) rfl fun T3 X3 e3 => ?_
  refine Wk.goto X3 hx (hb hby d_jdk_42_m152_10) (by decide) (n := 14) (by decide) ?_
  exact Wk.leave X3 (v := some (.int (0 : Int32))) (fun h => by rw [Bd.returns] at h; cases h) hlk e3 ⟨rfl, N0, rfl⟩ (by decide) (by decide) (fun fs hr => retNz X3 hx (t := .byte) rfl Bd.returns (by simp) (hb hby d_jdk_42_m152_14) hr)
def Q_sbEC (Z : State) (a1 : Addr) (i1 : Int32) (t1 : Addr) (k1 : ClassId) (cs : List Int32) (qz : Nat) (h0 : Heap) (n0 : Nat) (v : Option Value) (h : Heap) (L : List Loc) : Prop := v = none ∧ Fr n0 L ∧ h = h0
theorem ef_sbEC (m : MethodId) (x0 : Addr) (x1 : Int32) : entryFrame m #[(.ref x0), (.int x1)] 3 = mkF m 0 #[.val (.ref x0), .val (.int x1), .unset] [] := by first | (simp [entryFrame, mkF, argsToLocals, Value.category]; done) | rfl
theorem d_jdk_68_m9_0 : decode jdk_68_method_9_code 0 = .ok (.aload_n 0, 1) := by decide +kernel
theorem d_jdk_68_m9_1 : decode jdk_68_method_9_code 1 = .ok (.getfield 15, 3) := by decide +kernel
theorem d_jdk_68_m9_4 : decode jdk_68_method_9_code 4 = .ok (.arraylength, 1) := by decide +kernel
theorem d_jdk_68_m9_5 : decode jdk_68_method_9_code 5 = .ok (.aload_n 0, 1) := by decide +kernel
theorem d_jdk_68_m9_6 : decode jdk_68_method_9_code 6 = .ok (.getfield 22, 3) := by decide +kernel
theorem d_jdk_68_m9_9 : decode jdk_68_method_9_code 9 = .ok (.ishr, 1) := by decide +kernel
theorem d_jdk_68_m9_10 : decode jdk_68_method_9_code 10 = .ok (.istore_n 2, 1) := by decide +kernel
theorem d_jdk_68_m9_11 : decode jdk_68_method_9_code 11 = .ok (.iload_n 1, 1) := by decide +kernel
theorem d_jdk_68_m9_12 : decode jdk_68_method_9_code 12 = .ok (.iload_n 2, 1) := by decide +kernel
theorem d_jdk_68_m9_13 : decode jdk_68_method_9_code 13 = .ok (.isub, 1) := by decide +kernel
theorem d_jdk_68_m9_14 : decode jdk_68_method_9_code 14 = .ok (.ifCond .le 24, 3) := by decide +kernel
theorem d_jdk_68_m9_38 : decode jdk_68_method_9_code 38 = .ok (.return_, 1) := by decide +kernel
set_option maxRecDepth 65536 in
set_option maxHeartbeats 40000000 in
theorem sbEC (l : Launch) (Z : State) (a0 : Array Value) (hw : ∀ d ∈ tables_1, d.before a0 Z = true) (ws : List Jvm.Cond) (a1 : Addr) (i1 : Int32) (t1 : Addr) (k1 : ClassId) (cs : List Int32) (qz : Nat) (h0 : Heap) (n0 : Nat) (Z0 : n0 ≤ h0.size) (Eb1 : Exa Z h0 a1 "java/lang/StringBuilder") (Gv1 : Fld Z h0 a1 "java/lang/AbstractStringBuilder" "value" "[B" (.ref t1)) (Gc1 : Fld Z h0 a1 "java/lang/AbstractStringBuilder" "coder" "B" (.int (0 : Int32))) (Ab1 : Arv Z h0 t1 k1 .byte (Int32.ofNat 16) (bsV cs) (.int (0 : Int32))) (hi : i1 = Int32.ofNat qz) (hq : qz ≤ 16) :
    MetFree l (⟨"java/lang/AbstractStringBuilder", "ensureCapacityInternal", "(I)V"⟩ : MethodName) (head1 (Jvm.Cond.code (⟨"java/lang/AbstractStringBuilder", "ensureCapacityInternal", "(I)V"⟩ : MethodName) jdk_68_method_9_code 3 none :: ws) ({ frames := 0, cells := 0, slots := 0, locals := 0 } : Room)) (fun a U => a = #[(.ref a1), (.int i1)] ∧ Z.Warmed39 U.vm ∧ U.heap = h0) (fun _ _ _ _ _ => True) (fun _ U o U' => ∃ v L, o = .returned v ∧ Q_sbEC Z a1 i1 t1 k1 cs qz h0 n0 v U'.heap L ∧ FrameEnd U o U' L ({ frames := 0, cells := 0, slots := 0, locals := 0 } : Room).cells ({ frames := 0, cells := 0, slots := 0, locals := 0 } : Room).slots) := by
  refine MetFree.of_bodySF (plainFor_of_name pn_java_lang_AbstractStringBuilder) hisR ?_
  intro p e s m args below meth c s₁ Bd hml0 hP hK
  obtain ⟨rfl, hZ, hh⟩ := hP
  have hx := Bd.exec
  have hby := Bd.bytes
  have hlk := BodyLoose.notSynchronized Bd
  have hml : c.maxLocals = 3 := hml0
  have hown : s.vm.findClass "java/lang/AbstractStringBuilder" = some m.cls := findClass_of_methodNamed Bd.named
  have hnm := (name_of_methodNamed Bd.named Bd.method).1
  have X0 : Stand p l e ({ frames := 0, cells := 0, slots := 0, locals := 0 } : Room) s m #[(.ref a1), (.int i1)] below meth c s₁ [] 0 0 := Stand.of_body Bd
  have e0 : s₁.heap = h0 := by rw [← hh, Bd.state]; rfl
  have N0 := Fr.nil n0
  have K0 := Keep.refl h0 []
  clear hh
  show Wk p e below (EndN s (Q_sbEC Z a1 i1 t1 k1 cs qz h0 n0) ({ frames := 0, cells := 0, slots := 0, locals := 0 } : Room).cells ({ frames := 0, cells := 0, slots := 0, locals := 0 } : Room).slots) s₁ (entryFrame m #[(.ref a1), (.int i1)] 3)
  rw [ef_sbEC]
  have lt_Eb1 := ny Eb1.lt
  have lt_Gv1 := ny Gv1.lt
  have lt_Gc1 := ny Gc1.lt
  have lt_Ab1 := ny Ab1.lt
  refine Wk.aloadN X0 hx (hb hby d_jdk_68_m9_0) (n := 1) rfl rfl rfl ?_
  refine Wk.getF X0 hx hZ hown (host := "") (Or.inl (hw _ (List.mem_of_getElem? (i := 62) rfl))) Via.refl e0 Gv1 (hb hby d_jdk_68_m9_1) (n := 4) rfl fun T1 X1 e1 => ?_
  obtain ⟨cl2, Ar2, qn2, Sz2, N_2, H_2, Gn2⟩ := id Ab1
  refine Wk.arrlen X1 hx hZ e1 Ar2 Sz2 N_2 (hb hby d_jdk_68_m9_4) (n := 5) rfl ?_
  refine Wk.aloadN X1 hx (hb hby d_jdk_68_m9_5) (n := 6) rfl rfl rfl ?_
  refine Wk.getF X1 hx hZ hown (host := "") (Or.inl (hw _ (List.mem_of_getElem? (i := 64) rfl))) Via.refl e1 Gc1 (hb hby d_jdk_68_m9_6) (n := 9) rfl fun T3 X3 e3 => ?_
  refine Wk.ishr X3 hx (hb hby d_jdk_68_m9_9) (n := 10) rfl ?_
  refine Wk.istoreN X3 hx (hb hby d_jdk_68_m9_10) (n := 11) rfl (L' := #[.val (.ref a1), .val (.int i1), .val (.int ((Int32.ofNat 16) >>> ((0 : Int32) &&& 31)))]) rfl ?_
  refine Wk.iloadN X3 hx (hb hby d_jdk_68_m9_11) (n := 12) rfl rfl ?_
  refine Wk.iloadN X3 hx (hb hby d_jdk_68_m9_12) (n := 13) rfl rfl ?_
  refine Wk.isub X3 hx (hb hby d_jdk_68_m9_13) (n := 14) rfl ?_
  have hc14_4 : ¬ ((0 : Int32) < (i1 - ((Int32.ofNat 16) >>> ((0 : Int32) &&& 31)))) := by rw [hi]; exact own_ec hq (by decide)
  refine Wk.ifYes X3 hx (hb hby d_jdk_68_m9_14) ((if0 _ _).trans (flt hc14_4).2.2.2) (by decide) (n := 38) (by decide) ?_
  exact Wk.leave X3 (v := none) (fun _ => rfl) hlk e3 ⟨rfl, N0, rfl⟩ (by decide) (by decide) (fun fs hr => X3.returnOut hx Bd.returns (hb hby d_jdk_68_m9_38) hr)
def Q_sbIN (Z : State) (a1 : Addr) (x1 : Addr) (zc : Int32) (h0 : Heap) (n0 : Nat) (v : Option Value) (h : Heap) (L : List Loc) : Prop := v = none ∧ Fr n0 L ∧ h = h0
theorem ef_sbIN (m : MethodId) (x0 : Addr) (x1 : Addr) : entryFrame m #[(.ref x0), (.ref x1)] 2 = mkF m 0 #[.val (.ref x0), .val (.ref x1)] [] := by first | (simp [entryFrame, mkF, argsToLocals, Value.category]; done) | rfl
theorem d_jdk_68_m71_0 : decode jdk_68_method_71_code 0 = .ok (.getstatic 18, 3) := by decide +kernel
theorem d_jdk_68_m71_3 : decode jdk_68_method_71_code 3 = .ok (.ifCond .eq 18, 3) := by decide +kernel
theorem d_jdk_68_m71_6 : decode jdk_68_method_71_code 6 = .ok (.aload_n 0, 1) := by decide +kernel
theorem d_jdk_68_m71_7 : decode jdk_68_method_71_code 7 = .ok (.getfield 22, 3) := by decide +kernel
theorem d_jdk_68_m71_10 : decode jdk_68_method_71_code 10 = .ok (.aload_n 1, 1) := by decide +kernel
theorem d_jdk_68_m71_11 : decode jdk_68_method_71_code 11 = .ok (.invokevirtual 40, 3) := by decide +kernel
theorem pd_4 : parseMethodDescriptor "()B" = some ⟨[], some .byte⟩ := by decide +kernel
theorem d_jdk_68_m71_14 : decode jdk_68_method_71_code 14 = .ok (.if_icmp .eq 7, 3) := by decide +kernel
theorem d_jdk_68_m71_21 : decode jdk_68_method_71_code 21 = .ok (.return_, 1) := by decide +kernel
set_option maxRecDepth 65536 in
set_option maxHeartbeats 40000000 in
theorem sbIN (l : Launch) (Z : State) (a0 : Array Value) (hw : ∀ d ∈ tables_1, d.before a0 Z = true) (ws : List Jvm.Cond) (a1 : Addr) (x1 : Addr) (zc : Int32) (h0 : Heap) (n0 : Nat) (Z0 : n0 ≤ h0.size) (E1 : Exa Z h0 a1 "java/lang/StringBuilder") (F1 : Fld Z h0 a1 "java/lang/AbstractStringBuilder" "coder" "B" (.int (0 : Int32))) (E2 : Exa Z h0 x1 "java/lang/String") (F2 : Fld Z h0 x1 "java/lang/String" "coder" "B" (.int (0 : Int32))) (S4 : Sta Z Z.heap "java/lang/String" "COMPACT_STRINGS" "Z" (.int zc)) (O1 : Old Z n0 h0) (hCS : ¬ zc = 0) :
    MetFree l (⟨"java/lang/AbstractStringBuilder", "inflateIfNeededFor", "(Ljava/lang/String;)V"⟩ : MethodName) (head1 (Jvm.Cond.code (⟨"java/lang/AbstractStringBuilder", "inflateIfNeededFor", "(Ljava/lang/String;)V"⟩ : MethodName) jdk_68_method_71_code 2 none :: ws) ({ frames := 1, cells := 0, slots := 0, locals := 13 } : Room)) (fun a U => a = #[(.ref a1), (.ref x1)] ∧ Z.Warmed39 U.vm ∧ U.heap = h0) (fun _ _ _ _ _ => True) (fun _ U o U' => ∃ v L, o = .returned v ∧ Q_sbIN Z a1 x1 zc h0 n0 v U'.heap L ∧ FrameEnd U o U' L ({ frames := 1, cells := 0, slots := 0, locals := 13 } : Room).cells ({ frames := 1, cells := 0, slots := 0, locals := 13 } : Room).slots) := by
  refine MetFree.of_bodySF (plainFor_of_name pn_java_lang_AbstractStringBuilder) hisR ?_
  intro p e s m args below meth c s₁ Bd hml0 hP hK
  obtain ⟨rfl, hZ, hh⟩ := hP
  have hx := Bd.exec
  have hby := Bd.bytes
  have hlk := BodyLoose.notSynchronized Bd
  have hml : c.maxLocals = 2 := hml0
  have hown : s.vm.findClass "java/lang/AbstractStringBuilder" = some m.cls := findClass_of_methodNamed Bd.named
  have hnm := (name_of_methodNamed Bd.named Bd.method).1
  have X0 : Stand p l e ({ frames := 1, cells := 0, slots := 0, locals := 13 } : Room) s m #[(.ref a1), (.ref x1)] below meth c s₁ [] 0 0 := Stand.of_body Bd
  have e0 : s₁.heap = h0 := by rw [← hh, Bd.state]; rfl
  have N0 := Fr.nil n0
  have K0 := Keep.refl h0 []
  clear hh
  show Wk p e below (EndN s (Q_sbIN Z a1 x1 zc h0 n0) ({ frames := 1, cells := 0, slots := 0, locals := 13 } : Room).cells ({ frames := 1, cells := 0, slots := 0, locals := 13 } : Room).slots) s₁ (entryFrame m #[(.ref a1), (.ref x1)] 2)
  rw [ef_sbIN]
  have lt_E1 := ny E1.lt
  have lt_F1 := ny F1.lt
  have lt_E2 := ny E2.lt
  have lt_F2 := ny F2.lt
  refine Wk.getS X0 hx hZ hown (host := "") (Or.inl (hw _ (List.mem_of_getElem? (i := 61) rfl))) Via.refl e0 (Sta.ext O1.2 S4) (hb hby d_jdk_68_m71_0) (n := 3) rfl fun T1 X1 e1 => ?_
  have hc3_2 : ¬ (zc = (0 : Int32)) := hCS
  refine Wk.ifNo X1 hx (hb hby d_jdk_68_m71_3) (n := 6) rfl ((if0 _ _).trans (feq hc3_2).1) ?_
  refine Wk.aloadN X1 hx (hb hby d_jdk_68_m71_6) (n := 7) rfl rfl rfl ?_
  refine Wk.getF X1 hx hZ hown (host := "") (Or.inl (hw _ (List.mem_of_getElem? (i := 64) rfl))) Via.refl e1 F1 (hb hby d_jdk_68_m71_7) (n := 10) rfl fun T3 X3 e3 => ?_
  refine Wk.aloadN X3 hx (hb hby d_jdk_68_m71_10) (n := 11) rfl rfl rfl ?_
  obtain ⟨cq4, kq4, qn4a, qn4b, qn4c⟩ := isOf hZ e3 E2
  have cl4_ := fun (Ls : Array Slot) (hLs : Ls.size = c.maxLocals) => X3.virtualBack hx (y := (⟨"java/lang/String", "coder", "()B"⟩ : MethodName)) (z := (⟨"java/lang/String", "coder", "()B"⟩ : MethodName)) hown (mvT hZ (hw _ (List.mem_of_getElem? (i := 104) rfl))) (mvT hZ (hw _ (List.mem_of_getElem? (i := 82) rfl))) (notFace_of_selects (args := #[]) (mvT hZ (hw _ (List.mem_of_getElem? (i := 84) rfl)))) (mvT hZ (hw _ (List.mem_of_getElem? (i := 84) rfl))) (mvT hZ (hw _ (List.mem_of_getElem? (i := 83) rfl))) (by decide) (backOf (W := 1) (sbCo l Z a0 hw [] x1 zc h0 n0 (by omega) F2 S4 O1 hCS) hZ (hw _ (List.mem_of_getElem? (i := 85) rfl)) (hw _ (List.mem_of_getElem? (i := 4) rfl)) (by decide) (by decide)) qn4a qn4c (g := mkF m 11 Ls [(.ref x1), (.int (0 : Int32))]) rfl hLs (Steps.refl _) (argsL := []) (rest := [(.int (0 : Int32))]) (lenOf pd_4 rfl) rfl (by show 2 * 0 + _ ≤ _; exact Nat.le_of_eq rfl) (hb hby d_jdk_68_m71_11) (fun _ _ => ⟨rfl, e3, (by decide : 0 + 0 ≤ _), (by decide : 0 + 0 ≤ _)⟩)
  refine Wk.back (n := 14) (rc := 0) (rs := 0) (Q := Q_sbCo Z x1 zc h0 n0) (cl4_ _ (by rw [hml]; rfl)) fun vn4 T4 L4 X4 hQ4 => ?_
  clear cl4_
  obtain ⟨rfl, M4, e4⟩ := hQ4
  have N4 := Fr.app N0 M4
  show Wk p e below _ T4 (mkF m 14 _ [(.int (0 : Int32)), (.int (0 : Int32))])
  have hc14_5 : (0 : Int32) = (0 : Int32) := rfl
  refine Wk.icmpYes X4 hx (hb hby d_jdk_68_m71_14) (teq hc14_5).1 (by decide) (n := 21) (by decide) ?_
  exact Wk.leave X4 (v := none) (fun _ => rfl) hlk e4 ⟨rfl, N4, rfl⟩ (by decide) (by decide) (fun fs hr => X4.returnOut hx Bd.returns (hb hby d_jdk_68_m71_21) hr)
def Q_sbGB (Z : State) (x1 : Addr) (t2 : Addr) (k2 : ClassId) (cx : List Int32) (t1 : Addr) (k1 : ClassId) (cs : List Int32) (i1 : Int32) (zc : Int32) (h0 : Heap) (n0 : Nat) (v : Option Value) (h : Heap) (L : List Loc) : Prop := v = none ∧ Fr n0 L ∧ Keep h0 h [t1] ∧ Arv Z h t1 k1 .byte (Int32.ofNat 16) (bsV (cs ++ cx)) (.int (0 : Int32))
theorem ef_sbGB (m : MethodId) (x0 : Addr) (x1 : Addr) (x2 : Int32) : entryFrame m #[(.ref x0), (.ref x1), (.int x2), (.int (0 : Int32))] 4 = mkF m 0 #[.val (.ref x0), .val (.ref x1), .val (.int x2), .val (.int (0 : Int32))] [] := by first | (simp [entryFrame, mkF, argsToLocals, Value.category]; done) | rfl
theorem d_jdk_42_m147_0 : decode jdk_42_method_147_code 0 = .ok (.aload_n 0, 1) := by decide +kernel
theorem d_jdk_42_m147_1 : decode jdk_42_method_147_code 1 = .ok (.invokevirtual 335, 3) := by decide +kernel
theorem d_jdk_42_m147_4 : decode jdk_42_method_147_code 4 = .ok (.iload_n 3, 1) := by decide +kernel
theorem d_jdk_42_m147_5 : decode jdk_42_method_147_code 5 = .ok (.if_icmp .ne 23, 3) := by decide +kernel
theorem d_jdk_42_m147_8 : decode jdk_42_method_147_code 8 = .ok (.aload_n 0, 1) := by decide +kernel
theorem d_jdk_42_m147_9 : decode jdk_42_method_147_code 9 = .ok (.getfield 9, 3) := by decide +kernel
theorem d_jdk_42_m147_12 : decode jdk_42_method_147_code 12 = .ok (.iconst 0, 1) := by decide +kernel
theorem d_jdk_42_m147_13 : decode jdk_42_method_147_code 13 = .ok (.aload_n 1, 1) := by decide +kernel
theorem d_jdk_42_m147_14 : decode jdk_42_method_147_code 14 = .ok (.iload_n 2, 1) := by decide +kernel
theorem d_jdk_42_m147_15 : decode jdk_42_method_147_code 15 = .ok (.iload_n 3, 1) := by decide +kernel
theorem d_jdk_42_m147_16 : decode jdk_42_method_147_code 16 = .ok (.ishl, 1) := by decide +kernel
theorem d_jdk_42_m147_17 : decode jdk_42_method_147_code 17 = .ok (.aload_n 0, 1) := by decide +kernel
theorem d_jdk_42_m147_18 : decode jdk_42_method_147_code 18 = .ok (.getfield 9, 3) := by decide +kernel
theorem d_jdk_42_m147_21 : decode jdk_42_method_147_code 21 = .ok (.arraylength, 1) := by decide +kernel
theorem d_jdk_42_m147_22 : decode jdk_42_method_147_code 22 = .ok (.invokestatic 212, 3) := by decide +kernel
theorem d_jdk_42_m147_25 : decode jdk_42_method_147_code 25 = .ok (.goto 18, 3) := by decide +kernel
theorem d_jdk_42_m147_43 : decode jdk_42_method_147_code 43 = .ok (.return_, 1) := by decide +kernel
set_option maxRecDepth 65536 in
set_option maxHeartbeats 40000000 in
theorem sbGB (l : Launch) (Z : State) (a0 : Array Value) (hw : ∀ d ∈ tables_1, d.before a0 Z = true) (ws : List Jvm.Cond) (x1 : Addr) (t2 : Addr) (k2 : ClassId) (cx : List Int32) (t1 : Addr) (k1 : ClassId) (cs : List Int32) (i1 : Int32) (zc : Int32) (h0 : Heap) (n0 : Nat) (Z0 : n0 ≤ h0.size) (Es1 : Exa Z h0 x1 "java/lang/String") (Fv1 : Fld Z h0 x1 "java/lang/String" "value" "[B" (.ref t2)) (Fc1 : Fld Z h0 x1 "java/lang/String" "coder" "B" (.int (0 : Int32))) (As1 : Arv Z h0 t2 k2 .byte (Int32.ofNat cx.length) (bsV cx) (.int (0 : Int32))) (Ab1 : Arv Z h0 t1 k1 .byte (Int32.ofNat 16) (bsV cs) (.int (0 : Int32))) (S4 : Sta Z Z.heap "java/lang/String" "COMPACT_STRINGS" "Z" (.int zc)) (O1 : Old Z n0 h0) (hCS : ¬ zc = 0) (hi : i1 = Int32.ofNat cs.length) (hN : cs.length + cx.length ≤ 16) (g1 : n0 ≤ t1) :
    MetFree l (⟨"java/lang/String", "getBytes", "([BIB)V"⟩ : MethodName) (head1 (Jvm.Cond.code (⟨"java/lang/String", "getBytes", "([BIB)V"⟩ : MethodName) jdk_42_method_147_code 4 none :: ws) ({ frames := 1, cells := 0, slots := 0, locals := 32 } : Room)) (fun a U => a = #[(.ref x1), (.ref t1), (.int i1), (.int (0 : Int32))] ∧ Z.Warmed39 U.vm ∧ U.heap = h0) (fun _ _ _ _ _ => True) (fun _ U o U' => ∃ v L, o = .returned v ∧ Q_sbGB Z x1 t2 k2 cx t1 k1 cs i1 zc h0 n0 v U'.heap L ∧ FrameEnd U o U' L ({ frames := 1, cells := 0, slots := 0, locals := 32 } : Room).cells ({ frames := 1, cells := 0, slots := 0, locals := 32 } : Room).slots) := by
  refine MetFree.of_bodySF (plainFor_of_name pn_java_lang_String) hisR ?_
  intro p e s m args below meth c s₁ Bd hml0 hP hK
  obtain ⟨rfl, hZ, hh⟩ := hP
  have hx := Bd.exec
  have hby := Bd.bytes
  have hlk := BodyLoose.notSynchronized Bd
  have hml : c.maxLocals = 4 := hml0
  have hown : s.vm.findClass "java/lang/String" = some m.cls := findClass_of_methodNamed Bd.named
  have hnm := (name_of_methodNamed Bd.named Bd.method).1
  have X0 : Stand p l e ({ frames := 1, cells := 0, slots := 0, locals := 32 } : Room) s m #[(.ref x1), (.ref t1), (.int i1), (.int (0 : Int32))] below meth c s₁ [] 0 0 := Stand.of_body Bd
  have e0 : s₁.heap = h0 := by rw [← hh, Bd.state]; rfl
  have N0 := Fr.nil n0
  have K0 := Keep.refl h0 [t1]
  clear hh
  show Wk p e below (EndN s (Q_sbGB Z x1 t2 k2 cx t1 k1 cs i1 zc h0 n0) ({ frames := 1, cells := 0, slots := 0, locals := 32 } : Room).cells ({ frames := 1, cells := 0, slots := 0, locals := 32 } : Room).slots) s₁ (entryFrame m #[(.ref x1), (.ref t1), (.int i1), (.int (0 : Int32))] 4)
  rw [ef_sbGB]
  have lt_Es1 := ny Es1.lt
  have lt_Fv1 := ny Fv1.lt
  have lt_Fc1 := ny Fc1.lt
  have lt_As1 := ny As1.lt
  have lt_Ab1 := ny Ab1.lt
  refine Wk.aloadN X0 hx (hb hby d_jdk_42_m147_0) (n := 1) rfl rfl rfl ?_
  obtain ⟨cq1, kq1, qn1a, qn1b, qn1c⟩ := isOf hZ e0 Es1
  have cl1_ := fun (Ls : Array Slot) (hLs : Ls.size = c.maxLocals) => X0.virtualBack hx (y := (⟨"java/lang/String", "coder", "()B"⟩ : MethodName)) (z := (⟨"java/lang/String", "coder", "()B"⟩ : MethodName)) hown (mvT hZ (hw _ (List.mem_of_getElem? (i := 81) rfl))) (mvT hZ (hw _ (List.mem_of_getElem? (i := 82) rfl))) (notFace_of_selects (args := #[]) (mvT hZ (hw _ (List.mem_of_getElem? (i := 84) rfl)))) (mvT hZ (hw _ (List.mem_of_getElem? (i := 84) rfl))) (mvT hZ (hw _ (List.mem_of_getElem? (i := 83) rfl))) (by decide) (backOf (W := 0) (sbCo l Z a0 hw [] x1 zc h0 n0 (by omega) Fc1 S4 O1 hCS) hZ (hw _ (List.mem_of_getElem? (i := 85) rfl)) (hw _ (List.mem_of_getElem? (i := 4) rfl)) (by decide) (by decide)) qn1a qn1c (g := mkF m 1 Ls [(.ref x1)]) rfl hLs (Steps.refl _) (argsL := []) (rest := []) (lenOf pd_4 rfl) rfl (by show 2 * 0 + _ ≤ _; exact Nat.le_of_eq rfl) (hb hby d_jdk_42_m147_1) (fun _ _ => ⟨rfl, e0, (by decide : 0 + 0 ≤ _), (by decide : 0 + 0 ≤ _)⟩)
  refine Wk.back (n := 4) (rc := 0) (rs := 0) (Q := Q_sbCo Z x1 zc h0 n0) (cl1_ _ (by rw [hml]; rfl)) fun vn1 T1 L1 X1 hQ1 => ?_
  clear cl1_
  obtain ⟨rfl, M1, e1⟩ := hQ1
  have N1 := Fr.app N0 M1
  show Wk p e below _ T1 (mkF m 4 _ [(.int (0 : Int32))])
  refine Wk.iloadN X1 hx (hb hby d_jdk_42_m147_4) (n := 5) rfl rfl ?_
  have hc5_2 : (0 : Int32) = (0 : Int32) := rfl
  refine Wk.icmpNo X1 hx (hb hby d_jdk_42_m147_5) (n := 8) rfl (teq hc5_2).2 ?_
  refine Wk.aloadN X1 hx (hb hby d_jdk_42_m147_8) (n := 9) rfl rfl rfl ?_
  refine Wk.getF X1 hx hZ hown (host := "") (Or.inl (hw _ (List.mem_of_getElem? (i := 21) rfl))) Via.refl e1 Fv1 (hb hby d_jdk_42_m147_9) (n := 12) rfl fun T3 X3 e3 => ?_
  refine Wk.iconst X3 hx (hb hby d_jdk_42_m147_12) (n := 13) rfl (z := (0 : Int32)) rfl ?_
  refine Wk.aloadN X3 hx (hb hby d_jdk_42_m147_13) (n := 14) rfl rfl rfl ?_
  refine Wk.iloadN X3 hx (hb hby d_jdk_42_m147_14) (n := 15) rfl rfl ?_
  refine Wk.iloadN X3 hx (hb hby d_jdk_42_m147_15) (n := 16) rfl rfl ?_
  refine Wk.ishl X3 hx (hb hby d_jdk_42_m147_16) (n := 17) rfl ?_
  refine Wk.aloadN X3 hx (hb hby d_jdk_42_m147_17) (n := 18) rfl rfl rfl ?_
  refine Wk.getF X3 hx hZ hown (host := "") (Or.inl (hw _ (List.mem_of_getElem? (i := 21) rfl))) Via.refl e3 Fv1 (hb hby d_jdk_42_m147_18) (n := 21) rfl fun T4 X4 e4 => ?_
  obtain ⟨cl5, Ar5, qn5, Sz5, N_5, H_5, Gn5⟩ := id As1
  refine Wk.arrlen X4 hx hZ e4 Ar5 Sz5 N_5 (hb hby d_jdk_42_m147_21) (n := 22) rfl ?_
  have Pd := Arv.pad Ab1 (pad_rep (bsV cs) (.int (0 : Int32)) cx.length)
  refine Wk.cpA X4 hx hZ hown (hw _ (List.mem_of_getElem? (i := 110) rfl)) (hw _ (List.mem_of_getElem? (i := 113) rfl)) (hw _ (List.mem_of_getElem? (i := 111) rfl)) (hw _ (List.mem_of_getElem? (i := 112) rfl)) e4 As1 Pd (Or.inl ⟨rfl, rfl⟩) (i := 0) (j := cs.length) (q := cx.length) rfl (by rw [own_shl0]; exact hi) rfl (by omega) (by omega) (by omega) (by rw [own_cl (by omega)]; omega) (by rw [own_cl (by omega)]; omega) rfl (by simp [bsV]) N1 (by omega) (vn := (bsV (cs ++ cx))) (own_vn cs cx) (by rw [hml]; rfl) (hb hby d_jdk_42_m147_22) (n := 25) rfl (by decide) (w := 0) (Nat.le_of_eq rfl) (by decide) fun T6 H6 Lc6 X6 e6 N6 J6 Vn6 => ?_
  have sz6 := J6.1
  have K6 := K0.trans J6 (allS (Or.inl (List.mem_of_getElem? (i := 0) rfl)) all0)
  refine Wk.goto X6 hx (hb hby d_jdk_42_m147_25) (by decide) (n := 43) (by decide) ?_
  exact Wk.leave X6 (v := none) (fun _ => rfl) hlk e6 ⟨rfl, N6, K6, Vn6⟩ (by decide) (by decide) (fun fs hr => X6.returnOut hx Bd.returns (hb hby d_jdk_42_m147_43) hr)
def Q_sbPS (Z : State) (a1 : Addr) (i1 : Int32) (x1 : Addr) (t2 : Addr) (k2 : ClassId) (cx : List Int32) (t1 : Addr) (k1 : ClassId) (cs : List Int32) (zc : Int32) (h0 : Heap) (n0 : Nat) (v : Option Value) (h : Heap) (L : List Loc) : Prop := v = none ∧ Fr n0 L ∧ Keep h0 h [t1] ∧ Arv Z h t1 k1 .byte (Int32.ofNat 16) (bsV (cs ++ cx)) (.int (0 : Int32))
theorem ef_sbPS (m : MethodId) (x0 : Addr) (x1 : Int32) (x2 : Addr) : entryFrame m #[(.ref x0), (.int x1), (.ref x2)] 3 = mkF m 0 #[.val (.ref x0), .val (.int x1), .val (.ref x2)] [] := by first | (simp [entryFrame, mkF, argsToLocals, Value.category]; done) | rfl
theorem d_jdk_68_m73_0 : decode jdk_68_method_73_code 0 = .ok (.aload_n 0, 1) := by decide +kernel
theorem d_jdk_68_m73_1 : decode jdk_68_method_73_code 1 = .ok (.aload_n 2, 1) := by decide +kernel
theorem d_jdk_68_m73_2 : decode jdk_68_method_73_code 2 = .ok (.invokevirtual 397, 3) := by decide +kernel
theorem pd_5 : parseMethodDescriptor "(Ljava/lang/String;)V" = some ⟨[(.object "java/lang/String")], none⟩ := by decide +kernel
theorem d_jdk_68_m73_5 : decode jdk_68_method_73_code 5 = .ok (.aload_n 2, 1) := by decide +kernel
theorem d_jdk_68_m73_6 : decode jdk_68_method_73_code 6 = .ok (.aload_n 0, 1) := by decide +kernel
theorem d_jdk_68_m73_7 : decode jdk_68_method_73_code 7 = .ok (.getfield 15, 3) := by decide +kernel
theorem d_jdk_68_m73_10 : decode jdk_68_method_73_code 10 = .ok (.iload_n 1, 1) := by decide +kernel
theorem d_jdk_68_m73_11 : decode jdk_68_method_73_code 11 = .ok (.aload_n 0, 1) := by decide +kernel
theorem d_jdk_68_m73_12 : decode jdk_68_method_73_code 12 = .ok (.getfield 22, 3) := by decide +kernel
theorem d_jdk_68_m73_15 : decode jdk_68_method_73_code 15 = .ok (.invokevirtual 399, 3) := by decide +kernel
theorem pd_6 : parseMethodDescriptor "([BIB)V" = some ⟨[(.array .byte), .int, .byte], none⟩ := by decide +kernel
theorem d_jdk_68_m73_18 : decode jdk_68_method_73_code 18 = .ok (.return_, 1) := by decide +kernel
set_option maxRecDepth 65536 in
set_option maxHeartbeats 40000000 in
theorem sbPS (l : Launch) (Z : State) (a0 : Array Value) (hw : ∀ d ∈ tables_1, d.before a0 Z = true) (ws : List Jvm.Cond) (a1 : Addr) (i1 : Int32) (x1 : Addr) (t2 : Addr) (k2 : ClassId) (cx : List Int32) (t1 : Addr) (k1 : ClassId) (cs : List Int32) (zc : Int32) (h0 : Heap) (n0 : Nat) (Z0 : n0 ≤ h0.size) (Eb1 : Exa Z h0 a1 "java/lang/StringBuilder") (Gv1 : Fld Z h0 a1 "java/lang/AbstractStringBuilder" "value" "[B" (.ref t1)) (Gc1 : Fld Z h0 a1 "java/lang/AbstractStringBuilder" "coder" "B" (.int (0 : Int32))) (Ab1 : Arv Z h0 t1 k1 .byte (Int32.ofNat 16) (bsV cs) (.int (0 : Int32))) (Es1 : Exa Z h0 x1 "java/lang/String") (Fv1 : Fld Z h0 x1 "java/lang/String" "value" "[B" (.ref t2)) (Fc1 : Fld Z h0 x1 "java/lang/String" "coder" "B" (.int (0 : Int32))) (As1 : Arv Z h0 t2 k2 .byte (Int32.ofNat cx.length) (bsV cx) (.int (0 : Int32))) (S4 : Sta Z Z.heap "java/lang/String" "COMPACT_STRINGS" "Z" (.int zc)) (O1 : Old Z n0 h0) (hCS : ¬ zc = 0) (hi : i1 = Int32.ofNat cs.length) (hN : cs.length + cx.length ≤ 16) (g1 : n0 ≤ t1) :
    MetFree l (⟨"java/lang/AbstractStringBuilder", "putStringAt", "(ILjava/lang/String;)V"⟩ : MethodName) (head1 (Jvm.Cond.code (⟨"java/lang/AbstractStringBuilder", "putStringAt", "(ILjava/lang/String;)V"⟩ : MethodName) jdk_68_method_73_code 3 none :: ws) ({ frames := 2, cells := 0, slots := 0, locals := 47 } : Room)) (fun a U => a = #[(.ref a1), (.int i1), (.ref x1)] ∧ Z.Warmed39 U.vm ∧ U.heap = h0) (fun _ _ _ _ _ => True) (fun _ U o U' => ∃ v L, o = .returned v ∧ Q_sbPS Z a1 i1 x1 t2 k2 cx t1 k1 cs zc h0 n0 v U'.heap L ∧ FrameEnd U o U' L ({ frames := 2, cells := 0, slots := 0, locals := 47 } : Room).cells ({ frames := 2, cells := 0, slots := 0, locals := 47 } : Room).slots) := by
  refine MetFree.of_bodySF (plainFor_of_name pn_java_lang_AbstractStringBuilder) hisR ?_
  intro p e s m args below meth c s₁ Bd hml0 hP hK
  obtain ⟨rfl, hZ, hh⟩ := hP
  have hx := Bd.exec
  have hby := Bd.bytes
  have hlk := BodyLoose.notSynchronized Bd
  have hml : c.maxLocals = 3 := hml0
  have hown : s.vm.findClass "java/lang/AbstractStringBuilder" = some m.cls := findClass_of_methodNamed Bd.named
  have hnm := (name_of_methodNamed Bd.named Bd.method).1
  have X0 : Stand p l e ({ frames := 2, cells := 0, slots := 0, locals := 47 } : Room) s m #[(.ref a1), (.int i1), (.ref x1)] below meth c s₁ [] 0 0 := Stand.of_body Bd
  have e0 : s₁.heap = h0 := by rw [← hh, Bd.state]; rfl
  have N0 := Fr.nil n0
  have K0 := Keep.refl h0 [t1]
  clear hh
  show Wk p e below (EndN s (Q_sbPS Z a1 i1 x1 t2 k2 cx t1 k1 cs zc h0 n0) ({ frames := 2, cells := 0, slots := 0, locals := 47 } : Room).cells ({ frames := 2, cells := 0, slots := 0, locals := 47 } : Room).slots) s₁ (entryFrame m #[(.ref a1), (.int i1), (.ref x1)] 3)
  rw [ef_sbPS]
  have lt_Eb1 := ny Eb1.lt
  have lt_Gv1 := ny Gv1.lt
  have lt_Gc1 := ny Gc1.lt
  have lt_Ab1 := ny Ab1.lt
  have lt_Es1 := ny Es1.lt
  have lt_Fv1 := ny Fv1.lt
  have lt_Fc1 := ny Fc1.lt
  have lt_As1 := ny As1.lt
  refine Wk.aloadN X0 hx (hb hby d_jdk_68_m73_0) (n := 1) rfl rfl rfl ?_
  refine Wk.aloadN X0 hx (hb hby d_jdk_68_m73_1) (n := 2) rfl rfl rfl ?_
  obtain ⟨cq1, kq1, qn1a, qn1b, qn1c⟩ := isOf hZ e0 Eb1
  have cl1_ := fun (Ls : Array Slot) (hLs : Ls.size = c.maxLocals) => X0.virtualBack hx (y := (⟨"java/lang/AbstractStringBuilder", "inflateIfNeededFor", "(Ljava/lang/String;)V"⟩ : MethodName)) (z := (⟨"java/lang/AbstractStringBuilder", "inflateIfNeededFor", "(Ljava/lang/String;)V"⟩ : MethodName)) hown (mvT hZ (hw _ (List.mem_of_getElem? (i := 99) rfl))) (mvT hZ (own_decl (hw _ (List.mem_of_getElem? (i := 100) rfl)) (hw _ (List.mem_of_getElem? (i := 103) rfl)))) (notFace_of_selects (args := #[]) (mvT hZ (hw _ (List.mem_of_getElem? (i := 102) rfl)))) (mvT hZ (hw _ (List.mem_of_getElem? (i := 102) rfl))) (mvT hZ (hw _ (List.mem_of_getElem? (i := 100) rfl))) (by decide) (backOf (W := 0) (sbIN l Z a0 hw [] a1 x1 zc h0 n0 (by omega) Eb1 Gc1 Es1 Fc1 S4 O1 hCS) hZ (hw _ (List.mem_of_getElem? (i := 103) rfl)) (hw _ (List.mem_of_getElem? (i := 58) rfl)) (by decide) (by decide)) qn1a qn1c (g := mkF m 2 Ls [(.ref x1), (.ref a1)]) rfl hLs (Steps.refl _) (argsL := [(.ref x1)]) (rest := []) (lenOf pd_5 rfl) rfl (by show 2 * 0 + _ ≤ _; exact Nat.le_of_eq rfl) (hb hby d_jdk_68_m73_2) (fun _ _ => ⟨rfl, e0, (by decide : 0 + 0 ≤ _), (by decide : 0 + 0 ≤ _)⟩)
  refine Wk.back (n := 5) (rc := 0) (rs := 0) (Q := Q_sbIN Z a1 x1 zc h0 n0) (cl1_ _ (by rw [hml]; rfl)) fun vn1 T1 L1 X1 hQ1 => ?_
  clear cl1_
  obtain ⟨rfl, M1, e1⟩ := hQ1
  have N1 := Fr.app N0 M1
  show Wk p e below _ T1 (mkF m 5 _ [])
  refine Wk.aloadN X1 hx (hb hby d_jdk_68_m73_5) (n := 6) rfl rfl rfl ?_
  refine Wk.aloadN X1 hx (hb hby d_jdk_68_m73_6) (n := 7) rfl rfl rfl ?_
  refine Wk.getF X1 hx hZ hown (host := "") (Or.inl (hw _ (List.mem_of_getElem? (i := 62) rfl))) Via.refl e1 Gv1 (hb hby d_jdk_68_m73_7) (n := 10) rfl fun T2 X2 e2 => ?_
  refine Wk.iloadN X2 hx (hb hby d_jdk_68_m73_10) (n := 11) rfl rfl ?_
  refine Wk.aloadN X2 hx (hb hby d_jdk_68_m73_11) (n := 12) rfl rfl rfl ?_
  refine Wk.getF X2 hx hZ hown (host := "") (Or.inl (hw _ (List.mem_of_getElem? (i := 64) rfl))) Via.refl e2 Gc1 (hb hby d_jdk_68_m73_12) (n := 15) rfl fun T3 X3 e3 => ?_
  obtain ⟨cq4, kq4, qn4a, qn4b, qn4c⟩ := isOf hZ e3 Es1
  have cl4_ := fun (Ls : Array Slot) (hLs : Ls.size = c.maxLocals) => X3.virtualBack hx (y := (⟨"java/lang/String", "getBytes", "([BIB)V"⟩ : MethodName)) (z := (⟨"java/lang/String", "getBytes", "([BIB)V"⟩ : MethodName)) hown (mvT hZ (hw _ (List.mem_of_getElem? (i := 105) rfl))) (mvT hZ (hw _ (List.mem_of_getElem? (i := 106) rfl))) (notFace_of_selects (args := #[]) (mvT hZ (hw _ (List.mem_of_getElem? (i := 108) rfl)))) (mvT hZ (hw _ (List.mem_of_getElem? (i := 108) rfl))) (mvT hZ (hw _ (List.mem_of_getElem? (i := 107) rfl))) (by decide) (backOf (W := 0) (sbGB l Z a0 hw [] x1 t2 k2 cx t1 k1 cs i1 zc h0 n0 (by omega) Es1 Fv1 Fc1 As1 Ab1 S4 O1 hCS hi (by omega) (by omega)) hZ (hw _ (List.mem_of_getElem? (i := 109) rfl)) (hw _ (List.mem_of_getElem? (i := 4) rfl)) (by decide) (by decide)) qn4a qn4c (g := mkF m 15 Ls [(.int (0 : Int32)), (.int i1), (.ref t1), (.ref x1)]) rfl hLs (Steps.refl _) (argsL := [(.ref t1), (.int i1), (.int (0 : Int32))]) (rest := []) (lenOf pd_6 rfl) rfl (by show 2 * 0 + _ ≤ _; exact Nat.le_of_eq rfl) (hb hby d_jdk_68_m73_15) (fun _ _ => ⟨rfl, e3, (by decide : 0 + 0 + 0 ≤ _), (by decide : 0 + 0 + 0 ≤ _)⟩)
  refine Wk.back (n := 18) (rc := 0) (rs := 0) (Q := Q_sbGB Z x1 t2 k2 cx t1 k1 cs i1 zc h0 n0) (cl4_ _ (by rw [hml]; rfl)) fun vn4 T4 L4 X4 hQ4 => ?_
  clear cl4_
  obtain ⟨rfl, M4, J4, p4_0⟩ := hQ4
  have N4 := Fr.app N1 M4
  have sz4 := J4.1
  have K4 := K0.trans J4 (allS (Or.inl (List.mem_of_getElem? (i := 0) rfl)) all0)
  have lt_p4_0 := ny p4_0.lt
  show Wk p e below _ T4 (mkF m 18 _ [])
  exact Wk.leave X4 (v := none) (fun _ => rfl) hlk rfl ⟨rfl, N4, K4, p4_0⟩ (by decide) (by decide) (fun fs hr => X4.returnOut hx Bd.returns (hb hby d_jdk_68_m73_18) hr)
def Q_sbAP (Z : State) (a1 : Addr) (x1 : Addr) (t2 : Addr) (k2 : ClassId) (cx : List Int32) (t1 : Addr) (k1 : ClassId) (cs : List Int32) (zc : Int32) (h0 : Heap) (n0 : Nat) (v : Option Value) (h : Heap) (L : List Loc) : Prop := v = some (.ref a1) ∧ Fr n0 L ∧ Keep h0 h [a1, t1] ∧ Exa Z h a1 "java/lang/StringBuilder" ∧ Fld Z h a1 "java/lang/AbstractStringBuilder" "value" "[B" (.ref t1) ∧ Fld Z h a1 "java/lang/AbstractStringBuilder" "coder" "B" (.int (0 : Int32)) ∧ Fld Z h a1 "java/lang/AbstractStringBuilder" "count" "I" (.int (Int32.ofNat (cs ++ cx).length)) ∧ Arv Z h t1 k1 .byte (Int32.ofNat 16) (bsV (cs ++ cx)) (.int (0 : Int32))
theorem ef_sbAP (m : MethodId) (x0 : Addr) (x1 : Addr) : entryFrame m #[(.ref x0), (.ref x1)] 3 = mkF m 0 #[.val (.ref x0), .val (.ref x1), .unset] [] := by first | (simp [entryFrame, mkF, argsToLocals, Value.category]; done) | rfl
theorem d_jdk_68_m22_0 : decode jdk_68_method_22_code 0 = .ok (.aload_n 1, 1) := by decide +kernel
theorem d_jdk_68_m22_1 : decode jdk_68_method_22_code 1 = .ok (.ifnonnull 8, 3) := by decide +kernel
theorem d_jdk_68_m22_9 : decode jdk_68_method_22_code 9 = .ok (.aload_n 1, 1) := by decide +kernel
theorem d_jdk_68_m22_10 : decode jdk_68_method_22_code 10 = .ok (.invokevirtual 32, 3) := by decide +kernel
theorem pd_7 : parseMethodDescriptor "()I" = some ⟨[], some .int⟩ := by decide +kernel
theorem d_jdk_68_m22_13 : decode jdk_68_method_22_code 13 = .ok (.istore_n 2, 1) := by decide +kernel
theorem d_jdk_68_m22_14 : decode jdk_68_method_22_code 14 = .ok (.aload_n 0, 1) := by decide +kernel
theorem d_jdk_68_m22_15 : decode jdk_68_method_22_code 15 = .ok (.aload_n 0, 1) := by decide +kernel
theorem d_jdk_68_m22_16 : decode jdk_68_method_22_code 16 = .ok (.getfield 79, 3) := by decide +kernel
theorem d_jdk_68_m22_19 : decode jdk_68_method_22_code 19 = .ok (.iload_n 2, 1) := by decide +kernel
theorem d_jdk_68_m22_20 : decode jdk_68_method_22_code 20 = .ok (.iadd, 1) := by decide +kernel
theorem d_jdk_68_m22_21 : decode jdk_68_method_22_code 21 = .ok (.invokevirtual 100, 3) := by decide +kernel
theorem d_jdk_68_m22_24 : decode jdk_68_method_22_code 24 = .ok (.aload_n 0, 1) := by decide +kernel
theorem d_jdk_68_m22_25 : decode jdk_68_method_22_code 25 = .ok (.aload_n 0, 1) := by decide +kernel
theorem d_jdk_68_m22_26 : decode jdk_68_method_22_code 26 = .ok (.getfield 79, 3) := by decide +kernel
theorem d_jdk_68_m22_29 : decode jdk_68_method_22_code 29 = .ok (.aload_n 1, 1) := by decide +kernel
theorem d_jdk_68_m22_30 : decode jdk_68_method_22_code 30 = .ok (.invokevirtual 208, 3) := by decide +kernel
theorem pd_8 : parseMethodDescriptor "(ILjava/lang/String;)V" = some ⟨[.int, (.object "java/lang/String")], none⟩ := by decide +kernel
theorem d_jdk_68_m22_33 : decode jdk_68_method_22_code 33 = .ok (.aload_n 0, 1) := by decide +kernel
theorem d_jdk_68_m22_34 : decode jdk_68_method_22_code 34 = .ok (.dup, 1) := by decide +kernel
theorem d_jdk_68_m22_35 : decode jdk_68_method_22_code 35 = .ok (.getfield 79, 3) := by decide +kernel
theorem d_jdk_68_m22_38 : decode jdk_68_method_22_code 38 = .ok (.iload_n 2, 1) := by decide +kernel
theorem d_jdk_68_m22_39 : decode jdk_68_method_22_code 39 = .ok (.iadd, 1) := by decide +kernel
theorem d_jdk_68_m22_40 : decode jdk_68_method_22_code 40 = .ok (.putfield 79, 3) := by decide +kernel
theorem d_jdk_68_m22_43 : decode jdk_68_method_22_code 43 = .ok (.aload_n 0, 1) := by decide +kernel
theorem d_jdk_68_m22_44 : decode jdk_68_method_22_code 44 = .ok (.areturn, 1) := by decide +kernel
set_option maxRecDepth 65536 in
set_option maxHeartbeats 40000000 in
theorem sbAP (l : Launch) (Z : State) (a0 : Array Value) (hw : ∀ d ∈ tables_1, d.before a0 Z = true) (ws : List Jvm.Cond) (a1 : Addr) (x1 : Addr) (t2 : Addr) (k2 : ClassId) (cx : List Int32) (t1 : Addr) (k1 : ClassId) (cs : List Int32) (zc : Int32) (h0 : Heap) (n0 : Nat) (Z0 : n0 ≤ h0.size) (Eb1 : Exa Z h0 a1 "java/lang/StringBuilder") (Gv1 : Fld Z h0 a1 "java/lang/AbstractStringBuilder" "value" "[B" (.ref t1)) (Gc1 : Fld Z h0 a1 "java/lang/AbstractStringBuilder" "coder" "B" (.int (0 : Int32))) (Gn1 : Fld Z h0 a1 "java/lang/AbstractStringBuilder" "count" "I" (.int (Int32.ofNat cs.length))) (Ab1 : Arv Z h0 t1 k1 .byte (Int32.ofNat 16) (bsV cs) (.int (0 : Int32))) (Es1 : Exa Z h0 x1 "java/lang/String") (Fv1 : Fld Z h0 x1 "java/lang/String" "value" "[B" (.ref t2)) (Fc1 : Fld Z h0 x1 "java/lang/String" "coder" "B" (.int (0 : Int32))) (As1 : Arv Z h0 t2 k2 .byte (Int32.ofNat cx.length) (bsV cx) (.int (0 : Int32))) (S4 : Sta Z Z.heap "java/lang/String" "COMPACT_STRINGS" "Z" (.int zc)) (O1 : Old Z n0 h0) (hCS : ¬ zc = 0) (hp : ∀ c ∈ cx, ¬ c < 0 ∧ ¬ (255 : Int32) < c) (hN : cs.length + cx.length ≤ 16) (g1 : n0 ≤ t1) (g2 : n0 ≤ a1) (hn1 : ¬ @Eq Nat t2 t1) (hn2 : ¬ @Eq Nat t1 a1) :
    MetFree l (⟨"java/lang/AbstractStringBuilder", "append", "(Ljava/lang/String;)Ljava/lang/AbstractStringBuilder;"⟩ : MethodName) (head1 (Jvm.Cond.code (⟨"java/lang/AbstractStringBuilder", "append", "(Ljava/lang/String;)Ljava/lang/AbstractStringBuilder;"⟩ : MethodName) jdk_68_method_22_code 3 (some (.object "java/lang/AbstractStringBuilder")) :: ws) ({ frames := 3, cells := 0, slots := 0, locals := 61 } : Room)) (fun a U => a = #[(.ref a1), (.ref x1)] ∧ Z.Warmed39 U.vm ∧ U.heap = h0) (fun _ _ _ _ _ => True) (fun _ U o U' => ∃ v L, o = .returned v ∧ Q_sbAP Z a1 x1 t2 k2 cx t1 k1 cs zc h0 n0 v U'.heap L ∧ FrameEnd U o U' L ({ frames := 3, cells := 0, slots := 0, locals := 61 } : Room).cells ({ frames := 3, cells := 0, slots := 0, locals := 61 } : Room).slots) := by
  refine MetFree.of_bodySF (plainFor_of_name pn_java_lang_AbstractStringBuilder) hisR ?_
  intro p e s m args below meth c s₁ Bd hml0 hP hK
  obtain ⟨rfl, hZ, hh⟩ := hP
  have hx := Bd.exec
  have hby := Bd.bytes
  have hlk := BodyLoose.notSynchronized Bd
  have hml : c.maxLocals = 3 := hml0
  have hown : s.vm.findClass "java/lang/AbstractStringBuilder" = some m.cls := findClass_of_methodNamed Bd.named
  have hnm := (name_of_methodNamed Bd.named Bd.method).1
  have X0 : Stand p l e ({ frames := 3, cells := 0, slots := 0, locals := 61 } : Room) s m #[(.ref a1), (.ref x1)] below meth c s₁ [] 0 0 := Stand.of_body Bd
  have e0 : s₁.heap = h0 := by rw [← hh, Bd.state]; rfl
  have N0 := Fr.nil n0
  have K0 := Keep.refl h0 [a1, t1]
  clear hh
  show Wk p e below (EndN s (Q_sbAP Z a1 x1 t2 k2 cx t1 k1 cs zc h0 n0) ({ frames := 3, cells := 0, slots := 0, locals := 61 } : Room).cells ({ frames := 3, cells := 0, slots := 0, locals := 61 } : Room).slots) s₁ (entryFrame m #[(.ref a1), (.ref x1)] 3)
  rw [ef_sbAP]
  have lt_Eb1 := ny Eb1.lt
  have lt_Gv1 := ny Gv1.lt
  have lt_Gc1 := ny Gc1.lt
  have lt_Gn1 := ny Gn1.lt
  have lt_Ab1 := ny Ab1.lt
  have lt_Es1 := ny Es1.lt
  have lt_Fv1 := ny Fv1.lt
  have lt_Fc1 := ny Fc1.lt
  have lt_As1 := ny As1.lt
  refine Wk.aloadN X0 hx (hb hby d_jdk_68_m22_0) (n := 1) rfl rfl rfl ?_
  refine Wk.ifnonnullYes X0 hx (hb hby d_jdk_68_m22_1) (by decide) (n := 9) (by decide) ?_
  refine Wk.aloadN X0 hx (hb hby d_jdk_68_m22_9) (n := 10) rfl rfl rfl ?_
  obtain ⟨cq1, kq1, qn1a, qn1b, qn1c⟩ := isOf hZ e0 Es1
  have cl1_ := fun (Ls : Array Slot) (hLs : Ls.size = c.maxLocals) => X0.virtualBack hx (y := (⟨"java/lang/String", "length", "()I"⟩ : MethodName)) (z := (⟨"java/lang/String", "length", "()I"⟩ : MethodName)) hown (mvT hZ (hw _ (List.mem_of_getElem? (i := 76) rfl))) (mvT hZ (hw _ (List.mem_of_getElem? (i := 77) rfl))) (notFace_of_selects (args := #[]) (mvT hZ (hw _ (List.mem_of_getElem? (i := 79) rfl)))) (mvT hZ (hw _ (List.mem_of_getElem? (i := 79) rfl))) (mvT hZ (hw _ (List.mem_of_getElem? (i := 78) rfl))) (by decide) (StrChars.Road.lenW (W := 0) hZ (fun d hd => hw d (own_wl d hd)) (kI := 4) (hw _ (List.mem_of_getElem? (i := 3) rfl)) Es1 Fv1 Fc1 As1 (StrChars.Road.codOf (cs := cx) (n := cx.length) rfl (fun c hc => (hp c hc).2)) (own_up hp) (Sta.ext O1.2 S4) hCS (by omega) (by decide) (by decide)) qn1a qn1c (g := mkF m 10 Ls [(.ref x1)]) rfl hLs (Steps.refl _) (argsL := []) (rest := []) (lenOf pd_7 rfl) rfl (by show 2 * 0 + _ ≤ _; exact Nat.le_of_eq rfl) (hb hby d_jdk_68_m22_10) (fun _ _ => ⟨rfl, e0, (by decide : 0 + 0 ≤ _), (by decide : 0 + 0 ≤ _)⟩)
  refine Wk.back (n := 13) (rc := 0) (rs := 0) (Q := fun v h' L => (v = some (.int (Int32.ofNat (cx : List Int32).length)) ∧ L = [] ∧ h' = h0)) (cl1_ _ (by rw [hml]; rfl)) fun vn1 T1 L1 X1 hQ1 => ?_
  clear cl1_
  obtain ⟨rfl, rfl, e1⟩ := hQ1
  have N1 := Fr.app N0 (Fr.nil n0)
  show Wk p e below _ T1 (mkF m 13 _ [(.int (Int32.ofNat cx.length))])
  refine Wk.istoreN X1 hx (hb hby d_jdk_68_m22_13) (n := 14) rfl (L' := #[.val (.ref a1), .val (.ref x1), .val (.int (Int32.ofNat cx.length))]) rfl ?_
  refine Wk.aloadN X1 hx (hb hby d_jdk_68_m22_14) (n := 15) rfl rfl rfl ?_
  refine Wk.aloadN X1 hx (hb hby d_jdk_68_m22_15) (n := 16) rfl rfl rfl ?_
  refine Wk.getF X1 hx hZ hown (host := "") (Or.inl (hw _ (List.mem_of_getElem? (i := 87) rfl))) Via.refl e1 Gn1 (hb hby d_jdk_68_m22_16) (n := 19) rfl fun T2 X2 e2 => ?_
  refine Wk.iloadN X2 hx (hb hby d_jdk_68_m22_19) (n := 20) rfl rfl ?_
  refine Wk.iadd X2 hx (hb hby d_jdk_68_m22_20) (n := 21) rfl ?_
  obtain ⟨cq3, kq3, qn3a, qn3b, qn3c⟩ := isOf hZ e2 Eb1
  have cl3_ := fun (Ls : Array Slot) (hLs : Ls.size = c.maxLocals) => X2.virtualBack hx (y := (⟨"java/lang/AbstractStringBuilder", "ensureCapacityInternal", "(I)V"⟩ : MethodName)) (z := (⟨"java/lang/AbstractStringBuilder", "ensureCapacityInternal", "(I)V"⟩ : MethodName)) hown (mvT hZ (hw _ (List.mem_of_getElem? (i := 89) rfl))) (mvT hZ (own_decl (hw _ (List.mem_of_getElem? (i := 90) rfl)) (hw _ (List.mem_of_getElem? (i := 93) rfl)))) (notFace_of_selects (args := #[]) (mvT hZ (hw _ (List.mem_of_getElem? (i := 92) rfl)))) (mvT hZ (hw _ (List.mem_of_getElem? (i := 92) rfl))) (mvT hZ (hw _ (List.mem_of_getElem? (i := 90) rfl))) (by decide) (backOf (W := 0) (sbEC l Z a0 hw [] a1 ((Int32.ofNat cs.length) + (Int32.ofNat cx.length)) t1 k1 cs (cs.length + cx.length) h0 n0 (by omega) Eb1 Gv1 Gc1 Ab1 (own_ofadd _ _) (by omega)) hZ (hw _ (List.mem_of_getElem? (i := 93) rfl)) (hw _ (List.mem_of_getElem? (i := 58) rfl)) (by decide) (by decide)) qn3a qn3c (g := mkF m 21 Ls [(.int ((Int32.ofNat cs.length) + (Int32.ofNat cx.length))), (.ref a1)]) rfl hLs (Steps.refl _) (argsL := [(.int ((Int32.ofNat cs.length) + (Int32.ofNat cx.length)))]) (rest := []) (lenOf pd_3 rfl) rfl (by show 2 * 0 + _ ≤ _; exact Nat.le_of_eq rfl) (hb hby d_jdk_68_m22_21) (fun _ _ => ⟨rfl, e2, (by decide : 0 + 0 + 0 ≤ _), (by decide : 0 + 0 + 0 ≤ _)⟩)
  refine Wk.back (n := 24) (rc := 0) (rs := 0) (Q := Q_sbEC Z a1 ((Int32.ofNat cs.length) + (Int32.ofNat cx.length)) t1 k1 cs (cs.length + cx.length) h0 n0) (cl3_ _ (by rw [hml]; rfl)) fun vn3 T3 L3 X3 hQ3 => ?_
  clear cl3_
  obtain ⟨rfl, M3, e3⟩ := hQ3
  have N3 := Fr.app N1 M3
  show Wk p e below _ T3 (mkF m 24 _ [])
  refine Wk.aloadN X3 hx (hb hby d_jdk_68_m22_24) (n := 25) rfl rfl rfl ?_
  refine Wk.aloadN X3 hx (hb hby d_jdk_68_m22_25) (n := 26) rfl rfl rfl ?_
  refine Wk.getF X3 hx hZ hown (host := "") (Or.inl (hw _ (List.mem_of_getElem? (i := 87) rfl))) Via.refl e3 Gn1 (hb hby d_jdk_68_m22_26) (n := 29) rfl fun T4 X4 e4 => ?_
  refine Wk.aloadN X4 hx (hb hby d_jdk_68_m22_29) (n := 30) rfl rfl rfl ?_
  obtain ⟨cq5, kq5, qn5a, qn5b, qn5c⟩ := isOf hZ e4 Eb1
  have cl5_ := fun (Ls : Array Slot) (hLs : Ls.size = c.maxLocals) => X4.virtualBack hx (y := (⟨"java/lang/AbstractStringBuilder", "putStringAt", "(ILjava/lang/String;)V"⟩ : MethodName)) (z := (⟨"java/lang/AbstractStringBuilder", "putStringAt", "(ILjava/lang/String;)V"⟩ : MethodName)) hown (mvT hZ (hw _ (List.mem_of_getElem? (i := 94) rfl))) (mvT hZ (own_decl (hw _ (List.mem_of_getElem? (i := 95) rfl)) (hw _ (List.mem_of_getElem? (i := 98) rfl)))) (notFace_of_selects (args := #[]) (mvT hZ (hw _ (List.mem_of_getElem? (i := 97) rfl)))) (mvT hZ (hw _ (List.mem_of_getElem? (i := 97) rfl))) (mvT hZ (hw _ (List.mem_of_getElem? (i := 95) rfl))) (by decide) (backOf (W := 0) (sbPS l Z a0 hw [] a1 (Int32.ofNat cs.length) x1 t2 k2 cx t1 k1 cs zc h0 n0 (by omega) Eb1 Gv1 Gc1 Ab1 Es1 Fv1 Fc1 As1 S4 O1 hCS rfl (by omega) (by omega)) hZ (hw _ (List.mem_of_getElem? (i := 98) rfl)) (hw _ (List.mem_of_getElem? (i := 58) rfl)) (by decide) (by decide)) qn5a qn5c (g := mkF m 30 Ls [(.ref x1), (.int (Int32.ofNat cs.length)), (.ref a1)]) rfl hLs (Steps.refl _) (argsL := [(.int (Int32.ofNat cs.length)), (.ref x1)]) (rest := []) (lenOf pd_8 rfl) rfl (by show 2 * 0 + _ ≤ _; exact Nat.le_of_eq rfl) (hb hby d_jdk_68_m22_30) (fun _ _ => ⟨rfl, e4, (by decide : 0 + 0 + 0 + 0 ≤ _), (by decide : 0 + 0 + 0 + 0 ≤ _)⟩)
  refine Wk.back (n := 33) (rc := 0) (rs := 0) (Q := Q_sbPS Z a1 (Int32.ofNat cs.length) x1 t2 k2 cx t1 k1 cs zc h0 n0) (cl5_ _ (by rw [hml]; rfl)) fun vn5 T5 L5 X5 hQ5 => ?_
  clear cl5_
  obtain ⟨rfl, M5, J5, p5_0⟩ := hQ5
  have N5 := Fr.app N3 M5
  have sz5 := J5.1
  have K5 := K0.trans J5 (allS (Or.inl (List.mem_of_getElem? (i := 1) rfl)) all0)
  have lt_p5_0 := ny p5_0.lt
  show Wk p e below _ T5 (mkF m 33 _ [])
  refine Wk.aloadN X5 hx (hb hby d_jdk_68_m22_33) (n := 34) rfl rfl rfl ?_
  refine Wk.dup X5 hx (hb hby d_jdk_68_m22_34) (n := 35) rfl rfl ?_
  have f6 := (Gn1.keep J5 (ninS (nz (by omega)) nin0))
  refine Wk.getF X5 hx hZ hown (host := "") (Or.inl (hw _ (List.mem_of_getElem? (i := 87) rfl))) Via.refl rfl f6 (hb hby d_jdk_68_m22_35) (n := 38) rfl fun T7 X7 e7 => ?_
  refine Wk.iloadN X7 hx (hb hby d_jdk_68_m22_38) (n := 39) rfl rfl ?_
  refine Wk.iadd X7 hx (hb hby d_jdk_68_m22_39) (n := 40) rfl ?_
  have f8 := (Eb1.keep J5)
  refine Wk.putF X7 hx hZ hown (host := "") (Or.inl (hw _ (List.mem_of_getElem? (i := 87) rfl))) Via.refl e7 f6 f8 (Or.inl (hw _ (List.mem_of_getElem? (i := 88) rfl))) (hw _ (List.mem_of_getElem? (i := 49) rfl)) (ty := .int) (by decide) rfl rfl (hb hby d_jdk_68_m22_40) (n := 43) rfl fun T9 H9 X9 e9 Wn9 => ?_
  have sz9 := Wn9.size
  have Fn9 := f6.same Wn9
  have K9 := K5.wr Wn9 (Or.inl (List.mem_of_getElem? (i := 0) rfl))
  have N9 := Fr.snoc X9 N5 (by omega)
  refine Wk.aloadN X9 hx (hb hby d_jdk_68_m22_43) (n := 44) rfl rfl rfl ?_
  have f10 := (f8.wr Wn9)
  have f11 := ((Gv1.keep J5 (ninS (nz (by omega)) nin0)).other Wn9 (Or.inr (slot_ne (Or.inl (hw _ (List.mem_of_getElem? (i := 63) rfl))) (Or.inl (hw _ (List.mem_of_getElem? (i := 88) rfl))) (by decide) (t := (.array .byte)) (t' := .int) (by decide) (by decide))))
  have f12 := ((Gc1.keep J5 (ninS (nz (by omega)) nin0)).other Wn9 (Or.inr (slot_ne (Or.inl (hw _ (List.mem_of_getElem? (i := 65) rfl))) (Or.inl (hw _ (List.mem_of_getElem? (i := 88) rfl))) (by decide) (t := .byte) (t' := .int) (by decide) (by decide))))
  have f13 := (p5_0.other Wn9 (nz (by omega)))
  exact Wk.leave X9 (v := some (.ref a1)) (fun h => by rw [Bd.returns] at h; cases h) hlk e9 ⟨rfl, N9, K9, f10, f11, f12, (by have q := Fn9; rw [own_ofadd, ← List.length_append] at q; exact q), f13⟩ (by decide) (by decide) (fun fs hr => retA X9 hx rfl Bd.returns rfl (hb hby d_jdk_68_m22_44) hr)
def Q_sbSA (Z : State) (a1 : Addr) (x1 : Addr) (t2 : Addr) (k2 : ClassId) (cx : List Int32) (t1 : Addr) (k1 : ClassId) (cs : List Int32) (zc : Int32) (h0 : Heap) (n0 : Nat) (v : Option Value) (h : Heap) (L : List Loc) : Prop := v = some (.ref a1) ∧ Fr n0 L ∧ Keep h0 h [a1, t1] ∧ Exa Z h a1 "java/lang/StringBuilder" ∧ Fld Z h a1 "java/lang/AbstractStringBuilder" "value" "[B" (.ref t1) ∧ Fld Z h a1 "java/lang/AbstractStringBuilder" "coder" "B" (.int (0 : Int32)) ∧ Fld Z h a1 "java/lang/AbstractStringBuilder" "count" "I" (.int (Int32.ofNat (cs ++ cx).length)) ∧ Arv Z h t1 k1 .byte (Int32.ofNat 16) (bsV (cs ++ cx)) (.int (0 : Int32))
theorem ef_sbSA (m : MethodId) (x0 : Addr) (x1 : Addr) : entryFrame m #[(.ref x0), (.ref x1)] 2 = mkF m 0 #[.val (.ref x0), .val (.ref x1)] [] := by first | (simp [entryFrame, mkF, argsToLocals, Value.category]; done) | rfl
theorem d_jdk_67_m7_0 : decode jdk_67_method_7_code 0 = .ok (.aload_n 0, 1) := by decide +kernel
theorem d_jdk_67_m7_1 : decode jdk_67_method_7_code 1 = .ok (.aload_n 1, 1) := by decide +kernel
theorem d_jdk_67_m7_2 : decode jdk_67_method_7_code 2 = .ok (.invokespecial 29, 3) := by decide +kernel
theorem pd_9 : parseMethodDescriptor "(Ljava/lang/String;)Ljava/lang/AbstractStringBuilder;" = some ⟨[(.object "java/lang/String")], some (.object "java/lang/AbstractStringBuilder")⟩ := by decide +kernel
theorem d_jdk_67_m7_5 : decode jdk_67_method_7_code 5 = .ok (.pop, 1) := by decide +kernel
theorem d_jdk_67_m7_6 : decode jdk_67_method_7_code 6 = .ok (.aload_n 0, 1) := by decide +kernel
theorem d_jdk_67_m7_7 : decode jdk_67_method_7_code 7 = .ok (.areturn, 1) := by decide +kernel
set_option maxRecDepth 65536 in
set_option maxHeartbeats 40000000 in
theorem sbSA (l : Launch) (Z : State) (a0 : Array Value) (hw : ∀ d ∈ tables_1, d.before a0 Z = true) (ws : List Jvm.Cond) (a1 : Addr) (x1 : Addr) (t2 : Addr) (k2 : ClassId) (cx : List Int32) (t1 : Addr) (k1 : ClassId) (cs : List Int32) (zc : Int32) (h0 : Heap) (n0 : Nat) (Z0 : n0 ≤ h0.size) (Eb1 : Exa Z h0 a1 "java/lang/StringBuilder") (Gv1 : Fld Z h0 a1 "java/lang/AbstractStringBuilder" "value" "[B" (.ref t1)) (Gc1 : Fld Z h0 a1 "java/lang/AbstractStringBuilder" "coder" "B" (.int (0 : Int32))) (Gn1 : Fld Z h0 a1 "java/lang/AbstractStringBuilder" "count" "I" (.int (Int32.ofNat cs.length))) (Ab1 : Arv Z h0 t1 k1 .byte (Int32.ofNat 16) (bsV cs) (.int (0 : Int32))) (Es1 : Exa Z h0 x1 "java/lang/String") (Fv1 : Fld Z h0 x1 "java/lang/String" "value" "[B" (.ref t2)) (Fc1 : Fld Z h0 x1 "java/lang/String" "coder" "B" (.int (0 : Int32))) (As1 : Arv Z h0 t2 k2 .byte (Int32.ofNat cx.length) (bsV cx) (.int (0 : Int32))) (S4 : Sta Z Z.heap "java/lang/String" "COMPACT_STRINGS" "Z" (.int zc)) (O1 : Old Z n0 h0) (hCS : ¬ zc = 0) (hp : ∀ c ∈ cx, ¬ c < 0 ∧ ¬ (255 : Int32) < c) (hN : cs.length + cx.length ≤ 16) (g1 : n0 ≤ t1) (g2 : n0 ≤ a1) (hn1 : ¬ @Eq Nat t2 t1) (hn2 : ¬ @Eq Nat t1 a1) :
    MetFree l (⟨"java/lang/StringBuilder", "append", "(Ljava/lang/String;)Ljava/lang/StringBuilder;"⟩ : MethodName) (head1 (Jvm.Cond.code (⟨"java/lang/StringBuilder", "append", "(Ljava/lang/String;)Ljava/lang/StringBuilder;"⟩ : MethodName) jdk_67_method_7_code 2 (some (.object "java/lang/StringBuilder")) :: ws) ({ frames := 4, cells := 0, slots := 0, locals := 75 } : Room)) (fun a U => a = #[(.ref a1), (.ref x1)] ∧ Z.Warmed39 U.vm ∧ U.heap = h0) (fun _ _ _ _ _ => True) (fun _ U o U' => ∃ v L, o = .returned v ∧ Q_sbSA Z a1 x1 t2 k2 cx t1 k1 cs zc h0 n0 v U'.heap L ∧ FrameEnd U o U' L ({ frames := 4, cells := 0, slots := 0, locals := 75 } : Room).cells ({ frames := 4, cells := 0, slots := 0, locals := 75 } : Room).slots) := by
  refine MetFree.of_bodySF (plainFor_of_name pn_java_lang_StringBuilder) hisR ?_
  intro p e s m args below meth c s₁ Bd hml0 hP hK
  obtain ⟨rfl, hZ, hh⟩ := hP
  have hx := Bd.exec
  have hby := Bd.bytes
  have hlk := BodyLoose.notSynchronized Bd
  have hml : c.maxLocals = 2 := hml0
  have hown : s.vm.findClass "java/lang/StringBuilder" = some m.cls := findClass_of_methodNamed Bd.named
  have hnm := (name_of_methodNamed Bd.named Bd.method).1
  have X0 : Stand p l e ({ frames := 4, cells := 0, slots := 0, locals := 75 } : Room) s m #[(.ref a1), (.ref x1)] below meth c s₁ [] 0 0 := Stand.of_body Bd
  have e0 : s₁.heap = h0 := by rw [← hh, Bd.state]; rfl
  have N0 := Fr.nil n0
  have K0 := Keep.refl h0 [a1, t1]
  clear hh
  show Wk p e below (EndN s (Q_sbSA Z a1 x1 t2 k2 cx t1 k1 cs zc h0 n0) ({ frames := 4, cells := 0, slots := 0, locals := 75 } : Room).cells ({ frames := 4, cells := 0, slots := 0, locals := 75 } : Room).slots) s₁ (entryFrame m #[(.ref a1), (.ref x1)] 2)
  rw [ef_sbSA]
  have lt_Eb1 := ny Eb1.lt
  have lt_Gv1 := ny Gv1.lt
  have lt_Gc1 := ny Gc1.lt
  have lt_Gn1 := ny Gn1.lt
  have lt_Ab1 := ny Ab1.lt
  have lt_Es1 := ny Es1.lt
  have lt_Fv1 := ny Fv1.lt
  have lt_Fc1 := ny Fc1.lt
  have lt_As1 := ny As1.lt
  refine Wk.aloadN X0 hx (hb hby d_jdk_67_m7_0) (n := 1) rfl rfl rfl ?_
  refine Wk.aloadN X0 hx (hb hby d_jdk_67_m7_1) (n := 2) rfl rfl rfl ?_
  have cl1_ := fun (Ls : Array Slot) (hLs : Ls.size = c.maxLocals) => superBack X0 hx hZ (y := (⟨"java/lang/AbstractStringBuilder", "append", "(Ljava/lang/String;)Ljava/lang/AbstractStringBuilder;"⟩ : MethodName)) hown (hw _ (List.mem_of_getElem? (i := 71) rfl)) (own_same (hw _ (List.mem_of_getElem? (i := 72) rfl)) (hw _ (List.mem_of_getElem? (i := 90) rfl)) (hw _ (List.mem_of_getElem? (i := 92) rfl)) (by decide)) (hw _ (List.mem_of_getElem? (i := 72) rfl)) (hw _ (List.mem_of_getElem? (i := 73) rfl)) (by decide) (backOf (W := 0) (sbAP l Z a0 hw [] a1 x1 t2 k2 cx t1 k1 cs zc h0 n0 (by omega) Eb1 Gv1 Gc1 Gn1 Ab1 Es1 Fv1 Fc1 As1 S4 O1 hCS hp (by omega) (by omega) (by omega) (by omega) (by omega)) hZ (hw _ (List.mem_of_getElem? (i := 75) rfl)) (hw _ (List.mem_of_getElem? (i := 58) rfl)) (by decide) (by decide)) e0 (Ins.self Eb1) (g := mkF m 2 Ls [(.ref x1), (.ref a1)]) rfl hLs (hw _ (List.mem_of_getElem? (i := 75) rfl)) (argsL := [(.ref x1)]) (rest := []) (lenOf pd_9 rfl) rfl (by show 2 * 0 + _ ≤ _; exact Nat.le_of_eq rfl) (hb hby d_jdk_67_m7_2) (fun _ _ => ⟨rfl, e0, (by decide : 0 + 0 ≤ _), (by decide : 0 + 0 ≤ _)⟩)
  refine Wk.back (n := 5) (rc := 0) (rs := 0) (Q := Q_sbAP Z a1 x1 t2 k2 cx t1 k1 cs zc h0 n0) (cl1_ _ (by rw [hml]; rfl)) fun vn1 T1 L1 X1 hQ1 => ?_
  clear cl1_
  obtain ⟨rfl, M1, J1, p1_0, p1_1, p1_2, p1_3, p1_4⟩ := hQ1
  have N1 := Fr.app N0 M1
  have sz1 := J1.1
  have K1 := K0.trans J1 (allS (Or.inl (List.mem_of_getElem? (i := 0) rfl)) (allS (Or.inl (List.mem_of_getElem? (i := 1) rfl)) all0))
  have lt_p1_0 := ny p1_0.lt
  have lt_p1_4 := ny p1_4.lt
  show Wk p e below _ T1 (mkF m 5 _ [(.ref a1)])
  refine Wk.pop X1 hx (hb hby d_jdk_67_m7_5) (n := 6) rfl rfl ?_
  refine Wk.aloadN X1 hx (hb hby d_jdk_67_m7_6) (n := 7) rfl rfl rfl ?_
  exact Wk.leave X1 (v := some (.ref a1)) (fun h => by rw [Bd.returns] at h; cases h) hlk rfl ⟨rfl, N1, K1, p1_0, p1_1, p1_2, p1_3, p1_4⟩ (by decide) (by decide) (fun fs hr => retA X1 hx rfl Bd.returns rfl (hb hby d_jdk_67_m7_7) hr)
def Q_sbGV (Z : State) (a1 : Addr) (t1 : Addr) (h0 : Heap) (n0 : Nat) (v : Option Value) (h : Heap) (L : List Loc) : Prop := v = some (.ref t1) ∧ Fr n0 L ∧ h = h0
theorem ef_sbGV (m : MethodId) (x0 : Addr) : entryFrame m #[(.ref x0)] 1 = mkF m 0 #[.val (.ref x0)] [] := by first | (simp [entryFrame, mkF, argsToLocals, Value.category]; done) | rfl
theorem d_jdk_68_m64_0 : decode jdk_68_method_64_code 0 = .ok (.aload_n 0, 1) := by decide +kernel
theorem d_jdk_68_m64_1 : decode jdk_68_method_64_code 1 = .ok (.getfield 15, 3) := by decide +kernel
theorem d_jdk_68_m64_4 : decode jdk_68_method_64_code 4 = .ok (.areturn, 1) := by decide +kernel
set_option maxRecDepth 65536 in
set_option maxHeartbeats 40000000 in
theorem sbGV (l : Launch) (Z : State) (a0 : Array Value) (hw : ∀ d ∈ tables_1, d.before a0 Z = true) (ws : List Jvm.Cond) (a1 : Addr) (t1 : Addr) (h0 : Heap) (n0 : Nat) (Z0 : n0 ≤ h0.size) (F1 : Fld Z h0 a1 "java/lang/AbstractStringBuilder" "value" "[B" (.ref t1)) :
    MetFree l (⟨"java/lang/AbstractStringBuilder", "getValue", "()[B"⟩ : MethodName) (head1 (Jvm.Cond.code (⟨"java/lang/AbstractStringBuilder", "getValue", "()[B"⟩ : MethodName) jdk_68_method_64_code 1 (some (.array .byte)) :: ws) ({ frames := 0, cells := 0, slots := 0, locals := 0 } : Room)) (fun a U => a = #[(.ref a1)] ∧ Z.Warmed39 U.vm ∧ U.heap = h0) (fun _ _ _ _ _ => True) (fun _ U o U' => ∃ v L, o = .returned v ∧ Q_sbGV Z a1 t1 h0 n0 v U'.heap L ∧ FrameEnd U o U' L ({ frames := 0, cells := 0, slots := 0, locals := 0 } : Room).cells ({ frames := 0, cells := 0, slots := 0, locals := 0 } : Room).slots) := by
  refine MetFree.of_bodySF (plainFor_of_name pn_java_lang_AbstractStringBuilder) hisR ?_
  intro p e s m args below meth c s₁ Bd hml0 hP hK
  obtain ⟨rfl, hZ, hh⟩ := hP
  have hx := Bd.exec
  have hby := Bd.bytes
  have hlk := BodyLoose.notSynchronized Bd
  have hml : c.maxLocals = 1 := hml0
  have hown : s.vm.findClass "java/lang/AbstractStringBuilder" = some m.cls := findClass_of_methodNamed Bd.named
  have hnm := (name_of_methodNamed Bd.named Bd.method).1
  have X0 : Stand p l e ({ frames := 0, cells := 0, slots := 0, locals := 0 } : Room) s m #[(.ref a1)] below meth c s₁ [] 0 0 := Stand.of_body Bd
  have e0 : s₁.heap = h0 := by rw [← hh, Bd.state]; rfl
  have N0 := Fr.nil n0
  have K0 := Keep.refl h0 []
  clear hh
  show Wk p e below (EndN s (Q_sbGV Z a1 t1 h0 n0) ({ frames := 0, cells := 0, slots := 0, locals := 0 } : Room).cells ({ frames := 0, cells := 0, slots := 0, locals := 0 } : Room).slots) s₁ (entryFrame m #[(.ref a1)] 1)
  rw [ef_sbGV]
  have lt_F1 := ny F1.lt
  refine Wk.aloadN X0 hx (hb hby d_jdk_68_m64_0) (n := 1) rfl rfl rfl ?_
  refine Wk.getF X0 hx hZ hown (host := "") (Or.inl (hw _ (List.mem_of_getElem? (i := 62) rfl))) Via.refl e0 F1 (hb hby d_jdk_68_m64_1) (n := 4) rfl fun T1 X1 e1 => ?_
  exact Wk.leave X1 (v := some (.ref t1)) (fun h => by rw [Bd.returns] at h; cases h) hlk e1 ⟨rfl, N0, rfl⟩ (by decide) (by decide) (fun fs hr => retA X1 hx rfl Bd.returns rfl (hb hby d_jdk_68_m64_4) hr)
def Q_sbL1 (Z : State) (a1 : Addr) (i1 : Int32) (h0 : Heap) (n0 : Nat) (v : Option Value) (h : Heap) (L : List Loc) : Prop := v = some (.int i1) ∧ Fr n0 L ∧ h = h0
theorem ef_sbL1 (m : MethodId) (x0 : Addr) : entryFrame m #[(.ref x0)] 1 = mkF m 0 #[.val (.ref x0)] [] := by first | (simp [entryFrame, mkF, argsToLocals, Value.category]; done) | rfl
theorem d_jdk_68_m6_0 : decode jdk_68_method_6_code 0 = .ok (.aload_n 0, 1) := by decide +kernel
theorem d_jdk_68_m6_1 : decode jdk_68_method_6_code 1 = .ok (.getfield 79, 3) := by decide +kernel
theorem d_jdk_68_m6_4 : decode jdk_68_method_6_code 4 = .ok (.ireturn, 1) := by decide +kernel
set_option maxRecDepth 65536 in
set_option maxHeartbeats 40000000 in
theorem sbL1 (l : Launch) (Z : State) (a0 : Array Value) (hw : ∀ d ∈ tables_1, d.before a0 Z = true) (ws : List Jvm.Cond) (a1 : Addr) (i1 : Int32) (h0 : Heap) (n0 : Nat) (Z0 : n0 ≤ h0.size) (F1 : Fld Z h0 a1 "java/lang/AbstractStringBuilder" "count" "I" (.int i1)) :
    MetFree l (⟨"java/lang/AbstractStringBuilder", "length", "()I"⟩ : MethodName) (head1 (Jvm.Cond.code (⟨"java/lang/AbstractStringBuilder", "length", "()I"⟩ : MethodName) jdk_68_method_6_code 1 (some .int) :: ws) ({ frames := 0, cells := 0, slots := 0, locals := 0 } : Room)) (fun a U => a = #[(.ref a1)] ∧ Z.Warmed39 U.vm ∧ U.heap = h0) (fun _ _ _ _ _ => True) (fun _ U o U' => ∃ v L, o = .returned v ∧ Q_sbL1 Z a1 i1 h0 n0 v U'.heap L ∧ FrameEnd U o U' L ({ frames := 0, cells := 0, slots := 0, locals := 0 } : Room).cells ({ frames := 0, cells := 0, slots := 0, locals := 0 } : Room).slots) := by
  refine MetFree.of_bodySF (plainFor_of_name pn_java_lang_AbstractStringBuilder) hisR ?_
  intro p e s m args below meth c s₁ Bd hml0 hP hK
  obtain ⟨rfl, hZ, hh⟩ := hP
  have hx := Bd.exec
  have hby := Bd.bytes
  have hlk := BodyLoose.notSynchronized Bd
  have hml : c.maxLocals = 1 := hml0
  have hown : s.vm.findClass "java/lang/AbstractStringBuilder" = some m.cls := findClass_of_methodNamed Bd.named
  have hnm := (name_of_methodNamed Bd.named Bd.method).1
  have X0 : Stand p l e ({ frames := 0, cells := 0, slots := 0, locals := 0 } : Room) s m #[(.ref a1)] below meth c s₁ [] 0 0 := Stand.of_body Bd
  have e0 : s₁.heap = h0 := by rw [← hh, Bd.state]; rfl
  have N0 := Fr.nil n0
  have K0 := Keep.refl h0 []
  clear hh
  show Wk p e below (EndN s (Q_sbL1 Z a1 i1 h0 n0) ({ frames := 0, cells := 0, slots := 0, locals := 0 } : Room).cells ({ frames := 0, cells := 0, slots := 0, locals := 0 } : Room).slots) s₁ (entryFrame m #[(.ref a1)] 1)
  rw [ef_sbL1]
  have lt_F1 := ny F1.lt
  refine Wk.aloadN X0 hx (hb hby d_jdk_68_m6_0) (n := 1) rfl rfl rfl ?_
  refine Wk.getF X0 hx hZ hown (host := "") (Or.inl (hw _ (List.mem_of_getElem? (i := 87) rfl))) Via.refl e0 F1 (hb hby d_jdk_68_m6_1) (n := 4) rfl fun T1 X1 e1 => ?_
  exact Wk.leave X1 (v := some (.int i1)) (fun h => by rw [Bd.returns] at h; cases h) hlk e1 ⟨rfl, N0, rfl⟩ (by decide) (by decide) (fun fs hr => retI X1 hx Bd.returns (hb hby d_jdk_68_m6_4) hr)
def Q_sbL0 (Z : State) (a1 : Addr) (i1 : Int32) (h0 : Heap) (n0 : Nat) (v : Option Value) (h : Heap) (L : List Loc) : Prop := v = some (.int i1) ∧ Fr n0 L ∧ h = h0
theorem ef_sbL0 (m : MethodId) (x0 : Addr) : entryFrame m #[(.ref x0)] 1 = mkF m 0 #[.val (.ref x0)] [] := by first | (simp [entryFrame, mkF, argsToLocals, Value.category]; done) | rfl
theorem d_jdk_67_m93_0 : decode jdk_67_method_93_code 0 = .ok (.aload_n 0, 1) := by decide +kernel
theorem d_jdk_67_m93_1 : decode jdk_67_method_93_code 1 = .ok (.invokespecial 343, 3) := by decide +kernel
theorem d_jdk_67_m93_4 : decode jdk_67_method_93_code 4 = .ok (.ireturn, 1) := by decide +kernel
set_option maxRecDepth 65536 in
set_option maxHeartbeats 40000000 in
theorem sbL0 (l : Launch) (Z : State) (a0 : Array Value) (hw : ∀ d ∈ tables_1, d.before a0 Z = true) (ws : List Jvm.Cond) (a1 : Addr) (i1 : Int32) (h0 : Heap) (n0 : Nat) (Z0 : n0 ≤ h0.size) (E1 : Exa Z h0 a1 "java/lang/StringBuilder") (F1 : Fld Z h0 a1 "java/lang/AbstractStringBuilder" "count" "I" (.int i1)) :
    MetFree l (⟨"java/lang/StringBuilder", "length", "()I"⟩ : MethodName) (head1 (Jvm.Cond.code (⟨"java/lang/StringBuilder", "length", "()I"⟩ : MethodName) jdk_67_method_93_code 1 (some .int) :: ws) ({ frames := 1, cells := 0, slots := 0, locals := 12 } : Room)) (fun a U => a = #[(.ref a1)] ∧ Z.Warmed39 U.vm ∧ U.heap = h0) (fun _ _ _ _ _ => True) (fun _ U o U' => ∃ v L, o = .returned v ∧ Q_sbL0 Z a1 i1 h0 n0 v U'.heap L ∧ FrameEnd U o U' L ({ frames := 1, cells := 0, slots := 0, locals := 12 } : Room).cells ({ frames := 1, cells := 0, slots := 0, locals := 12 } : Room).slots) := by
  refine MetFree.of_bodySF (plainFor_of_name pn_java_lang_StringBuilder) hisR ?_
  intro p e s m args below meth c s₁ Bd hml0 hP hK
  obtain ⟨rfl, hZ, hh⟩ := hP
  have hx := Bd.exec
  have hby := Bd.bytes
  have hlk := BodyLoose.notSynchronized Bd
  have hml : c.maxLocals = 1 := hml0
  have hown : s.vm.findClass "java/lang/StringBuilder" = some m.cls := findClass_of_methodNamed Bd.named
  have hnm := (name_of_methodNamed Bd.named Bd.method).1
  have X0 : Stand p l e ({ frames := 1, cells := 0, slots := 0, locals := 12 } : Room) s m #[(.ref a1)] below meth c s₁ [] 0 0 := Stand.of_body Bd
  have e0 : s₁.heap = h0 := by rw [← hh, Bd.state]; rfl
  have N0 := Fr.nil n0
  have K0 := Keep.refl h0 []
  clear hh
  show Wk p e below (EndN s (Q_sbL0 Z a1 i1 h0 n0) ({ frames := 1, cells := 0, slots := 0, locals := 12 } : Room).cells ({ frames := 1, cells := 0, slots := 0, locals := 12 } : Room).slots) s₁ (entryFrame m #[(.ref a1)] 1)
  rw [ef_sbL0]
  have lt_E1 := ny E1.lt
  have lt_F1 := ny F1.lt
  refine Wk.aloadN X0 hx (hb hby d_jdk_67_m93_0) (n := 1) rfl rfl rfl ?_
  have cl1_ := fun (Ls : Array Slot) (hLs : Ls.size = c.maxLocals) => superBack X0 hx hZ (y := (⟨"java/lang/AbstractStringBuilder", "length", "()I"⟩ : MethodName)) hown (hw _ (List.mem_of_getElem? (i := 160) rfl)) (own_same (hw _ (List.mem_of_getElem? (i := 156) rfl)) (hw _ (List.mem_of_getElem? (i := 90) rfl)) (hw _ (List.mem_of_getElem? (i := 92) rfl)) (by decide)) (hw _ (List.mem_of_getElem? (i := 156) rfl)) (hw _ (List.mem_of_getElem? (i := 73) rfl)) (by decide) (backOf (W := 0) (sbL1 l Z a0 hw [] a1 i1 h0 n0 (by omega) F1) hZ (hw _ (List.mem_of_getElem? (i := 161) rfl)) (hw _ (List.mem_of_getElem? (i := 58) rfl)) (by decide) (by decide)) e0 (Ins.self E1) (g := mkF m 1 Ls [(.ref a1)]) rfl hLs (hw _ (List.mem_of_getElem? (i := 161) rfl)) (argsL := []) (rest := []) (lenOf pd_7 rfl) rfl (by show 2 * 0 + _ ≤ _; exact Nat.le_of_eq rfl) (hb hby d_jdk_67_m93_1) (fun _ _ => ⟨rfl, e0, (by decide : 0 + 0 ≤ _), (by decide : 0 + 0 ≤ _)⟩)
  refine Wk.back (n := 4) (rc := 0) (rs := 0) (Q := Q_sbL1 Z a1 i1 h0 n0) (cl1_ _ (by rw [hml]; rfl)) fun vn1 T1 L1 X1 hQ1 => ?_
  clear cl1_
  obtain ⟨rfl, M1, e1⟩ := hQ1
  have N1 := Fr.app N0 M1
  show Wk p e below _ T1 (mkF m 4 _ [(.int i1)])
  exact Wk.leave X1 (v := some (.int i1)) (fun h => by rw [Bd.returns] at h; cases h) hlk e1 ⟨rfl, N1, rfl⟩ (by decide) (by decide) (fun fs hr => retI X1 hx Bd.returns (hb hby d_jdk_67_m93_4) hr)
def Q_sbIL (Z : State) (a1 : Addr) (zc : Int32) (h0 : Heap) (n0 : Nat) (v : Option Value) (h : Heap) (L : List Loc) : Prop := v = some (.int (1 : Int32)) ∧ Fr n0 L ∧ h = h0
theorem ef_sbIL (m : MethodId) (x0 : Addr) : entryFrame m #[(.ref x0)] 1 = mkF m 0 #[.val (.ref x0)] [] := by first | (simp [entryFrame, mkF, argsToLocals, Value.category]; done) | rfl
theorem d_jdk_68_m68_0 : decode jdk_68_method_68_code 0 = .ok (.getstatic 18, 3) := by decide +kernel
theorem d_jdk_68_m68_3 : decode jdk_68_method_68_code 3 = .ok (.ifCond .eq 14, 3) := by decide +kernel
theorem d_jdk_68_m68_6 : decode jdk_68_method_68_code 6 = .ok (.aload_n 0, 1) := by decide +kernel
theorem d_jdk_68_m68_7 : decode jdk_68_method_68_code 7 = .ok (.getfield 22, 3) := by decide +kernel
theorem d_jdk_68_m68_10 : decode jdk_68_method_68_code 10 = .ok (.ifCond .ne 7, 3) := by decide +kernel
theorem d_jdk_68_m68_13 : decode jdk_68_method_68_code 13 = .ok (.iconst 1, 1) := by decide +kernel
theorem d_jdk_68_m68_14 : decode jdk_68_method_68_code 14 = .ok (.goto 4, 3) := by decide +kernel
theorem d_jdk_68_m68_18 : decode jdk_68_method_68_code 18 = .ok (.ireturn, 1) := by decide +kernel
set_option maxRecDepth 65536 in
set_option maxHeartbeats 40000000 in
theorem sbIL (l : Launch) (Z : State) (a0 : Array Value) (hw : ∀ d ∈ tables_1, d.before a0 Z = true) (ws : List Jvm.Cond) (a1 : Addr) (zc : Int32) (h0 : Heap) (n0 : Nat) (Z0 : n0 ≤ h0.size) (F1 : Fld Z h0 a1 "java/lang/AbstractStringBuilder" "coder" "B" (.int (0 : Int32))) (S4 : Sta Z Z.heap "java/lang/String" "COMPACT_STRINGS" "Z" (.int zc)) (O1 : Old Z n0 h0) (hCS : ¬ zc = 0) :
    MetFree l (⟨"java/lang/AbstractStringBuilder", "isLatin1", "()Z"⟩ : MethodName) (head1 (Jvm.Cond.code (⟨"java/lang/AbstractStringBuilder", "isLatin1", "()Z"⟩ : MethodName) jdk_68_method_68_code 1 (some .boolean) :: ws) ({ frames := 0, cells := 0, slots := 0, locals := 0 } : Room)) (fun a U => a = #[(.ref a1)] ∧ Z.Warmed39 U.vm ∧ U.heap = h0) (fun _ _ _ _ _ => True) (fun _ U o U' => ∃ v L, o = .returned v ∧ Q_sbIL Z a1 zc h0 n0 v U'.heap L ∧ FrameEnd U o U' L ({ frames := 0, cells := 0, slots := 0, locals := 0 } : Room).cells ({ frames := 0, cells := 0, slots := 0, locals := 0 } : Room).slots) := by
  refine MetFree.of_bodySF (plainFor_of_name pn_java_lang_AbstractStringBuilder) hisR ?_
  intro p e s m args below meth c s₁ Bd hml0 hP hK
  obtain ⟨rfl, hZ, hh⟩ := hP
  have hx := Bd.exec
  have hby := Bd.bytes
  have hlk := BodyLoose.notSynchronized Bd
  have hml : c.maxLocals = 1 := hml0
  have hown : s.vm.findClass "java/lang/AbstractStringBuilder" = some m.cls := findClass_of_methodNamed Bd.named
  have hnm := (name_of_methodNamed Bd.named Bd.method).1
  have X0 : Stand p l e ({ frames := 0, cells := 0, slots := 0, locals := 0 } : Room) s m #[(.ref a1)] below meth c s₁ [] 0 0 := Stand.of_body Bd
  have e0 : s₁.heap = h0 := by rw [← hh, Bd.state]; rfl
  have N0 := Fr.nil n0
  have K0 := Keep.refl h0 []
  clear hh
  show Wk p e below (EndN s (Q_sbIL Z a1 zc h0 n0) ({ frames := 0, cells := 0, slots := 0, locals := 0 } : Room).cells ({ frames := 0, cells := 0, slots := 0, locals := 0 } : Room).slots) s₁ (entryFrame m #[(.ref a1)] 1)
  rw [ef_sbIL]
  have lt_F1 := ny F1.lt
  refine Wk.getS X0 hx hZ hown (host := "") (Or.inl (hw _ (List.mem_of_getElem? (i := 61) rfl))) Via.refl e0 (Sta.ext O1.2 S4) (hb hby d_jdk_68_m68_0) (n := 3) rfl fun T1 X1 e1 => ?_
  have hc3_2 : ¬ (zc = (0 : Int32)) := hCS
  refine Wk.ifNo X1 hx (hb hby d_jdk_68_m68_3) (n := 6) rfl ((if0 _ _).trans (feq hc3_2).1) ?_
  refine Wk.aloadN X1 hx (hb hby d_jdk_68_m68_6) (n := 7) rfl rfl rfl ?_
  refine Wk.getF X1 hx hZ hown (host := "") (Or.inl (hw _ (List.mem_of_getElem? (i := 64) rfl))) Via.refl e1 F1 (hb hby d_jdk_68_m68_7) (n := 10) rfl fun T3 X3 e3 => ?_
  have hc10_4 : (0 : Int32) = (0 : Int32) := rfl
  refine Wk.ifNo X3 hx (hb hby d_jdk_68_m68_10) (n := 13) rfl ((if0 _ _).trans (teq hc10_4).2) ?_
  refine Wk.iconst X3 hx (hb hby d_jdk_68_m68_13) (n := 14) rfl (z := (1 : Int32)) rfl ?_
  refine Wk.goto X3 hx (hb hby d_jdk_68_m68_14) (by decide) (n := 18) (by decide) ?_
  exact Wk.leave X3 (v := some (.int (1 : Int32))) (fun h => by rw [Bd.returns] at h; cases h) hlk e3 ⟨rfl, N0, rfl⟩ (by decide) (by decide) (fun fs hr => retNz X3 hx (t := .boolean) rfl Bd.returns (by simp) (hb hby d_jdk_68_m68_18) hr)
def Q_sbMI (Z : State) (i1 : Int32) (i2 : Int32) (h0 : Heap) (n0 : Nat) (v : Option Value) (h : Heap) (L : List Loc) : Prop := v = some (.int i2) ∧ Fr n0 L ∧ h = h0
theorem ef_sbMI (m : MethodId) (x0 : Int32) (x1 : Int32) : entryFrame m #[(.int x0), (.int x1)] 2 = mkF m 0 #[.val (.int x0), .val (.int x1)] [] := by first | (simp [entryFrame, mkF, argsToLocals, Value.category]; done) | rfl
theorem d_jdk_29_m69_0 : decode jdk_29_method_69_code 0 = .ok (.iload_n 0, 1) := by decide +kernel
theorem d_jdk_29_m69_1 : decode jdk_29_method_69_code 1 = .ok (.iload_n 1, 1) := by decide +kernel
theorem d_jdk_29_m69_2 : decode jdk_29_method_69_code 2 = .ok (.if_icmp .gt 7, 3) := by decide +kernel
theorem d_jdk_29_m69_9 : decode jdk_29_method_69_code 9 = .ok (.iload_n 1, 1) := by decide +kernel
theorem d_jdk_29_m69_10 : decode jdk_29_method_69_code 10 = .ok (.ireturn, 1) := by decide +kernel
set_option maxRecDepth 65536 in
set_option maxHeartbeats 40000000 in
theorem sbMI (l : Launch) (Z : State) (a0 : Array Value) (hw : ∀ d ∈ tables_1, d.before a0 Z = true) (ws : List Jvm.Cond) (i1 : Int32) (i2 : Int32) (h0 : Heap) (n0 : Nat) (Z0 : n0 ≤ h0.size) (h1 : i2 < i1) :
    MetFree l (⟨"java/lang/Math", "min", "(II)I"⟩ : MethodName) (head1 (Jvm.Cond.code (⟨"java/lang/Math", "min", "(II)I"⟩ : MethodName) jdk_29_method_69_code 2 (some .int) :: ws) ({ frames := 0, cells := 0, slots := 0, locals := 0 } : Room)) (fun a U => a = #[(.int i1), (.int i2)] ∧ Z.Warmed39 U.vm ∧ U.heap = h0) (fun _ _ _ _ _ => True) (fun _ U o U' => ∃ v L, o = .returned v ∧ Q_sbMI Z i1 i2 h0 n0 v U'.heap L ∧ FrameEnd U o U' L ({ frames := 0, cells := 0, slots := 0, locals := 0 } : Room).cells ({ frames := 0, cells := 0, slots := 0, locals := 0 } : Room).slots) := by
  refine MetFree.of_bodySF (Jvm.Free.JP.mathPlain rfl (by decide +kernel)) hisR ?_
  intro p e s m args below meth c s₁ Bd hml0 hP hK
  obtain ⟨rfl, hZ, hh⟩ := hP
  have hx := Bd.exec
  have hby := Bd.bytes
  have hlk := BodyLoose.notSynchronized Bd
  have hml : c.maxLocals = 2 := hml0
  have hown : s.vm.findClass "java/lang/Math" = some m.cls := findClass_of_methodNamed Bd.named
  have hnm := (name_of_methodNamed Bd.named Bd.method).1
  have X0 : Stand p l e ({ frames := 0, cells := 0, slots := 0, locals := 0 } : Room) s m #[(.int i1), (.int i2)] below meth c s₁ [] 0 0 := Stand.of_body Bd
  have e0 : s₁.heap = h0 := by rw [← hh, Bd.state]; rfl
  have N0 := Fr.nil n0
  have K0 := Keep.refl h0 []
  clear hh
  show Wk p e below (EndN s (Q_sbMI Z i1 i2 h0 n0) ({ frames := 0, cells := 0, slots := 0, locals := 0 } : Room).cells ({ frames := 0, cells := 0, slots := 0, locals := 0 } : Room).slots) s₁ (entryFrame m #[(.int i1), (.int i2)] 2)
  rw [ef_sbMI]
  refine Wk.iloadN X0 hx (hb hby d_jdk_29_m69_0) (n := 1) rfl rfl ?_
  refine Wk.iloadN X0 hx (hb hby d_jdk_29_m69_1) (n := 2) rfl rfl ?_
  have hc2_1 : i2 < i1 := h1
  refine Wk.icmpYes X0 hx (hb hby d_jdk_29_m69_2) (tlt hc2_1).2.2.1 (by decide) (n := 9) (by decide) ?_
  refine Wk.iloadN X0 hx (hb hby d_jdk_29_m69_9) (n := 10) rfl rfl ?_
  exact Wk.leave X0 (v := some (.int i2)) (fun h => by rw [Bd.returns] at h; cases h) hlk e0 ⟨rfl, N0, rfl⟩ (by decide) (by decide) (fun fs hr => retI X0 hx Bd.returns (hb hby d_jdk_29_m69_10) hr)
def Q_sbCL (Z : State) (i1 : Int32) (i2 : Int32) (h0 : Heap) (n0 : Nat) (v : Option Value) (h : Heap) (L : List Loc) : Prop := v = none ∧ Fr n0 L ∧ h = h0
theorem ef_sbCL (m : MethodId) (x0 : Int32) (x1 : Int32) : entryFrame m #[(.int x0), (.int x1)] 2 = mkF m 0 #[.val (.int x0), .val (.int x1)] [] := by first | (simp [entryFrame, mkF, argsToLocals, Value.category]; done) | rfl
theorem pn_java_util_Arrays : plainName "java/util/Arrays" = true := by first | (simp [plainName, overriddenIn]; done) | decide +kernel
theorem d_jdk_65_m131_0 : decode jdk_65_method_131_code 0 = .ok (.iload_n 1, 1) := by decide +kernel
theorem d_jdk_65_m131_1 : decode jdk_65_method_131_code 1 = .ok (.iload_n 0, 1) := by decide +kernel
theorem d_jdk_65_m131_2 : decode jdk_65_method_131_code 2 = .ok (.if_icmp .ge 35, 3) := by decide +kernel
theorem d_jdk_65_m131_37 : decode jdk_65_method_131_code 37 = .ok (.return_, 1) := by decide +kernel
set_option maxRecDepth 65536 in
set_option maxHeartbeats 40000000 in
theorem sbCL (l : Launch) (Z : State) (a0 : Array Value) (hw : ∀ d ∈ tables_1, d.before a0 Z = true) (ws : List Jvm.Cond) (i1 : Int32) (i2 : Int32) (h0 : Heap) (n0 : Nat) (Z0 : n0 ≤ h0.size) (h1 : ¬ i2 < i1) :
    MetFree l (⟨"java/util/Arrays", "checkLength", "(II)V"⟩ : MethodName) (head1 (Jvm.Cond.code (⟨"java/util/Arrays", "checkLength", "(II)V"⟩ : MethodName) jdk_65_method_131_code 2 none :: ws) ({ frames := 0, cells := 0, slots := 0, locals := 0 } : Room)) (fun a U => a = #[(.int i1), (.int i2)] ∧ Z.Warmed39 U.vm ∧ U.heap = h0) (fun _ _ _ _ _ => True) (fun _ U o U' => ∃ v L, o = .returned v ∧ Q_sbCL Z i1 i2 h0 n0 v U'.heap L ∧ FrameEnd U o U' L ({ frames := 0, cells := 0, slots := 0, locals := 0 } : Room).cells ({ frames := 0, cells := 0, slots := 0, locals := 0 } : Room).slots) := by
  refine MetFree.of_bodySF (plainFor_of_name pn_java_util_Arrays) hisR ?_
  intro p e s m args below meth c s₁ Bd hml0 hP hK
  obtain ⟨rfl, hZ, hh⟩ := hP
  have hx := Bd.exec
  have hby := Bd.bytes
  have hlk := BodyLoose.notSynchronized Bd
  have hml : c.maxLocals = 2 := hml0
  have hown : s.vm.findClass "java/util/Arrays" = some m.cls := findClass_of_methodNamed Bd.named
  have hnm := (name_of_methodNamed Bd.named Bd.method).1
  have X0 : Stand p l e ({ frames := 0, cells := 0, slots := 0, locals := 0 } : Room) s m #[(.int i1), (.int i2)] below meth c s₁ [] 0 0 := Stand.of_body Bd
  have e0 : s₁.heap = h0 := by rw [← hh, Bd.state]; rfl
  have N0 := Fr.nil n0
  have K0 := Keep.refl h0 []
  clear hh
  show Wk p e below (EndN s (Q_sbCL Z i1 i2 h0 n0) ({ frames := 0, cells := 0, slots := 0, locals := 0 } : Room).cells ({ frames := 0, cells := 0, slots := 0, locals := 0 } : Room).slots) s₁ (entryFrame m #[(.int i1), (.int i2)] 2)
  rw [ef_sbCL]
  refine Wk.iloadN X0 hx (hb hby d_jdk_65_m131_0) (n := 1) rfl rfl ?_
  refine Wk.iloadN X0 hx (hb hby d_jdk_65_m131_1) (n := 2) rfl rfl ?_
  have hc2_1 : ¬ (i2 < i1) := h1
  refine Wk.icmpYes X0 hx (hb hby d_jdk_65_m131_2) (flt hc2_1).2.1 (by decide) (n := 37) (by decide) ?_
  exact Wk.leave X0 (v := none) (fun _ => rfl) hlk e0 ⟨rfl, N0, rfl⟩ (by decide) (by decide) (fun fs hr => X0.returnOut hx Bd.returns (hb hby d_jdk_65_m131_37) hr)
def Q_sbCB (Z : State) (t1 : Addr) (k1 : ClassId) (cs : List Int32) (i1 : Int32) (h0 : Heap) (n0 : Nat) (v : Option Value) (h : Heap) (L : List Loc) : Prop := ∃ (t : Addr) (kb : ClassId), v = some (.ref t) ∧ Fr n0 L ∧ Keep h0 h [] ∧ Arv Z h t kb .byte (Int32.ofNat cs.length) (bsV cs) (.int (0 : Int32)) ∧ (h0.size ≤ t)
theorem ef_sbCB (m : MethodId) (x0 : Addr) (x2 : Int32) : entryFrame m #[(.ref x0), (.int (0 : Int32)), (.int x2)] 5 = mkF m 0 #[.val (.ref x0), .val (.int (0 : Int32)), .val (.int x2), .unset, .unset] [] := by first | (simp [entryFrame, mkF, argsToLocals, Value.category]; done) | rfl
theorem d_jdk_65_m133_0 : decode jdk_65_method_133_code 0 = .ok (.iload_n 1, 1) := by decide +kernel
theorem d_jdk_65_m133_1 : decode jdk_65_method_133_code 1 = .ok (.iload_n 2, 1) := by decide +kernel
theorem d_jdk_65_m133_2 : decode jdk_65_method_133_code 2 = .ok (.invokestatic 343, 3) := by decide +kernel
theorem pd_10 : parseMethodDescriptor "(II)V" = some ⟨[.int, .int], none⟩ := by decide +kernel
theorem d_jdk_65_m133_5 : decode jdk_65_method_133_code 5 = .ok (.iload_n 2, 1) := by decide +kernel
theorem d_jdk_65_m133_6 : decode jdk_65_method_133_code 6 = .ok (.iload_n 1, 1) := by decide +kernel
theorem d_jdk_65_m133_7 : decode jdk_65_method_133_code 7 = .ok (.isub, 1) := by decide +kernel
theorem d_jdk_65_m133_8 : decode jdk_65_method_133_code 8 = .ok (.istore_n 3, 1) := by decide +kernel
theorem d_jdk_65_m133_9 : decode jdk_65_method_133_code 9 = .ok (.iload_n 3, 1) := by decide +kernel
theorem d_jdk_65_m133_10 : decode jdk_65_method_133_code 10 = .ok (.newarray .byte, 2) := by decide +kernel
theorem d_jdk_65_m133_12 : decode jdk_65_method_133_code 12 = .ok (.astore 4, 2) := by decide +kernel
theorem d_jdk_65_m133_14 : decode jdk_65_method_133_code 14 = .ok (.aload_n 0, 1) := by decide +kernel
theorem d_jdk_65_m133_15 : decode jdk_65_method_133_code 15 = .ok (.iload_n 1, 1) := by decide +kernel
theorem d_jdk_65_m133_16 : decode jdk_65_method_133_code 16 = .ok (.aload 4, 2) := by decide +kernel
theorem d_jdk_65_m133_18 : decode jdk_65_method_133_code 18 = .ok (.iconst 0, 1) := by decide +kernel
theorem d_jdk_65_m133_19 : decode jdk_65_method_133_code 19 = .ok (.aload_n 0, 1) := by decide +kernel
theorem d_jdk_65_m133_20 : decode jdk_65_method_133_code 20 = .ok (.arraylength, 1) := by decide +kernel
theorem d_jdk_65_m133_21 : decode jdk_65_method_133_code 21 = .ok (.iload_n 1, 1) := by decide +kernel
theorem d_jdk_65_m133_22 : decode jdk_65_method_133_code 22 = .ok (.isub, 1) := by decide +kernel
theorem d_jdk_65_m133_23 : decode jdk_65_method_133_code 23 = .ok (.iload_n 3, 1) := by decide +kernel
theorem d_jdk_65_m133_24 : decode jdk_65_method_133_code 24 = .ok (.invokestatic 304, 3) := by decide +kernel
theorem pd_11 : parseMethodDescriptor "(II)I" = some ⟨[.int, .int], some .int⟩ := by decide +kernel
theorem d_jdk_65_m133_27 : decode jdk_65_method_133_code 27 = .ok (.invokestatic 150, 3) := by decide +kernel
theorem d_jdk_65_m133_30 : decode jdk_65_method_133_code 30 = .ok (.aload 4, 2) := by decide +kernel
theorem d_jdk_65_m133_32 : decode jdk_65_method_133_code 32 = .ok (.areturn, 1) := by decide +kernel
set_option maxRecDepth 65536 in
set_option maxHeartbeats 40000000 in
theorem sbCB (l : Launch) (Z : State) (a0 : Array Value) (hw : ∀ d ∈ tables_1, d.before a0 Z = true) (ws : List Jvm.Cond) (t1 : Addr) (k1 : ClassId) (cs : List Int32) (i1 : Int32) (h0 : Heap) (n0 : Nat) (Z0 : n0 ≤ h0.size) (Ab1 : Arv Z h0 t1 k1 .byte (Int32.ofNat 16) (bsV cs) (.int (0 : Int32))) (hi : i1 = Int32.ofNat cs.length) (hN : cs.length < 16) :
    MetFree l (⟨"java/util/Arrays", "copyOfRangeByte", "([BII)[B"⟩ : MethodName) (head1 (Jvm.Cond.code (⟨"java/util/Arrays", "copyOfRangeByte", "([BII)[B"⟩ : MethodName) jdk_65_method_133_code 5 (some (.array .byte)) :: ws) ({ frames := 1, cells := 1, slots := 16, locals := 31 } : Room)) (fun a U => a = #[(.ref t1), (.int (0 : Int32)), (.int i1)] ∧ Z.Warmed39 U.vm ∧ U.heap = h0) (fun _ _ _ _ _ => True) (fun _ U o U' => ∃ v L, o = .returned v ∧ Q_sbCB Z t1 k1 cs i1 h0 n0 v U'.heap L ∧ FrameEnd U o U' L ({ frames := 1, cells := 1, slots := 16, locals := 31 } : Room).cells ({ frames := 1, cells := 1, slots := 16, locals := 31 } : Room).slots) := by
  refine MetFree.of_bodySF (plainFor_of_name pn_java_util_Arrays) hisR ?_
  intro p e s m args below meth c s₁ Bd hml0 hP hK
  obtain ⟨rfl, hZ, hh⟩ := hP
  have hx := Bd.exec
  have hby := Bd.bytes
  have hlk := BodyLoose.notSynchronized Bd
  have hml : c.maxLocals = 5 := hml0
  have hown : s.vm.findClass "java/util/Arrays" = some m.cls := findClass_of_methodNamed Bd.named
  have hnm := (name_of_methodNamed Bd.named Bd.method).1
  have X0 : Stand p l e ({ frames := 1, cells := 1, slots := 16, locals := 31 } : Room) s m #[(.ref t1), (.int (0 : Int32)), (.int i1)] below meth c s₁ [] 0 0 := Stand.of_body Bd
  have e0 : s₁.heap = h0 := by rw [← hh, Bd.state]; rfl
  have N0 := Fr.nil n0
  have K0 := Keep.refl h0 []
  clear hh
  show Wk p e below (EndN s (Q_sbCB Z t1 k1 cs i1 h0 n0) ({ frames := 1, cells := 1, slots := 16, locals := 31 } : Room).cells ({ frames := 1, cells := 1, slots := 16, locals := 31 } : Room).slots) s₁ (entryFrame m #[(.ref t1), (.int (0 : Int32)), (.int i1)] 5)
  rw [ef_sbCB]
  have lt_Ab1 := ny Ab1.lt
  have hi0 : i1 - (0 : Int32) = Int32.ofNat cs.length := (own_sub0 _).trans hi
  refine Wk.iloadN X0 hx (hb hby d_jdk_65_m133_0) (n := 1) rfl rfl ?_
  refine Wk.iloadN X0 hx (hb hby d_jdk_65_m133_1) (n := 2) rfl rfl ?_
  have cl1_ := fun (Ls : Array Slot) (hLs : Ls.size = c.maxLocals) => Jvm.LawKit.callS X0 hx (y := (⟨"java/util/Arrays", "checkLength", "(II)V"⟩ : MethodName)) hown (mvT hZ (hw _ (List.mem_of_getElem? (i := 170) rfl))) (mvT hZ (hw _ (List.mem_of_getElem? (i := 171) rfl))) (mvT hZ (hw _ (List.mem_of_getElem? (i := 165) rfl))) (mvT hZ (hw _ (List.mem_of_getElem? (i := 172) rfl))) (by decide) (backOf (W := 0) (sbCL l Z a0 hw [] (0 : Int32) i1 h0 n0 (by omega) (by rw [hi]; exact own_nonneg (by omega))) hZ (hw _ (List.mem_of_getElem? (i := 172) rfl)) (hw _ (List.mem_of_getElem? (i := 165) rfl)) (by decide) (by decide)) (g := mkF m 2 Ls [(.int i1), (.int (0 : Int32))]) rfl hLs (argsL := [(.int (0 : Int32)), (.int i1)]) (rest := []) (lenOf pd_10 rfl) rfl (by show 2 * 0 + _ ≤ _; exact Nat.le_of_eq rfl) (hb hby d_jdk_65_m133_2) (fun _ _ => ⟨rfl, e0, (by decide : 0 + 0 ≤ _), (by decide : 0 + 0 ≤ _)⟩)
  refine Wk.backS (n := 5) (rc := 0) (rs := 0) (Q := Q_sbCL Z (0 : Int32) i1 h0 n0) (cl1_ _ (by rw [hml]; rfl)) fun vn1 T1 L1 X1 hQ1 => ?_
  clear cl1_
  obtain ⟨rfl, M1, e1⟩ := hQ1
  have N1 := Fr.app N0 M1
  show Wk p e below _ T1 (mkF m 5 _ [])
  refine Wk.iloadN X1 hx (hb hby d_jdk_65_m133_5) (n := 6) rfl rfl ?_
  refine Wk.iloadN X1 hx (hb hby d_jdk_65_m133_6) (n := 7) rfl rfl ?_
  refine Wk.isub X1 hx (hb hby d_jdk_65_m133_7) (n := 8) rfl ?_
  refine Wk.istoreN X1 hx (hb hby d_jdk_65_m133_8) (n := 9) rfl (L' := #[.val (.ref t1), .val (.int (0 : Int32)), .val (.int i1), .val (.int (i1 - (0 : Int32))), .unset]) rfl ?_
  refine Wk.iloadN X1 hx (hb hby d_jdk_65_m133_9) (n := 10) rfl rfl ?_
  refine Wk.newP X1 hx hZ (hw _ (List.mem_of_getElem? (i := 16) rfl)) e1 (hb hby d_jdk_65_m133_10) (n := 12) rfl (by rw [hi0]; exact own_nonneg (by omega)) (cap := 16) (by rw [hi0, own_cl (by omega)]; omega) (by decide) (by decide) (by decide) fun T2 H2 b2 k2 gn2 X2 e2 Ex2 An2 => ?_
  have gn2 := nx gn2
  have sz2 := Ex2.1
  have K2 := K0.ext Ex2
  have Vn2 : Arv Z H2 b2 k2 .byte (i1 - (0 : Int32)) (List.replicate 16 (.int (0 : Int32))) (.int (0 : Int32)) := (Arv.new An2 (by rw [hi0]; exact own_nonneg (by omega))).pad (pad_rep [] (.int (0 : Int32)) 16)
  have lt2 := ny Vn2.lt
  refine Wk.astore X2 hx (hb hby d_jdk_65_m133_12) (n := 14) rfl rfl (L' := #[.val (.ref t1), .val (.int (0 : Int32)), .val (.int i1), .val (.int (i1 - (0 : Int32))), .val (.ref b2)]) rfl ?_
  refine Wk.aloadN X2 hx (hb hby d_jdk_65_m133_14) (n := 15) rfl rfl rfl ?_
  refine Wk.iloadN X2 hx (hb hby d_jdk_65_m133_15) (n := 16) rfl rfl ?_
  refine Wk.aload X2 hx (hb hby d_jdk_65_m133_16) (n := 18) rfl rfl rfl ?_
  refine Wk.iconst X2 hx (hb hby d_jdk_65_m133_18) (n := 19) rfl (z := (0 : Int32)) rfl ?_
  refine Wk.aloadN X2 hx (hb hby d_jdk_65_m133_19) (n := 20) rfl rfl rfl ?_
  have f3 := (Ab1.ext Ex2)
  obtain ⟨cl4, Ar4, qn4, Sz4, N_4, H_4, Gn4⟩ := id f3
  refine Wk.arrlen X2 hx hZ e2 Ar4 Sz4 N_4 (hb hby d_jdk_65_m133_20) (n := 21) rfl ?_
  refine Wk.iloadN X2 hx (hb hby d_jdk_65_m133_21) (n := 22) rfl rfl ?_
  refine Wk.isub X2 hx (hb hby d_jdk_65_m133_22) (n := 23) rfl ?_
  refine Wk.iloadN X2 hx (hb hby d_jdk_65_m133_23) (n := 24) rfl rfl ?_
  have cl5_ := fun (Ls : Array Slot) (hLs : Ls.size = c.maxLocals) => Jvm.LawKit.callS X2 hx (y := (⟨"java/lang/Math", "min", "(II)I"⟩ : MethodName)) hown (mvT hZ (hw _ (List.mem_of_getElem? (i := 173) rfl))) (mvT hZ (hw _ (List.mem_of_getElem? (i := 174) rfl))) (mvT hZ (hw _ (List.mem_of_getElem? (i := 175) rfl))) (mvT hZ (hw _ (List.mem_of_getElem? (i := 176) rfl))) (by decide) (backOf (W := 4) (sbMI l Z a0 hw [] ((Int32.ofNat 16) - (0 : Int32)) (i1 - (0 : Int32)) H2 n0 (by omega) (by rw [hi0, own_sub0]; exact (own_lt (by omega) (by decide)).mpr hN)) hZ (hw _ (List.mem_of_getElem? (i := 176) rfl)) (hw _ (List.mem_of_getElem? (i := 175) rfl)) (by decide) (by decide)) (g := mkF m 24 Ls [(.int (i1 - (0 : Int32))), (.int ((Int32.ofNat 16) - (0 : Int32))), (.int (0 : Int32)), (.ref b2), (.int (0 : Int32)), (.ref t1)]) rfl hLs (argsL := [(.int ((Int32.ofNat 16) - (0 : Int32))), (.int (i1 - (0 : Int32)))]) (rest := [(.int (0 : Int32)), (.ref b2), (.int (0 : Int32)), (.ref t1)]) (lenOf pd_11 rfl) rfl (by show 2 * 0 + _ ≤ _; exact Nat.le_of_eq rfl) (hb hby d_jdk_65_m133_24) (fun _ _ => ⟨rfl, e2, (by decide : 0 + 0 + 1 + 0 ≤ _), (by decide : 0 + 0 + 16 + 0 ≤ _)⟩)
  refine Wk.backS (n := 27) (rc := 0) (rs := 0) (Q := Q_sbMI Z ((Int32.ofNat 16) - (0 : Int32)) (i1 - (0 : Int32)) H2 n0) (cl5_ _ (by rw [hml]; rfl)) fun vn5 T5 L5 X5 hQ5 => ?_
  clear cl5_
  obtain ⟨rfl, M5, e5⟩ := hQ5
  have N5 := Fr.app N1 M5
  show Wk p e below _ T5 (mkF m 27 _ [(.int (i1 - (0 : Int32))), (.int (0 : Int32)), (.ref b2), (.int (0 : Int32)), (.ref t1)])
  have Pd := Arv.pad Vn2 (own_padr 16 cs.length (.int (0 : Int32)))
  refine Wk.cpA X5 hx hZ hown (hw _ (List.mem_of_getElem? (i := 177) rfl)) (hw _ (List.mem_of_getElem? (i := 113) rfl)) (hw _ (List.mem_of_getElem? (i := 111) rfl)) (hw _ (List.mem_of_getElem? (i := 112) rfl)) e5 f3 Pd (Or.inl ⟨rfl, rfl⟩) (i := 0) (j := 0) (q := cs.length) rfl rfl hi0 (by omega) (by omega) (by omega) (by rw [own_cl (by omega)]; omega) (by rw [hi0, own_cl (by omega)]; omega) rfl (by simp) N5 (by omega) (vn := (bsV cs)) (own_vr cs) (by rw [hml]; rfl) (hb hby d_jdk_65_m133_27) (n := 30) rfl (by decide) (w := 0) (Nat.le_of_eq rfl) (by decide) fun T6 H6 Lc6 X6 e6 N6 J6 Vn6 => ?_
  have sz6 := J6.1
  have K6 := K2.trans J6 (allS (Or.inr (by omega)) all0)
  refine Wk.aload X6 hx (hb hby d_jdk_65_m133_30) (n := 32) rfl rfl rfl ?_
  exact Wk.leave X6 (v := some (.ref b2)) (fun h => by rw [Bd.returns] at h; cases h) hlk e6 ⟨b2, k2, rfl, N6, K6, (by have q := Vn6; rw [hi0] at q; exact q), (by omega)⟩ (by decide) (by decide) (fun fs hr => retA X6 hx rfl Bd.returns rfl (hb hby d_jdk_65_m133_32) hr)
def Q_sbCR (Z : State) (t1 : Addr) (k1 : ClassId) (cs : List Int32) (i1 : Int32) (h0 : Heap) (n0 : Nat) (v : Option Value) (h : Heap) (L : List Loc) : Prop := ∃ (t : Addr) (kb : ClassId), v = some (.ref t) ∧ Fr n0 L ∧ Keep h0 h [] ∧ Arv Z h t kb .byte (Int32.ofNat cs.length) (bsV cs) (.int (0 : Int32)) ∧ (h0.size ≤ t)
theorem ef_sbCR (m : MethodId) (x0 : Addr) (x2 : Int32) : entryFrame m #[(.ref x0), (.int (0 : Int32)), (.int x2)] 3 = mkF m 0 #[.val (.ref x0), .val (.int (0 : Int32)), .val (.int x2)] [] := by first | (simp [entryFrame, mkF, argsToLocals, Value.category]; done) | rfl
theorem d_jdk_65_m132_0 : decode jdk_65_method_132_code 0 = .ok (.iload_n 1, 1) := by decide +kernel
theorem d_jdk_65_m132_1 : decode jdk_65_method_132_code 1 = .ok (.ifCond .ne 9, 3) := by decide +kernel
theorem d_jdk_65_m132_4 : decode jdk_65_method_132_code 4 = .ok (.iload_n 2, 1) := by decide +kernel
theorem d_jdk_65_m132_5 : decode jdk_65_method_132_code 5 = .ok (.aload_n 0, 1) := by decide +kernel
theorem d_jdk_65_m132_6 : decode jdk_65_method_132_code 6 = .ok (.arraylength, 1) := by decide +kernel
theorem d_jdk_65_m132_7 : decode jdk_65_method_132_code 7 = .ok (.if_icmp .eq 10, 3) := by decide +kernel
theorem d_jdk_65_m132_10 : decode jdk_65_method_132_code 10 = .ok (.aload_n 0, 1) := by decide +kernel
theorem d_jdk_65_m132_11 : decode jdk_65_method_132_code 11 = .ok (.iload_n 1, 1) := by decide +kernel
theorem d_jdk_65_m132_12 : decode jdk_65_method_132_code 12 = .ok (.iload_n 2, 1) := by decide +kernel
theorem d_jdk_65_m132_13 : decode jdk_65_method_132_code 13 = .ok (.invokestatic 339, 3) := by decide +kernel
theorem pd_12 : parseMethodDescriptor "([BII)[B" = some ⟨[(.array .byte), .int, .int], some (.array .byte)⟩ := by decide +kernel
theorem d_jdk_65_m132_16 : decode jdk_65_method_132_code 16 = .ok (.areturn, 1) := by decide +kernel
set_option maxRecDepth 65536 in
set_option maxHeartbeats 40000000 in
theorem sbCR (l : Launch) (Z : State) (a0 : Array Value) (hw : ∀ d ∈ tables_1, d.before a0 Z = true) (ws : List Jvm.Cond) (t1 : Addr) (k1 : ClassId) (cs : List Int32) (i1 : Int32) (h0 : Heap) (n0 : Nat) (Z0 : n0 ≤ h0.size) (Ab1 : Arv Z h0 t1 k1 .byte (Int32.ofNat 16) (bsV cs) (.int (0 : Int32))) (hi : i1 = Int32.ofNat cs.length) (hN : cs.length < 16) :
    MetFree l (⟨"java/util/Arrays", "copyOfRange", "([BII)[B"⟩ : MethodName) (head1 (Jvm.Cond.code (⟨"java/util/Arrays", "copyOfRange", "([BII)[B"⟩ : MethodName) jdk_65_method_132_code 3 (some (.array .byte)) :: ws) ({ frames := 2, cells := 1, slots := 16, locals := 47 } : Room)) (fun a U => a = #[(.ref t1), (.int (0 : Int32)), (.int i1)] ∧ Z.Warmed39 U.vm ∧ U.heap = h0) (fun _ _ _ _ _ => True) (fun _ U o U' => ∃ v L, o = .returned v ∧ Q_sbCR Z t1 k1 cs i1 h0 n0 v U'.heap L ∧ FrameEnd U o U' L ({ frames := 2, cells := 1, slots := 16, locals := 47 } : Room).cells ({ frames := 2, cells := 1, slots := 16, locals := 47 } : Room).slots) := by
  refine MetFree.of_bodySF (plainFor_of_name pn_java_util_Arrays) hisR ?_
  intro p e s m args below meth c s₁ Bd hml0 hP hK
  obtain ⟨rfl, hZ, hh⟩ := hP
  have hx := Bd.exec
  have hby := Bd.bytes
  have hlk := BodyLoose.notSynchronized Bd
  have hml : c.maxLocals = 3 := hml0
  have hown : s.vm.findClass "java/util/Arrays" = some m.cls := findClass_of_methodNamed Bd.named
  have hnm := (name_of_methodNamed Bd.named Bd.method).1
  have X0 : Stand p l e ({ frames := 2, cells := 1, slots := 16, locals := 47 } : Room) s m #[(.ref t1), (.int (0 : Int32)), (.int i1)] below meth c s₁ [] 0 0 := Stand.of_body Bd
  have e0 : s₁.heap = h0 := by rw [← hh, Bd.state]; rfl
  have N0 := Fr.nil n0
  have K0 := Keep.refl h0 []
  clear hh
  show Wk p e below (EndN s (Q_sbCR Z t1 k1 cs i1 h0 n0) ({ frames := 2, cells := 1, slots := 16, locals := 47 } : Room).cells ({ frames := 2, cells := 1, slots := 16, locals := 47 } : Room).slots) s₁ (entryFrame m #[(.ref t1), (.int (0 : Int32)), (.int i1)] 3)
  rw [ef_sbCR]
  have lt_Ab1 := ny Ab1.lt
  refine Wk.iloadN X0 hx (hb hby d_jdk_65_m132_0) (n := 1) rfl rfl ?_
  have hc1_1 : (0 : Int32) = (0 : Int32) := rfl
  refine Wk.ifNo X0 hx (hb hby d_jdk_65_m132_1) (n := 4) rfl ((if0 _ _).trans (teq hc1_1).2) ?_
  refine Wk.iloadN X0 hx (hb hby d_jdk_65_m132_4) (n := 5) rfl rfl ?_
  refine Wk.aloadN X0 hx (hb hby d_jdk_65_m132_5) (n := 6) rfl rfl rfl ?_
  obtain ⟨cl2, Ar2, qn2, Sz2, N_2, H_2, Gn2⟩ := id Ab1
  refine Wk.arrlen X0 hx hZ e0 Ar2 Sz2 N_2 (hb hby d_jdk_65_m132_6) (n := 7) rfl ?_
  have hc7_3 : ¬ (i1 = (Int32.ofNat 16)) := by rw [hi]; exact fun q => absurd ((own_eqi (by omega) (by decide)).mp q) (by omega)
  refine Wk.icmpNo X0 hx (hb hby d_jdk_65_m132_7) (n := 10) rfl (feq hc7_3).1 ?_
  refine Wk.aloadN X0 hx (hb hby d_jdk_65_m132_10) (n := 11) rfl rfl rfl ?_
  refine Wk.iloadN X0 hx (hb hby d_jdk_65_m132_11) (n := 12) rfl rfl ?_
  refine Wk.iloadN X0 hx (hb hby d_jdk_65_m132_12) (n := 13) rfl rfl ?_
  have cl4_ := fun (Ls : Array Slot) (hLs : Ls.size = c.maxLocals) => Jvm.LawKit.callS X0 hx (y := (⟨"java/util/Arrays", "copyOfRangeByte", "([BII)[B"⟩ : MethodName)) hown (mvT hZ (hw _ (List.mem_of_getElem? (i := 167) rfl))) (mvT hZ (hw _ (List.mem_of_getElem? (i := 168) rfl))) (mvT hZ (hw _ (List.mem_of_getElem? (i := 165) rfl))) (mvT hZ (hw _ (List.mem_of_getElem? (i := 169) rfl))) (by decide) (backOf (W := 0) (sbCB l Z a0 hw [] t1 k1 cs i1 h0 n0 (by omega) Ab1 hi (by omega)) hZ (hw _ (List.mem_of_getElem? (i := 169) rfl)) (hw _ (List.mem_of_getElem? (i := 165) rfl)) (by decide) (by decide)) (g := mkF m 13 Ls [(.int i1), (.int (0 : Int32)), (.ref t1)]) rfl hLs (argsL := [(.ref t1), (.int (0 : Int32)), (.int i1)]) (rest := []) (lenOf pd_12 rfl) rfl (by show 2 * 0 + _ ≤ _; exact Nat.le_of_eq rfl) (hb hby d_jdk_65_m132_13) (fun _ _ => ⟨rfl, e0, (by decide : 0 + 1 ≤ _), (by decide : 0 + 16 ≤ _)⟩)
  refine Wk.backS (n := 16) (rc := 1) (rs := 16) (Q := Q_sbCB Z t1 k1 cs i1 h0 n0) (cl4_ _ (by rw [hml]; rfl)) fun vn4 T4 L4 X4 hQ4 => ?_
  clear cl4_
  obtain ⟨t_4, kb_4, rfl, M4, J4, p4_0, gt_4⟩ := hQ4
  have N4 := Fr.app N0 M4
  have sz4 := J4.1
  have K4 := K0.trans J4 (fun x hx => nomatch hx)
  have lt_p4_0 := ny p4_0.lt
  show Wk p e below _ T4 (mkF m 16 _ [(.ref t_4)])
  exact Wk.leave X4 (v := some (.ref t_4)) (fun h => by rw [Bd.returns] at h; cases h) hlk rfl ⟨t_4, kb_4, rfl, N4, K4, p4_0, (by omega)⟩ (by decide) (by decide) (fun fs hr => retA X4 hx rfl Bd.returns rfl (hb hby d_jdk_65_m132_16) hr)
def Q_sbSV (Z : State) (x1 : Addr) (a1 : Addr) (t1 : Addr) (k1 : ClassId) (cs : List Int32) (zc : Int32) (u1 : Value) (h0 : Heap) (n0 : Nat) (v : Option Value) (h : Heap) (L : List Loc) : Prop := ∃ (t : Addr) (kb : ClassId), v = none ∧ Fr n0 L ∧ Keep h0 h [x1] ∧ Exa Z h x1 "java/lang/String" ∧ Fld Z h x1 "java/lang/String" "value" "[B" (.ref t) ∧ Fld Z h x1 "java/lang/String" "coder" "B" (.int (0 : Int32)) ∧ Arv Z h t kb .byte (Int32.ofNat cs.length) (bsV cs) (.int (0 : Int32)) ∧ (h0.size ≤ t)
theorem ef_sbSV (m : MethodId) (x0 : Addr) (x1 : Addr) : entryFrame m #[(.ref x0), (.ref x1), .null] 5 = mkF m 0 #[.val (.ref x0), .val (.ref x1), .val .null, .unset, .unset] [] := by first | (simp [entryFrame, mkF, argsToLocals, Value.category]; done) | rfl
theorem d_jdk_42_m150_0 : decode jdk_42_method_150_code 0 = .ok (.aload_n 0, 1) := by decide +kernel
theorem d_jdk_42_m150_1 : decode jdk_42_method_150_code 1 = .ok (.invokespecial 1, 3) := by decide +kernel
theorem d_jdk_42_m150_4 : decode jdk_42_method_150_code 4 = .ok (.aload_n 1, 1) := by decide +kernel
theorem d_jdk_42_m150_5 : decode jdk_42_method_150_code 5 = .ok (.invokevirtual 552, 3) := by decide +kernel
theorem pd_13 : parseMethodDescriptor "()[B" = some ⟨[], some (.array .byte)⟩ := by decide +kernel
theorem d_jdk_42_m150_8 : decode jdk_42_method_150_code 8 = .ok (.astore_n 3, 1) := by decide +kernel
theorem d_jdk_42_m150_9 : decode jdk_42_method_150_code 9 = .ok (.aload_n 1, 1) := by decide +kernel
theorem d_jdk_42_m150_10 : decode jdk_42_method_150_code 10 = .ok (.invokevirtual 549, 3) := by decide +kernel
theorem d_jdk_42_m150_13 : decode jdk_42_method_150_code 13 = .ok (.istore 4, 2) := by decide +kernel
theorem d_jdk_42_m150_15 : decode jdk_42_method_150_code 15 = .ok (.aload_n 1, 1) := by decide +kernel
theorem d_jdk_42_m150_16 : decode jdk_42_method_150_code 16 = .ok (.invokevirtual 1047, 3) := by decide +kernel
theorem pd_14 : parseMethodDescriptor "()Z" = some ⟨[], some .boolean⟩ := by decide +kernel
theorem d_jdk_42_m150_19 : decode jdk_42_method_150_code 19 = .ok (.ifCond .eq 22, 3) := by decide +kernel
theorem d_jdk_42_m150_22 : decode jdk_42_method_150_code 22 = .ok (.aload_n 0, 1) := by decide +kernel
theorem d_jdk_42_m150_23 : decode jdk_42_method_150_code 23 = .ok (.iconst 0, 1) := by decide +kernel
theorem d_jdk_42_m150_24 : decode jdk_42_method_150_code 24 = .ok (.putfield 15, 3) := by decide +kernel
theorem d_jdk_42_m150_27 : decode jdk_42_method_150_code 27 = .ok (.aload_n 0, 1) := by decide +kernel
theorem d_jdk_42_m150_28 : decode jdk_42_method_150_code 28 = .ok (.aload_n 3, 1) := by decide +kernel
theorem d_jdk_42_m150_29 : decode jdk_42_method_150_code 29 = .ok (.iconst 0, 1) := by decide +kernel
theorem d_jdk_42_m150_30 : decode jdk_42_method_150_code 30 = .ok (.iload 4, 2) := by decide +kernel
theorem d_jdk_42_m150_32 : decode jdk_42_method_150_code 32 = .ok (.invokestatic 54, 3) := by decide +kernel
theorem d_jdk_42_m150_35 : decode jdk_42_method_150_code 35 = .ok (.putfield 9, 3) := by decide +kernel
theorem d_jdk_42_m150_38 : decode jdk_42_method_150_code 38 = .ok (.goto 59, 3) := by decide +kernel
theorem d_jdk_42_m150_97 : decode jdk_42_method_150_code 97 = .ok (.return_, 1) := by decide +kernel
set_option maxRecDepth 65536 in
set_option maxHeartbeats 40000000 in
theorem sbSV (l : Launch) (Z : State) (a0 : Array Value) (hw : ∀ d ∈ tables_1, d.before a0 Z = true) (ws : List Jvm.Cond) (x1 : Addr) (a1 : Addr) (t1 : Addr) (k1 : ClassId) (cs : List Int32) (zc : Int32) (u1 : Value) (h0 : Heap) (n0 : Nat) (Z0 : n0 ≤ h0.size) (E1 : Exa Z h0 x1 "java/lang/String") (F1 : Fld Z h0 x1 "java/lang/String" "value" "[B" u1) (F2 : Fld Z h0 x1 "java/lang/String" "coder" "B" (.int (0 : Int32))) (Eb1 : Exa Z h0 a1 "java/lang/StringBuilder") (Gv1 : Fld Z h0 a1 "java/lang/AbstractStringBuilder" "value" "[B" (.ref t1)) (Gc1 : Fld Z h0 a1 "java/lang/AbstractStringBuilder" "coder" "B" (.int (0 : Int32))) (Gn1 : Fld Z h0 a1 "java/lang/AbstractStringBuilder" "count" "I" (.int (Int32.ofNat cs.length))) (Ab1 : Arv Z h0 t1 k1 .byte (Int32.ofNat 16) (bsV cs) (.int (0 : Int32))) (S4 : Sta Z Z.heap "java/lang/String" "COMPACT_STRINGS" "Z" (.int zc)) (O1 : Old Z n0 h0) (hCS : ¬ zc = 0) (hN : cs.length < 16) (g1 : n0 ≤ x1) (hn1 : ¬ @Eq Nat x1 a1) (hn2 : ¬ @Eq Nat x1 t1) :
    MetFree l (⟨"java/lang/String", "<init>", "(Ljava/lang/AbstractStringBuilder;Ljava/lang/Void;)V"⟩ : MethodName) (head1 (Jvm.Cond.code (⟨"java/lang/String", "<init>", "(Ljava/lang/AbstractStringBuilder;Ljava/lang/Void;)V"⟩ : MethodName) jdk_42_method_150_code 5 none :: ws) ({ frames := 3, cells := 1, slots := 16, locals := 63 } : Room)) (fun a U => a = #[(.ref x1), (.ref a1), .null] ∧ Z.Warmed39 U.vm ∧ U.heap = h0) (fun _ _ _ _ _ => True) (fun _ U o U' => ∃ v L, o = .returned v ∧ Q_sbSV Z x1 a1 t1 k1 cs zc u1 h0 n0 v U'.heap L ∧ FrameEnd U o U' L ({ frames := 3, cells := 1, slots := 16, locals := 63 } : Room).cells ({ frames := 3, cells := 1, slots := 16, locals := 63 } : Room).slots) := by
  refine MetFree.of_bodySF (plainFor_of_name pn_java_lang_String) hisR ?_
  intro p e s m args below meth c s₁ Bd hml0 hP hK
  obtain ⟨rfl, hZ, hh⟩ := hP
  have hx := Bd.exec
  have hby := Bd.bytes
  have hlk := BodyLoose.notSynchronized Bd
  have hml : c.maxLocals = 5 := hml0
  have hown : s.vm.findClass "java/lang/String" = some m.cls := findClass_of_methodNamed Bd.named
  have hnm := (name_of_methodNamed Bd.named Bd.method).1
  have X0 : Stand p l e ({ frames := 3, cells := 1, slots := 16, locals := 63 } : Room) s m #[(.ref x1), (.ref a1), .null] below meth c s₁ [] 0 0 := Stand.of_body Bd
  have e0 : s₁.heap = h0 := by rw [← hh, Bd.state]; rfl
  have N0 := Fr.nil n0
  have K0 := Keep.refl h0 [x1]
  clear hh
  show Wk p e below (EndN s (Q_sbSV Z x1 a1 t1 k1 cs zc u1 h0 n0) ({ frames := 3, cells := 1, slots := 16, locals := 63 } : Room).cells ({ frames := 3, cells := 1, slots := 16, locals := 63 } : Room).slots) s₁ (entryFrame m #[(.ref x1), (.ref a1), .null] 5)
  rw [ef_sbSV]
  have lt_E1 := ny E1.lt
  have lt_F1 := ny F1.lt
  have lt_F2 := ny F2.lt
  have lt_Eb1 := ny Eb1.lt
  have lt_Gv1 := ny Gv1.lt
  have lt_Gc1 := ny Gc1.lt
  have lt_Gn1 := ny Gn1.lt
  have lt_Ab1 := ny Ab1.lt
  refine Wk.aloadN X0 hx (hb hby d_jdk_42_m150_0) (n := 1) rfl rfl rfl ?_
  refine Wk.initO X0 hx hZ hown (hw _ (List.mem_of_getElem? (i := 12) rfl)) (hw _ (List.mem_of_getElem? (i := 13) rfl)) (hw _ (List.mem_of_getElem? (i := 14) rfl)) e0 (by rw [hml]; rfl) (hb hby d_jdk_42_m150_1) (n := 4) rfl (by decide) (w := 0) (Nat.le_of_eq rfl) (by decide) fun T1 X1 e1 => ?_
  refine Wk.aloadN X1 hx (hb hby d_jdk_42_m150_4) (n := 5) rfl rfl rfl ?_
  obtain ⟨cq2, kq2, qn2a, qn2b, qn2c⟩ := isOf hZ e1 Eb1
  have cl2_ := fun (Ls : Array Slot) (hLs : Ls.size = c.maxLocals) => X1.virtualBack hx (y := (⟨"java/lang/AbstractStringBuilder", "getValue", "()[B"⟩ : MethodName)) (z := (⟨"java/lang/AbstractStringBuilder", "getValue", "()[B"⟩ : MethodName)) hown (mvT hZ (hw _ (List.mem_of_getElem? (i := 149) rfl))) (mvT hZ (hw _ (List.mem_of_getElem? (i := 150) rfl))) (notFace_of_selects (args := #[]) (mvT hZ (hw _ (List.mem_of_getElem? (i := 152) rfl)))) (mvT hZ (hw _ (List.mem_of_getElem? (i := 152) rfl))) (mvT hZ (hw _ (List.mem_of_getElem? (i := 151) rfl))) (by decide) (backOf (W := 0) (sbGV l Z a0 hw [] a1 t1 h0 n0 (by omega) Gv1) hZ (hw _ (List.mem_of_getElem? (i := 153) rfl)) (hw _ (List.mem_of_getElem? (i := 58) rfl)) (by decide) (by decide)) qn2a qn2c (g := mkF m 5 Ls [(.ref a1)]) rfl hLs (Steps.refl _) (argsL := []) (rest := []) (lenOf pd_13 rfl) rfl (by show 2 * 0 + _ ≤ _; exact Nat.le_of_eq rfl) (hb hby d_jdk_42_m150_5) (fun _ _ => ⟨rfl, e1, (by decide : 0 + 0 ≤ _), (by decide : 0 + 0 ≤ _)⟩)
  refine Wk.back (n := 8) (rc := 0) (rs := 0) (Q := Q_sbGV Z a1 t1 h0 n0) (cl2_ _ (by rw [hml]; rfl)) fun vn2 T2 L2 X2 hQ2 => ?_
  clear cl2_
  obtain ⟨rfl, M2, e2⟩ := hQ2
  have N2 := Fr.app N0 M2
  show Wk p e below _ T2 (mkF m 8 _ [(.ref t1)])
  refine Wk.astoreN X2 hx (hb hby d_jdk_42_m150_8) (n := 9) rfl rfl (L' := #[.val (.ref x1), .val (.ref a1), .val .null, .val (.ref t1), .unset]) rfl ?_
  refine Wk.aloadN X2 hx (hb hby d_jdk_42_m150_9) (n := 10) rfl rfl rfl ?_
  obtain ⟨cq3, kq3, qn3a, qn3b, qn3c⟩ := isOf hZ e2 Eb1
  have cl3_ := fun (Ls : Array Slot) (hLs : Ls.size = c.maxLocals) => X2.virtualBack hx (y := (⟨"java/lang/AbstractStringBuilder", "length", "()I"⟩ : MethodName)) (z := (⟨"java/lang/StringBuilder", "length", "()I"⟩ : MethodName)) hown (mvT hZ (hw _ (List.mem_of_getElem? (i := 154) rfl))) (mvT hZ (hw _ (List.mem_of_getElem? (i := 155) rfl))) (own_nf (args := #[]) (mvT hZ (hw _ (List.mem_of_getElem? (i := 155) rfl))) (mvT hZ (hw _ (List.mem_of_getElem? (i := 151) rfl))) (mvT hZ (hw _ (List.mem_of_getElem? (i := 152) rfl)))) (mvT hZ (hw _ (List.mem_of_getElem? (i := 157) rfl))) (mvT hZ (hw _ (List.mem_of_getElem? (i := 158) rfl))) (by decide) (backOf (W := 0) (sbL0 l Z a0 hw [] a1 (Int32.ofNat cs.length) h0 n0 (by omega) Eb1 Gn1) hZ (hw _ (List.mem_of_getElem? (i := 159) rfl)) (hw _ (List.mem_of_getElem? (i := 50) rfl)) (by decide) (by decide)) qn3a qn3c (g := mkF m 10 Ls [(.ref a1)]) rfl hLs (Steps.refl _) (argsL := []) (rest := []) (lenOf pd_7 rfl) rfl (by show 2 * 0 + _ ≤ _; exact Nat.le_of_eq rfl) (hb hby d_jdk_42_m150_10) (fun _ _ => ⟨rfl, e2, (by decide : 0 + 0 + 0 ≤ _), (by decide : 0 + 0 + 0 ≤ _)⟩)
  refine Wk.back (n := 13) (rc := 0) (rs := 0) (Q := Q_sbL0 Z a1 (Int32.ofNat cs.length) h0 n0) (cl3_ _ (by rw [hml]; rfl)) fun vn3 T3 L3 X3 hQ3 => ?_
  clear cl3_
  obtain ⟨rfl, M3, e3⟩ := hQ3
  have N3 := Fr.app N2 M3
  show Wk p e below _ T3 (mkF m 13 _ [(.int (Int32.ofNat cs.length))])
  refine Wk.istore X3 hx (hb hby d_jdk_42_m150_13) (n := 15) rfl (L' := #[.val (.ref x1), .val (.ref a1), .val .null, .val (.ref t1), .val (.int (Int32.ofNat cs.length))]) rfl ?_
  refine Wk.aloadN X3 hx (hb hby d_jdk_42_m150_15) (n := 16) rfl rfl rfl ?_
  obtain ⟨cq4, kq4, qn4a, qn4b, qn4c⟩ := isOf hZ e3 Eb1
  have cl4_ := fun (Ls : Array Slot) (hLs : Ls.size = c.maxLocals) => X3.virtualBack hx (y := (⟨"java/lang/AbstractStringBuilder", "isLatin1", "()Z"⟩ : MethodName)) (z := (⟨"java/lang/AbstractStringBuilder", "isLatin1", "()Z"⟩ : MethodName)) hown (mvT hZ (hw _ (List.mem_of_getElem? (i := 162) rfl))) (mvT hZ (hw _ (List.mem_of_getElem? (i := 129) rfl))) (notFace_of_selects (args := #[]) (mvT hZ (hw _ (List.mem_of_getElem? (i := 131) rfl)))) (mvT hZ (hw _ (List.mem_of_getElem? (i := 131) rfl))) (mvT hZ (hw _ (List.mem_of_getElem? (i := 130) rfl))) (by decide) (backOf (W := 0) (sbIL l Z a0 hw [] a1 zc h0 n0 (by omega) Gc1 S4 O1 hCS) hZ (hw _ (List.mem_of_getElem? (i := 132) rfl)) (hw _ (List.mem_of_getElem? (i := 58) rfl)) (by decide) (by decide)) qn4a qn4c (g := mkF m 16 Ls [(.ref a1)]) rfl hLs (Steps.refl _) (argsL := []) (rest := []) (lenOf pd_14 rfl) rfl (by show 2 * 0 + _ ≤ _; exact Nat.le_of_eq rfl) (hb hby d_jdk_42_m150_16) (fun _ _ => ⟨rfl, e3, (by decide : 0 + 0 + 0 + 0 ≤ _), (by decide : 0 + 0 + 0 + 0 ≤ _)⟩)
  refine Wk.back (n := 19) (rc := 0) (rs := 0) (Q := Q_sbIL Z a1 zc h0 n0) (cl4_ _ (by rw [hml]; rfl)) fun vn4 T4 L4 X4 hQ4 => ?_
  clear cl4_
  obtain ⟨rfl, M4, e4⟩ := hQ4
  have N4 := Fr.app N3 M4
  show Wk p e below _ T4 (mkF m 19 _ [(.int (1 : Int32))])
  have hc19_5 : ¬ ((1 : Int32) = (0 : Int32)) := by decide
  refine Wk.ifNo X4 hx (hb hby d_jdk_42_m150_19) (n := 22) rfl ((if0 _ _).trans (feq hc19_5).1) ?_
  refine Wk.aloadN X4 hx (hb hby d_jdk_42_m150_22) (n := 23) rfl rfl rfl ?_
  refine Wk.iconst X4 hx (hb hby d_jdk_42_m150_23) (n := 24) rfl (z := (0 : Int32)) rfl ?_
  refine Wk.putFN X4 hx hZ hown (hw _ (List.mem_of_getElem? (i := 22) rfl)) Via.refl e4 F2 E1 (Or.inr ⟨(hw _ (List.mem_of_getElem? (i := 18) rfl)), rfl, hnm⟩) (hw _ (List.mem_of_getElem? (i := 3) rfl)) (ty := .byte) (by decide) (v' := (.int (0 : Int32))) rfl rfl (hb hby d_jdk_42_m150_24) (n := 27) rfl fun T6 H6 X6 e6 Wn6 => ?_
  have sz6 := Wn6.size
  have Fn6 := F2.same Wn6
  have K6 := K0.wr Wn6 (Or.inl (List.mem_of_getElem? (i := 0) rfl))
  have N6 := Fr.snoc X6 N4 (by omega)
  refine Wk.aloadN X6 hx (hb hby d_jdk_42_m150_27) (n := 28) rfl rfl rfl ?_
  refine Wk.aloadN X6 hx (hb hby d_jdk_42_m150_28) (n := 29) rfl rfl rfl ?_
  refine Wk.iconst X6 hx (hb hby d_jdk_42_m150_29) (n := 30) rfl (z := (0 : Int32)) rfl ?_
  refine Wk.iload X6 hx (hb hby d_jdk_42_m150_30) (n := 32) rfl rfl ?_
  have f7 := (Ab1.other Wn6 (nz (by omega)))
  have cl8_ := fun (Ls : Array Slot) (hLs : Ls.size = c.maxLocals) => Jvm.LawKit.callS X6 hx (y := (⟨"java/util/Arrays", "copyOfRange", "([BII)[B"⟩ : MethodName)) hown (mvT hZ (hw _ (List.mem_of_getElem? (i := 163) rfl))) (mvT hZ (hw _ (List.mem_of_getElem? (i := 164) rfl))) (mvT hZ (hw _ (List.mem_of_getElem? (i := 165) rfl))) (mvT hZ (hw _ (List.mem_of_getElem? (i := 166) rfl))) (by decide) (backOf (W := 1) (sbCR l Z a0 hw [] t1 k1 cs (Int32.ofNat cs.length) H6 n0 (by omega) f7 rfl (by omega)) hZ (hw _ (List.mem_of_getElem? (i := 166) rfl)) (hw _ (List.mem_of_getElem? (i := 165) rfl)) (by decide) (by decide)) (g := mkF m 32 Ls [(.int (Int32.ofNat cs.length)), (.int (0 : Int32)), (.ref t1), (.ref x1)]) rfl hLs (argsL := [(.ref t1), (.int (0 : Int32)), (.int (Int32.ofNat cs.length))]) (rest := [(.ref x1)]) (lenOf pd_12 rfl) rfl (by show 2 * 0 + _ ≤ _; exact Nat.le_of_eq rfl) (hb hby d_jdk_42_m150_32) (fun _ _ => ⟨rfl, e6, (by decide : 0 + 0 + 0 + 0 + 1 ≤ _), (by decide : 0 + 0 + 0 + 0 + 16 ≤ _)⟩)
  refine Wk.backS (n := 35) (rc := 1) (rs := 16) (Q := Q_sbCR Z t1 k1 cs (Int32.ofNat cs.length) H6 n0) (cl8_ _ (by rw [hml]; rfl)) fun vn8 T8 L8 X8 hQ8 => ?_
  clear cl8_
  obtain ⟨t_8, kb_8, rfl, M8, J8, p8_0, gt_8⟩ := hQ8
  have N8 := Fr.app N6 M8
  have sz8 := J8.1
  have K8 := K6.trans J8 (fun x hx => nomatch hx)
  have lt_p8_0 := ny p8_0.lt
  show Wk p e below _ T8 (mkF m 35 _ [(.ref t_8), (.ref x1)])
  have f9 := ((F1.other Wn6 (Or.inr (slot_ne (Or.inr (hw _ (List.mem_of_getElem? (i := 17) rfl))) (Or.inr (hw _ (List.mem_of_getElem? (i := 18) rfl))) (by decide) (t := (.array .byte)) (t' := .byte) (by decide) (by decide)))).keep J8 nin0)
  have f10 := ((E1.wr Wn6).keep J8)
  refine Wk.putF X8 hx hZ hown (host := "") (Or.inl (hw _ (List.mem_of_getElem? (i := 21) rfl))) Via.refl rfl f9 f10 (Or.inr ⟨(hw _ (List.mem_of_getElem? (i := 17) rfl)), rfl, hnm⟩) (hw _ (List.mem_of_getElem? (i := 3) rfl)) (ty := (.array .byte)) (by decide) rfl rfl (hb hby d_jdk_42_m150_35) (n := 38) rfl fun T11 H11 X11 e11 Wn11 => ?_
  have sz11 := Wn11.size
  have Fn11 := f9.same Wn11
  have K11 := K8.wr Wn11 (Or.inl (List.mem_of_getElem? (i := 0) rfl))
  have N11 := Fr.snoc X11 N8 (by omega)
  refine Wk.goto X11 hx (hb hby d_jdk_42_m150_38) (by decide) (n := 97) (by decide) ?_
  have f12 := (f10.wr Wn11)
  have f13 := ((Fn6.keep J8 nin0).other Wn11 (Or.inr (slot_ne (Or.inr (hw _ (List.mem_of_getElem? (i := 18) rfl))) (Or.inr (hw _ (List.mem_of_getElem? (i := 17) rfl))) (by decide) (t := .byte) (t' := (.array .byte)) (by decide) (by decide))))
  have f14 := (p8_0.other Wn11 (nz (by omega)))
  exact Wk.leave X11 (v := none) (fun _ => rfl) hlk e11 ⟨t_8, kb_8, rfl, N11, K11, f12, Fn11, f13, f14, (by omega)⟩ (by decide) (by decide) (fun fs hr => X11.returnOut hx Bd.returns (hb hby d_jdk_42_m150_97) hr)
def Q_sbSW (Z : State) (x1 : Addr) (a1 : Addr) (t1 : Addr) (k1 : ClassId) (cs : List Int32) (zc : Int32) (u1 : Value) (h0 : Heap) (n0 : Nat) (v : Option Value) (h : Heap) (L : List Loc) : Prop := ∃ (t : Addr) (kb : ClassId), v = none ∧ Fr n0 L ∧ Keep h0 h [x1] ∧ Exa Z h x1 "java/lang/String" ∧ Fld Z h x1 "java/lang/String" "value" "[B" (.ref t) ∧ Fld Z h x1 "java/lang/String" "coder" "B" (.int (0 : Int32)) ∧ Arv Z h t kb .byte (Int32.ofNat cs.length) (bsV cs) (.int (0 : Int32)) ∧ (h0.size ≤ t)
theorem ef_sbSW (m : MethodId) (x0 : Addr) (x1 : Addr) : entryFrame m #[(.ref x0), (.ref x1)] 2 = mkF m 0 #[.val (.ref x0), .val (.ref x1)] [] := by first | (simp [entryFrame, mkF, argsToLocals, Value.category]; done) | rfl
theorem d_jdk_42_m53_0 : decode jdk_42_method_53_code 0 = .ok (.aload_n 0, 1) := by decide +kernel
theorem d_jdk_42_m53_1 : decode jdk_42_method_53_code 1 = .ok (.aload_n 1, 1) := by decide +kernel
theorem d_jdk_42_m53_2 : decode jdk_42_method_53_code 2 = .ok (.aconst_null, 1) := by decide +kernel
theorem d_jdk_42_m53_3 : decode jdk_42_method_53_code 3 = .ok (.invokespecial 489, 3) := by decide +kernel
theorem pd_15 : parseMethodDescriptor "(Ljava/lang/AbstractStringBuilder;Ljava/lang/Void;)V" = some ⟨[(.object "java/lang/AbstractStringBuilder"), (.object "java/lang/Void")], none⟩ := by decide +kernel
theorem d_jdk_42_m53_6 : decode jdk_42_method_53_code 6 = .ok (.return_, 1) := by decide +kernel
set_option maxRecDepth 65536 in
set_option maxHeartbeats 40000000 in
theorem sbSW (l : Launch) (Z : State) (a0 : Array Value) (hw : ∀ d ∈ tables_1, d.before a0 Z = true) (ws : List Jvm.Cond) (x1 : Addr) (a1 : Addr) (t1 : Addr) (k1 : ClassId) (cs : List Int32) (zc : Int32) (u1 : Value) (h0 : Heap) (n0 : Nat) (Z0 : n0 ≤ h0.size) (E1 : Exa Z h0 x1 "java/lang/String") (F1 : Fld Z h0 x1 "java/lang/String" "value" "[B" u1) (F2 : Fld Z h0 x1 "java/lang/String" "coder" "B" (.int (0 : Int32))) (Eb1 : Exa Z h0 a1 "java/lang/StringBuilder") (Gv1 : Fld Z h0 a1 "java/lang/AbstractStringBuilder" "value" "[B" (.ref t1)) (Gc1 : Fld Z h0 a1 "java/lang/AbstractStringBuilder" "coder" "B" (.int (0 : Int32))) (Gn1 : Fld Z h0 a1 "java/lang/AbstractStringBuilder" "count" "I" (.int (Int32.ofNat cs.length))) (Ab1 : Arv Z h0 t1 k1 .byte (Int32.ofNat 16) (bsV cs) (.int (0 : Int32))) (S4 : Sta Z Z.heap "java/lang/String" "COMPACT_STRINGS" "Z" (.int zc)) (O1 : Old Z n0 h0) (hCS : ¬ zc = 0) (hN : cs.length < 16) (g1 : n0 ≤ x1) (hn1 : ¬ @Eq Nat x1 a1) (hn2 : ¬ @Eq Nat x1 t1) :
    MetFree l (⟨"java/lang/String", "<init>", "(Ljava/lang/StringBuilder;)V"⟩ : MethodName) (head1 (Jvm.Cond.code (⟨"java/lang/String", "<init>", "(Ljava/lang/StringBuilder;)V"⟩ : MethodName) jdk_42_method_53_code 2 none :: ws) ({ frames := 4, cells := 1, slots := 16, locals := 79 } : Room)) (fun a U => a = #[(.ref x1), (.ref a1)] ∧ Z.Warmed39 U.vm ∧ U.heap = h0) (fun _ _ _ _ _ => True) (fun _ U o U' => ∃ v L, o = .returned v ∧ Q_sbSW Z x1 a1 t1 k1 cs zc u1 h0 n0 v U'.heap L ∧ FrameEnd U o U' L ({ frames := 4, cells := 1, slots := 16, locals := 79 } : Room).cells ({ frames := 4, cells := 1, slots := 16, locals := 79 } : Room).slots) := by
  refine MetFree.of_bodySF (plainFor_of_name pn_java_lang_String) hisR ?_
  intro p e s m args below meth c s₁ Bd hml0 hP hK
  obtain ⟨rfl, hZ, hh⟩ := hP
  have hx := Bd.exec
  have hby := Bd.bytes
  have hlk := BodyLoose.notSynchronized Bd
  have hml : c.maxLocals = 2 := hml0
  have hown : s.vm.findClass "java/lang/String" = some m.cls := findClass_of_methodNamed Bd.named
  have hnm := (name_of_methodNamed Bd.named Bd.method).1
  have X0 : Stand p l e ({ frames := 4, cells := 1, slots := 16, locals := 79 } : Room) s m #[(.ref x1), (.ref a1)] below meth c s₁ [] 0 0 := Stand.of_body Bd
  have e0 : s₁.heap = h0 := by rw [← hh, Bd.state]; rfl
  have N0 := Fr.nil n0
  have K0 := Keep.refl h0 [x1]
  clear hh
  show Wk p e below (EndN s (Q_sbSW Z x1 a1 t1 k1 cs zc u1 h0 n0) ({ frames := 4, cells := 1, slots := 16, locals := 79 } : Room).cells ({ frames := 4, cells := 1, slots := 16, locals := 79 } : Room).slots) s₁ (entryFrame m #[(.ref x1), (.ref a1)] 2)
  rw [ef_sbSW]
  have lt_E1 := ny E1.lt
  have lt_F1 := ny F1.lt
  have lt_F2 := ny F2.lt
  have lt_Eb1 := ny Eb1.lt
  have lt_Gv1 := ny Gv1.lt
  have lt_Gc1 := ny Gc1.lt
  have lt_Gn1 := ny Gn1.lt
  have lt_Ab1 := ny Ab1.lt
  refine Wk.aloadN X0 hx (hb hby d_jdk_42_m53_0) (n := 1) rfl rfl rfl ?_
  refine Wk.aloadN X0 hx (hb hby d_jdk_42_m53_1) (n := 2) rfl rfl rfl ?_
  refine Wk.aconstNull X0 hx (hb hby d_jdk_42_m53_2) (n := 3) rfl ?_
  have cl1_ := fun (Ls : Array Slot) (hLs : Ls.size = c.maxLocals) => X0.specialBack hx (y := (⟨"java/lang/String", "<init>", "(Ljava/lang/AbstractStringBuilder;Ljava/lang/Void;)V"⟩ : MethodName)) rfl hown (mvT hZ (hw _ (List.mem_of_getElem? (i := 146) rfl))) (mvT hZ (hw _ (List.mem_of_getElem? (i := 147) rfl))) (mvT hZ (hw _ (List.mem_of_getElem? (i := 148) rfl))) (by decide) (backOf (W := 0) (sbSV l Z a0 hw [] x1 a1 t1 k1 cs zc u1 h0 n0 (by omega) E1 F1 F2 Eb1 Gv1 Gc1 Gn1 Ab1 S4 O1 hCS (by omega) (by omega) (by omega) (by omega)) hZ (hw _ (List.mem_of_getElem? (i := 148) rfl)) (hw _ (List.mem_of_getElem? (i := 4) rfl)) (by decide) (by decide)) (g := mkF m 3 Ls [.null, (.ref a1), (.ref x1)]) rfl hLs (Steps.refl _) (a := x1) (argsL := [(.ref a1), .null]) (rest := []) (lenOf pd_15 rfl) rfl (by show 2 * 0 + _ ≤ _; exact Nat.le_of_eq rfl) (hb hby d_jdk_42_m53_3) (fun _ _ => ⟨rfl, e0, (by decide : 0 + 1 ≤ _), (by decide : 0 + 16 ≤ _)⟩)
  refine Wk.back (n := 6) (rc := 1) (rs := 16) (Q := Q_sbSV Z x1 a1 t1 k1 cs zc u1 h0 n0) (cl1_ _ (by rw [hml]; rfl)) fun vn1 T1 L1 X1 hQ1 => ?_
  clear cl1_
  obtain ⟨t_1, kb_1, rfl, M1, J1, p1_0, p1_1, p1_2, p1_3, gt_1⟩ := hQ1
  have N1 := Fr.app N0 M1
  have sz1 := J1.1
  have K1 := K0.trans J1 (allS (Or.inl (List.mem_of_getElem? (i := 0) rfl)) all0)
  have lt_p1_0 := ny p1_0.lt
  have lt_p1_3 := ny p1_3.lt
  show Wk p e below _ T1 (mkF m 6 _ [])
  exact Wk.leave X1 (v := none) (fun _ => rfl) hlk rfl ⟨t_1, kb_1, rfl, N1, K1, p1_0, p1_1, p1_2, p1_3, (by omega)⟩ (by decide) (by decide) (fun fs hr => X1.returnOut hx Bd.returns (hb hby d_jdk_42_m53_6) hr)
def Q_sbTS (Z : State) (a1 : Addr) (t1 : Addr) (k1 : ClassId) (cs : List Int32) (zc : Int32) (h0 : Heap) (n0 : Nat) (v : Option Value) (h : Heap) (L : List Loc) : Prop := ∃ (r : Addr) (t : Addr) (kb : ClassId), v = some (.ref r) ∧ Fr n0 L ∧ Keep h0 h [] ∧ Exa Z h r "java/lang/String" ∧ Fld Z h r "java/lang/String" "value" "[B" (.ref t) ∧ Fld Z h r "java/lang/String" "coder" "B" (.int (0 : Int32)) ∧ Arv Z h t kb .byte (Int32.ofNat cs.length) (bsV cs) (.int (0 : Int32)) ∧ (h0.size ≤ r) ∧ (h0.size ≤ t)
theorem ef_sbTS (m : MethodId) (x0 : Addr) : entryFrame m #[(.ref x0)] 1 = mkF m 0 #[.val (.ref x0)] [] := by first | (simp [entryFrame, mkF, argsToLocals, Value.category]; done) | rfl
theorem d_jdk_67_m42_0 : decode jdk_67_method_42_code 0 = .ok (.new 18, 3) := by decide +kernel
theorem d_jdk_67_m42_3 : decode jdk_67_method_42_code 3 = .ok (.dup, 1) := by decide +kernel
theorem d_jdk_67_m42_4 : decode jdk_67_method_42_code 4 = .ok (.aload_n 0, 1) := by decide +kernel
theorem d_jdk_67_m42_5 : decode jdk_67_method_42_code 5 = .ok (.invokespecial 137, 3) := by decide +kernel
theorem pd_16 : parseMethodDescriptor "(Ljava/lang/StringBuilder;)V" = some ⟨[(.object "java/lang/StringBuilder")], none⟩ := by decide +kernel
theorem d_jdk_67_m42_8 : decode jdk_67_method_42_code 8 = .ok (.areturn, 1) := by decide +kernel
set_option maxRecDepth 65536 in
set_option maxHeartbeats 40000000 in
theorem sbTS (l : Launch) (Z : State) (a0 : Array Value) (hw : ∀ d ∈ tables_1, d.before a0 Z = true) (ws : List Jvm.Cond) (a1 : Addr) (t1 : Addr) (k1 : ClassId) (cs : List Int32) (zc : Int32) (h0 : Heap) (n0 : Nat) (Z0 : n0 ≤ h0.size) (Eb1 : Exa Z h0 a1 "java/lang/StringBuilder") (Gv1 : Fld Z h0 a1 "java/lang/AbstractStringBuilder" "value" "[B" (.ref t1)) (Gc1 : Fld Z h0 a1 "java/lang/AbstractStringBuilder" "coder" "B" (.int (0 : Int32))) (Gn1 : Fld Z h0 a1 "java/lang/AbstractStringBuilder" "count" "I" (.int (Int32.ofNat cs.length))) (Ab1 : Arv Z h0 t1 k1 .byte (Int32.ofNat 16) (bsV cs) (.int (0 : Int32))) (S4 : Sta Z Z.heap "java/lang/String" "COMPACT_STRINGS" "Z" (.int zc)) (O1 : Old Z n0 h0) (hCS : ¬ zc = 0) (hN : cs.length < 16) :
    MetFree l (⟨"java/lang/StringBuilder", "toString", "()Ljava/lang/String;"⟩ : MethodName) (head1 (Jvm.Cond.code (⟨"java/lang/StringBuilder", "toString", "()Ljava/lang/String;"⟩ : MethodName) jdk_67_method_42_code 1 (some (.object "java/lang/String")) :: ws) ({ frames := 5, cells := 2, slots := 20, locals := 93 } : Room)) (fun a U => a = #[(.ref a1)] ∧ Z.Warmed39 U.vm ∧ U.heap = h0) (fun _ _ _ _ _ => True) (fun _ U o U' => ∃ v L, o = .returned v ∧ Q_sbTS Z a1 t1 k1 cs zc h0 n0 v U'.heap L ∧ FrameEnd U o U' L ({ frames := 5, cells := 2, slots := 20, locals := 93 } : Room).cells ({ frames := 5, cells := 2, slots := 20, locals := 93 } : Room).slots) := by
  refine MetFree.of_bodySF (plainFor_of_name pn_java_lang_StringBuilder) hisR ?_
  intro p e s m args below meth c s₁ Bd hml0 hP hK
  obtain ⟨rfl, hZ, hh⟩ := hP
  have hx := Bd.exec
  have hby := Bd.bytes
  have hlk := BodyLoose.notSynchronized Bd
  have hml : c.maxLocals = 1 := hml0
  have hown : s.vm.findClass "java/lang/StringBuilder" = some m.cls := findClass_of_methodNamed Bd.named
  have hnm := (name_of_methodNamed Bd.named Bd.method).1
  have X0 : Stand p l e ({ frames := 5, cells := 2, slots := 20, locals := 93 } : Room) s m #[(.ref a1)] below meth c s₁ [] 0 0 := Stand.of_body Bd
  have e0 : s₁.heap = h0 := by rw [← hh, Bd.state]; rfl
  have N0 := Fr.nil n0
  have K0 := Keep.refl h0 []
  clear hh
  show Wk p e below (EndN s (Q_sbTS Z a1 t1 k1 cs zc h0 n0) ({ frames := 5, cells := 2, slots := 20, locals := 93 } : Room).cells ({ frames := 5, cells := 2, slots := 20, locals := 93 } : Room).slots) s₁ (entryFrame m #[(.ref a1)] 1)
  rw [ef_sbTS]
  have lt_Eb1 := ny Eb1.lt
  have lt_Gv1 := ny Gv1.lt
  have lt_Gc1 := ny Gc1.lt
  have lt_Gn1 := ny Gn1.lt
  have lt_Ab1 := ny Ab1.lt
  refine Wk.newO X0 hx hZ hown (hw _ (List.mem_of_getElem? (i := 142) rfl)) (hw _ (List.mem_of_getElem? (i := 3) rfl)) (hw _ (List.mem_of_getElem? (i := 4) rfl)) e0 (hb hby d_jdk_67_m42_0) (n := 3) rfl (by decide) (by decide) fun T1 H1 b1 gn1 X1 e1 Ex1 An1 Dn1 Yn1 => ?_
  have gn1 := nx gn1
  have sz1 := Ex1.1
  have lt1 := ny An1.lt
  have K1 := K0.ext Ex1
  have Fn1_value : Fld Z H1 b1 "java/lang/String" "value" "[B" .null := Dn1 (Or.inr (hw _ (List.mem_of_getElem? (i := 17) rfl))) (ty := (.array .byte)) (by decide)
  have Fn1_coder : Fld Z H1 b1 "java/lang/String" "coder" "B" (.int (0 : Int32)) := Dn1 (Or.inr (hw _ (List.mem_of_getElem? (i := 18) rfl))) (ty := .byte) (by decide)
  refine Wk.dup X1 hx (hb hby d_jdk_67_m42_3) (n := 4) rfl rfl ?_
  refine Wk.aloadN X1 hx (hb hby d_jdk_67_m42_4) (n := 5) rfl rfl rfl ?_
  have f2 := (Eb1.ext Ex1)
  have f3 := (Gv1.ext Ex1)
  have f4 := (Gc1.ext Ex1)
  have f5 := (Gn1.ext Ex1)
  have f6 := (Ab1.ext Ex1)
  have f7 := (O1.ext Ex1)
  have cl8_ := fun (Ls : Array Slot) (hLs : Ls.size = c.maxLocals) => X1.specialBack hx (y := (⟨"java/lang/String", "<init>", "(Ljava/lang/StringBuilder;)V"⟩ : MethodName)) rfl hown (mvT hZ (hw _ (List.mem_of_getElem? (i := 143) rfl))) (mvT hZ (hw _ (List.mem_of_getElem? (i := 144) rfl))) (mvT hZ (hw _ (List.mem_of_getElem? (i := 145) rfl))) (by decide) (backOf (W := 1) (sbSW l Z a0 hw [] b1 a1 t1 k1 cs zc .null H1 n0 (by omega) An1 Fn1_value Fn1_coder f2 f3 f4 f5 f6 S4 f7 hCS (by omega) (by omega) (by omega) (by omega)) hZ (hw _ (List.mem_of_getElem? (i := 145) rfl)) (hw _ (List.mem_of_getElem? (i := 4) rfl)) (by decide) (by decide)) (g := mkF m 5 Ls [(.ref a1), (.ref b1), (.ref b1)]) rfl hLs (Steps.refl _) (a := b1) (argsL := [(.ref a1)]) (rest := [(.ref b1)]) (lenOf pd_16 rfl) rfl (by show 2 * 0 + _ ≤ _; exact Nat.le_of_eq rfl) (hb hby d_jdk_67_m42_5) (fun _ _ => ⟨rfl, e1, (by decide : 0 + 1 + 1 ≤ _), (by decide : 0 + 4 + 16 ≤ _)⟩)
  refine Wk.back (n := 8) (rc := 1) (rs := 16) (Q := Q_sbSW Z b1 a1 t1 k1 cs zc .null H1 n0) (cl8_ _ (by rw [hml]; rfl)) fun vn8 T8 L8 X8 hQ8 => ?_
  clear cl8_
  obtain ⟨t_8, kb_8, rfl, M8, J8, p8_0, p8_1, p8_2, p8_3, gt_8⟩ := hQ8
  have N8 := Fr.app N0 M8
  have sz8 := J8.1
  have K8 := K1.trans J8 (allS (Or.inr (by omega)) all0)
  have lt_p8_0 := ny p8_0.lt
  have lt_p8_3 := ny p8_3.lt
  show Wk p e below _ T8 (mkF m 8 _ [(.ref b1)])
  exact Wk.leave X8 (v := some (.ref b1)) (fun h => by rw [Bd.returns] at h; cases h) hlk rfl ⟨b1, t_8, kb_8, rfl, N8, K8, p8_0, p8_1, p8_2, p8_3, (by omega), (by omega)⟩ (by decide) (by decide) (fun fs hr => retA X8 hx rfl Bd.returns rfl (hb hby d_jdk_67_m42_8) hr)
def Q_sbSS (Z : State) (p1 : Int32) (h0 : Heap) (n0 : Nat) (v : Option Value) (h : Heap) (L : List Loc) : Prop := v = some (.int (Int32.ofNat (sgl p1 ++ dl (mg p1)).length)) ∧ Fr n0 L ∧ h = h0
theorem ef_sbSS (m : MethodId) (x0 : Int32) : entryFrame m #[(.int x0)] 4 = mkF m 0 #[.val (.int x0), .unset, .unset, .unset] [] := by first | (simp [entryFrame, mkF, argsToLocals, Value.category]; done) | rfl
theorem pn_java_lang_Integer : plainName "java/lang/Integer" = true := by first | (simp [plainName, overriddenIn]; done) | decide +kernel
theorem d_jdk_33_m13_0 : decode jdk_33_method_13_code 0 = .ok (.iconst 1, 1) := by decide +kernel
theorem d_jdk_33_m13_1 : decode jdk_33_method_13_code 1 = .ok (.istore_n 1, 1) := by decide +kernel
theorem d_jdk_33_m13_2 : decode jdk_33_method_13_code 2 = .ok (.iload_n 0, 1) := by decide +kernel
theorem d_jdk_33_m13_3 : decode jdk_33_method_13_code 3 = .ok (.ifCond .lt 8, 3) := by decide +kernel
theorem d_jdk_33_m13_11 : decode jdk_33_method_13_code 11 = .ok (.bipush (-10), 2) := by decide +kernel
theorem d_jdk_33_m13_13 : decode jdk_33_method_13_code 13 = .ok (.istore_n 2, 1) := by decide +kernel
theorem d_jdk_33_m13_14 : decode jdk_33_method_13_code 14 = .ok (.iconst 1, 1) := by decide +kernel
theorem d_jdk_33_m13_15 : decode jdk_33_method_13_code 15 = .ok (.istore_n 3, 1) := by decide +kernel
theorem d_jdk_33_m13_16 : decode jdk_33_method_13_code 16 = .ok (.iload_n 3, 1) := by decide +kernel
theorem d_jdk_33_m13_17 : decode jdk_33_method_13_code 17 = .ok (.bipush 10, 2) := by decide +kernel
theorem d_jdk_33_m13_19 : decode jdk_33_method_13_code 19 = .ok (.if_icmp .ge 23, 3) := by decide +kernel
theorem d_jdk_33_m13_22 : decode jdk_33_method_13_code 22 = .ok (.iload_n 0, 1) := by decide +kernel
theorem d_jdk_33_m13_23 : decode jdk_33_method_13_code 23 = .ok (.iload_n 2, 1) := by decide +kernel
theorem d_jdk_33_m13_24 : decode jdk_33_method_13_code 24 = .ok (.if_icmp .le 7, 3) := by decide +kernel
theorem d_jdk_33_m13_27 : decode jdk_33_method_13_code 27 = .ok (.iload_n 3, 1) := by decide +kernel
theorem d_jdk_33_m13_28 : decode jdk_33_method_13_code 28 = .ok (.iload_n 1, 1) := by decide +kernel
theorem d_jdk_33_m13_29 : decode jdk_33_method_13_code 29 = .ok (.iadd, 1) := by decide +kernel
theorem d_jdk_33_m13_30 : decode jdk_33_method_13_code 30 = .ok (.ireturn, 1) := by decide +kernel
theorem d_jdk_33_m13_31 : decode jdk_33_method_13_code 31 = .ok (.bipush 10, 2) := by decide +kernel
theorem d_jdk_33_m13_33 : decode jdk_33_method_13_code 33 = .ok (.iload_n 2, 1) := by decide +kernel
theorem d_jdk_33_m13_34 : decode jdk_33_method_13_code 34 = .ok (.imul, 1) := by decide +kernel
theorem d_jdk_33_m13_35 : decode jdk_33_method_13_code 35 = .ok (.istore_n 2, 1) := by decide +kernel
theorem d_jdk_33_m13_36 : decode jdk_33_method_13_code 36 = .ok (.iinc 3 1, 3) := by decide +kernel
theorem d_jdk_33_m13_39 : decode jdk_33_method_13_code 39 = .ok (.goto (-23), 3) := by decide +kernel
theorem d_jdk_33_m13_42 : decode jdk_33_method_13_code 42 = .ok (.bipush 10, 2) := by decide +kernel
theorem d_jdk_33_m13_44 : decode jdk_33_method_13_code 44 = .ok (.iload_n 1, 1) := by decide +kernel
theorem d_jdk_33_m13_45 : decode jdk_33_method_13_code 45 = .ok (.iadd, 1) := by decide +kernel
theorem d_jdk_33_m13_46 : decode jdk_33_method_13_code 46 = .ok (.ireturn, 1) := by decide +kernel
theorem d_jdk_33_m13_6 : decode jdk_33_method_13_code 6 = .ok (.iconst 0, 1) := by decide +kernel
theorem d_jdk_33_m13_7 : decode jdk_33_method_13_code 7 = .ok (.istore_n 1, 1) := by decide +kernel
theorem d_jdk_33_m13_8 : decode jdk_33_method_13_code 8 = .ok (.iload_n 0, 1) := by decide +kernel
theorem d_jdk_33_m13_9 : decode jdk_33_method_13_code 9 = .ok (.ineg, 1) := by decide +kernel
theorem d_jdk_33_m13_10 : decode jdk_33_method_13_code 10 = .ok (.istore_n 0, 1) := by decide +kernel
set_option maxRecDepth 65536 in
set_option maxHeartbeats 40000000 in
theorem sbSS (l : Launch) (Z : State) (a0 : Array Value) (hw : ∀ d ∈ tables_1, d.before a0 Z = true) (ws : List Jvm.Cond) (p1 : Int32) (h0 : Heap) (n0 : Nat) (Z0 : n0 ≤ h0.size) :
    MetFree l (⟨"java/lang/Integer", "stringSize", "(I)I"⟩ : MethodName) (head1 (Jvm.Cond.code (⟨"java/lang/Integer", "stringSize", "(I)I"⟩ : MethodName) jdk_33_method_13_code 4 (some .int) :: ws) ({ frames := 0, cells := 0, slots := 0, locals := 0 } : Room)) (fun a U => a = #[(.int p1)] ∧ Z.Warmed39 U.vm ∧ U.heap = h0) (fun _ _ _ _ _ => True) (fun _ U o U' => ∃ v L, o = .returned v ∧ Q_sbSS Z p1 h0 n0 v U'.heap L ∧ FrameEnd U o U' L ({ frames := 0, cells := 0, slots := 0, locals := 0 } : Room).cells ({ frames := 0, cells := 0, slots := 0, locals := 0 } : Room).slots) := by
  refine MetFree.of_bodySF (plainFor_of_name pn_java_lang_Integer) hisR ?_
  intro p e s m args below meth c s₁ Bd hml0 hP hK
  obtain ⟨rfl, hZ, hh⟩ := hP
  have hx := Bd.exec
  have hby := Bd.bytes
  have hlk := BodyLoose.notSynchronized Bd
  have hml : c.maxLocals = 4 := hml0
  have hown : s.vm.findClass "java/lang/Integer" = some m.cls := findClass_of_methodNamed Bd.named
  have hnm := (name_of_methodNamed Bd.named Bd.method).1
  have X0 : Stand p l e ({ frames := 0, cells := 0, slots := 0, locals := 0 } : Room) s m #[(.int p1)] below meth c s₁ [] 0 0 := Stand.of_body Bd
  have e0 : s₁.heap = h0 := by rw [← hh, Bd.state]; rfl
  have N0 := Fr.nil n0
  have K0 := Keep.refl h0 []
  clear hh
  show Wk p e below (EndN s (Q_sbSS Z p1 h0 n0) ({ frames := 0, cells := 0, slots := 0, locals := 0 } : Room).cells ({ frames := 0, cells := 0, slots := 0, locals := 0 } : Room).slots) s₁ (entryFrame m #[(.int p1)] 4)
  rw [ef_sbSS]
  refine Wk.iconst X0 hx (hb hby d_jdk_33_m13_0) (n := 1) rfl (z := (1 : Int32)) rfl ?_
  refine Wk.istoreN X0 hx (hb hby d_jdk_33_m13_1) (n := 2) rfl (L' := #[.val (.int p1), .val (.int (1 : Int32)), .unset, .unset]) rfl ?_
  refine Wk.iloadN X0 hx (hb hby d_jdk_33_m13_2) (n := 3) rfl rfl ?_
  by_cases hc3_1 : p1 < (0 : Int32)
  ·
    refine Wk.ifYes X0 hx (hb hby d_jdk_33_m13_3) ((if0 _ _).trans (tlt hc3_1).1) (by decide) (n := 11) (by decide) ?_
    have ex0 : p1 = Int32.ofInt (-(mg p1 : Int)) := own_mg p1 hc3_1
    have hsg : (sgl p1).length = 1 := by unfold sgl; rw [if_pos hc3_1]; rfl
    refine Wk.bipush X0 hx (hb hby d_jdk_33_m13_11) (n := 13) rfl (z := (-10 : Int32)) rfl ?_
    refine Wk.istoreN X0 hx (hb hby d_jdk_33_m13_13) (n := 14) rfl (L' := #[.val (.int p1), .val (.int (1 : Int32)), .val (.int (-10 : Int32)), .unset]) rfl ?_
    refine Wk.iconst X0 hx (hb hby d_jdk_33_m13_14) (n := 15) rfl (z := (1 : Int32)) rfl ?_
    refine Wk.istoreN X0 hx (hb hby d_jdk_33_m13_15) (n := 16) rfl (L' := #[.val (.int p1), .val (.int (1 : Int32)), .val (.int (-10 : Int32)), .val (.int (1 : Int32))]) rfl ?_
    refine Wk.iloadN X0 hx (hb hby d_jdk_33_m13_16) (n := 17) rfl rfl ?_
    refine Wk.bipush X0 hx (hb hby d_jdk_33_m13_17) (n := 19) rfl (z := (10 : Int32)) rfl ?_
    have hc19_2 : (1 : Int32) < (10 : Int32) := by decide
    refine Wk.icmpNo X0 hx (hb hby d_jdk_33_m13_19) (n := 22) rfl (tlt hc19_2).2.1 ?_
    refine Wk.iloadN X0 hx (hb hby d_jdk_33_m13_22) (n := 23) rfl rfl ?_
    refine Wk.iloadN X0 hx (hb hby d_jdk_33_m13_23) (n := 24) rfl rfl ?_
    by_cases hc24_3 : (-10 : Int32) < p1
    ·
      refine Wk.icmpNo X0 hx (hb hby d_jdk_33_m13_24) (n := 27) rfl (tlt hc24_3).2.2.2 ?_
      refine Wk.iloadN X0 hx (hb hby d_jdk_33_m13_27) (n := 28) rfl rfl ?_
      refine Wk.iloadN X0 hx (hb hby d_jdk_33_m13_28) (n := 29) rfl rfl ?_
      refine Wk.iadd X0 hx (hb hby d_jdk_33_m13_29) (n := 30) rfl ?_
      have hlen : (dl (mg p1)).length = 1 := own_ssz (k := 0) ex0 (mg_le p1) (by decide) rfl hc24_3 (Or.inl rfl)
      exact Wk.leave X0 (v := some (.int ((1 : Int32) + (1 : Int32)))) (fun h => by rw [Bd.returns] at h; cases h) hlk e0 ⟨(congrArg (fun z => some (Value.int z)) (by rw [List.length_append, hsg, hlen]; rfl)), N0, rfl⟩ (by decide) (by decide) (fun fs hr => retI X0 hx Bd.returns (hb hby d_jdk_33_m13_30) hr)
    ·
      refine Wk.icmpYes X0 hx (hb hby d_jdk_33_m13_24) (flt hc24_3).2.2.2 (by decide) (n := 31) (by decide) ?_
      refine Wk.bipush X0 hx (hb hby d_jdk_33_m13_31) (n := 33) rfl (z := (10 : Int32)) rfl ?_
      refine Wk.iloadN X0 hx (hb hby d_jdk_33_m13_33) (n := 34) rfl rfl ?_
      refine Wk.imul X0 hx (hb hby d_jdk_33_m13_34) (n := 35) rfl ?_
      refine Wk.istoreN X0 hx (hb hby d_jdk_33_m13_35) (n := 36) rfl (L' := #[.val (.int p1), .val (.int (1 : Int32)), .val (.int ((10 : Int32) * (-10 : Int32))), .val (.int (1 : Int32))]) rfl ?_
      refine Wk.iinc X0 hx (hb hby d_jdk_33_m13_36) (n := 39) rfl rfl (L' := #[.val (.int p1), .val (.int (1 : Int32)), .val (.int ((10 : Int32) * (-10 : Int32))), .val (.int (2 : Int32))]) rfl ?_
      refine Wk.goto X0 hx (hb hby d_jdk_33_m13_39) (by decide) (n := 16) (by decide) ?_
      refine Wk.iloadN X0 hx (hb hby d_jdk_33_m13_16) (n := 17) rfl rfl ?_
      refine Wk.bipush X0 hx (hb hby d_jdk_33_m13_17) (n := 19) rfl (z := (10 : Int32)) rfl ?_
      have hc19_4 : (2 : Int32) < (10 : Int32) := by decide
      refine Wk.icmpNo X0 hx (hb hby d_jdk_33_m13_19) (n := 22) rfl (tlt hc19_4).2.1 ?_
      refine Wk.iloadN X0 hx (hb hby d_jdk_33_m13_22) (n := 23) rfl rfl ?_
      refine Wk.iloadN X0 hx (hb hby d_jdk_33_m13_23) (n := 24) rfl rfl ?_
      by_cases hc24_5 : ((10 : Int32) * (-10 : Int32)) < p1
      ·
        refine Wk.icmpNo X0 hx (hb hby d_jdk_33_m13_24) (n := 27) rfl (tlt hc24_5).2.2.2 ?_
        refine Wk.iloadN X0 hx (hb hby d_jdk_33_m13_27) (n := 28) rfl rfl ?_
        refine Wk.iloadN X0 hx (hb hby d_jdk_33_m13_28) (n := 29) rfl rfl ?_
        refine Wk.iadd X0 hx (hb hby d_jdk_33_m13_29) (n := 30) rfl ?_
        have hlen : (dl (mg p1)).length = 2 := own_ssz (k := 1) ex0 (mg_le p1) (by decide) rfl hc24_5 (Or.inr ⟨_, hc24_3, rfl⟩)
        exact Wk.leave X0 (v := some (.int ((2 : Int32) + (1 : Int32)))) (fun h => by rw [Bd.returns] at h; cases h) hlk e0 ⟨(congrArg (fun z => some (Value.int z)) (by rw [List.length_append, hsg, hlen]; rfl)), N0, rfl⟩ (by decide) (by decide) (fun fs hr => retI X0 hx Bd.returns (hb hby d_jdk_33_m13_30) hr)
      ·
        refine Wk.icmpYes X0 hx (hb hby d_jdk_33_m13_24) (flt hc24_5).2.2.2 (by decide) (n := 31) (by decide) ?_
        refine Wk.bipush X0 hx (hb hby d_jdk_33_m13_31) (n := 33) rfl (z := (10 : Int32)) rfl ?_
        refine Wk.iloadN X0 hx (hb hby d_jdk_33_m13_33) (n := 34) rfl rfl ?_
        refine Wk.imul X0 hx (hb hby d_jdk_33_m13_34) (n := 35) rfl ?_
        refine Wk.istoreN X0 hx (hb hby d_jdk_33_m13_35) (n := 36) rfl (L' := #[.val (.int p1), .val (.int (1 : Int32)), .val (.int ((10 : Int32) * ((10 : Int32) * (-10 : Int32)))), .val (.int (2 : Int32))]) rfl ?_
        refine Wk.iinc X0 hx (hb hby d_jdk_33_m13_36) (n := 39) rfl rfl (L' := #[.val (.int p1), .val (.int (1 : Int32)), .val (.int ((10 : Int32) * ((10 : Int32) * (-10 : Int32)))), .val (.int (3 : Int32))]) rfl ?_
        refine Wk.goto X0 hx (hb hby d_jdk_33_m13_39) (by decide) (n := 16) (by decide) ?_
        refine Wk.iloadN X0 hx (hb hby d_jdk_33_m13_16) (n := 17) rfl rfl ?_
        refine Wk.bipush X0 hx (hb hby d_jdk_33_m13_17) (n := 19) rfl (z := (10 : Int32)) rfl ?_
        have hc19_6 : (3 : Int32) < (10 : Int32) := by decide
        refine Wk.icmpNo X0 hx (hb hby d_jdk_33_m13_19) (n := 22) rfl (tlt hc19_6).2.1 ?_
        refine Wk.iloadN X0 hx (hb hby d_jdk_33_m13_22) (n := 23) rfl rfl ?_
        refine Wk.iloadN X0 hx (hb hby d_jdk_33_m13_23) (n := 24) rfl rfl ?_
        by_cases hc24_7 : ((10 : Int32) * ((10 : Int32) * (-10 : Int32))) < p1
        ·
          refine Wk.icmpNo X0 hx (hb hby d_jdk_33_m13_24) (n := 27) rfl (tlt hc24_7).2.2.2 ?_
          refine Wk.iloadN X0 hx (hb hby d_jdk_33_m13_27) (n := 28) rfl rfl ?_
          refine Wk.iloadN X0 hx (hb hby d_jdk_33_m13_28) (n := 29) rfl rfl ?_
          refine Wk.iadd X0 hx (hb hby d_jdk_33_m13_29) (n := 30) rfl ?_
          have hlen : (dl (mg p1)).length = 3 := own_ssz (k := 2) ex0 (mg_le p1) (by decide) rfl hc24_7 (Or.inr ⟨_, hc24_5, rfl⟩)
          exact Wk.leave X0 (v := some (.int ((3 : Int32) + (1 : Int32)))) (fun h => by rw [Bd.returns] at h; cases h) hlk e0 ⟨(congrArg (fun z => some (Value.int z)) (by rw [List.length_append, hsg, hlen]; rfl)), N0, rfl⟩ (by decide) (by decide) (fun fs hr => retI X0 hx Bd.returns (hb hby d_jdk_33_m13_30) hr)
        ·
          refine Wk.icmpYes X0 hx (hb hby d_jdk_33_m13_24) (flt hc24_7).2.2.2 (by decide) (n := 31) (by decide) ?_
          refine Wk.bipush X0 hx (hb hby d_jdk_33_m13_31) (n := 33) rfl (z := (10 : Int32)) rfl ?_
          refine Wk.iloadN X0 hx (hb hby d_jdk_33_m13_33) (n := 34) rfl rfl ?_
          refine Wk.imul X0 hx (hb hby d_jdk_33_m13_34) (n := 35) rfl ?_
          refine Wk.istoreN X0 hx (hb hby d_jdk_33_m13_35) (n := 36) rfl (L' := #[.val (.int p1), .val (.int (1 : Int32)), .val (.int ((10 : Int32) * ((10 : Int32) * ((10 : Int32) * (-10 : Int32))))), .val (.int (3 : Int32))]) rfl ?_
          refine Wk.iinc X0 hx (hb hby d_jdk_33_m13_36) (n := 39) rfl rfl (L' := #[.val (.int p1), .val (.int (1 : Int32)), .val (.int ((10 : Int32) * ((10 : Int32) * ((10 : Int32) * (-10 : Int32))))), .val (.int (4 : Int32))]) rfl ?_
          refine Wk.goto X0 hx (hb hby d_jdk_33_m13_39) (by decide) (n := 16) (by decide) ?_
          refine Wk.iloadN X0 hx (hb hby d_jdk_33_m13_16) (n := 17) rfl rfl ?_
          refine Wk.bipush X0 hx (hb hby d_jdk_33_m13_17) (n := 19) rfl (z := (10 : Int32)) rfl ?_
          have hc19_8 : (4 : Int32) < (10 : Int32) := by decide
          refine Wk.icmpNo X0 hx (hb hby d_jdk_33_m13_19) (n := 22) rfl (tlt hc19_8).2.1 ?_
          refine Wk.iloadN X0 hx (hb hby d_jdk_33_m13_22) (n := 23) rfl rfl ?_
          refine Wk.iloadN X0 hx (hb hby d_jdk_33_m13_23) (n := 24) rfl rfl ?_
          by_cases hc24_9 : ((10 : Int32) * ((10 : Int32) * ((10 : Int32) * (-10 : Int32)))) < p1
          ·
            refine Wk.icmpNo X0 hx (hb hby d_jdk_33_m13_24) (n := 27) rfl (tlt hc24_9).2.2.2 ?_
            refine Wk.iloadN X0 hx (hb hby d_jdk_33_m13_27) (n := 28) rfl rfl ?_
            refine Wk.iloadN X0 hx (hb hby d_jdk_33_m13_28) (n := 29) rfl rfl ?_
            refine Wk.iadd X0 hx (hb hby d_jdk_33_m13_29) (n := 30) rfl ?_
            have hlen : (dl (mg p1)).length = 4 := own_ssz (k := 3) ex0 (mg_le p1) (by decide) rfl hc24_9 (Or.inr ⟨_, hc24_7, rfl⟩)
            exact Wk.leave X0 (v := some (.int ((4 : Int32) + (1 : Int32)))) (fun h => by rw [Bd.returns] at h; cases h) hlk e0 ⟨(congrArg (fun z => some (Value.int z)) (by rw [List.length_append, hsg, hlen]; rfl)), N0, rfl⟩ (by decide) (by decide) (fun fs hr => retI X0 hx Bd.returns (hb hby d_jdk_33_m13_30) hr)
          ·
            refine Wk.icmpYes X0 hx (hb hby d_jdk_33_m13_24) (flt hc24_9).2.2.2 (by decide) (n := 31) (by decide) ?_
            refine Wk.bipush X0 hx (hb hby d_jdk_33_m13_31) (n := 33) rfl (z := (10 : Int32)) rfl ?_
            refine Wk.iloadN X0 hx (hb hby d_jdk_33_m13_33) (n := 34) rfl rfl ?_
            refine Wk.imul X0 hx (hb hby d_jdk_33_m13_34) (n := 35) rfl ?_
            refine Wk.istoreN X0 hx (hb hby d_jdk_33_m13_35) (n := 36) rfl (L' := #[.val (.int p1), .val (.int (1 : Int32)), .val (.int ((10 : Int32) * ((10 : Int32) * ((10 : Int32) * ((10 : Int32) * (-10 : Int32)))))), .val (.int (4 : Int32))]) rfl ?_
            refine Wk.iinc X0 hx (hb hby d_jdk_33_m13_36) (n := 39) rfl rfl (L' := #[.val (.int p1), .val (.int (1 : Int32)), .val (.int ((10 : Int32) * ((10 : Int32) * ((10 : Int32) * ((10 : Int32) * (-10 : Int32)))))), .val (.int (5 : Int32))]) rfl ?_
            refine Wk.goto X0 hx (hb hby d_jdk_33_m13_39) (by decide) (n := 16) (by decide) ?_
            refine Wk.iloadN X0 hx (hb hby d_jdk_33_m13_16) (n := 17) rfl rfl ?_
            refine Wk.bipush X0 hx (hb hby d_jdk_33_m13_17) (n := 19) rfl (z := (10 : Int32)) rfl ?_
            have hc19_10 : (5 : Int32) < (10 : Int32) := by decide
            refine Wk.icmpNo X0 hx (hb hby d_jdk_33_m13_19) (n := 22) rfl (tlt hc19_10).2.1 ?_
            refine Wk.iloadN X0 hx (hb hby d_jdk_33_m13_22) (n := 23) rfl rfl ?_
            refine Wk.iloadN X0 hx (hb hby d_jdk_33_m13_23) (n := 24) rfl rfl ?_
            by_cases hc24_11 : ((10 : Int32) * ((10 : Int32) * ((10 : Int32) * ((10 : Int32) * (-10 : Int32))))) < p1
            ·
              refine Wk.icmpNo X0 hx (hb hby d_jdk_33_m13_24) (n := 27) rfl (tlt hc24_11).2.2.2 ?_
              refine Wk.iloadN X0 hx (hb hby d_jdk_33_m13_27) (n := 28) rfl rfl ?_
              refine Wk.iloadN X0 hx (hb hby d_jdk_33_m13_28) (n := 29) rfl rfl ?_
              refine Wk.iadd X0 hx (hb hby d_jdk_33_m13_29) (n := 30) rfl ?_
              have hlen : (dl (mg p1)).length = 5 := own_ssz (k := 4) ex0 (mg_le p1) (by decide) rfl hc24_11 (Or.inr ⟨_, hc24_9, rfl⟩)
              exact Wk.leave X0 (v := some (.int ((5 : Int32) + (1 : Int32)))) (fun h => by rw [Bd.returns] at h; cases h) hlk e0 ⟨(congrArg (fun z => some (Value.int z)) (by rw [List.length_append, hsg, hlen]; rfl)), N0, rfl⟩ (by decide) (by decide) (fun fs hr => retI X0 hx Bd.returns (hb hby d_jdk_33_m13_30) hr)
            ·
              refine Wk.icmpYes X0 hx (hb hby d_jdk_33_m13_24) (flt hc24_11).2.2.2 (by decide) (n := 31) (by decide) ?_
              refine Wk.bipush X0 hx (hb hby d_jdk_33_m13_31) (n := 33) rfl (z := (10 : Int32)) rfl ?_
              refine Wk.iloadN X0 hx (hb hby d_jdk_33_m13_33) (n := 34) rfl rfl ?_
              refine Wk.imul X0 hx (hb hby d_jdk_33_m13_34) (n := 35) rfl ?_
              refine Wk.istoreN X0 hx (hb hby d_jdk_33_m13_35) (n := 36) rfl (L' := #[.val (.int p1), .val (.int (1 : Int32)), .val (.int ((10 : Int32) * ((10 : Int32) * ((10 : Int32) * ((10 : Int32) * ((10 : Int32) * (-10 : Int32))))))), .val (.int (5 : Int32))]) rfl ?_
              refine Wk.iinc X0 hx (hb hby d_jdk_33_m13_36) (n := 39) rfl rfl (L' := #[.val (.int p1), .val (.int (1 : Int32)), .val (.int ((10 : Int32) * ((10 : Int32) * ((10 : Int32) * ((10 : Int32) * ((10 : Int32) * (-10 : Int32))))))), .val (.int (6 : Int32))]) rfl ?_
              refine Wk.goto X0 hx (hb hby d_jdk_33_m13_39) (by decide) (n := 16) (by decide) ?_
              refine Wk.iloadN X0 hx (hb hby d_jdk_33_m13_16) (n := 17) rfl rfl ?_
              refine Wk.bipush X0 hx (hb hby d_jdk_33_m13_17) (n := 19) rfl (z := (10 : Int32)) rfl ?_
              have hc19_12 : (6 : Int32) < (10 : Int32) := by decide
              refine Wk.icmpNo X0 hx (hb hby d_jdk_33_m13_19) (n := 22) rfl (tlt hc19_12).2.1 ?_
              refine Wk.iloadN X0 hx (hb hby d_jdk_33_m13_22) (n := 23) rfl rfl ?_
              refine Wk.iloadN X0 hx (hb hby d_jdk_33_m13_23) (n := 24) rfl rfl ?_
              by_cases hc24_13 : ((10 : Int32) * ((10 : Int32) * ((10 : Int32) * ((10 : Int32) * ((10 : Int32) * (-10 : Int32)))))) < p1
              ·
                refine Wk.icmpNo X0 hx (hb hby d_jdk_33_m13_24) (n := 27) rfl (tlt hc24_13).2.2.2 ?_
                refine Wk.iloadN X0 hx (hb hby d_jdk_33_m13_27) (n := 28) rfl rfl ?_
                refine Wk.iloadN X0 hx (hb hby d_jdk_33_m13_28) (n := 29) rfl rfl ?_
                refine Wk.iadd X0 hx (hb hby d_jdk_33_m13_29) (n := 30) rfl ?_
                have hlen : (dl (mg p1)).length = 6 := own_ssz (k := 5) ex0 (mg_le p1) (by decide) rfl hc24_13 (Or.inr ⟨_, hc24_11, rfl⟩)
                exact Wk.leave X0 (v := some (.int ((6 : Int32) + (1 : Int32)))) (fun h => by rw [Bd.returns] at h; cases h) hlk e0 ⟨(congrArg (fun z => some (Value.int z)) (by rw [List.length_append, hsg, hlen]; rfl)), N0, rfl⟩ (by decide) (by decide) (fun fs hr => retI X0 hx Bd.returns (hb hby d_jdk_33_m13_30) hr)
              ·
                refine Wk.icmpYes X0 hx (hb hby d_jdk_33_m13_24) (flt hc24_13).2.2.2 (by decide) (n := 31) (by decide) ?_
                refine Wk.bipush X0 hx (hb hby d_jdk_33_m13_31) (n := 33) rfl (z := (10 : Int32)) rfl ?_
                refine Wk.iloadN X0 hx (hb hby d_jdk_33_m13_33) (n := 34) rfl rfl ?_
                refine Wk.imul X0 hx (hb hby d_jdk_33_m13_34) (n := 35) rfl ?_
                refine Wk.istoreN X0 hx (hb hby d_jdk_33_m13_35) (n := 36) rfl (L' := #[.val (.int p1), .val (.int (1 : Int32)), .val (.int ((10 : Int32) * ((10 : Int32) * ((10 : Int32) * ((10 : Int32) * ((10 : Int32) * ((10 : Int32) * (-10 : Int32)))))))), .val (.int (6 : Int32))]) rfl ?_
                refine Wk.iinc X0 hx (hb hby d_jdk_33_m13_36) (n := 39) rfl rfl (L' := #[.val (.int p1), .val (.int (1 : Int32)), .val (.int ((10 : Int32) * ((10 : Int32) * ((10 : Int32) * ((10 : Int32) * ((10 : Int32) * ((10 : Int32) * (-10 : Int32)))))))), .val (.int (7 : Int32))]) rfl ?_
                refine Wk.goto X0 hx (hb hby d_jdk_33_m13_39) (by decide) (n := 16) (by decide) ?_
                refine Wk.iloadN X0 hx (hb hby d_jdk_33_m13_16) (n := 17) rfl rfl ?_
                refine Wk.bipush X0 hx (hb hby d_jdk_33_m13_17) (n := 19) rfl (z := (10 : Int32)) rfl ?_
                have hc19_14 : (7 : Int32) < (10 : Int32) := by decide
                refine Wk.icmpNo X0 hx (hb hby d_jdk_33_m13_19) (n := 22) rfl (tlt hc19_14).2.1 ?_
                refine Wk.iloadN X0 hx (hb hby d_jdk_33_m13_22) (n := 23) rfl rfl ?_
                refine Wk.iloadN X0 hx (hb hby d_jdk_33_m13_23) (n := 24) rfl rfl ?_
                by_cases hc24_15 : ((10 : Int32) * ((10 : Int32) * ((10 : Int32) * ((10 : Int32) * ((10 : Int32) * ((10 : Int32) * (-10 : Int32))))))) < p1
                ·
                  refine Wk.icmpNo X0 hx (hb hby d_jdk_33_m13_24) (n := 27) rfl (tlt hc24_15).2.2.2 ?_
                  refine Wk.iloadN X0 hx (hb hby d_jdk_33_m13_27) (n := 28) rfl rfl ?_
                  refine Wk.iloadN X0 hx (hb hby d_jdk_33_m13_28) (n := 29) rfl rfl ?_
                  refine Wk.iadd X0 hx (hb hby d_jdk_33_m13_29) (n := 30) rfl ?_
                  have hlen : (dl (mg p1)).length = 7 := own_ssz (k := 6) ex0 (mg_le p1) (by decide) rfl hc24_15 (Or.inr ⟨_, hc24_13, rfl⟩)
                  exact Wk.leave X0 (v := some (.int ((7 : Int32) + (1 : Int32)))) (fun h => by rw [Bd.returns] at h; cases h) hlk e0 ⟨(congrArg (fun z => some (Value.int z)) (by rw [List.length_append, hsg, hlen]; rfl)), N0, rfl⟩ (by decide) (by decide) (fun fs hr => retI X0 hx Bd.returns (hb hby d_jdk_33_m13_30) hr)
                ·
                  refine Wk.icmpYes X0 hx (hb hby d_jdk_33_m13_24) (flt hc24_15).2.2.2 (by decide) (n := 31) (by decide) ?_
                  refine Wk.bipush X0 hx (hb hby d_jdk_33_m13_31) (n := 33) rfl (z := (10 : Int32)) rfl ?_
                  refine Wk.iloadN X0 hx (hb hby d_jdk_33_m13_33) (n := 34) rfl rfl ?_
                  refine Wk.imul X0 hx (hb hby d_jdk_33_m13_34) (n := 35) rfl ?_
                  refine Wk.istoreN X0 hx (hb hby d_jdk_33_m13_35) (n := 36) rfl (L' := #[.val (.int p1), .val (.int (1 : Int32)), .val (.int ((10 : Int32) * ((10 : Int32) * ((10 : Int32) * ((10 : Int32) * ((10 : Int32) * ((10 : Int32) * ((10 : Int32) * (-10 : Int32))))))))), .val (.int (7 : Int32))]) rfl ?_
                  refine Wk.iinc X0 hx (hb hby d_jdk_33_m13_36) (n := 39) rfl rfl (L' := #[.val (.int p1), .val (.int (1 : Int32)), .val (.int ((10 : Int32) * ((10 : Int32) * ((10 : Int32) * ((10 : Int32) * ((10 : Int32) * ((10 : Int32) * ((10 : Int32) * (-10 : Int32))))))))), .val (.int (8 : Int32))]) rfl ?_
                  refine Wk.goto X0 hx (hb hby d_jdk_33_m13_39) (by decide) (n := 16) (by decide) ?_
                  refine Wk.iloadN X0 hx (hb hby d_jdk_33_m13_16) (n := 17) rfl rfl ?_
                  refine Wk.bipush X0 hx (hb hby d_jdk_33_m13_17) (n := 19) rfl (z := (10 : Int32)) rfl ?_
                  have hc19_16 : (8 : Int32) < (10 : Int32) := by decide
                  refine Wk.icmpNo X0 hx (hb hby d_jdk_33_m13_19) (n := 22) rfl (tlt hc19_16).2.1 ?_
                  refine Wk.iloadN X0 hx (hb hby d_jdk_33_m13_22) (n := 23) rfl rfl ?_
                  refine Wk.iloadN X0 hx (hb hby d_jdk_33_m13_23) (n := 24) rfl rfl ?_
                  by_cases hc24_17 : ((10 : Int32) * ((10 : Int32) * ((10 : Int32) * ((10 : Int32) * ((10 : Int32) * ((10 : Int32) * ((10 : Int32) * (-10 : Int32)))))))) < p1
                  ·
                    refine Wk.icmpNo X0 hx (hb hby d_jdk_33_m13_24) (n := 27) rfl (tlt hc24_17).2.2.2 ?_
                    refine Wk.iloadN X0 hx (hb hby d_jdk_33_m13_27) (n := 28) rfl rfl ?_
                    refine Wk.iloadN X0 hx (hb hby d_jdk_33_m13_28) (n := 29) rfl rfl ?_
                    refine Wk.iadd X0 hx (hb hby d_jdk_33_m13_29) (n := 30) rfl ?_
                    have hlen : (dl (mg p1)).length = 8 := own_ssz (k := 7) ex0 (mg_le p1) (by decide) rfl hc24_17 (Or.inr ⟨_, hc24_15, rfl⟩)
                    exact Wk.leave X0 (v := some (.int ((8 : Int32) + (1 : Int32)))) (fun h => by rw [Bd.returns] at h; cases h) hlk e0 ⟨(congrArg (fun z => some (Value.int z)) (by rw [List.length_append, hsg, hlen]; rfl)), N0, rfl⟩ (by decide) (by decide) (fun fs hr => retI X0 hx Bd.returns (hb hby d_jdk_33_m13_30) hr)
                  ·
                    refine Wk.icmpYes X0 hx (hb hby d_jdk_33_m13_24) (flt hc24_17).2.2.2 (by decide) (n := 31) (by decide) ?_
                    refine Wk.bipush X0 hx (hb hby d_jdk_33_m13_31) (n := 33) rfl (z := (10 : Int32)) rfl ?_
                    refine Wk.iloadN X0 hx (hb hby d_jdk_33_m13_33) (n := 34) rfl rfl ?_
                    refine Wk.imul X0 hx (hb hby d_jdk_33_m13_34) (n := 35) rfl ?_
                    refine Wk.istoreN X0 hx (hb hby d_jdk_33_m13_35) (n := 36) rfl (L' := #[.val (.int p1), .val (.int (1 : Int32)), .val (.int ((10 : Int32) * ((10 : Int32) * ((10 : Int32) * ((10 : Int32) * ((10 : Int32) * ((10 : Int32) * ((10 : Int32) * ((10 : Int32) * (-10 : Int32)))))))))), .val (.int (8 : Int32))]) rfl ?_
                    refine Wk.iinc X0 hx (hb hby d_jdk_33_m13_36) (n := 39) rfl rfl (L' := #[.val (.int p1), .val (.int (1 : Int32)), .val (.int ((10 : Int32) * ((10 : Int32) * ((10 : Int32) * ((10 : Int32) * ((10 : Int32) * ((10 : Int32) * ((10 : Int32) * ((10 : Int32) * (-10 : Int32)))))))))), .val (.int (9 : Int32))]) rfl ?_
                    refine Wk.goto X0 hx (hb hby d_jdk_33_m13_39) (by decide) (n := 16) (by decide) ?_
                    refine Wk.iloadN X0 hx (hb hby d_jdk_33_m13_16) (n := 17) rfl rfl ?_
                    refine Wk.bipush X0 hx (hb hby d_jdk_33_m13_17) (n := 19) rfl (z := (10 : Int32)) rfl ?_
                    have hc19_18 : (9 : Int32) < (10 : Int32) := by decide
                    refine Wk.icmpNo X0 hx (hb hby d_jdk_33_m13_19) (n := 22) rfl (tlt hc19_18).2.1 ?_
                    refine Wk.iloadN X0 hx (hb hby d_jdk_33_m13_22) (n := 23) rfl rfl ?_
                    refine Wk.iloadN X0 hx (hb hby d_jdk_33_m13_23) (n := 24) rfl rfl ?_
                    by_cases hc24_19 : ((10 : Int32) * ((10 : Int32) * ((10 : Int32) * ((10 : Int32) * ((10 : Int32) * ((10 : Int32) * ((10 : Int32) * ((10 : Int32) * (-10 : Int32))))))))) < p1
                    ·
                      refine Wk.icmpNo X0 hx (hb hby d_jdk_33_m13_24) (n := 27) rfl (tlt hc24_19).2.2.2 ?_
                      refine Wk.iloadN X0 hx (hb hby d_jdk_33_m13_27) (n := 28) rfl rfl ?_
                      refine Wk.iloadN X0 hx (hb hby d_jdk_33_m13_28) (n := 29) rfl rfl ?_
                      refine Wk.iadd X0 hx (hb hby d_jdk_33_m13_29) (n := 30) rfl ?_
                      have hlen : (dl (mg p1)).length = 9 := own_ssz (k := 8) ex0 (mg_le p1) (by decide) rfl hc24_19 (Or.inr ⟨_, hc24_17, rfl⟩)
                      exact Wk.leave X0 (v := some (.int ((9 : Int32) + (1 : Int32)))) (fun h => by rw [Bd.returns] at h; cases h) hlk e0 ⟨(congrArg (fun z => some (Value.int z)) (by rw [List.length_append, hsg, hlen]; rfl)), N0, rfl⟩ (by decide) (by decide) (fun fs hr => retI X0 hx Bd.returns (hb hby d_jdk_33_m13_30) hr)
                    ·
                      refine Wk.icmpYes X0 hx (hb hby d_jdk_33_m13_24) (flt hc24_19).2.2.2 (by decide) (n := 31) (by decide) ?_
                      refine Wk.bipush X0 hx (hb hby d_jdk_33_m13_31) (n := 33) rfl (z := (10 : Int32)) rfl ?_
                      refine Wk.iloadN X0 hx (hb hby d_jdk_33_m13_33) (n := 34) rfl rfl ?_
                      refine Wk.imul X0 hx (hb hby d_jdk_33_m13_34) (n := 35) rfl ?_
                      refine Wk.istoreN X0 hx (hb hby d_jdk_33_m13_35) (n := 36) rfl (L' := #[.val (.int p1), .val (.int (1 : Int32)), .val (.int ((10 : Int32) * ((10 : Int32) * ((10 : Int32) * ((10 : Int32) * ((10 : Int32) * ((10 : Int32) * ((10 : Int32) * ((10 : Int32) * ((10 : Int32) * (-10 : Int32))))))))))), .val (.int (9 : Int32))]) rfl ?_
                      refine Wk.iinc X0 hx (hb hby d_jdk_33_m13_36) (n := 39) rfl rfl (L' := #[.val (.int p1), .val (.int (1 : Int32)), .val (.int ((10 : Int32) * ((10 : Int32) * ((10 : Int32) * ((10 : Int32) * ((10 : Int32) * ((10 : Int32) * ((10 : Int32) * ((10 : Int32) * ((10 : Int32) * (-10 : Int32))))))))))), .val (.int (10 : Int32))]) rfl ?_
                      refine Wk.goto X0 hx (hb hby d_jdk_33_m13_39) (by decide) (n := 16) (by decide) ?_
                      refine Wk.iloadN X0 hx (hb hby d_jdk_33_m13_16) (n := 17) rfl rfl ?_
                      refine Wk.bipush X0 hx (hb hby d_jdk_33_m13_17) (n := 19) rfl (z := (10 : Int32)) rfl ?_
                      have hc19_20 : ¬ ((10 : Int32) < (10 : Int32)) := by decide
                      refine Wk.icmpYes X0 hx (hb hby d_jdk_33_m13_19) (flt hc19_20).2.1 (by decide) (n := 42) (by decide) ?_
                      refine Wk.bipush X0 hx (hb hby d_jdk_33_m13_42) (n := 44) rfl (z := (10 : Int32)) rfl ?_
                      refine Wk.iloadN X0 hx (hb hby d_jdk_33_m13_44) (n := 45) rfl rfl ?_
                      refine Wk.iadd X0 hx (hb hby d_jdk_33_m13_45) (n := 46) rfl ?_
                      have hlen : (dl (mg p1)).length = 10 := own_ssx ex0 (mg_le p1) hc24_19 rfl
                      exact Wk.leave X0 (v := some (.int ((10 : Int32) + (1 : Int32)))) (fun h => by rw [Bd.returns] at h; cases h) hlk e0 ⟨(congrArg (fun z => some (Value.int z)) (by rw [List.length_append, hsg, hlen]; rfl)), N0, rfl⟩ (by decide) (by decide) (fun fs hr => retI X0 hx Bd.returns (hb hby d_jdk_33_m13_46) hr)
  ·
    refine Wk.ifNo X0 hx (hb hby d_jdk_33_m13_3) (n := 6) rfl ((if0 _ _).trans (flt hc3_1).1) ?_
    refine Wk.iconst X0 hx (hb hby d_jdk_33_m13_6) (n := 7) rfl (z := (0 : Int32)) rfl ?_
    refine Wk.istoreN X0 hx (hb hby d_jdk_33_m13_7) (n := 8) rfl (L' := #[.val (.int p1), .val (.int (0 : Int32)), .unset, .unset]) rfl ?_
    refine Wk.iloadN X0 hx (hb hby d_jdk_33_m13_8) (n := 9) rfl rfl ?_
    refine Wk.ineg X0 hx (hb hby d_jdk_33_m13_9) (n := 10) rfl ?_
    refine Wk.istoreN X0 hx (hb hby d_jdk_33_m13_10) (n := 11) rfl (L' := #[.val (.int (-p1)), .val (.int (0 : Int32)), .unset, .unset]) rfl ?_
    have ex0 : (-p1) = Int32.ofInt (-(mg p1 : Int)) := own_mg2 p1 hc3_1
    have hsg : (sgl p1).length = 0 := by unfold sgl; rw [if_neg hc3_1]; rfl
    refine Wk.bipush X0 hx (hb hby d_jdk_33_m13_11) (n := 13) rfl (z := (-10 : Int32)) rfl ?_
    refine Wk.istoreN X0 hx (hb hby d_jdk_33_m13_13) (n := 14) rfl (L' := #[.val (.int (-p1)), .val (.int (0 : Int32)), .val (.int (-10 : Int32)), .unset]) rfl ?_
    refine Wk.iconst X0 hx (hb hby d_jdk_33_m13_14) (n := 15) rfl (z := (1 : Int32)) rfl ?_
    refine Wk.istoreN X0 hx (hb hby d_jdk_33_m13_15) (n := 16) rfl (L' := #[.val (.int (-p1)), .val (.int (0 : Int32)), .val (.int (-10 : Int32)), .val (.int (1 : Int32))]) rfl ?_
    refine Wk.iloadN X0 hx (hb hby d_jdk_33_m13_16) (n := 17) rfl rfl ?_
    refine Wk.bipush X0 hx (hb hby d_jdk_33_m13_17) (n := 19) rfl (z := (10 : Int32)) rfl ?_
    have hc19_21 : (1 : Int32) < (10 : Int32) := by decide
    refine Wk.icmpNo X0 hx (hb hby d_jdk_33_m13_19) (n := 22) rfl (tlt hc19_21).2.1 ?_
    refine Wk.iloadN X0 hx (hb hby d_jdk_33_m13_22) (n := 23) rfl rfl ?_
    refine Wk.iloadN X0 hx (hb hby d_jdk_33_m13_23) (n := 24) rfl rfl ?_
    by_cases hc24_22 : (-10 : Int32) < (-p1)
    ·
      refine Wk.icmpNo X0 hx (hb hby d_jdk_33_m13_24) (n := 27) rfl (tlt hc24_22).2.2.2 ?_
      refine Wk.iloadN X0 hx (hb hby d_jdk_33_m13_27) (n := 28) rfl rfl ?_
      refine Wk.iloadN X0 hx (hb hby d_jdk_33_m13_28) (n := 29) rfl rfl ?_
      refine Wk.iadd X0 hx (hb hby d_jdk_33_m13_29) (n := 30) rfl ?_
      have hlen : (dl (mg p1)).length = 1 := own_ssz (k := 0) ex0 (mg_le p1) (by decide) rfl hc24_22 (Or.inl rfl)
      exact Wk.leave X0 (v := some (.int ((1 : Int32) + (0 : Int32)))) (fun h => by rw [Bd.returns] at h; cases h) hlk e0 ⟨(congrArg (fun z => some (Value.int z)) (by rw [List.length_append, hsg, hlen]; rfl)), N0, rfl⟩ (by decide) (by decide) (fun fs hr => retI X0 hx Bd.returns (hb hby d_jdk_33_m13_30) hr)
    ·
      refine Wk.icmpYes X0 hx (hb hby d_jdk_33_m13_24) (flt hc24_22).2.2.2 (by decide) (n := 31) (by decide) ?_
      refine Wk.bipush X0 hx (hb hby d_jdk_33_m13_31) (n := 33) rfl (z := (10 : Int32)) rfl ?_
      refine Wk.iloadN X0 hx (hb hby d_jdk_33_m13_33) (n := 34) rfl rfl ?_
      refine Wk.imul X0 hx (hb hby d_jdk_33_m13_34) (n := 35) rfl ?_
      refine Wk.istoreN X0 hx (hb hby d_jdk_33_m13_35) (n := 36) rfl (L' := #[.val (.int (-p1)), .val (.int (0 : Int32)), .val (.int ((10 : Int32) * (-10 : Int32))), .val (.int (1 : Int32))]) rfl ?_
      refine Wk.iinc X0 hx (hb hby d_jdk_33_m13_36) (n := 39) rfl rfl (L' := #[.val (.int (-p1)), .val (.int (0 : Int32)), .val (.int ((10 : Int32) * (-10 : Int32))), .val (.int (2 : Int32))]) rfl ?_
      refine Wk.goto X0 hx (hb hby d_jdk_33_m13_39) (by decide) (n := 16) (by decide) ?_
      refine Wk.iloadN X0 hx (hb hby d_jdk_33_m13_16) (n := 17) rfl rfl ?_
      refine Wk.bipush X0 hx (hb hby d_jdk_33_m13_17) (n := 19) rfl (z := (10 : Int32)) rfl ?_
      have hc19_23 : (2 : Int32) < (10 : Int32) := by decide
      refine Wk.icmpNo X0 hx (hb hby d_jdk_33_m13_19) (n := 22) rfl (tlt hc19_23).2.1 ?_
      refine Wk.iloadN X0 hx (hb hby d_jdk_33_m13_22) (n := 23) rfl rfl ?_
      refine Wk.iloadN X0 hx (hb hby d_jdk_33_m13_23) (n := 24) rfl rfl ?_
      by_cases hc24_24 : ((10 : Int32) * (-10 : Int32)) < (-p1)
      ·
        refine Wk.icmpNo X0 hx (hb hby d_jdk_33_m13_24) (n := 27) rfl (tlt hc24_24).2.2.2 ?_
        refine Wk.iloadN X0 hx (hb hby d_jdk_33_m13_27) (n := 28) rfl rfl ?_
        refine Wk.iloadN X0 hx (hb hby d_jdk_33_m13_28) (n := 29) rfl rfl ?_
        refine Wk.iadd X0 hx (hb hby d_jdk_33_m13_29) (n := 30) rfl ?_
        have hlen : (dl (mg p1)).length = 2 := own_ssz (k := 1) ex0 (mg_le p1) (by decide) rfl hc24_24 (Or.inr ⟨_, hc24_22, rfl⟩)
        exact Wk.leave X0 (v := some (.int ((2 : Int32) + (0 : Int32)))) (fun h => by rw [Bd.returns] at h; cases h) hlk e0 ⟨(congrArg (fun z => some (Value.int z)) (by rw [List.length_append, hsg, hlen]; rfl)), N0, rfl⟩ (by decide) (by decide) (fun fs hr => retI X0 hx Bd.returns (hb hby d_jdk_33_m13_30) hr)
      ·
        refine Wk.icmpYes X0 hx (hb hby d_jdk_33_m13_24) (flt hc24_24).2.2.2 (by decide) (n := 31) (by decide) ?_
        refine Wk.bipush X0 hx (hb hby d_jdk_33_m13_31) (n := 33) rfl (z := (10 : Int32)) rfl ?_
        refine Wk.iloadN X0 hx (hb hby d_jdk_33_m13_33) (n := 34) rfl rfl ?_
        refine Wk.imul X0 hx (hb hby d_jdk_33_m13_34) (n := 35) rfl ?_
        refine Wk.istoreN X0 hx (hb hby d_jdk_33_m13_35) (n := 36) rfl (L' := #[.val (.int (-p1)), .val (.int (0 : Int32)), .val (.int ((10 : Int32) * ((10 : Int32) * (-10 : Int32)))), .val (.int (2 : Int32))]) rfl ?_
        refine Wk.iinc X0 hx (hb hby d_jdk_33_m13_36) (n := 39) rfl rfl (L' := #[.val (.int (-p1)), .val (.int (0 : Int32)), .val (.int ((10 : Int32) * ((10 : Int32) * (-10 : Int32)))), .val (.int (3 : Int32))]) rfl ?_
        refine Wk.goto X0 hx (hb hby d_jdk_33_m13_39) (by decide) (n := 16) (by decide) ?_
        refine Wk.iloadN X0 hx (hb hby d_jdk_33_m13_16) (n := 17) rfl rfl ?_
        refine Wk.bipush X0 hx (hb hby d_jdk_33_m13_17) (n := 19) rfl (z := (10 : Int32)) rfl ?_
        have hc19_25 : (3 : Int32) < (10 : Int32) := by decide
        refine Wk.icmpNo X0 hx (hb hby d_jdk_33_m13_19) (n := 22) rfl (tlt hc19_25).2.1 ?_
        refine Wk.iloadN X0 hx (hb hby d_jdk_33_m13_22) (n := 23) rfl rfl ?_
        refine Wk.iloadN X0 hx (hb hby d_jdk_33_m13_23) (n := 24) rfl rfl ?_
        by_cases hc24_26 : ((10 : Int32) * ((10 : Int32) * (-10 : Int32))) < (-p1)
        ·
          refine Wk.icmpNo X0 hx (hb hby d_jdk_33_m13_24) (n := 27) rfl (tlt hc24_26).2.2.2 ?_
          refine Wk.iloadN X0 hx (hb hby d_jdk_33_m13_27) (n := 28) rfl rfl ?_
          refine Wk.iloadN X0 hx (hb hby d_jdk_33_m13_28) (n := 29) rfl rfl ?_
          refine Wk.iadd X0 hx (hb hby d_jdk_33_m13_29) (n := 30) rfl ?_
          have hlen : (dl (mg p1)).length = 3 := own_ssz (k := 2) ex0 (mg_le p1) (by decide) rfl hc24_26 (Or.inr ⟨_, hc24_24, rfl⟩)
          exact Wk.leave X0 (v := some (.int ((3 : Int32) + (0 : Int32)))) (fun h => by rw [Bd.returns] at h; cases h) hlk e0 ⟨(congrArg (fun z => some (Value.int z)) (by rw [List.length_append, hsg, hlen]; rfl)), N0, rfl⟩ (by decide) (by decide) (fun fs hr => retI X0 hx Bd.returns (hb hby d_jdk_33_m13_30) hr)
        ·
          refine Wk.icmpYes X0 hx (hb hby d_jdk_33_m13_24) (flt hc24_26).2.2.2 (by decide) (n := 31) (by decide) ?_
          refine Wk.bipush X0 hx (hb hby d_jdk_33_m13_31) (n := 33) rfl (z := (10 : Int32)) rfl ?_
          refine Wk.iloadN X0 hx (hb hby d_jdk_33_m13_33) (n := 34) rfl rfl ?_
          refine Wk.imul X0 hx (hb hby d_jdk_33_m13_34) (n := 35) rfl ?_
          refine Wk.istoreN X0 hx (hb hby d_jdk_33_m13_35) (n := 36) rfl (L' := #[.val (.int (-p1)), .val (.int (0 : Int32)), .val (.int ((10 : Int32) * ((10 : Int32) * ((10 : Int32) * (-10 : Int32))))), .val (.int (3 : Int32))]) rfl ?_
          refine Wk.iinc X0 hx (hb hby d_jdk_33_m13_36) (n := 39) rfl rfl (L' := #[.val (.int (-p1)), .val (.int (0 : Int32)), .val (.int ((10 : Int32) * ((10 : Int32) * ((10 : Int32) * (-10 : Int32))))), .val (.int (4 : Int32))]) rfl ?_
          refine Wk.goto X0 hx (hb hby d_jdk_33_m13_39) (by decide) (n := 16) (by decide) ?_
          refine Wk.iloadN X0 hx (hb hby d_jdk_33_m13_16) (n := 17) rfl rfl ?_
          refine Wk.bipush X0 hx (hb hby d_jdk_33_m13_17) (n := 19) rfl (z := (10 : Int32)) rfl ?_
          have hc19_27 : (4 : Int32) < (10 : Int32) := by decide
          refine Wk.icmpNo X0 hx (hb hby d_jdk_33_m13_19) (n := 22) rfl (tlt hc19_27).2.1 ?_
          refine Wk.iloadN X0 hx (hb hby d_jdk_33_m13_22) (n := 23) rfl rfl ?_
          refine Wk.iloadN X0 hx (hb hby d_jdk_33_m13_23) (n := 24) rfl rfl ?_
          by_cases hc24_28 : ((10 : Int32) * ((10 : Int32) * ((10 : Int32) * (-10 : Int32)))) < (-p1)
          ·
            refine Wk.icmpNo X0 hx (hb hby d_jdk_33_m13_24) (n := 27) rfl (tlt hc24_28).2.2.2 ?_
            refine Wk.iloadN X0 hx (hb hby d_jdk_33_m13_27) (n := 28) rfl rfl ?_
            refine Wk.iloadN X0 hx (hb hby d_jdk_33_m13_28) (n := 29) rfl rfl ?_
            refine Wk.iadd X0 hx (hb hby d_jdk_33_m13_29) (n := 30) rfl ?_
            have hlen : (dl (mg p1)).length = 4 := own_ssz (k := 3) ex0 (mg_le p1) (by decide) rfl hc24_28 (Or.inr ⟨_, hc24_26, rfl⟩)
            exact Wk.leave X0 (v := some (.int ((4 : Int32) + (0 : Int32)))) (fun h => by rw [Bd.returns] at h; cases h) hlk e0 ⟨(congrArg (fun z => some (Value.int z)) (by rw [List.length_append, hsg, hlen]; rfl)), N0, rfl⟩ (by decide) (by decide) (fun fs hr => retI X0 hx Bd.returns (hb hby d_jdk_33_m13_30) hr)
          ·
            refine Wk.icmpYes X0 hx (hb hby d_jdk_33_m13_24) (flt hc24_28).2.2.2 (by decide) (n := 31) (by decide) ?_
            refine Wk.bipush X0 hx (hb hby d_jdk_33_m13_31) (n := 33) rfl (z := (10 : Int32)) rfl ?_
            refine Wk.iloadN X0 hx (hb hby d_jdk_33_m13_33) (n := 34) rfl rfl ?_
            refine Wk.imul X0 hx (hb hby d_jdk_33_m13_34) (n := 35) rfl ?_
            refine Wk.istoreN X0 hx (hb hby d_jdk_33_m13_35) (n := 36) rfl (L' := #[.val (.int (-p1)), .val (.int (0 : Int32)), .val (.int ((10 : Int32) * ((10 : Int32) * ((10 : Int32) * ((10 : Int32) * (-10 : Int32)))))), .val (.int (4 : Int32))]) rfl ?_
            refine Wk.iinc X0 hx (hb hby d_jdk_33_m13_36) (n := 39) rfl rfl (L' := #[.val (.int (-p1)), .val (.int (0 : Int32)), .val (.int ((10 : Int32) * ((10 : Int32) * ((10 : Int32) * ((10 : Int32) * (-10 : Int32)))))), .val (.int (5 : Int32))]) rfl ?_
            refine Wk.goto X0 hx (hb hby d_jdk_33_m13_39) (by decide) (n := 16) (by decide) ?_
            refine Wk.iloadN X0 hx (hb hby d_jdk_33_m13_16) (n := 17) rfl rfl ?_
            refine Wk.bipush X0 hx (hb hby d_jdk_33_m13_17) (n := 19) rfl (z := (10 : Int32)) rfl ?_
            have hc19_29 : (5 : Int32) < (10 : Int32) := by decide
            refine Wk.icmpNo X0 hx (hb hby d_jdk_33_m13_19) (n := 22) rfl (tlt hc19_29).2.1 ?_
            refine Wk.iloadN X0 hx (hb hby d_jdk_33_m13_22) (n := 23) rfl rfl ?_
            refine Wk.iloadN X0 hx (hb hby d_jdk_33_m13_23) (n := 24) rfl rfl ?_
            by_cases hc24_30 : ((10 : Int32) * ((10 : Int32) * ((10 : Int32) * ((10 : Int32) * (-10 : Int32))))) < (-p1)
            ·
              refine Wk.icmpNo X0 hx (hb hby d_jdk_33_m13_24) (n := 27) rfl (tlt hc24_30).2.2.2 ?_
              refine Wk.iloadN X0 hx (hb hby d_jdk_33_m13_27) (n := 28) rfl rfl ?_
              refine Wk.iloadN X0 hx (hb hby d_jdk_33_m13_28) (n := 29) rfl rfl ?_
              refine Wk.iadd X0 hx (hb hby d_jdk_33_m13_29) (n := 30) rfl ?_
              have hlen : (dl (mg p1)).length = 5 := own_ssz (k := 4) ex0 (mg_le p1) (by decide) rfl hc24_30 (Or.inr ⟨_, hc24_28, rfl⟩)
              exact Wk.leave X0 (v := some (.int ((5 : Int32) + (0 : Int32)))) (fun h => by rw [Bd.returns] at h; cases h) hlk e0 ⟨(congrArg (fun z => some (Value.int z)) (by rw [List.length_append, hsg, hlen]; rfl)), N0, rfl⟩ (by decide) (by decide) (fun fs hr => retI X0 hx Bd.returns (hb hby d_jdk_33_m13_30) hr)
            ·
              refine Wk.icmpYes X0 hx (hb hby d_jdk_33_m13_24) (flt hc24_30).2.2.2 (by decide) (n := 31) (by decide) ?_
              refine Wk.bipush X0 hx (hb hby d_jdk_33_m13_31) (n := 33) rfl (z := (10 : Int32)) rfl ?_
              refine Wk.iloadN X0 hx (hb hby d_jdk_33_m13_33) (n := 34) rfl rfl ?_
              refine Wk.imul X0 hx (hb hby d_jdk_33_m13_34) (n := 35) rfl ?_
              refine Wk.istoreN X0 hx (hb hby d_jdk_33_m13_35) (n := 36) rfl (L' := #[.val (.int (-p1)), .val (.int (0 : Int32)), .val (.int ((10 : Int32) * ((10 : Int32) * ((10 : Int32) * ((10 : Int32) * ((10 : Int32) * (-10 : Int32))))))), .val (.int (5 : Int32))]) rfl ?_
              refine Wk.iinc X0 hx (hb hby d_jdk_33_m13_36) (n := 39) rfl rfl (L' := #[.val (.int (-p1)), .val (.int (0 : Int32)), .val (.int ((10 : Int32) * ((10 : Int32) * ((10 : Int32) * ((10 : Int32) * ((10 : Int32) * (-10 : Int32))))))), .val (.int (6 : Int32))]) rfl ?_
              refine Wk.goto X0 hx (hb hby d_jdk_33_m13_39) (by decide) (n := 16) (by decide) ?_
              refine Wk.iloadN X0 hx (hb hby d_jdk_33_m13_16) (n := 17) rfl rfl ?_
              refine Wk.bipush X0 hx (hb hby d_jdk_33_m13_17) (n := 19) rfl (z := (10 : Int32)) rfl ?_
              have hc19_31 : (6 : Int32) < (10 : Int32) := by decide
              refine Wk.icmpNo X0 hx (hb hby d_jdk_33_m13_19) (n := 22) rfl (tlt hc19_31).2.1 ?_
              refine Wk.iloadN X0 hx (hb hby d_jdk_33_m13_22) (n := 23) rfl rfl ?_
              refine Wk.iloadN X0 hx (hb hby d_jdk_33_m13_23) (n := 24) rfl rfl ?_
              by_cases hc24_32 : ((10 : Int32) * ((10 : Int32) * ((10 : Int32) * ((10 : Int32) * ((10 : Int32) * (-10 : Int32)))))) < (-p1)
              ·
                refine Wk.icmpNo X0 hx (hb hby d_jdk_33_m13_24) (n := 27) rfl (tlt hc24_32).2.2.2 ?_
                refine Wk.iloadN X0 hx (hb hby d_jdk_33_m13_27) (n := 28) rfl rfl ?_
                refine Wk.iloadN X0 hx (hb hby d_jdk_33_m13_28) (n := 29) rfl rfl ?_
                refine Wk.iadd X0 hx (hb hby d_jdk_33_m13_29) (n := 30) rfl ?_
                have hlen : (dl (mg p1)).length = 6 := own_ssz (k := 5) ex0 (mg_le p1) (by decide) rfl hc24_32 (Or.inr ⟨_, hc24_30, rfl⟩)
                exact Wk.leave X0 (v := some (.int ((6 : Int32) + (0 : Int32)))) (fun h => by rw [Bd.returns] at h; cases h) hlk e0 ⟨(congrArg (fun z => some (Value.int z)) (by rw [List.length_append, hsg, hlen]; rfl)), N0, rfl⟩ (by decide) (by decide) (fun fs hr => retI X0 hx Bd.returns (hb hby d_jdk_33_m13_30) hr)
              ·
                refine Wk.icmpYes X0 hx (hb hby d_jdk_33_m13_24) (flt hc24_32).2.2.2 (by decide) (n := 31) (by decide) ?_
                refine Wk.bipush X0 hx (hb hby d_jdk_33_m13_31) (n := 33) rfl (z := (10 : Int32)) rfl ?_
                refine Wk.iloadN X0 hx (hb hby d_jdk_33_m13_33) (n := 34) rfl rfl ?_
                refine Wk.imul X0 hx (hb hby d_jdk_33_m13_34) (n := 35) rfl ?_
                refine Wk.istoreN X0 hx (hb hby d_jdk_33_m13_35) (n := 36) rfl (L' := #[.val (.int (-p1)), .val (.int (0 : Int32)), .val (.int ((10 : Int32) * ((10 : Int32) * ((10 : Int32) * ((10 : Int32) * ((10 : Int32) * ((10 : Int32) * (-10 : Int32)))))))), .val (.int (6 : Int32))]) rfl ?_
                refine Wk.iinc X0 hx (hb hby d_jdk_33_m13_36) (n := 39) rfl rfl (L' := #[.val (.int (-p1)), .val (.int (0 : Int32)), .val (.int ((10 : Int32) * ((10 : Int32) * ((10 : Int32) * ((10 : Int32) * ((10 : Int32) * ((10 : Int32) * (-10 : Int32)))))))), .val (.int (7 : Int32))]) rfl ?_
                refine Wk.goto X0 hx (hb hby d_jdk_33_m13_39) (by decide) (n := 16) (by decide) ?_
                refine Wk.iloadN X0 hx (hb hby d_jdk_33_m13_16) (n := 17) rfl rfl ?_
                refine Wk.bipush X0 hx (hb hby d_jdk_33_m13_17) (n := 19) rfl (z := (10 : Int32)) rfl ?_
                have hc19_33 : (7 : Int32) < (10 : Int32) := by decide
                refine Wk.icmpNo X0 hx (hb hby d_jdk_33_m13_19) (n := 22) rfl (tlt hc19_33).2.1 ?_
                refine Wk.iloadN X0 hx (hb hby d_jdk_33_m13_22) (n := 23) rfl rfl ?_
                refine Wk.iloadN X0 hx (hb hby d_jdk_33_m13_23) (n := 24) rfl rfl ?_
                by_cases hc24_34 : ((10 : Int32) * ((10 : Int32) * ((10 : Int32) * ((10 : Int32) * ((10 : Int32) * ((10 : Int32) * (-10 : Int32))))))) < (-p1)
                ·
                  refine Wk.icmpNo X0 hx (hb hby d_jdk_33_m13_24) (n := 27) rfl (tlt hc24_34).2.2.2 ?_
                  refine Wk.iloadN X0 hx (hb hby d_jdk_33_m13_27) (n := 28) rfl rfl ?_
                  refine Wk.iloadN X0 hx (hb hby d_jdk_33_m13_28) (n := 29) rfl rfl ?_
                  refine Wk.iadd X0 hx (hb hby d_jdk_33_m13_29) (n := 30) rfl ?_
                  have hlen : (dl (mg p1)).length = 7 := own_ssz (k := 6) ex0 (mg_le p1) (by decide) rfl hc24_34 (Or.inr ⟨_, hc24_32, rfl⟩)
                  exact Wk.leave X0 (v := some (.int ((7 : Int32) + (0 : Int32)))) (fun h => by rw [Bd.returns] at h; cases h) hlk e0 ⟨(congrArg (fun z => some (Value.int z)) (by rw [List.length_append, hsg, hlen]; rfl)), N0, rfl⟩ (by decide) (by decide) (fun fs hr => retI X0 hx Bd.returns (hb hby d_jdk_33_m13_30) hr)
                ·
                  refine Wk.icmpYes X0 hx (hb hby d_jdk_33_m13_24) (flt hc24_34).2.2.2 (by decide) (n := 31) (by decide) ?_
                  refine Wk.bipush X0 hx (hb hby d_jdk_33_m13_31) (n := 33) rfl (z := (10 : Int32)) rfl ?_
                  refine Wk.iloadN X0 hx (hb hby d_jdk_33_m13_33) (n := 34) rfl rfl ?_
                  refine Wk.imul X0 hx (hb hby d_jdk_33_m13_34) (n := 35) rfl ?_
                  refine Wk.istoreN X0 hx (hb hby d_jdk_33_m13_35) (n := 36) rfl (L' := #[.val (.int (-p1)), .val (.int (0 : Int32)), .val (.int ((10 : Int32) * ((10 : Int32) * ((10 : Int32) * ((10 : Int32) * ((10 : Int32) * ((10 : Int32) * ((10 : Int32) * (-10 : Int32))))))))), .val (.int (7 : Int32))]) rfl ?_
                  refine Wk.iinc X0 hx (hb hby d_jdk_33_m13_36) (n := 39) rfl rfl (L' := #[.val (.int (-p1)), .val (.int (0 : Int32)), .val (.int ((10 : Int32) * ((10 : Int32) * ((10 : Int32) * ((10 : Int32) * ((10 : Int32) * ((10 : Int32) * ((10 : Int32) * (-10 : Int32))))))))), .val (.int (8 : Int32))]) rfl ?_
                  refine Wk.goto X0 hx (hb hby d_jdk_33_m13_39) (by decide) (n := 16) (by decide) ?_
                  refine Wk.iloadN X0 hx (hb hby d_jdk_33_m13_16) (n := 17) rfl rfl ?_
                  refine Wk.bipush X0 hx (hb hby d_jdk_33_m13_17) (n := 19) rfl (z := (10 : Int32)) rfl ?_
                  have hc19_35 : (8 : Int32) < (10 : Int32) := by decide
                  refine Wk.icmpNo X0 hx (hb hby d_jdk_33_m13_19) (n := 22) rfl (tlt hc19_35).2.1 ?_
                  refine Wk.iloadN X0 hx (hb hby d_jdk_33_m13_22) (n := 23) rfl rfl ?_
                  refine Wk.iloadN X0 hx (hb hby d_jdk_33_m13_23) (n := 24) rfl rfl ?_
                  by_cases hc24_36 : ((10 : Int32) * ((10 : Int32) * ((10 : Int32) * ((10 : Int32) * ((10 : Int32) * ((10 : Int32) * ((10 : Int32) * (-10 : Int32)))))))) < (-p1)
                  ·
                    refine Wk.icmpNo X0 hx (hb hby d_jdk_33_m13_24) (n := 27) rfl (tlt hc24_36).2.2.2 ?_
                    refine Wk.iloadN X0 hx (hb hby d_jdk_33_m13_27) (n := 28) rfl rfl ?_
                    refine Wk.iloadN X0 hx (hb hby d_jdk_33_m13_28) (n := 29) rfl rfl ?_
                    refine Wk.iadd X0 hx (hb hby d_jdk_33_m13_29) (n := 30) rfl ?_
                    have hlen : (dl (mg p1)).length = 8 := own_ssz (k := 7) ex0 (mg_le p1) (by decide) rfl hc24_36 (Or.inr ⟨_, hc24_34, rfl⟩)
                    exact Wk.leave X0 (v := some (.int ((8 : Int32) + (0 : Int32)))) (fun h => by rw [Bd.returns] at h; cases h) hlk e0 ⟨(congrArg (fun z => some (Value.int z)) (by rw [List.length_append, hsg, hlen]; rfl)), N0, rfl⟩ (by decide) (by decide) (fun fs hr => retI X0 hx Bd.returns (hb hby d_jdk_33_m13_30) hr)
                  ·
                    refine Wk.icmpYes X0 hx (hb hby d_jdk_33_m13_24) (flt hc24_36).2.2.2 (by decide) (n := 31) (by decide) ?_
                    refine Wk.bipush X0 hx (hb hby d_jdk_33_m13_31) (n := 33) rfl (z := (10 : Int32)) rfl ?_
                    refine Wk.iloadN X0 hx (hb hby d_jdk_33_m13_33) (n := 34) rfl rfl ?_
                    refine Wk.imul X0 hx (hb hby d_jdk_33_m13_34) (n := 35) rfl ?_
                    refine Wk.istoreN X0 hx (hb hby d_jdk_33_m13_35) (n := 36) rfl (L' := #[.val (.int (-p1)), .val (.int (0 : Int32)), .val (.int ((10 : Int32) * ((10 : Int32) * ((10 : Int32) * ((10 : Int32) * ((10 : Int32) * ((10 : Int32) * ((10 : Int32) * ((10 : Int32) * (-10 : Int32)))))))))), .val (.int (8 : Int32))]) rfl ?_
                    refine Wk.iinc X0 hx (hb hby d_jdk_33_m13_36) (n := 39) rfl rfl (L' := #[.val (.int (-p1)), .val (.int (0 : Int32)), .val (.int ((10 : Int32) * ((10 : Int32) * ((10 : Int32) * ((10 : Int32) * ((10 : Int32) * ((10 : Int32) * ((10 : Int32) * ((10 : Int32) * (-10 : Int32)))))))))), .val (.int (9 : Int32))]) rfl ?_
                    refine Wk.goto X0 hx (hb hby d_jdk_33_m13_39) (by decide) (n := 16) (by decide) ?_
                    refine Wk.iloadN X0 hx (hb hby d_jdk_33_m13_16) (n := 17) rfl rfl ?_
                    refine Wk.bipush X0 hx (hb hby d_jdk_33_m13_17) (n := 19) rfl (z := (10 : Int32)) rfl ?_
                    have hc19_37 : (9 : Int32) < (10 : Int32) := by decide
                    refine Wk.icmpNo X0 hx (hb hby d_jdk_33_m13_19) (n := 22) rfl (tlt hc19_37).2.1 ?_
                    refine Wk.iloadN X0 hx (hb hby d_jdk_33_m13_22) (n := 23) rfl rfl ?_
                    refine Wk.iloadN X0 hx (hb hby d_jdk_33_m13_23) (n := 24) rfl rfl ?_
                    by_cases hc24_38 : ((10 : Int32) * ((10 : Int32) * ((10 : Int32) * ((10 : Int32) * ((10 : Int32) * ((10 : Int32) * ((10 : Int32) * ((10 : Int32) * (-10 : Int32))))))))) < (-p1)
                    ·
                      refine Wk.icmpNo X0 hx (hb hby d_jdk_33_m13_24) (n := 27) rfl (tlt hc24_38).2.2.2 ?_
                      refine Wk.iloadN X0 hx (hb hby d_jdk_33_m13_27) (n := 28) rfl rfl ?_
                      refine Wk.iloadN X0 hx (hb hby d_jdk_33_m13_28) (n := 29) rfl rfl ?_
                      refine Wk.iadd X0 hx (hb hby d_jdk_33_m13_29) (n := 30) rfl ?_
                      have hlen : (dl (mg p1)).length = 9 := own_ssz (k := 8) ex0 (mg_le p1) (by decide) rfl hc24_38 (Or.inr ⟨_, hc24_36, rfl⟩)
                      exact Wk.leave X0 (v := some (.int ((9 : Int32) + (0 : Int32)))) (fun h => by rw [Bd.returns] at h; cases h) hlk e0 ⟨(congrArg (fun z => some (Value.int z)) (by rw [List.length_append, hsg, hlen]; rfl)), N0, rfl⟩ (by decide) (by decide) (fun fs hr => retI X0 hx Bd.returns (hb hby d_jdk_33_m13_30) hr)
                    ·
                      refine Wk.icmpYes X0 hx (hb hby d_jdk_33_m13_24) (flt hc24_38).2.2.2 (by decide) (n := 31) (by decide) ?_
                      refine Wk.bipush X0 hx (hb hby d_jdk_33_m13_31) (n := 33) rfl (z := (10 : Int32)) rfl ?_
                      refine Wk.iloadN X0 hx (hb hby d_jdk_33_m13_33) (n := 34) rfl rfl ?_
                      refine Wk.imul X0 hx (hb hby d_jdk_33_m13_34) (n := 35) rfl ?_
                      refine Wk.istoreN X0 hx (hb hby d_jdk_33_m13_35) (n := 36) rfl (L' := #[.val (.int (-p1)), .val (.int (0 : Int32)), .val (.int ((10 : Int32) * ((10 : Int32) * ((10 : Int32) * ((10 : Int32) * ((10 : Int32) * ((10 : Int32) * ((10 : Int32) * ((10 : Int32) * ((10 : Int32) * (-10 : Int32))))))))))), .val (.int (9 : Int32))]) rfl ?_
                      refine Wk.iinc X0 hx (hb hby d_jdk_33_m13_36) (n := 39) rfl rfl (L' := #[.val (.int (-p1)), .val (.int (0 : Int32)), .val (.int ((10 : Int32) * ((10 : Int32) * ((10 : Int32) * ((10 : Int32) * ((10 : Int32) * ((10 : Int32) * ((10 : Int32) * ((10 : Int32) * ((10 : Int32) * (-10 : Int32))))))))))), .val (.int (10 : Int32))]) rfl ?_
                      refine Wk.goto X0 hx (hb hby d_jdk_33_m13_39) (by decide) (n := 16) (by decide) ?_
                      refine Wk.iloadN X0 hx (hb hby d_jdk_33_m13_16) (n := 17) rfl rfl ?_
                      refine Wk.bipush X0 hx (hb hby d_jdk_33_m13_17) (n := 19) rfl (z := (10 : Int32)) rfl ?_
                      have hc19_39 : ¬ ((10 : Int32) < (10 : Int32)) := by decide
                      refine Wk.icmpYes X0 hx (hb hby d_jdk_33_m13_19) (flt hc19_39).2.1 (by decide) (n := 42) (by decide) ?_
                      refine Wk.bipush X0 hx (hb hby d_jdk_33_m13_42) (n := 44) rfl (z := (10 : Int32)) rfl ?_
                      refine Wk.iloadN X0 hx (hb hby d_jdk_33_m13_44) (n := 45) rfl rfl ?_
                      refine Wk.iadd X0 hx (hb hby d_jdk_33_m13_45) (n := 46) rfl ?_
                      have hlen : (dl (mg p1)).length = 10 := own_ssx ex0 (mg_le p1) hc24_38 rfl
                      exact Wk.leave X0 (v := some (.int ((10 : Int32) + (0 : Int32)))) (fun h => by rw [Bd.returns] at h; cases h) hlk e0 ⟨(congrArg (fun z => some (Value.int z)) (by rw [List.length_append, hsg, hlen]; rfl)), N0, rfl⟩ (by decide) (by decide) (fun fs hr => retI X0 hx Bd.returns (hb hby d_jdk_33_m13_46) hr)
def Q_sbGC (Z : State) (p1 : Int32) (i1 : Int32) (t1 : Addr) (k1 : ClassId) (cs : List Int32) (dO : Addr) (kO : ClassId) (dT : Addr) (kT : ClassId) (h0 : Heap) (n0 : Nat) (v : Option Value) (h : Heap) (L : List Loc) : Prop := ∃ (z : Int32), v = some (.int z) ∧ Fr n0 L ∧ Keep h0 h [t1] ∧ Arv Z h t1 k1 .byte (Int32.ofNat 16) (bsV (cs ++ (sgl p1 ++ dl (mg p1)))) (.int (0 : Int32))
theorem ef_sbGC (m : MethodId) (x0 : Int32) (x1 : Int32) (x2 : Addr) : entryFrame m #[(.int x0), (.int x1), (.ref x2)] 7 = mkF m 0 #[.val (.int x0), .val (.int x1), .val (.ref x2), .unset, .unset, .unset, .unset] [] := by first | (simp [entryFrame, mkF, argsToLocals, Value.category]; done) | rfl
theorem d_jdk_33_m12_22 : decode jdk_33_method_12_code 22 = .ok (.iload_n 0, 1) := by decide +kernel
theorem d_jdk_33_m12_23 : decode jdk_33_method_12_code 23 = .ok (.bipush (-100), 2) := by decide +kernel
theorem d_jdk_33_m12_25 : decode jdk_33_method_12_code 25 = .ok (.if_icmp .gt 47, 3) := by decide +kernel
theorem d_jdk_33_m12_72 : decode jdk_33_method_12_code 72 = .ok (.aload_n 2, 1) := by decide +kernel
theorem d_jdk_33_m12_73 : decode jdk_33_method_12_code 73 = .ok (.iinc 5 (-1), 3) := by decide +kernel
theorem d_jdk_33_m12_76 : decode jdk_33_method_12_code 76 = .ok (.iload 5, 2) := by decide +kernel
theorem d_jdk_33_m12_78 : decode jdk_33_method_12_code 78 = .ok (.getstatic 83, 3) := by decide +kernel
theorem d_jdk_33_m12_81 : decode jdk_33_method_12_code 81 = .ok (.iload_n 0, 1) := by decide +kernel
theorem d_jdk_33_m12_82 : decode jdk_33_method_12_code 82 = .ok (.ineg, 1) := by decide +kernel
theorem d_jdk_33_m12_83 : decode jdk_33_method_12_code 83 = .ok (.baload, 1) := by decide +kernel
theorem d_jdk_33_m12_84 : decode jdk_33_method_12_code 84 = .ok (.bastore, 1) := by decide +kernel
theorem d_jdk_33_m12_85 : decode jdk_33_method_12_code 85 = .ok (.iload_n 0, 1) := by decide +kernel
theorem d_jdk_33_m12_86 : decode jdk_33_method_12_code 86 = .ok (.bipush (-9), 2) := by decide +kernel
theorem d_jdk_33_m12_88 : decode jdk_33_method_12_code 88 = .ok (.if_icmp .ge 16, 3) := by decide +kernel
theorem d_jdk_33_m12_91 : decode jdk_33_method_12_code 91 = .ok (.aload_n 2, 1) := by decide +kernel
theorem d_jdk_33_m12_92 : decode jdk_33_method_12_code 92 = .ok (.iinc 5 (-1), 3) := by decide +kernel
theorem d_jdk_33_m12_95 : decode jdk_33_method_12_code 95 = .ok (.iload 5, 2) := by decide +kernel
theorem d_jdk_33_m12_97 : decode jdk_33_method_12_code 97 = .ok (.getstatic 87, 3) := by decide +kernel
theorem d_jdk_33_m12_100 : decode jdk_33_method_12_code 100 = .ok (.iload_n 0, 1) := by decide +kernel
theorem d_jdk_33_m12_101 : decode jdk_33_method_12_code 101 = .ok (.ineg, 1) := by decide +kernel
theorem d_jdk_33_m12_102 : decode jdk_33_method_12_code 102 = .ok (.baload, 1) := by decide +kernel
theorem d_jdk_33_m12_103 : decode jdk_33_method_12_code 103 = .ok (.bastore, 1) := by decide +kernel
theorem d_jdk_33_m12_104 : decode jdk_33_method_12_code 104 = .ok (.iload 6, 2) := by decide +kernel
theorem d_jdk_33_m12_106 : decode jdk_33_method_12_code 106 = .ok (.ifCond .eq 12, 3) := by decide +kernel
theorem d_jdk_33_m12_118 : decode jdk_33_method_12_code 118 = .ok (.iload 5, 2) := by decide +kernel
theorem d_jdk_33_m12_120 : decode jdk_33_method_12_code 120 = .ok (.ireturn, 1) := by decide +kernel
theorem d_jdk_33_m12_109 : decode jdk_33_method_12_code 109 = .ok (.aload_n 2, 1) := by decide +kernel
theorem d_jdk_33_m12_110 : decode jdk_33_method_12_code 110 = .ok (.iinc 5 (-1), 3) := by decide +kernel
theorem d_jdk_33_m12_113 : decode jdk_33_method_12_code 113 = .ok (.iload 5, 2) := by decide +kernel
theorem d_jdk_33_m12_115 : decode jdk_33_method_12_code 115 = .ok (.bipush 45, 2) := by decide +kernel
theorem d_jdk_33_m12_117 : decode jdk_33_method_12_code 117 = .ok (.bastore, 1) := by decide +kernel
theorem d_jdk_33_m12_28 : decode jdk_33_method_12_code 28 = .ok (.iload_n 0, 1) := by decide +kernel
theorem d_jdk_33_m12_29 : decode jdk_33_method_12_code 29 = .ok (.bipush 100, 2) := by decide +kernel
theorem d_jdk_33_m12_31 : decode jdk_33_method_12_code 31 = .ok (.idiv, 1) := by decide +kernel
theorem d_jdk_33_m12_32 : decode jdk_33_method_12_code 32 = .ok (.istore_n 3, 1) := by decide +kernel
theorem d_jdk_33_m12_33 : decode jdk_33_method_12_code 33 = .ok (.iload_n 3, 1) := by decide +kernel
theorem d_jdk_33_m12_34 : decode jdk_33_method_12_code 34 = .ok (.bipush 100, 2) := by decide +kernel
theorem d_jdk_33_m12_36 : decode jdk_33_method_12_code 36 = .ok (.imul, 1) := by decide +kernel
theorem d_jdk_33_m12_37 : decode jdk_33_method_12_code 37 = .ok (.iload_n 0, 1) := by decide +kernel
theorem d_jdk_33_m12_38 : decode jdk_33_method_12_code 38 = .ok (.isub, 1) := by decide +kernel
theorem d_jdk_33_m12_39 : decode jdk_33_method_12_code 39 = .ok (.istore 4, 2) := by decide +kernel
theorem d_jdk_33_m12_41 : decode jdk_33_method_12_code 41 = .ok (.iload_n 3, 1) := by decide +kernel
theorem d_jdk_33_m12_42 : decode jdk_33_method_12_code 42 = .ok (.istore_n 0, 1) := by decide +kernel
theorem d_jdk_33_m12_43 : decode jdk_33_method_12_code 43 = .ok (.aload_n 2, 1) := by decide +kernel
theorem d_jdk_33_m12_44 : decode jdk_33_method_12_code 44 = .ok (.iinc 5 (-1), 3) := by decide +kernel
theorem d_jdk_33_m12_47 : decode jdk_33_method_12_code 47 = .ok (.iload 5, 2) := by decide +kernel
theorem d_jdk_33_m12_49 : decode jdk_33_method_12_code 49 = .ok (.getstatic 83, 3) := by decide +kernel
theorem d_jdk_33_m12_52 : decode jdk_33_method_12_code 52 = .ok (.iload 4, 2) := by decide +kernel
theorem d_jdk_33_m12_54 : decode jdk_33_method_12_code 54 = .ok (.baload, 1) := by decide +kernel
theorem d_jdk_33_m12_55 : decode jdk_33_method_12_code 55 = .ok (.bastore, 1) := by decide +kernel
theorem d_jdk_33_m12_56 : decode jdk_33_method_12_code 56 = .ok (.aload_n 2, 1) := by decide +kernel
theorem d_jdk_33_m12_57 : decode jdk_33_method_12_code 57 = .ok (.iinc 5 (-1), 3) := by decide +kernel
theorem d_jdk_33_m12_60 : decode jdk_33_method_12_code 60 = .ok (.iload 5, 2) := by decide +kernel
theorem d_jdk_33_m12_62 : decode jdk_33_method_12_code 62 = .ok (.getstatic 87, 3) := by decide +kernel
theorem d_jdk_33_m12_65 : decode jdk_33_method_12_code 65 = .ok (.iload 4, 2) := by decide +kernel
theorem d_jdk_33_m12_67 : decode jdk_33_method_12_code 67 = .ok (.baload, 1) := by decide +kernel
theorem d_jdk_33_m12_68 : decode jdk_33_method_12_code 68 = .ok (.bastore, 1) := by decide +kernel
theorem d_jdk_33_m12_69 : decode jdk_33_method_12_code 69 = .ok (.goto (-47), 3) := by decide +kernel
theorem d_jdk_33_m12_0 : decode jdk_33_method_12_code 0 = .ok (.iload_n 1, 1) := by decide +kernel
theorem d_jdk_33_m12_1 : decode jdk_33_method_12_code 1 = .ok (.istore 5, 2) := by decide +kernel
theorem d_jdk_33_m12_3 : decode jdk_33_method_12_code 3 = .ok (.iload_n 0, 1) := by decide +kernel
theorem d_jdk_33_m12_4 : decode jdk_33_method_12_code 4 = .ok (.ifCond .ge 7, 3) := by decide +kernel
theorem d_jdk_33_m12_7 : decode jdk_33_method_12_code 7 = .ok (.iconst 1, 1) := by decide +kernel
theorem d_jdk_33_m12_8 : decode jdk_33_method_12_code 8 = .ok (.goto 4, 3) := by decide +kernel
theorem d_jdk_33_m12_12 : decode jdk_33_method_12_code 12 = .ok (.istore 6, 2) := by decide +kernel
theorem d_jdk_33_m12_14 : decode jdk_33_method_12_code 14 = .ok (.iload 6, 2) := by decide +kernel
theorem d_jdk_33_m12_16 : decode jdk_33_method_12_code 16 = .ok (.ifCond .ne 6, 3) := by decide +kernel
theorem d_jdk_33_m12_11 : decode jdk_33_method_12_code 11 = .ok (.iconst 0, 1) := by decide +kernel
theorem d_jdk_33_m12_19 : decode jdk_33_method_12_code 19 = .ok (.iload_n 0, 1) := by decide +kernel
theorem d_jdk_33_m12_20 : decode jdk_33_method_12_code 20 = .ok (.ineg, 1) := by decide +kernel
theorem d_jdk_33_m12_21 : decode jdk_33_method_12_code 21 = .ok (.istore_n 0, 1) := by decide +kernel
set_option maxRecDepth 65536 in
set_option maxHeartbeats 40000000 in
theorem sbGC (l : Launch) (Z : State) (a0 : Array Value) (hw : ∀ d ∈ tables_1, d.before a0 Z = true) (ws : List Jvm.Cond) (p1 : Int32) (i1 : Int32) (t1 : Addr) (k1 : ClassId) (cs : List Int32) (dO : Addr) (kO : ClassId) (dT : Addr) (kT : ClassId) (h0 : Heap) (n0 : Nat) (Z0 : n0 ≤ h0.size) (Ab1 : Arv Z h0 t1 k1 .byte (Int32.ofNat 16) (bsV cs) (.int (0 : Int32))) (O1 : Old Z n0 h0) (S6 : Sta Z Z.heap "java/lang/Integer" "DigitOnes" "[B" (.ref dO)) (S7 : Sta Z Z.heap "java/lang/Integer" "DigitTens" "[B" (.ref dT)) (A6 : Arv Z Z.heap dO kO .byte (100 : Int32) dgO (.int (0 : Int32))) (A7 : Arv Z Z.heap dT kT .byte (100 : Int32) dgT (.int (0 : Int32))) (g1 : n0 ≤ t1) (hi : i1 = Int32.ofNat (cs.length + (sgl p1 ++ dl (mg p1)).length)) (hN : cs.length + (sgl p1 ++ dl (mg p1)).length ≤ 16) :
    MetFree l (⟨"java/lang/Integer", "getChars", "(II[B)I"⟩ : MethodName) (head1 (Jvm.Cond.code (⟨"java/lang/Integer", "getChars", "(II[B)I"⟩ : MethodName) jdk_33_method_12_code 7 (some .int) :: ws) ({ frames := 0, cells := 0, slots := 0, locals := 0 } : Room)) (fun a U => a = #[(.int p1), (.int i1), (.ref t1)] ∧ Z.Warmed39 U.vm ∧ U.heap = h0) (fun _ _ _ _ _ => True) (fun _ U o U' => ∃ v L, o = .returned v ∧ Q_sbGC Z p1 i1 t1 k1 cs dO kO dT kT h0 n0 v U'.heap L ∧ FrameEnd U o U' L ({ frames := 0, cells := 0, slots := 0, locals := 0 } : Room).cells ({ frames := 0, cells := 0, slots := 0, locals := 0 } : Room).slots) := by
  refine MetFree.of_bodySF (plainFor_of_name pn_java_lang_Integer) hisR ?_
  intro p e s m args below meth c s₁ Bd hml0 hP hK
  obtain ⟨rfl, hZ, hh⟩ := hP
  have hx := Bd.exec
  have hby := Bd.bytes
  have hlk := BodyLoose.notSynchronized Bd
  have hml : c.maxLocals = 7 := hml0
  have hown : s.vm.findClass "java/lang/Integer" = some m.cls := findClass_of_methodNamed Bd.named
  have hnm := (name_of_methodNamed Bd.named Bd.method).1
  have X0 : Stand p l e ({ frames := 0, cells := 0, slots := 0, locals := 0 } : Room) s m #[(.int p1), (.int i1), (.ref t1)] below meth c s₁ [] 0 0 := Stand.of_body Bd
  have e0 : s₁.heap = h0 := by rw [← hh, Bd.state]; rfl
  have N0 := Fr.nil n0
  have K0 := Keep.refl h0 [t1]
  clear hh
  show Wk p e below (EndN s (Q_sbGC Z p1 i1 t1 k1 cs dO kO dT kT h0 n0) ({ frames := 0, cells := 0, slots := 0, locals := 0 } : Room).cells ({ frames := 0, cells := 0, slots := 0, locals := 0 } : Room).slots) s₁ (entryFrame m #[(.int p1), (.int i1), (.ref t1)] 7)
  rw [ef_sbGC]
  have lt_Ab1 := ny Ab1.lt
  have loopG : ∀ (fu : Nat) (Tj1 : State) (Hj1 : Heap) (Lcj1 : List Loc) (vz : Nat) (TL : List Int32) (rz : Nat) (i0 : Int32) (i5 : Int32) (i6 : Int32) (y3 : Slot) (y4 : Slot), (Stand p l e ({ frames := 0, cells := 0, slots := 0, locals := 0 } : Room) s m #[(.int p1), (.int i1), (.ref t1)] below meth c Tj1 Lcj1 0 0) → (Tj1.heap = Hj1) → (Keep h0 Hj1 [t1]) → (Fr n0 Lcj1) → (Arv Z Hj1 t1 k1 .byte (Int32.ofNat 16) (bsV cs ++ List.replicate rz (Value.int (0 : Int32)) ++ bsV TL) (.int (0 : Int32))) → (Old Z n0 Hj1) → (vz < fu) → (vz ≤ 2147483648) → (i0 = Int32.ofInt (-(vz : Int))) → (i5 = Int32.ofNat (cs.length + rz)) → (sgl p1 ++ dl vz ++ TL = (sgl p1 ++ dl (mg p1))) → (rz = (sgl p1).length + (dl vz).length) → (cs.length + rz ≤ 16) → ((p1 < 0 ∧ i6 = 1) ∨ (¬ p1 < 0 ∧ i6 = 0)) → (PlS y3) → (PlS y4) → Wk p e below (EndN s (Q_sbGC Z p1 i1 t1 k1 cs dO kO dT kT h0 n0) ({ frames := 0, cells := 0, slots := 0, locals := 0 } : Room).cells ({ frames := 0, cells := 0, slots := 0, locals := 0 } : Room).slots) Tj1 (mkF m 22 #[.val (.int i0), .val (.int i1), .val (.ref t1), y3, y4, .val (.int i5), .val (.int i6)] []) := by
    intro fu
    induction fu with
    | zero => intros; exfalso; omega
    | succ fu ih =>
      intro Tj1 Hj1 Lcj1 vz TL rz i0 i5 i6 y3 y4 Xj1 ej1 Kj1 Nj1 Aj Olj1 hfu hv q0 q5 hG hr hrN q6 hy3 hy4
      have szj1 := Kj1.1
      have lt_Aj := ny Aj.lt
      refine Wk.iloadN Xj1 hx (hb hby d_jdk_33_m12_22) (n := 23) rfl rfl ?_
      refine Wk.bipush Xj1 hx (hb hby d_jdk_33_m12_23) (n := 25) rfl (z := (-100 : Int32)) rfl ?_
      by_cases hc25 : (-100 : Int32) < i0
      ·
        refine Wk.icmpYes Xj1 hx (hb hby d_jdk_33_m12_25) (tlt hc25).2.2.1 (by decide) (n := 72) (by decide) ?_
        have hv1 : vz < 100 := by rw [q0] at hc25; exact (own_ltn (k := 100) hv (by decide)).mp hc25
        have hp0 := dl_pos vz
        have qn : -i0 = Int32.ofNat vz := by rw [q0]; exact own_ng
        have qm : vz % 100 = vz := Nat.mod_eq_of_lt hv1
        have ja : i5 + (-1 : Int32) = Int32.ofNat (cs.length + (rz - 1)) := own_dec q5 (by omega)
        refine Wk.aloadN Xj1 hx (hb hby d_jdk_33_m12_72) (n := 73) rfl rfl rfl ?_
        refine Wk.iinc Xj1 hx (hb hby d_jdk_33_m12_73) (n := 76) rfl rfl (L' := #[.val (.int i0), .val (.int i1), .val (.ref t1), y3, y4, .val (.int (i5 + (-1 : Int32))), .val (.int i6)]) (by rcases hy3 with rfl | ⟨zz, rfl⟩ <;> rcases hy4 with rfl | ⟨zz, rfl⟩ <;> rfl) ?_
        refine Wk.iload Xj1 hx (hb hby d_jdk_33_m12_76) (n := 78) rfl rfl ?_
        refine Wk.getS Xj1 hx hZ hown (host := "") (Or.inl (hw _ (List.mem_of_getElem? (i := 136) rfl))) Via.refl ej1 (Sta.ext Olj1.2 S6) (hb hby d_jdk_33_m12_78) (n := 81) rfl fun T2 X2 e2 => ?_
        refine Wk.iloadN X2 hx (hb hby d_jdk_33_m12_81) (n := 82) rfl rfl ?_
        refine Wk.ineg X2 hx (hb hby d_jdk_33_m12_82) (n := 83) rfl ?_
        have f4 := A6.ext Olj1.2
        obtain ⟨cl3, Ar3, qn3, Sz3, N_3, H_3, Gn3⟩ := id f4
        have hin3 : ¬ ((-i0) < 0 ∨ cl3.slots.size ≤ ((-i0)).toNatClampNeg) := inb_of Sz3 (by rw [qn]; exact ⟨own_nonneg (by omega), (own_lt (b := 100) (by omega) (by decide)).mpr (by omega)⟩)
        refine Wk.baloadBytes X2 hx hZ e2 Ar3 (v := (.int (Int32.ofNat (48 + vz % 10)))) hin3 (H_3.at hin3 (by rw [qn, own_cl (by omega)]; have q := own_dO vz; rw [qm] at q; exact q)) (hb hby d_jdk_33_m12_83) (n := 84) rfl ?_
        obtain ⟨cl5, Ar5, qn5, Sz5, N_5, H_5, Gn5⟩ := id Aj
        have hin5 : ¬ ((i5 + (-1 : Int32)) < 0 ∨ cl5.slots.size ≤ ((i5 + (-1 : Int32))).toNatClampNeg) := inb_of Sz5 (by rw [ja]; exact ⟨own_nonneg (by omega), (own_lt (by omega) (by decide)).mpr (by omega)⟩)
        refine Wk.stB X2 hx hZ e2 Ar5 hin5 (hb hby d_jdk_33_m12_84) (n := 85) rfl fun T5 H5 X5 e5 Wn5 => ?_
        have Vn5 := Arv.set Ar5 qn5 Sz5 N_5 H_5 Gn5 (fits_nar_byte _) Wn5 (cs.length + (rz - 1)) (by rw [ja]; exact own_cl (by omega)) (by simp only [List.length_append, List.length_replicate, bsV_len]; omega)
        have Un5 : Arv Z H5 t1 k1 .byte (Int32.ofNat 16) (bsV cs ++ List.replicate (rz - 1) (Value.int (0 : Int32)) ++ bsV ((Int32.ofNat (48 + vz % 10)) :: TL)) (.int (0 : Int32)) := own_arv (own_st1 cs TL (Int32.ofNat (48 + vz % 10)) (by omega)) Vn5
        have sz5 := Wn5.size
        have K5 := Kj1.wr Wn5 (Or.inl (List.mem_of_getElem? (i := 0) rfl))
        have N5 := Fr.snoc X5 Nj1 (by omega)
        refine Wk.iloadN X5 hx (hb hby d_jdk_33_m12_85) (n := 86) rfl rfl ?_
        refine Wk.bipush X5 hx (hb hby d_jdk_33_m12_86) (n := 88) rfl (z := (-9 : Int32)) rfl ?_
        by_cases hc88 : i0 < (-9 : Int32)
        ·
          refine Wk.icmpNo X5 hx (hb hby d_jdk_33_m12_88) (n := 91) rfl (tlt hc88).2.1 ?_
          have hv9 : 9 < vz := by rw [q0] at hc88; exact Nat.lt_of_not_le fun q => absurd hc88 (Int32.not_lt.mpr (by rw [Int32.le_iff_toInt_le, own_oi (by omega) (by omega)]; have : (-9 : Int32).toInt = -9 := rfl; omega))
          have hdt := dl_two (n := vz) (by omega) hv1
          have hlt : (dl vz).length = 2 := by rw [hdt]; rfl
          have jb : i5 + (-1 : Int32) + (-1 : Int32) = Int32.ofNat (cs.length + (rz - 1 - 1)) := own_dec ja (by omega)
          refine Wk.aloadN X5 hx (hb hby d_jdk_33_m12_91) (n := 92) rfl rfl rfl ?_
          refine Wk.iinc X5 hx (hb hby d_jdk_33_m12_92) (n := 95) rfl rfl (L' := #[.val (.int i0), .val (.int i1), .val (.ref t1), y3, y4, .val (.int ((i5 + (-1 : Int32)) + (-1 : Int32))), .val (.int i6)]) (by rcases hy3 with rfl | ⟨zz, rfl⟩ <;> rcases hy4 with rfl | ⟨zz, rfl⟩ <;> rfl) ?_
          refine Wk.iload X5 hx (hb hby d_jdk_33_m12_95) (n := 97) rfl rfl ?_
          have f6 := (Olj1.wr Wn5 (by omega))
          refine Wk.getS X5 hx hZ hown (host := "") (Or.inl (hw _ (List.mem_of_getElem? (i := 246) rfl))) Via.refl e5 (Sta.ext f6.2 S7) (hb hby d_jdk_33_m12_97) (n := 100) rfl fun T7 X7 e7 => ?_
          refine Wk.iloadN X7 hx (hb hby d_jdk_33_m12_100) (n := 101) rfl rfl ?_
          refine Wk.ineg X7 hx (hb hby d_jdk_33_m12_101) (n := 102) rfl ?_
          have f9 := A7.ext f6.2
          obtain ⟨cl8, Ar8, qn8, Sz8, N_8, H_8, Gn8⟩ := id f9
          have hin8 : ¬ ((-i0) < 0 ∨ cl8.slots.size ≤ ((-i0)).toNatClampNeg) := inb_of Sz8 (by rw [qn]; exact ⟨own_nonneg (by omega), (own_lt (b := 100) (by omega) (by decide)).mpr (by omega)⟩)
          refine Wk.baloadBytes X7 hx hZ e7 Ar8 (v := (.int (Int32.ofNat (48 + vz / 10 % 10)))) hin8 (H_8.at hin8 (by rw [qn, own_cl (by omega)]; have q := own_dT vz; rw [qm] at q; exact q)) (hb hby d_jdk_33_m12_102) (n := 103) rfl ?_
          obtain ⟨cl10, Ar10, qn10, Sz10, N_10, H_10, Gn10⟩ := id Un5
          have hin10 : ¬ (((i5 + (-1 : Int32)) + (-1 : Int32)) < 0 ∨ cl10.slots.size ≤ (((i5 + (-1 : Int32)) + (-1 : Int32))).toNatClampNeg) := inb_of Sz10 (by rw [jb]; exact ⟨own_nonneg (by omega), (own_lt (by omega) (by decide)).mpr (by omega)⟩)
          refine Wk.stB X7 hx hZ e7 Ar10 hin10 (hb hby d_jdk_33_m12_103) (n := 104) rfl fun T10 H10 X10 e10 Wn10 => ?_
          have Vn10 := Arv.set Ar10 qn10 Sz10 N_10 H_10 Gn10 (fits_nar_byte _) Wn10 (cs.length + ((rz - 1) - 1)) (by rw [jb]; exact own_cl (by omega)) (by simp only [List.length_append, List.length_replicate, bsV_len]; omega)
          have Un10 : Arv Z H10 t1 k1 .byte (Int32.ofNat 16) (bsV cs ++ List.replicate ((rz - 1) - 1) (Value.int (0 : Int32)) ++ bsV ((Int32.ofNat (48 + vz / 10 % 10)) :: (Int32.ofNat (48 + vz % 10) :: TL))) (.int (0 : Int32)) := own_arv (own_st1 cs (Int32.ofNat (48 + vz % 10) :: TL) (Int32.ofNat (48 + vz / 10 % 10)) (by omega)) Vn10
          have sz10 := Wn10.size
          have K10 := K5.wr Wn10 (Or.inl (List.mem_of_getElem? (i := 0) rfl))
          have N10 := Fr.snoc X10 N5 (by omega)
          have hrem : rz - 1 - 1 = (sgl p1).length := by omega
          have hG2 : sgl p1 ++ (Int32.ofNat (48 + vz / 10 % 10) :: Int32.ofNat (48 + vz % 10) :: TL) = (sgl p1 ++ dl (mg p1)) := by rw [← hG, hdt, show vz / 10 % 10 = vz / 10 by omega]; simp
          refine Wk.iload X10 hx (hb hby d_jdk_33_m12_104) (n := 106) rfl rfl ?_
          by_cases hc106 : i6 = (0 : Int32)
          ·
            refine Wk.ifYes X10 hx (hb hby d_jdk_33_m12_106) ((if0 _ _).trans (teq hc106).1) (by decide) (n := 118) (by decide) ?_
            refine Wk.iload X10 hx (hb hby d_jdk_33_m12_118) (n := 120) rfl rfl ?_
            have hsg : sgl p1 = [] := (q6.resolve_left (fun q => by have q2 := q.2; rw [hc106] at q2; exact absurd q2 (by decide))).1 |> fun q => if_neg q
            have hsl : (sgl p1).length = 0 := by rw [hsg]; rfl
            exact Wk.leave X10 (v := some (.int ((i5 + (-1 : Int32)) + (-1 : Int32)))) (fun h => by rw [Bd.returns] at h; cases h) hlk e10 ⟨((i5 + (-1 : Int32)) + (-1 : Int32)), rfl, N10, K10, (own_arv (own_fin (by rw [← hG2, hsg]; rfl) (by omega)) Un10)⟩ (by decide) (by decide) (fun fs hr => retI X10 hx Bd.returns (hb hby d_jdk_33_m12_120) hr)
          ·
            refine Wk.ifNo X10 hx (hb hby d_jdk_33_m12_106) (n := 109) rfl ((if0 _ _).trans (feq hc106).1) ?_
            have hsg : sgl p1 = [45] := (q6.resolve_right (fun q => hc106 q.2)).1 |> fun q => if_pos q
            have hsl : (sgl p1).length = 1 := by rw [hsg]; rfl
            have jc : ((i5 + (-1 : Int32)) + (-1 : Int32)) + (-1 : Int32) = Int32.ofNat (cs.length + ((rz - 1 - 1) - 1)) := own_dec jb (by omega)
            refine Wk.aloadN X10 hx (hb hby d_jdk_33_m12_109) (n := 110) rfl rfl rfl ?_
            refine Wk.iinc X10 hx (hb hby d_jdk_33_m12_110) (n := 113) rfl rfl (L' := #[.val (.int i0), .val (.int i1), .val (.ref t1), y3, y4, .val (.int (((i5 + (-1 : Int32)) + (-1 : Int32)) + (-1 : Int32))), .val (.int i6)]) (by rcases hy3 with rfl | ⟨zz, rfl⟩ <;> rcases hy4 with rfl | ⟨zz, rfl⟩ <;> rfl) ?_
            refine Wk.iload X10 hx (hb hby d_jdk_33_m12_113) (n := 115) rfl rfl ?_
            refine Wk.bipush X10 hx (hb hby d_jdk_33_m12_115) (n := 117) rfl (z := (45 : Int32)) rfl ?_
            obtain ⟨cl11, Ar11, qn11, Sz11, N_11, H_11, Gn11⟩ := id Un10
            have hin11 : ¬ ((((i5 + (-1 : Int32)) + (-1 : Int32)) + (-1 : Int32)) < 0 ∨ cl11.slots.size ≤ ((((i5 + (-1 : Int32)) + (-1 : Int32)) + (-1 : Int32))).toNatClampNeg) := inb_of Sz11 (by rw [jc]; exact ⟨own_nonneg (by omega), (own_lt (by omega) (by decide)).mpr (by omega)⟩)
            refine Wk.stB X10 hx hZ e10 Ar11 hin11 (hb hby d_jdk_33_m12_117) (n := 118) rfl fun T11 H11 X11 e11 Wn11 => ?_
            have Vn11 := Arv.set Ar11 qn11 Sz11 N_11 H_11 Gn11 (fits_nar_byte _) Wn11 (cs.length + ((rz - 1 - 1) - 1)) (by rw [jc]; exact own_cl (by omega)) (by simp only [List.length_append, List.length_replicate, bsV_len]; omega)
            have Un11 : Arv Z H11 t1 k1 .byte (Int32.ofNat 16) (bsV cs ++ List.replicate ((rz - 1 - 1) - 1) (Value.int (0 : Int32)) ++ bsV (45 :: (Int32.ofNat (48 + vz / 10 % 10) :: Int32.ofNat (48 + vz % 10) :: TL))) (.int (0 : Int32)) := own_arv (own_st1 cs (Int32.ofNat (48 + vz / 10 % 10) :: Int32.ofNat (48 + vz % 10) :: TL) 45 (by omega)) Vn11
            have sz11 := Wn11.size
            have K11 := K10.wr Wn11 (Or.inl (List.mem_of_getElem? (i := 0) rfl))
            have N11 := Fr.snoc X11 N10 (by omega)
            refine Wk.iload X11 hx (hb hby d_jdk_33_m12_118) (n := 120) rfl rfl ?_
            exact Wk.leave X11 (v := some (.int (((i5 + (-1 : Int32)) + (-1 : Int32)) + (-1 : Int32)))) (fun h => by rw [Bd.returns] at h; cases h) hlk e11 ⟨(((i5 + (-1 : Int32)) + (-1 : Int32)) + (-1 : Int32)), rfl, N11, K11, (own_arv (own_fin (by rw [← hG2, hsg]; rfl) (by omega)) Un11)⟩ (by decide) (by decide) (fun fs hr => retI X11 hx Bd.returns (hb hby d_jdk_33_m12_120) hr)
        ·
          refine Wk.icmpYes X5 hx (hb hby d_jdk_33_m12_88) (flt hc88).2.1 (by decide) (n := 104) (by decide) ?_
          have hv9 : vz < 10 := Nat.lt_of_not_le fun q => hc88 (by rw [q0, Int32.lt_iff_toInt_lt, own_oi (by omega) (by omega)]; have : (-9 : Int32).toInt = -9 := rfl; omega)
          have hdt := dl_lt hv9
          have hlt : (dl vz).length = 1 := by rw [hdt]; rfl
          have hrem : rz - 1 = (sgl p1).length := by omega
          have hG2 : sgl p1 ++ (Int32.ofNat (48 + vz % 10) :: TL) = (sgl p1 ++ dl (mg p1)) := by rw [← hG, hdt, show vz % 10 = vz by omega]; simp
          refine Wk.iload X5 hx (hb hby d_jdk_33_m12_104) (n := 106) rfl rfl ?_
          by_cases hc106 : i6 = (0 : Int32)
          ·
            refine Wk.ifYes X5 hx (hb hby d_jdk_33_m12_106) ((if0 _ _).trans (teq hc106).1) (by decide) (n := 118) (by decide) ?_
            refine Wk.iload X5 hx (hb hby d_jdk_33_m12_118) (n := 120) rfl rfl ?_
            have hsg : sgl p1 = [] := (q6.resolve_left (fun q => by have q2 := q.2; rw [hc106] at q2; exact absurd q2 (by decide))).1 |> fun q => if_neg q
            have hsl : (sgl p1).length = 0 := by rw [hsg]; rfl
            exact Wk.leave X5 (v := some (.int (i5 + (-1 : Int32)))) (fun h => by rw [Bd.returns] at h; cases h) hlk e5 ⟨(i5 + (-1 : Int32)), rfl, N5, K5, (own_arv (own_fin (by rw [← hG2, hsg]; rfl) (by omega)) Un5)⟩ (by decide) (by decide) (fun fs hr => retI X5 hx Bd.returns (hb hby d_jdk_33_m12_120) hr)
          ·
            refine Wk.ifNo X5 hx (hb hby d_jdk_33_m12_106) (n := 109) rfl ((if0 _ _).trans (feq hc106).1) ?_
            have hsg : sgl p1 = [45] := (q6.resolve_right (fun q => hc106 q.2)).1 |> fun q => if_pos q
            have hsl : (sgl p1).length = 1 := by rw [hsg]; rfl
            have jc : (i5 + (-1 : Int32)) + (-1 : Int32) = Int32.ofNat (cs.length + ((rz - 1) - 1)) := own_dec ja (by omega)
            refine Wk.aloadN X5 hx (hb hby d_jdk_33_m12_109) (n := 110) rfl rfl rfl ?_
            refine Wk.iinc X5 hx (hb hby d_jdk_33_m12_110) (n := 113) rfl rfl (L' := #[.val (.int i0), .val (.int i1), .val (.ref t1), y3, y4, .val (.int ((i5 + (-1 : Int32)) + (-1 : Int32))), .val (.int i6)]) (by rcases hy3 with rfl | ⟨zz, rfl⟩ <;> rcases hy4 with rfl | ⟨zz, rfl⟩ <;> rfl) ?_
            refine Wk.iload X5 hx (hb hby d_jdk_33_m12_113) (n := 115) rfl rfl ?_
            refine Wk.bipush X5 hx (hb hby d_jdk_33_m12_115) (n := 117) rfl (z := (45 : Int32)) rfl ?_
            obtain ⟨cl12, Ar12, qn12, Sz12, N_12, H_12, Gn12⟩ := id Un5
            have hin12 : ¬ (((i5 + (-1 : Int32)) + (-1 : Int32)) < 0 ∨ cl12.slots.size ≤ (((i5 + (-1 : Int32)) + (-1 : Int32))).toNatClampNeg) := inb_of Sz12 (by rw [jc]; exact ⟨own_nonneg (by omega), (own_lt (by omega) (by decide)).mpr (by omega)⟩)
            refine Wk.stB X5 hx hZ e5 Ar12 hin12 (hb hby d_jdk_33_m12_117) (n := 118) rfl fun T12 H12 X12 e12 Wn12 => ?_
            have Vn12 := Arv.set Ar12 qn12 Sz12 N_12 H_12 Gn12 (fits_nar_byte _) Wn12 (cs.length + ((rz - 1) - 1)) (by rw [jc]; exact own_cl (by omega)) (by simp only [List.length_append, List.length_replicate, bsV_len]; omega)
            have Un12 : Arv Z H12 t1 k1 .byte (Int32.ofNat 16) (bsV cs ++ List.replicate ((rz - 1) - 1) (Value.int (0 : Int32)) ++ bsV (45 :: (Int32.ofNat (48 + vz % 10) :: TL))) (.int (0 : Int32)) := own_arv (own_st1 cs (Int32.ofNat (48 + vz % 10) :: TL) 45 (by omega)) Vn12
            have sz12 := Wn12.size
            have K12 := K5.wr Wn12 (Or.inl (List.mem_of_getElem? (i := 0) rfl))
            have N12 := Fr.snoc X12 N5 (by omega)
            refine Wk.iload X12 hx (hb hby d_jdk_33_m12_118) (n := 120) rfl rfl ?_
            exact Wk.leave X12 (v := some (.int ((i5 + (-1 : Int32)) + (-1 : Int32)))) (fun h => by rw [Bd.returns] at h; cases h) hlk e12 ⟨((i5 + (-1 : Int32)) + (-1 : Int32)), rfl, N12, K12, (own_arv (own_fin (by rw [← hG2, hsg]; rfl) (by omega)) Un12)⟩ (by decide) (by decide) (fun fs hr => retI X12 hx Bd.returns (hb hby d_jdk_33_m12_120) hr)
      ·
        refine Wk.icmpNo Xj1 hx (hb hby d_jdk_33_m12_25) (n := 28) rfl (flt hc25).2.2.1 ?_
        have hv1 : ¬ vz < 100 := fun q => hc25 (by rw [q0]; exact (own_ltn (k := 100) hv (by decide)).mpr q)
        have hp0 := dl_pos vz
        have hd2 := dl_ge2 (n := vz) (by omega)
        have hl2 : (dl vz).length = (dl (vz / 100)).length + 2 := by rw [hd2]; simp
        refine Wk.iloadN Xj1 hx (hb hby d_jdk_33_m12_28) (n := 29) rfl rfl ?_
        refine Wk.bipush Xj1 hx (hb hby d_jdk_33_m12_29) (n := 31) rfl (z := (100 : Int32)) rfl ?_
        refine Wk.idiv Xj1 hx (hb hby d_jdk_33_m12_31) (n := 32) rfl (by decide) ?_
        refine Wk.istoreN Xj1 hx (hb hby d_jdk_33_m12_32) (n := 33) rfl (L' := #[.val (.int i0), .val (.int i1), .val (.ref t1), .val (.int (i0 / (100 : Int32))), y4, .val (.int i5), .val (.int i6)]) (by rcases hy3 with rfl | ⟨zz, rfl⟩ <;> rcases hy4 with rfl | ⟨zz, rfl⟩ <;> rfl) ?_
        refine Wk.iloadN Xj1 hx (hb hby d_jdk_33_m12_33) (n := 34) rfl rfl ?_
        refine Wk.bipush Xj1 hx (hb hby d_jdk_33_m12_34) (n := 36) rfl (z := (100 : Int32)) rfl ?_
        refine Wk.imul Xj1 hx (hb hby d_jdk_33_m12_36) (n := 37) rfl ?_
        refine Wk.iloadN Xj1 hx (hb hby d_jdk_33_m12_37) (n := 38) rfl rfl ?_
        refine Wk.isub Xj1 hx (hb hby d_jdk_33_m12_38) (n := 39) rfl ?_
        refine Wk.istore Xj1 hx (hb hby d_jdk_33_m12_39) (n := 41) rfl (L' := #[.val (.int i0), .val (.int i1), .val (.ref t1), .val (.int (i0 / (100 : Int32))), .val (.int (((i0 / (100 : Int32)) * (100 : Int32)) - i0)), .val (.int i5), .val (.int i6)]) (by rcases hy3 with rfl | ⟨zz, rfl⟩ <;> rcases hy4 with rfl | ⟨zz, rfl⟩ <;> rfl) ?_
        refine Wk.iloadN Xj1 hx (hb hby d_jdk_33_m12_41) (n := 42) rfl rfl ?_
        refine Wk.istoreN Xj1 hx (hb hby d_jdk_33_m12_42) (n := 43) rfl (L' := #[.val (.int (i0 / (100 : Int32))), .val (.int i1), .val (.ref t1), .val (.int (i0 / (100 : Int32))), .val (.int (((i0 / (100 : Int32)) * (100 : Int32)) - i0)), .val (.int i5), .val (.int i6)]) (by rcases hy3 with rfl | ⟨zz, rfl⟩ <;> rcases hy4 with rfl | ⟨zz, rfl⟩ <;> rfl) ?_
        have q4 : (((i0 / (100 : Int32)) * (100 : Int32)) - i0) = Int32.ofNat (vz % 100) := by rw [q0, own_dv hv]; exact own_rm
        have ja : i5 + (-1 : Int32) = Int32.ofNat (cs.length + (rz - 1)) := own_dec q5 (by omega)
        have jb : i5 + (-1 : Int32) + (-1 : Int32) = Int32.ofNat (cs.length + (rz - 1 - 1)) := own_dec ja (by omega)
        refine Wk.aloadN Xj1 hx (hb hby d_jdk_33_m12_43) (n := 44) rfl rfl rfl ?_
        refine Wk.iinc Xj1 hx (hb hby d_jdk_33_m12_44) (n := 47) rfl rfl (L' := #[.val (.int (i0 / (100 : Int32))), .val (.int i1), .val (.ref t1), .val (.int (i0 / (100 : Int32))), .val (.int (((i0 / (100 : Int32)) * (100 : Int32)) - i0)), .val (.int (i5 + (-1 : Int32))), .val (.int i6)]) rfl ?_
        refine Wk.iload Xj1 hx (hb hby d_jdk_33_m12_47) (n := 49) rfl rfl ?_
        refine Wk.getS Xj1 hx hZ hown (host := "") (Or.inl (hw _ (List.mem_of_getElem? (i := 136) rfl))) Via.refl ej1 (Sta.ext Olj1.2 S6) (hb hby d_jdk_33_m12_49) (n := 52) rfl fun T13 X13 e13 => ?_
        refine Wk.iload X13 hx (hb hby d_jdk_33_m12_52) (n := 54) rfl rfl ?_
        have f15 := A6.ext Olj1.2
        obtain ⟨cl14, Ar14, qn14, Sz14, N_14, H_14, Gn14⟩ := id f15
        have hin14 : ¬ ((((i0 / (100 : Int32)) * (100 : Int32)) - i0) < 0 ∨ cl14.slots.size ≤ ((((i0 / (100 : Int32)) * (100 : Int32)) - i0)).toNatClampNeg) := inb_of Sz14 (by rw [q4]; exact ⟨own_nonneg (by omega), (own_lt (b := 100) (by omega) (by decide)).mpr (by omega)⟩)
        refine Wk.baloadBytes X13 hx hZ e13 Ar14 (v := (.int (Int32.ofNat (48 + vz % 10)))) hin14 (H_14.at hin14 (by rw [q4, own_cl (by omega)]; have q := own_dO vz; exact q)) (hb hby d_jdk_33_m12_54) (n := 55) rfl ?_
        obtain ⟨cl16, Ar16, qn16, Sz16, N_16, H_16, Gn16⟩ := id Aj
        have hin16 : ¬ ((i5 + (-1 : Int32)) < 0 ∨ cl16.slots.size ≤ ((i5 + (-1 : Int32))).toNatClampNeg) := inb_of Sz16 (by rw [ja]; exact ⟨own_nonneg (by omega), (own_lt (by omega) (by decide)).mpr (by omega)⟩)
        refine Wk.stB X13 hx hZ e13 Ar16 hin16 (hb hby d_jdk_33_m12_55) (n := 56) rfl fun T16 H16 X16 e16 Wn16 => ?_
        have Vn16 := Arv.set Ar16 qn16 Sz16 N_16 H_16 Gn16 (fits_nar_byte _) Wn16 (cs.length + (rz - 1)) (by rw [ja]; exact own_cl (by omega)) (by simp only [List.length_append, List.length_replicate, bsV_len]; omega)
        have Un16 : Arv Z H16 t1 k1 .byte (Int32.ofNat 16) (bsV cs ++ List.replicate (rz - 1) (Value.int (0 : Int32)) ++ bsV ((Int32.ofNat (48 + vz % 10)) :: TL)) (.int (0 : Int32)) := own_arv (own_st1 cs TL (Int32.ofNat (48 + vz % 10)) (by omega)) Vn16
        have sz16 := Wn16.size
        have K16 := Kj1.wr Wn16 (Or.inl (List.mem_of_getElem? (i := 0) rfl))
        have N16 := Fr.snoc X16 Nj1 (by omega)
        refine Wk.aloadN X16 hx (hb hby d_jdk_33_m12_56) (n := 57) rfl rfl rfl ?_
        refine Wk.iinc X16 hx (hb hby d_jdk_33_m12_57) (n := 60) rfl rfl (L' := #[.val (.int (i0 / (100 : Int32))), .val (.int i1), .val (.ref t1), .val (.int (i0 / (100 : Int32))), .val (.int (((i0 / (100 : Int32)) * (100 : Int32)) - i0)), .val (.int ((i5 + (-1 : Int32)) + (-1 : Int32))), .val (.int i6)]) rfl ?_
        refine Wk.iload X16 hx (hb hby d_jdk_33_m12_60) (n := 62) rfl rfl ?_
        have f17 := (Olj1.wr Wn16 (by omega))
        refine Wk.getS X16 hx hZ hown (host := "") (Or.inl (hw _ (List.mem_of_getElem? (i := 246) rfl))) Via.refl e16 (Sta.ext f17.2 S7) (hb hby d_jdk_33_m12_62) (n := 65) rfl fun T18 X18 e18 => ?_
        refine Wk.iload X18 hx (hb hby d_jdk_33_m12_65) (n := 67) rfl rfl ?_
        have f20 := A7.ext f17.2
        obtain ⟨cl19, Ar19, qn19, Sz19, N_19, H_19, Gn19⟩ := id f20
        have hin19 : ¬ ((((i0 / (100 : Int32)) * (100 : Int32)) - i0) < 0 ∨ cl19.slots.size ≤ ((((i0 / (100 : Int32)) * (100 : Int32)) - i0)).toNatClampNeg) := inb_of Sz19 (by rw [q4]; exact ⟨own_nonneg (by omega), (own_lt (b := 100) (by omega) (by decide)).mpr (by omega)⟩)
        refine Wk.baloadBytes X18 hx hZ e18 Ar19 (v := (.int (Int32.ofNat (48 + vz / 10 % 10)))) hin19 (H_19.at hin19 (by rw [q4, own_cl (by omega)]; have q := own_dT vz; exact q)) (hb hby d_jdk_33_m12_67) (n := 68) rfl ?_
        obtain ⟨cl21, Ar21, qn21, Sz21, N_21, H_21, Gn21⟩ := id Un16
        have hin21 : ¬ (((i5 + (-1 : Int32)) + (-1 : Int32)) < 0 ∨ cl21.slots.size ≤ (((i5 + (-1 : Int32)) + (-1 : Int32))).toNatClampNeg) := inb_of Sz21 (by rw [jb]; exact ⟨own_nonneg (by omega), (own_lt (by omega) (by decide)).mpr (by omega)⟩)
        refine Wk.stB X18 hx hZ e18 Ar21 hin21 (hb hby d_jdk_33_m12_68) (n := 69) rfl fun T21 H21 X21 e21 Wn21 => ?_
        have Vn21 := Arv.set Ar21 qn21 Sz21 N_21 H_21 Gn21 (fits_nar_byte _) Wn21 (cs.length + ((rz - 1) - 1)) (by rw [jb]; exact own_cl (by omega)) (by simp only [List.length_append, List.length_replicate, bsV_len]; omega)
        have Un21 : Arv Z H21 t1 k1 .byte (Int32.ofNat 16) (bsV cs ++ List.replicate ((rz - 1) - 1) (Value.int (0 : Int32)) ++ bsV ((Int32.ofNat (48 + vz / 10 % 10)) :: (Int32.ofNat (48 + vz % 10) :: TL))) (.int (0 : Int32)) := own_arv (own_st1 cs (Int32.ofNat (48 + vz % 10) :: TL) (Int32.ofNat (48 + vz / 10 % 10)) (by omega)) Vn21
        have sz21 := Wn21.size
        have K21 := K16.wr Wn21 (Or.inl (List.mem_of_getElem? (i := 0) rfl))
        have N21 := Fr.snoc X21 N16 (by omega)
        refine Wk.goto X21 hx (hb hby d_jdk_33_m12_69) (by decide) (n := 22) (by decide) ?_
        have hd2 := dl_ge2 (n := vz) (by omega)
        have hl2 : (dl vz).length = (dl (vz / 100)).length + 2 := by rw [hd2]; simp
        have f22 := (f17.wr Wn21 (by omega))
        exact ih T21 H21 _ (vz / 100) (Int32.ofNat (48 + vz / 10 % 10) :: Int32.ofNat (48 + vz % 10) :: TL) (rz - 1 - 1) (i0 / (100 : Int32)) ((i5 + (-1 : Int32)) + (-1 : Int32)) i6 (.val (.int (i0 / (100 : Int32)))) (.val (.int (((i0 / (100 : Int32)) * (100 : Int32)) - i0))) (X21.mono (by decide) (by decide)) e21 K21 N21 Un21 f22 (by omega) (by omega) (by rw [q0]; exact own_dv hv) jb (by rw [← hG, hd2]; simp) (by omega) (by omega) q6 (Or.inr ⟨_, rfl⟩) (Or.inr ⟨_, rfl⟩)
  refine Wk.iloadN X0 hx (hb hby d_jdk_33_m12_0) (n := 1) rfl rfl ?_
  refine Wk.istore X0 hx (hb hby d_jdk_33_m12_1) (n := 3) rfl (L' := #[.val (.int p1), .val (.int i1), .val (.ref t1), .unset, .unset, .val (.int i1), .unset]) rfl ?_
  refine Wk.iloadN X0 hx (hb hby d_jdk_33_m12_3) (n := 4) rfl rfl ?_
  by_cases hc4 : p1 < (0 : Int32)
  ·
    refine Wk.ifNo X0 hx (hb hby d_jdk_33_m12_4) (n := 7) rfl ((if0 _ _).trans (tlt hc4).2.1) ?_
    refine Wk.iconst X0 hx (hb hby d_jdk_33_m12_7) (n := 8) rfl (z := (1 : Int32)) rfl ?_
    refine Wk.goto X0 hx (hb hby d_jdk_33_m12_8) (by decide) (n := 12) (by decide) ?_
    refine Wk.istore X0 hx (hb hby d_jdk_33_m12_12) (n := 14) rfl (L' := #[.val (.int p1), .val (.int i1), .val (.ref t1), .unset, .unset, .val (.int i1), .val (.int (1 : Int32))]) rfl ?_
    refine Wk.iload X0 hx (hb hby d_jdk_33_m12_14) (n := 16) rfl rfl ?_
    have hc16_23 : ¬ ((1 : Int32) = (0 : Int32)) := by decide
    refine Wk.ifYes X0 hx (hb hby d_jdk_33_m12_16) ((if0 _ _).trans (feq hc16_23).2) (by decide) (n := 22) (by decide) ?_
    have hGl : (sgl p1 ++ dl (mg p1)).length = (sgl p1).length + (dl (mg p1)).length := List.length_append
    exact loopG (mg p1 + 1) s₁ h0 _ (mg p1) ([]) ((sgl p1 ++ dl (mg p1)).length) p1 i1 (1 : Int32) Slot.unset Slot.unset (X0.mono (by decide) (by decide)) e0 K0 N0 (Arv.pad Ab1 (own_pd0 cs _)) O1 (Nat.lt_succ_self _) (mg_le p1) (own_mg p1 hc4) hi (by simp) hGl (by omega) (Or.inl ⟨hc4, rfl⟩) (Or.inl rfl) (Or.inl rfl)
  ·
    refine Wk.ifYes X0 hx (hb hby d_jdk_33_m12_4) ((if0 _ _).trans (flt hc4).2.1) (by decide) (n := 11) (by decide) ?_
    refine Wk.iconst X0 hx (hb hby d_jdk_33_m12_11) (n := 12) rfl (z := (0 : Int32)) rfl ?_
    refine Wk.istore X0 hx (hb hby d_jdk_33_m12_12) (n := 14) rfl (L' := #[.val (.int p1), .val (.int i1), .val (.ref t1), .unset, .unset, .val (.int i1), .val (.int (0 : Int32))]) rfl ?_
    refine Wk.iload X0 hx (hb hby d_jdk_33_m12_14) (n := 16) rfl rfl ?_
    have hc16_24 : (0 : Int32) = (0 : Int32) := rfl
    refine Wk.ifNo X0 hx (hb hby d_jdk_33_m12_16) (n := 19) rfl ((if0 _ _).trans (teq hc16_24).2) ?_
    refine Wk.iloadN X0 hx (hb hby d_jdk_33_m12_19) (n := 20) rfl rfl ?_
    refine Wk.ineg X0 hx (hb hby d_jdk_33_m12_20) (n := 21) rfl ?_
    refine Wk.istoreN X0 hx (hb hby d_jdk_33_m12_21) (n := 22) rfl (L' := #[.val (.int (-p1)), .val (.int i1), .val (.ref t1), .unset, .unset, .val (.int i1), .val (.int (0 : Int32))]) rfl ?_
    have hGl : (sgl p1 ++ dl (mg p1)).length = (sgl p1).length + (dl (mg p1)).length := List.length_append
    exact loopG (mg p1 + 1) s₁ h0 _ (mg p1) ([]) ((sgl p1 ++ dl (mg p1)).length) (-p1) i1 (0 : Int32) Slot.unset Slot.unset (X0.mono (by decide) (by decide)) e0 K0 N0 (Arv.pad Ab1 (own_pd0 cs _)) O1 (Nat.lt_succ_self _) (mg_le p1) (own_mg2 p1 hc4) hi (by simp) hGl (by omega) (Or.inr ⟨hc4, rfl⟩) (Or.inl rfl) (Or.inl rfl)
def Q_sbAI (Z : State) (a1 : Addr) (p1 : Int32) (t1 : Addr) (k1 : ClassId) (cs : List Int32) (zc : Int32) (dO : Addr) (kO : ClassId) (dT : Addr) (kT : ClassId) (h0 : Heap) (n0 : Nat) (v : Option Value) (h : Heap) (L : List Loc) : Prop := v = some (.ref a1) ∧ Fr n0 L ∧ Keep h0 h [a1, t1] ∧ Exa Z h a1 "java/lang/StringBuilder" ∧ Fld Z h a1 "java/lang/AbstractStringBuilder" "value" "[B" (.ref t1) ∧ Fld Z h a1 "java/lang/AbstractStringBuilder" "coder" "B" (.int (0 : Int32)) ∧ Fld Z h a1 "java/lang/AbstractStringBuilder" "count" "I" (.int (Int32.ofNat (cs ++ (sgl p1 ++ dl (mg p1))).length)) ∧ Arv Z h t1 k1 .byte (Int32.ofNat 16) (bsV (cs ++ (sgl p1 ++ dl (mg p1)))) (.int (0 : Int32))
theorem ef_sbAI (m : MethodId) (x0 : Addr) (x1 : Int32) : entryFrame m #[(.ref x0), (.int x1)] 4 = mkF m 0 #[.val (.ref x0), .val (.int x1), .unset, .unset] [] := by first | (simp [entryFrame, mkF, argsToLocals, Value.category]; done) | rfl
theorem d_jdk_68_m32_0 : decode jdk_68_method_32_code 0 = .ok (.aload_n 0, 1) := by decide +kernel
theorem d_jdk_68_m32_1 : decode jdk_68_method_32_code 1 = .ok (.getfield 79, 3) := by decide +kernel
theorem d_jdk_68_m32_4 : decode jdk_68_method_32_code 4 = .ok (.istore_n 2, 1) := by decide +kernel
theorem d_jdk_68_m32_5 : decode jdk_68_method_32_code 5 = .ok (.iload_n 2, 1) := by decide +kernel
theorem d_jdk_68_m32_6 : decode jdk_68_method_32_code 6 = .ok (.iload_n 1, 1) := by decide +kernel
theorem d_jdk_68_m32_7 : decode jdk_68_method_32_code 7 = .ok (.invokestatic 245, 3) := by decide +kernel
theorem pd_17 : parseMethodDescriptor "(I)I" = some ⟨[.int], some .int⟩ := by decide +kernel
theorem d_jdk_68_m32_10 : decode jdk_68_method_32_code 10 = .ok (.iadd, 1) := by decide +kernel
theorem d_jdk_68_m32_11 : decode jdk_68_method_32_code 11 = .ok (.istore_n 3, 1) := by decide +kernel
theorem d_jdk_68_m32_12 : decode jdk_68_method_32_code 12 = .ok (.aload_n 0, 1) := by decide +kernel
theorem d_jdk_68_m32_13 : decode jdk_68_method_32_code 13 = .ok (.iload_n 3, 1) := by decide +kernel
theorem d_jdk_68_m32_14 : decode jdk_68_method_32_code 14 = .ok (.invokevirtual 100, 3) := by decide +kernel
theorem d_jdk_68_m32_17 : decode jdk_68_method_32_code 17 = .ok (.aload_n 0, 1) := by decide +kernel
theorem d_jdk_68_m32_18 : decode jdk_68_method_32_code 18 = .ok (.invokevirtual 83, 3) := by decide +kernel
theorem d_jdk_68_m32_21 : decode jdk_68_method_32_code 21 = .ok (.ifCond .eq 16, 3) := by decide +kernel
theorem d_jdk_68_m32_24 : decode jdk_68_method_32_code 24 = .ok (.iload_n 1, 1) := by decide +kernel
theorem d_jdk_68_m32_25 : decode jdk_68_method_32_code 25 = .ok (.iload_n 3, 1) := by decide +kernel
theorem d_jdk_68_m32_26 : decode jdk_68_method_32_code 26 = .ok (.aload_n 0, 1) := by decide +kernel
theorem d_jdk_68_m32_27 : decode jdk_68_method_32_code 27 = .ok (.getfield 15, 3) := by decide +kernel
theorem d_jdk_68_m32_30 : decode jdk_68_method_32_code 30 = .ok (.invokestatic 248, 3) := by decide +kernel
theorem pd_18 : parseMethodDescriptor "(II[B)I" = some ⟨[.int, .int, (.array .byte)], some .int⟩ := by decide +kernel
theorem d_jdk_68_m32_33 : decode jdk_68_method_32_code 33 = .ok (.pop, 1) := by decide +kernel
theorem d_jdk_68_m32_34 : decode jdk_68_method_32_code 34 = .ok (.goto 14, 3) := by decide +kernel
theorem d_jdk_68_m32_48 : decode jdk_68_method_32_code 48 = .ok (.aload_n 0, 1) := by decide +kernel
theorem d_jdk_68_m32_49 : decode jdk_68_method_32_code 49 = .ok (.iload_n 3, 1) := by decide +kernel
theorem d_jdk_68_m32_50 : decode jdk_68_method_32_code 50 = .ok (.putfield 79, 3) := by decide +kernel
theorem d_jdk_68_m32_53 : decode jdk_68_method_32_code 53 = .ok (.aload_n 0, 1) := by decide +kernel
theorem d_jdk_68_m32_54 : decode jdk_68_method_32_code 54 = .ok (.areturn, 1) := by decide +kernel
set_option maxRecDepth 65536 in
set_option maxHeartbeats 40000000 in
theorem sbAI (l : Launch) (Z : State) (a0 : Array Value) (hw : ∀ d ∈ tables_1, d.before a0 Z = true) (ws : List Jvm.Cond) (a1 : Addr) (p1 : Int32) (t1 : Addr) (k1 : ClassId) (cs : List Int32) (zc : Int32) (dO : Addr) (kO : ClassId) (dT : Addr) (kT : ClassId) (h0 : Heap) (n0 : Nat) (Z0 : n0 ≤ h0.size) (Eb1 : Exa Z h0 a1 "java/lang/StringBuilder") (Gv1 : Fld Z h0 a1 "java/lang/AbstractStringBuilder" "value" "[B" (.ref t1)) (Gc1 : Fld Z h0 a1 "java/lang/AbstractStringBuilder" "coder" "B" (.int (0 : Int32))) (Gn1 : Fld Z h0 a1 "java/lang/AbstractStringBuilder" "count" "I" (.int (Int32.ofNat cs.length))) (Ab1 : Arv Z h0 t1 k1 .byte (Int32.ofNat 16) (bsV cs) (.int (0 : Int32))) (S4 : Sta Z Z.heap "java/lang/String" "COMPACT_STRINGS" "Z" (.int zc)) (O1 : Old Z n0 h0) (S6 : Sta Z Z.heap "java/lang/Integer" "DigitOnes" "[B" (.ref dO)) (S7 : Sta Z Z.heap "java/lang/Integer" "DigitTens" "[B" (.ref dT)) (A6 : Arv Z Z.heap dO kO .byte (100 : Int32) dgO (.int (0 : Int32))) (A7 : Arv Z Z.heap dT kT .byte (100 : Int32) dgT (.int (0 : Int32))) (hCS : ¬ zc = 0) (hN : cs.length + (sgl p1 ++ dl (mg p1)).length ≤ 16) (g1 : n0 ≤ t1) (g2 : n0 ≤ a1) (hn2 : ¬ @Eq Nat t1 a1) :
    MetFree l (⟨"java/lang/AbstractStringBuilder", "append", "(I)Ljava/lang/AbstractStringBuilder;"⟩ : MethodName) (head1 (Jvm.Cond.code (⟨"java/lang/AbstractStringBuilder", "append", "(I)Ljava/lang/AbstractStringBuilder;"⟩ : MethodName) jdk_68_method_32_code 4 (some (.object "java/lang/AbstractStringBuilder")) :: ws) ({ frames := 1, cells := 0, slots := 0, locals := 18 } : Room)) (fun a U => a = #[(.ref a1), (.int p1)] ∧ Z.Warmed39 U.vm ∧ U.heap = h0) (fun _ _ _ _ _ => True) (fun _ U o U' => ∃ v L, o = .returned v ∧ Q_sbAI Z a1 p1 t1 k1 cs zc dO kO dT kT h0 n0 v U'.heap L ∧ FrameEnd U o U' L ({ frames := 1, cells := 0, slots := 0, locals := 18 } : Room).cells ({ frames := 1, cells := 0, slots := 0, locals := 18 } : Room).slots) := by
  refine MetFree.of_bodySF (plainFor_of_name pn_java_lang_AbstractStringBuilder) hisR ?_
  intro p e s m args below meth c s₁ Bd hml0 hP hK
  obtain ⟨rfl, hZ, hh⟩ := hP
  have hx := Bd.exec
  have hby := Bd.bytes
  have hlk := BodyLoose.notSynchronized Bd
  have hml : c.maxLocals = 4 := hml0
  have hown : s.vm.findClass "java/lang/AbstractStringBuilder" = some m.cls := findClass_of_methodNamed Bd.named
  have hnm := (name_of_methodNamed Bd.named Bd.method).1
  have X0 : Stand p l e ({ frames := 1, cells := 0, slots := 0, locals := 18 } : Room) s m #[(.ref a1), (.int p1)] below meth c s₁ [] 0 0 := Stand.of_body Bd
  have e0 : s₁.heap = h0 := by rw [← hh, Bd.state]; rfl
  have N0 := Fr.nil n0
  have K0 := Keep.refl h0 [a1, t1]
  clear hh
  show Wk p e below (EndN s (Q_sbAI Z a1 p1 t1 k1 cs zc dO kO dT kT h0 n0) ({ frames := 1, cells := 0, slots := 0, locals := 18 } : Room).cells ({ frames := 1, cells := 0, slots := 0, locals := 18 } : Room).slots) s₁ (entryFrame m #[(.ref a1), (.int p1)] 4)
  rw [ef_sbAI]
  have lt_Eb1 := ny Eb1.lt
  have lt_Gv1 := ny Gv1.lt
  have lt_Gc1 := ny Gc1.lt
  have lt_Gn1 := ny Gn1.lt
  have lt_Ab1 := ny Ab1.lt
  refine Wk.aloadN X0 hx (hb hby d_jdk_68_m32_0) (n := 1) rfl rfl rfl ?_
  refine Wk.getF X0 hx hZ hown (host := "") (Or.inl (hw _ (List.mem_of_getElem? (i := 87) rfl))) Via.refl e0 Gn1 (hb hby d_jdk_68_m32_1) (n := 4) rfl fun T1 X1 e1 => ?_
  refine Wk.istoreN X1 hx (hb hby d_jdk_68_m32_4) (n := 5) rfl (L' := #[.val (.ref a1), .val (.int p1), .val (.int (Int32.ofNat cs.length)), .unset]) rfl ?_
  refine Wk.iloadN X1 hx (hb hby d_jdk_68_m32_5) (n := 6) rfl rfl ?_
  refine Wk.iloadN X1 hx (hb hby d_jdk_68_m32_6) (n := 7) rfl rfl ?_
  have cl2_ := fun (Ls : Array Slot) (hLs : Ls.size = c.maxLocals) => Jvm.LawKit.callS X1 hx (y := (⟨"java/lang/Integer", "stringSize", "(I)I"⟩ : MethodName)) hown (mvT hZ (hw _ (List.mem_of_getElem? (i := 124) rfl))) (mvT hZ (hw _ (List.mem_of_getElem? (i := 125) rfl))) (mvT hZ (hw _ (List.mem_of_getElem? (i := 126) rfl))) (mvT hZ (hw _ (List.mem_of_getElem? (i := 127) rfl))) (by decide) (backOf (W := 1) (sbSS l Z a0 hw [] p1 h0 n0 (by omega)) hZ (hw _ (List.mem_of_getElem? (i := 127) rfl)) (hw _ (List.mem_of_getElem? (i := 126) rfl)) (by decide) (by decide)) (g := mkF m 7 Ls [(.int p1), (.int (Int32.ofNat cs.length))]) rfl hLs (argsL := [(.int p1)]) (rest := [(.int (Int32.ofNat cs.length))]) (lenOf pd_17 rfl) rfl (by show 2 * 0 + _ ≤ _; exact Nat.le_of_eq rfl) (hb hby d_jdk_68_m32_7) (fun _ _ => ⟨rfl, e1, (by decide : 0 + 0 ≤ _), (by decide : 0 + 0 ≤ _)⟩)
  refine Wk.backS (n := 10) (rc := 0) (rs := 0) (Q := Q_sbSS Z p1 h0 n0) (cl2_ _ (by rw [hml]; rfl)) fun vn2 T2 L2 X2 hQ2 => ?_
  clear cl2_
  obtain ⟨rfl, M2, e2⟩ := hQ2
  have N2 := Fr.app N0 M2
  show Wk p e below _ T2 (mkF m 10 _ [(.int (Int32.ofNat (sgl p1 ++ dl (mg p1)).length)), (.int (Int32.ofNat cs.length))])
  refine Wk.iadd X2 hx (hb hby d_jdk_68_m32_10) (n := 11) rfl ?_
  refine Wk.istoreN X2 hx (hb hby d_jdk_68_m32_11) (n := 12) rfl (L' := #[.val (.ref a1), .val (.int p1), .val (.int (Int32.ofNat cs.length)), .val (.int ((Int32.ofNat cs.length) + (Int32.ofNat (sgl p1 ++ dl (mg p1)).length)))]) rfl ?_
  refine Wk.aloadN X2 hx (hb hby d_jdk_68_m32_12) (n := 13) rfl rfl rfl ?_
  refine Wk.iloadN X2 hx (hb hby d_jdk_68_m32_13) (n := 14) rfl rfl ?_
  obtain ⟨cq3, kq3, qn3a, qn3b, qn3c⟩ := isOf hZ e2 Eb1
  have cl3_ := fun (Ls : Array Slot) (hLs : Ls.size = c.maxLocals) => X2.virtualBack hx (y := (⟨"java/lang/AbstractStringBuilder", "ensureCapacityInternal", "(I)V"⟩ : MethodName)) (z := (⟨"java/lang/AbstractStringBuilder", "ensureCapacityInternal", "(I)V"⟩ : MethodName)) hown (mvT hZ (hw _ (List.mem_of_getElem? (i := 89) rfl))) (mvT hZ (own_decl (hw _ (List.mem_of_getElem? (i := 90) rfl)) (hw _ (List.mem_of_getElem? (i := 93) rfl)))) (notFace_of_selects (args := #[]) (mvT hZ (hw _ (List.mem_of_getElem? (i := 92) rfl)))) (mvT hZ (hw _ (List.mem_of_getElem? (i := 92) rfl))) (mvT hZ (hw _ (List.mem_of_getElem? (i := 90) rfl))) (by decide) (backOf (W := 0) (sbEC l Z a0 hw [] a1 ((Int32.ofNat cs.length) + (Int32.ofNat (sgl p1 ++ dl (mg p1)).length)) t1 k1 cs (cs.length + (sgl p1 ++ dl (mg p1)).length) h0 n0 (by omega) Eb1 Gv1 Gc1 Ab1 (own_ofadd _ _) (by omega)) hZ (hw _ (List.mem_of_getElem? (i := 93) rfl)) (hw _ (List.mem_of_getElem? (i := 58) rfl)) (by decide) (by decide)) qn3a qn3c (g := mkF m 14 Ls [(.int ((Int32.ofNat cs.length) + (Int32.ofNat (sgl p1 ++ dl (mg p1)).length))), (.ref a1)]) rfl hLs (Steps.refl _) (argsL := [(.int ((Int32.ofNat cs.length) + (Int32.ofNat (sgl p1 ++ dl (mg p1)).length)))]) (rest := []) (lenOf pd_3 rfl) rfl (by show 2 * 0 + _ ≤ _; exact Nat.le_of_eq rfl) (hb hby d_jdk_68_m32_14) (fun _ _ => ⟨rfl, e2, (by decide : 0 + 0 + 0 ≤ _), (by decide : 0 + 0 + 0 ≤ _)⟩)
  refine Wk.back (n := 17) (rc := 0) (rs := 0) (Q := Q_sbEC Z a1 ((Int32.ofNat cs.length) + (Int32.ofNat (sgl p1 ++ dl (mg p1)).length)) t1 k1 cs (cs.length + (sgl p1 ++ dl (mg p1)).length) h0 n0) (cl3_ _ (by rw [hml]; rfl)) fun vn3 T3 L3 X3 hQ3 => ?_
  clear cl3_
  obtain ⟨rfl, M3, e3⟩ := hQ3
  have N3 := Fr.app N2 M3
  show Wk p e below _ T3 (mkF m 17 _ [])
  refine Wk.aloadN X3 hx (hb hby d_jdk_68_m32_17) (n := 18) rfl rfl rfl ?_
  obtain ⟨cq4, kq4, qn4a, qn4b, qn4c⟩ := isOf hZ e3 Eb1
  have cl4_ := fun (Ls : Array Slot) (hLs : Ls.size = c.maxLocals) => X3.virtualBack hx (y := (⟨"java/lang/AbstractStringBuilder", "isLatin1", "()Z"⟩ : MethodName)) (z := (⟨"java/lang/AbstractStringBuilder", "isLatin1", "()Z"⟩ : MethodName)) hown (mvT hZ (hw _ (List.mem_of_getElem? (i := 128) rfl))) (mvT hZ (hw _ (List.mem_of_getElem? (i := 129) rfl))) (notFace_of_selects (args := #[]) (mvT hZ (hw _ (List.mem_of_getElem? (i := 131) rfl)))) (mvT hZ (hw _ (List.mem_of_getElem? (i := 131) rfl))) (mvT hZ (hw _ (List.mem_of_getElem? (i := 130) rfl))) (by decide) (backOf (W := 0) (sbIL l Z a0 hw [] a1 zc h0 n0 (by omega) Gc1 S4 O1 hCS) hZ (hw _ (List.mem_of_getElem? (i := 132) rfl)) (hw _ (List.mem_of_getElem? (i := 58) rfl)) (by decide) (by decide)) qn4a qn4c (g := mkF m 18 Ls [(.ref a1)]) rfl hLs (Steps.refl _) (argsL := []) (rest := []) (lenOf pd_14 rfl) rfl (by show 2 * 0 + _ ≤ _; exact Nat.le_of_eq rfl) (hb hby d_jdk_68_m32_18) (fun _ _ => ⟨rfl, e3, (by decide : 0 + 0 + 0 + 0 ≤ _), (by decide : 0 + 0 + 0 + 0 ≤ _)⟩)
  refine Wk.back (n := 21) (rc := 0) (rs := 0) (Q := Q_sbIL Z a1 zc h0 n0) (cl4_ _ (by rw [hml]; rfl)) fun vn4 T4 L4 X4 hQ4 => ?_
  clear cl4_
  obtain ⟨rfl, M4, e4⟩ := hQ4
  have N4 := Fr.app N3 M4
  show Wk p e below _ T4 (mkF m 21 _ [(.int (1 : Int32))])
  have hc21_5 : ¬ ((1 : Int32) = (0 : Int32)) := by decide
  refine Wk.ifNo X4 hx (hb hby d_jdk_68_m32_21) (n := 24) rfl ((if0 _ _).trans (feq hc21_5).1) ?_
  refine Wk.iloadN X4 hx (hb hby d_jdk_68_m32_24) (n := 25) rfl rfl ?_
  refine Wk.iloadN X4 hx (hb hby d_jdk_68_m32_25) (n := 26) rfl rfl ?_
  refine Wk.aloadN X4 hx (hb hby d_jdk_68_m32_26) (n := 27) rfl rfl rfl ?_
  refine Wk.getF X4 hx hZ hown (host := "") (Or.inl (hw _ (List.mem_of_getElem? (i := 62) rfl))) Via.refl e4 Gv1 (hb hby d_jdk_68_m32_27) (n := 30) rfl fun T6 X6 e6 => ?_
  have cl7_ := fun (Ls : Array Slot) (hLs : Ls.size = c.maxLocals) => Jvm.LawKit.callS X6 hx (y := (⟨"java/lang/Integer", "getChars", "(II[B)I"⟩ : MethodName)) hown (mvT hZ (hw _ (List.mem_of_getElem? (i := 133) rfl))) (mvT hZ (hw _ (List.mem_of_getElem? (i := 134) rfl))) (mvT hZ (hw _ (List.mem_of_getElem? (i := 126) rfl))) (mvT hZ (hw _ (List.mem_of_getElem? (i := 135) rfl))) (by decide) (backOf (W := 0) (sbGC l Z a0 hw [] p1 ((Int32.ofNat cs.length) + (Int32.ofNat (sgl p1 ++ dl (mg p1)).length)) t1 k1 cs dO kO dT kT h0 n0 (by omega) Ab1 O1 S6 S7 A6 A7 (by omega) (own_ofadd _ _) (by omega)) hZ (hw _ (List.mem_of_getElem? (i := 135) rfl)) (hw _ (List.mem_of_getElem? (i := 126) rfl)) (by decide) (by decide)) (g := mkF m 30 Ls [(.ref t1), (.int ((Int32.ofNat cs.length) + (Int32.ofNat (sgl p1 ++ dl (mg p1)).length))), (.int p1)]) rfl hLs (argsL := [(.int p1), (.int ((Int32.ofNat cs.length) + (Int32.ofNat (sgl p1 ++ dl (mg p1)).length))), (.ref t1)]) (rest := []) (lenOf pd_18 rfl) rfl (by show 2 * 0 + _ ≤ _; exact Nat.le_of_eq rfl) (hb hby d_jdk_68_m32_30) (fun _ _ => ⟨rfl, e6, (by decide : 0 + 0 + 0 + 0 + 0 ≤ _), (by decide : 0 + 0 + 0 + 0 + 0 ≤ _)⟩)
  refine Wk.backS (n := 33) (rc := 0) (rs := 0) (Q := Q_sbGC Z p1 ((Int32.ofNat cs.length) + (Int32.ofNat (sgl p1 ++ dl (mg p1)).length)) t1 k1 cs dO kO dT kT h0 n0) (cl7_ _ (by rw [hml]; rfl)) fun vn7 T7 L7 X7 hQ7 => ?_
  clear cl7_
  obtain ⟨z_7, rfl, M7, J7, p7_0⟩ := hQ7
  have N7 := Fr.app N4 M7
  have sz7 := J7.1
  have K7 := K0.trans J7 (allS (Or.inl (List.mem_of_getElem? (i := 1) rfl)) all0)
  have lt_p7_0 := ny p7_0.lt
  show Wk p e below _ T7 (mkF m 33 _ [(.int z_7)])
  refine Wk.pop X7 hx (hb hby d_jdk_68_m32_33) (n := 34) rfl rfl ?_
  refine Wk.goto X7 hx (hb hby d_jdk_68_m32_34) (by decide) (n := 48) (by decide) ?_
  refine Wk.aloadN X7 hx (hb hby d_jdk_68_m32_48) (n := 49) rfl rfl rfl ?_
  refine Wk.iloadN X7 hx (hb hby d_jdk_68_m32_49) (n := 50) rfl rfl ?_
  have f8 := (Gn1.keep J7 (ninS (nz (by omega)) nin0))
  have f9 := (Eb1.keep J7)
  refine Wk.putF X7 hx hZ hown (host := "") (Or.inl (hw _ (List.mem_of_getElem? (i := 87) rfl))) Via.refl rfl f8 f9 (Or.inl (hw _ (List.mem_of_getElem? (i := 88) rfl))) (hw _ (List.mem_of_getElem? (i := 49) rfl)) (ty := .int) (by decide) rfl rfl (hb hby d_jdk_68_m32_50) (n := 53) rfl fun T10 H10 X10 e10 Wn10 => ?_
  have sz10 := Wn10.size
  have Fn10 := f8.same Wn10
  have K10 := K7.wr Wn10 (Or.inl (List.mem_of_getElem? (i := 0) rfl))
  have N10 := Fr.snoc X10 N7 (by omega)
  refine Wk.aloadN X10 hx (hb hby d_jdk_68_m32_53) (n := 54) rfl rfl rfl ?_
  have f11 := (f9.wr Wn10)
  have f12 := ((Gv1.keep J7 (ninS (nz (by omega)) nin0)).other Wn10 (Or.inr (slot_ne (Or.inl (hw _ (List.mem_of_getElem? (i := 63) rfl))) (Or.inl (hw _ (List.mem_of_getElem? (i := 88) rfl))) (by decide) (t := (.array .byte)) (t' := .int) (by decide) (by decide))))
  have f13 := ((Gc1.keep J7 (ninS (nz (by omega)) nin0)).other Wn10 (Or.inr (slot_ne (Or.inl (hw _ (List.mem_of_getElem? (i := 65) rfl))) (Or.inl (hw _ (List.mem_of_getElem? (i := 88) rfl))) (by decide) (t := .byte) (t' := .int) (by decide) (by decide))))
  have f14 := (p7_0.other Wn10 (nz (by omega)))
  exact Wk.leave X10 (v := some (.ref a1)) (fun h => by rw [Bd.returns] at h; cases h) hlk e10 ⟨rfl, N10, K10, f11, f12, f13, (by have q := Fn10; rw [own_ofadd, ← List.length_append] at q; exact q), f14⟩ (by decide) (by decide) (fun fs hr => retA X10 hx rfl Bd.returns rfl (hb hby d_jdk_68_m32_54) hr)
def Q_sbSI2 (Z : State) (a1 : Addr) (p1 : Int32) (t1 : Addr) (k1 : ClassId) (cs : List Int32) (zc : Int32) (dO : Addr) (kO : ClassId) (dT : Addr) (kT : ClassId) (h0 : Heap) (n0 : Nat) (v : Option Value) (h : Heap) (L : List Loc) : Prop := v = some (.ref a1) ∧ Fr n0 L ∧ Keep h0 h [a1, t1] ∧ Exa Z h a1 "java/lang/StringBuilder" ∧ Fld Z h a1 "java/lang/AbstractStringBuilder" "value" "[B" (.ref t1) ∧ Fld Z h a1 "java/lang/AbstractStringBuilder" "coder" "B" (.int (0 : Int32)) ∧ Fld Z h a1 "java/lang/AbstractStringBuilder" "count" "I" (.int (Int32.ofNat (cs ++ (sgl p1 ++ dl (mg p1))).length)) ∧ Arv Z h t1 k1 .byte (Int32.ofNat 16) (bsV (cs ++ (sgl p1 ++ dl (mg p1)))) (.int (0 : Int32))
theorem ef_sbSI2 (m : MethodId) (x0 : Addr) (x1 : Int32) : entryFrame m #[(.ref x0), (.int x1)] 2 = mkF m 0 #[.val (.ref x0), .val (.int x1)] [] := by first | (simp [entryFrame, mkF, argsToLocals, Value.category]; done) | rfl
theorem d_jdk_67_m15_0 : decode jdk_67_method_15_code 0 = .ok (.aload_n 0, 1) := by decide +kernel
theorem d_jdk_67_m15_1 : decode jdk_67_method_15_code 1 = .ok (.iload_n 1, 1) := by decide +kernel
theorem d_jdk_67_m15_2 : decode jdk_67_method_15_code 2 = .ok (.invokespecial 53, 3) := by decide +kernel
theorem pd_19 : parseMethodDescriptor "(I)Ljava/lang/AbstractStringBuilder;" = some ⟨[.int], some (.object "java/lang/AbstractStringBuilder")⟩ := by decide +kernel
theorem d_jdk_67_m15_5 : decode jdk_67_method_15_code 5 = .ok (.pop, 1) := by decide +kernel
theorem d_jdk_67_m15_6 : decode jdk_67_method_15_code 6 = .ok (.aload_n 0, 1) := by decide +kernel
theorem d_jdk_67_m15_7 : decode jdk_67_method_15_code 7 = .ok (.areturn, 1) := by decide +kernel
set_option maxRecDepth 65536 in
set_option maxHeartbeats 40000000 in
theorem sbSI2 (l : Launch) (Z : State) (a0 : Array Value) (hw : ∀ d ∈ tables_1, d.before a0 Z = true) (ws : List Jvm.Cond) (a1 : Addr) (p1 : Int32) (t1 : Addr) (k1 : ClassId) (cs : List Int32) (zc : Int32) (dO : Addr) (kO : ClassId) (dT : Addr) (kT : ClassId) (h0 : Heap) (n0 : Nat) (Z0 : n0 ≤ h0.size) (Eb1 : Exa Z h0 a1 "java/lang/StringBuilder") (Gv1 : Fld Z h0 a1 "java/lang/AbstractStringBuilder" "value" "[B" (.ref t1)) (Gc1 : Fld Z h0 a1 "java/lang/AbstractStringBuilder" "coder" "B" (.int (0 : Int32))) (Gn1 : Fld Z h0 a1 "java/lang/AbstractStringBuilder" "count" "I" (.int (Int32.ofNat cs.length))) (Ab1 : Arv Z h0 t1 k1 .byte (Int32.ofNat 16) (bsV cs) (.int (0 : Int32))) (S4 : Sta Z Z.heap "java/lang/String" "COMPACT_STRINGS" "Z" (.int zc)) (O1 : Old Z n0 h0) (S6 : Sta Z Z.heap "java/lang/Integer" "DigitOnes" "[B" (.ref dO)) (S7 : Sta Z Z.heap "java/lang/Integer" "DigitTens" "[B" (.ref dT)) (A6 : Arv Z Z.heap dO kO .byte (100 : Int32) dgO (.int (0 : Int32))) (A7 : Arv Z Z.heap dT kT .byte (100 : Int32) dgT (.int (0 : Int32))) (hCS : ¬ zc = 0) (hN : cs.length + (sgl p1 ++ dl (mg p1)).length ≤ 16) (g1 : n0 ≤ t1) (g2 : n0 ≤ a1) (hn2 : ¬ @Eq Nat t1 a1) :
    MetFree l (⟨"java/lang/StringBuilder", "append", "(I)Ljava/lang/StringBuilder;"⟩ : MethodName) (head1 (Jvm.Cond.code (⟨"java/lang/StringBuilder", "append", "(I)Ljava/lang/StringBuilder;"⟩ : MethodName) jdk_67_method_15_code 2 (some (.object "java/lang/StringBuilder")) :: ws) ({ frames := 2, cells := 0, slots := 0, locals := 33 } : Room)) (fun a U => a = #[(.ref a1), (.int p1)] ∧ Z.Warmed39 U.vm ∧ U.heap = h0) (fun _ _ _ _ _ => True) (fun _ U o U' => ∃ v L, o = .returned v ∧ Q_sbSI2 Z a1 p1 t1 k1 cs zc dO kO dT kT h0 n0 v U'.heap L ∧ FrameEnd U o U' L ({ frames := 2, cells := 0, slots := 0, locals := 33 } : Room).cells ({ frames := 2, cells := 0, slots := 0, locals := 33 } : Room).slots) := by
  refine MetFree.of_bodySF (plainFor_of_name pn_java_lang_StringBuilder) hisR ?_
  intro p e s m args below meth c s₁ Bd hml0 hP hK
  obtain ⟨rfl, hZ, hh⟩ := hP
  have hx := Bd.exec
  have hby := Bd.bytes
  have hlk := BodyLoose.notSynchronized Bd
  have hml : c.maxLocals = 2 := hml0
  have hown : s.vm.findClass "java/lang/StringBuilder" = some m.cls := findClass_of_methodNamed Bd.named
  have hnm := (name_of_methodNamed Bd.named Bd.method).1
  have X0 : Stand p l e ({ frames := 2, cells := 0, slots := 0, locals := 33 } : Room) s m #[(.ref a1), (.int p1)] below meth c s₁ [] 0 0 := Stand.of_body Bd
  have e0 : s₁.heap = h0 := by rw [← hh, Bd.state]; rfl
  have N0 := Fr.nil n0
  have K0 := Keep.refl h0 [a1, t1]
  clear hh
  show Wk p e below (EndN s (Q_sbSI2 Z a1 p1 t1 k1 cs zc dO kO dT kT h0 n0) ({ frames := 2, cells := 0, slots := 0, locals := 33 } : Room).cells ({ frames := 2, cells := 0, slots := 0, locals := 33 } : Room).slots) s₁ (entryFrame m #[(.ref a1), (.int p1)] 2)
  rw [ef_sbSI2]
  have lt_Eb1 := ny Eb1.lt
  have lt_Gv1 := ny Gv1.lt
  have lt_Gc1 := ny Gc1.lt
  have lt_Gn1 := ny Gn1.lt
  have lt_Ab1 := ny Ab1.lt
  refine Wk.aloadN X0 hx (hb hby d_jdk_67_m15_0) (n := 1) rfl rfl rfl ?_
  refine Wk.iloadN X0 hx (hb hby d_jdk_67_m15_1) (n := 2) rfl rfl ?_
  have cl1_ := fun (Ls : Array Slot) (hLs : Ls.size = c.maxLocals) => superBack X0 hx hZ (y := (⟨"java/lang/AbstractStringBuilder", "append", "(I)Ljava/lang/AbstractStringBuilder;"⟩ : MethodName)) hown (hw _ (List.mem_of_getElem? (i := 120) rfl)) (own_same (hw _ (List.mem_of_getElem? (i := 121) rfl)) (hw _ (List.mem_of_getElem? (i := 90) rfl)) (hw _ (List.mem_of_getElem? (i := 92) rfl)) (by decide)) (hw _ (List.mem_of_getElem? (i := 121) rfl)) (hw _ (List.mem_of_getElem? (i := 73) rfl)) (by decide) (backOf (W := 0) (sbAI l Z a0 hw [] a1 p1 t1 k1 cs zc dO kO dT kT h0 n0 (by omega) Eb1 Gv1 Gc1 Gn1 Ab1 S4 O1 S6 S7 A6 A7 hCS (by omega) (by omega) (by omega) (by omega)) hZ (hw _ (List.mem_of_getElem? (i := 123) rfl)) (hw _ (List.mem_of_getElem? (i := 58) rfl)) (by decide) (by decide)) e0 (Ins.self Eb1) (g := mkF m 2 Ls [(.int p1), (.ref a1)]) rfl hLs (hw _ (List.mem_of_getElem? (i := 123) rfl)) (argsL := [(.int p1)]) (rest := []) (lenOf pd_19 rfl) rfl (by show 2 * 0 + _ ≤ _; exact Nat.le_of_eq rfl) (hb hby d_jdk_67_m15_2) (fun _ _ => ⟨rfl, e0, (by decide : 0 + 0 ≤ _), (by decide : 0 + 0 ≤ _)⟩)
  refine Wk.back (n := 5) (rc := 0) (rs := 0) (Q := Q_sbAI Z a1 p1 t1 k1 cs zc dO kO dT kT h0 n0) (cl1_ _ (by rw [hml]; rfl)) fun vn1 T1 L1 X1 hQ1 => ?_
  clear cl1_
  obtain ⟨rfl, M1, J1, p1_0, p1_1, p1_2, p1_3, p1_4⟩ := hQ1
  have N1 := Fr.app N0 M1
  have sz1 := J1.1
  have K1 := K0.trans J1 (allS (Or.inl (List.mem_of_getElem? (i := 0) rfl)) (allS (Or.inl (List.mem_of_getElem? (i := 1) rfl)) all0))
  have lt_p1_0 := ny p1_0.lt
  have lt_p1_4 := ny p1_4.lt
  show Wk p e below _ T1 (mkF m 5 _ [(.ref a1)])
  refine Wk.pop X1 hx (hb hby d_jdk_67_m15_5) (n := 6) rfl rfl ?_
  refine Wk.aloadN X1 hx (hb hby d_jdk_67_m15_6) (n := 7) rfl rfl rfl ?_
  exact Wk.leave X1 (v := some (.ref a1)) (fun h => by rw [Bd.returns] at h; cases h) hlk rfl ⟨rfl, N1, K1, p1_0, p1_1, p1_2, p1_3, p1_4⟩ (by decide) (by decide) (fun fs hr => retA X1 hx rfl Bd.returns rfl (hb hby d_jdk_67_m15_7) hr)
def Q_rmV0 (Z : State) (x1 : Addr) (b1 : Addr) (u1 : Value) (h0 : Heap) (n0 : Nat) (v : Option Value) (h : Heap) (L : List Loc) : Prop := ∃ (t : Addr) (kb : ClassId), v = none ∧ Fr n0 L ∧ Keep h0 h [x1] ∧ Exa Z h x1 "java/lang/String" ∧ Fld Z h x1 "java/lang/String" "value" "[B" (.ref t) ∧ Fld Z h x1 "java/lang/String" "coder" "B" (.int (0 : Int32)) ∧ Arv Z h t kb .byte (Int32.ofNat ([] : List Int32).length) (bsV ([] : List Int32)) (.int (0 : Int32))
theorem ef_rmV0 (m : MethodId) (x0 : Addr) (x1 : Addr) : entryFrame m #[(.ref x0), (.ref x1), (.int (0 : Int32)), (.int (0 : Int32)), .null] 6 = mkF m 0 #[.val (.ref x0), .val (.ref x1), .val (.int (0 : Int32)), .val (.int (0 : Int32)), .val .null, .unset] [] := by first | (simp [entryFrame, mkF, argsToLocals, Value.category]; done) | rfl
theorem d_jdk_42_m149_0 : decode jdk_42_method_149_code 0 = .ok (.aload_n 0, 1) := by decide +kernel
theorem d_jdk_42_m149_1 : decode jdk_42_method_149_code 1 = .ok (.invokespecial 1, 3) := by decide +kernel
theorem d_jdk_42_m149_4 : decode jdk_42_method_149_code 4 = .ok (.iload_n 3, 1) := by decide +kernel
theorem d_jdk_42_m149_5 : decode jdk_42_method_149_code 5 = .ok (.ifCond .ne 22, 3) := by decide +kernel
theorem d_jdk_42_m149_8 : decode jdk_42_method_149_code 8 = .ok (.aload_n 0, 1) := by decide +kernel
theorem d_jdk_42_m149_9 : decode jdk_42_method_149_code 9 = .ok (.ldc 7, 2) := by decide +kernel
theorem d_jdk_42_m149_11 : decode jdk_42_method_149_code 11 = .ok (.getfield 9, 3) := by decide +kernel
theorem d_jdk_42_m149_14 : decode jdk_42_method_149_code 14 = .ok (.putfield 9, 3) := by decide +kernel
theorem d_jdk_42_m149_17 : decode jdk_42_method_149_code 17 = .ok (.aload_n 0, 1) := by decide +kernel
theorem d_jdk_42_m149_18 : decode jdk_42_method_149_code 18 = .ok (.ldc 7, 2) := by decide +kernel
theorem d_jdk_42_m149_20 : decode jdk_42_method_149_code 20 = .ok (.getfield 15, 3) := by decide +kernel
theorem d_jdk_42_m149_23 : decode jdk_42_method_149_code 23 = .ok (.putfield 15, 3) := by decide +kernel
theorem d_jdk_42_m149_26 : decode jdk_42_method_149_code 26 = .ok (.return_, 1) := by decide +kernel
set_option maxRecDepth 65536 in
set_option maxHeartbeats 40000000 in
theorem rmV0 (l : Launch) (Z : State) (a0 : Array Value) (hw : ∀ d ∈ tables_1, d.before a0 Z = true) (ws : List Jvm.Cond) (x1 : Addr) (b1 : Addr) (u1 : Value) (h0 : Heap) (n0 : Nat) (Z0 : n0 ≤ h0.size) (E1 : Exa Z h0 x1 "java/lang/String") (F1 : Fld Z h0 x1 "java/lang/String" "value" "[B" u1) (F2 : Fld Z h0 x1 "java/lang/String" "coder" "B" (.int (0 : Int32))) (g1 : n0 ≤ x1) :
    MetFree l (⟨"java/lang/String", "<init>", "([CIILjava/lang/Void;)V"⟩ : MethodName) (head1 (Jvm.Cond.code (⟨"java/lang/String", "<init>", "([CIILjava/lang/Void;)V"⟩ : MethodName) jdk_42_method_149_code 6 none :: ws) ({ frames := 1, cells := 4, slots := 8, locals := 12 } : Room)) (fun a U => a = #[(.ref x1), (.ref b1), (.int (0 : Int32)), (.int (0 : Int32)), .null] ∧ Z.Warmed39 U.vm ∧ U.heap = h0 ∧ CHv Z own_EL U.vm h0 ∧ ∀ x ∈ ([x1] : List Addr), Safe Z own_EL U.vm h0 x) (fun _ _ _ _ _ => True) (fun _ U o U' => ∃ v L, o = .returned v ∧ Q_rmV0 Z x1 b1 u1 h0 n0 v U'.heap L ∧ CHr Z own_EL U.vm U.heap U'.vm U'.heap ∧ ReturnedEndW U o U' L ({ frames := 1, cells := 4, slots := 8, locals := 12 } : Room).cells ({ frames := 1, cells := 4, slots := 8, locals := 12 } : Room).slots) := by
  refine MetFree.of_bodySF (plainFor_of_name pn_java_lang_String) hisR ?_
  intro p e s m args below meth c s₁ Bd hml0 hP hK
  obtain ⟨rfl, hZ, hh, hCH, hSf⟩ := hP
  have hx := Bd.exec
  have hby := Bd.bytes
  have hlk := BodyLoose.notSynchronized Bd
  have hml : c.maxLocals = 6 := hml0
  have hown : s.vm.findClass "java/lang/String" = some m.cls := findClass_of_methodNamed Bd.named
  have hnm := (name_of_methodNamed Bd.named Bd.method).1
  have X0 : Stand p l e ({ frames := 1, cells := 4, slots := 8, locals := 12 } : Room) s m #[(.ref x1), (.ref b1), (.int (0 : Int32)), (.int (0 : Int32)), .null] below meth c s₁ [] 0 0 := Stand.of_body Bd
  have e0 : s₁.heap = h0 := by rw [← hh, Bd.state]; rfl
  have N0 := Fr.nil n0
  have K0 := Keep.refl h0 [x1]
  skip
  show Wk p e below (EndW Z own_EL s (Q_rmV0 Z x1 b1 u1 h0 n0) ({ frames := 1, cells := 4, slots := 8, locals := 12 } : Room).cells ({ frames := 1, cells := 4, slots := 8, locals := 12 } : Room).slots) s₁ (entryFrame m #[(.ref x1), (.ref b1), (.int (0 : Int32)), (.int (0 : Int32)), .null] 6)
  rw [ef_rmV0]
  have Bs0 := Base.start s h0.size
  have R0 := CHr.refl hCH
  have hELw := own_ew hw
  have Sf_x1 := hSf _ (List.mem_of_getElem? (i := 0) rfl)
  have lt_E1 := ny E1.lt
  have lt_F1 := ny F1.lt
  have lt_F2 := ny F2.lt
  refine Wk.aloadN X0 hx (hb hby d_jdk_42_m149_0) (n := 1) rfl rfl rfl ?_
  refine Wk.initO X0 hx hZ hown (hw _ (List.mem_of_getElem? (i := 12) rfl)) (hw _ (List.mem_of_getElem? (i := 13) rfl)) (hw _ (List.mem_of_getElem? (i := 14) rfl)) e0 (by rw [hml]; rfl) (hb hby d_jdk_42_m149_1) (n := 4) rfl (by decide) (w := 0) (Nat.le_of_eq rfl) (by decide) fun T1 X1 e1 => ?_
  refine Wk.iloadN X1 hx (hb hby d_jdk_42_m149_4) (n := 5) rfl rfl ?_
  have hc5_2 : (0 : Int32) = (0 : Int32) := rfl
  refine Wk.ifNo X1 hx (hb hby d_jdk_42_m149_5) (n := 8) rfl ((if0 _ _).trans (teq hc5_2).2) ?_
  refine Wk.aloadN X1 hx (hb hby d_jdk_42_m149_8) (n := 9) rfl rfl rfl ?_
  refine Wk.ldcL (text := "") X1 hx hZ hown (hw _ (List.mem_of_getElem? (i := 15) rfl)) (fun d hd => hw d (own_wS d hd)) e1 Bs0 (by omega) hELw (by decide) R0 (vs := (bsV [])) (z := (Int32.ofNat ([] : List Int32).length)) ⟨by decide, rfl⟩ (by decide) (by decide) (hb hby d_jdk_42_m149_9) (n := 11) rfl (nn := 0) (by decide) (by decide) (by decide) (by decide) fun us3 T3 H3 a3_ t3_ k3_ X3 e3 Ex3 Bs3 hZ hown An3 Fn3_c Fn3_v Vn3 A_3 R3 hne3 => ?_
  have sz3 := Ex3.1
  have lt3 := ny An3.lt
  have lu3 := ny Vn3.lt
  have K3 := K0.ext Ex3
  have f4 := (A_3.safe (ny (by omega)) Sf_x1)
  have nl3_x1 := nw (hne3 _ f4).1
  have nm3_x1 := nw (hne3 _ f4).2
  refine Wk.getF X3 hx hZ hown (host := "") (Or.inl (hw _ (List.mem_of_getElem? (i := 21) rfl))) Via.refl e3 Fn3_v (hb hby d_jdk_42_m149_11) (n := 14) rfl fun T5 X5 e5 => ?_
  have f6 := (F1.ext Ex3)
  have f7 := (E1.ext Ex3)
  refine Wk.putF X5 hx hZ hown (host := "") (Or.inl (hw _ (List.mem_of_getElem? (i := 21) rfl))) Via.refl e5 f6 f7 (Or.inr ⟨(hw _ (List.mem_of_getElem? (i := 17) rfl)), rfl, hnm⟩) (hw _ (List.mem_of_getElem? (i := 3) rfl)) (ty := (.array .byte)) (by decide) rfl rfl (hb hby d_jdk_42_m149_14) (n := 17) rfl fun T8 H8 X8 e8 Wn8 => ?_
  have sz8 := Wn8.size
  have Fn8 := f6.same Wn8
  have Sw8 := f4
  have R8 := R3.trans (CHr.wr Wn8 Sw8 R3.1)
  have K8 := K3.wr Wn8 (Or.inl (List.mem_of_getElem? (i := 0) rfl))
  have N8 := Fr.snoc X8 N0 (by omega)
  refine Wk.aloadN X8 hx (hb hby d_jdk_42_m149_17) (n := 18) rfl rfl rfl ?_
  refine Wk.ldcL (text := "") X8 hx hZ hown (hw _ (List.mem_of_getElem? (i := 15) rfl)) (fun d hd => hw d (own_wS d hd)) e8 Bs3 (by omega) hELw (by decide) R8 (vs := (bsV [])) (z := (Int32.ofNat ([] : List Int32).length)) ⟨by decide, rfl⟩ (by decide) (by decide) (hb hby d_jdk_42_m149_18) (n := 20) rfl (nn := 0) (by decide) (by decide) (by decide) (by decide) fun us9 T9 H9 a9_ t9_ k9_ X9 e9 Ex9 Bs9 hZ hown An9 Fn9_c Fn9_v Vn9 A_9 R9 hne9 => ?_
  have sz9 := Ex9.1
  have lt9 := ny An9.lt
  have lu9 := ny Vn9.lt
  have K9 := K8.ext Ex9
  have f10 := (A_9.safe (ny (by omega)) (Safe.wr Wn8 Sw8 R3.1 f4))
  have nl9_x1 := nw (hne9 _ f10).1
  have nm9_x1 := nw (hne9 _ f10).2
  refine Wk.getF X9 hx hZ hown (host := "") (Or.inl (hw _ (List.mem_of_getElem? (i := 22) rfl))) Via.refl e9 Fn9_c (hb hby d_jdk_42_m149_20) (n := 23) rfl fun T11 X11 e11 => ?_
  have f12 := (((F2.ext Ex3).other Wn8 (Or.inr (slot_ne (Or.inr (hw _ (List.mem_of_getElem? (i := 18) rfl))) (Or.inr (hw _ (List.mem_of_getElem? (i := 17) rfl))) (by decide) (t := .byte) (t' := (.array .byte)) (by decide) (by decide)))).ext Ex9)
  have f13 := ((f7.wr Wn8).ext Ex9)
  refine Wk.putFN X11 hx hZ hown (hw _ (List.mem_of_getElem? (i := 22) rfl)) Via.refl e11 f12 f13 (Or.inr ⟨(hw _ (List.mem_of_getElem? (i := 18) rfl)), rfl, hnm⟩) (hw _ (List.mem_of_getElem? (i := 3) rfl)) (ty := .byte) (by decide) (v' := (.int (0 : Int32))) rfl rfl (hb hby d_jdk_42_m149_23) (n := 26) rfl fun T14 H14 X14 e14 Wn14 => ?_
  have sz14 := Wn14.size
  have Fn14 := f12.same Wn14
  have Sw14 := f10
  have R14 := R9.trans (CHr.wr Wn14 Sw14 R9.1)
  have K14 := K9.wr Wn14 (Or.inl (List.mem_of_getElem? (i := 0) rfl))
  have N14 := Fr.snoc X14 N8 (by omega)
  have f15 := (f13.wr Wn14)
  have f16 := ((Fn8.ext Ex9).other Wn14 (Or.inr (slot_ne (Or.inr (hw _ (List.mem_of_getElem? (i := 17) rfl))) (Or.inr (hw _ (List.mem_of_getElem? (i := 18) rfl))) (by decide) (t := (.array .byte)) (t' := .byte) (by decide) (by decide))))
  have f17 := (((Vn3.other Wn8 (nz (by omega))).ext Ex9).other Wn14 (nz (by omega)))
  exact Wk.leaveW X14 Bs9 (by omega) (v := none) (fun _ => rfl) hlk e14 hh ⟨t3_, k3_, rfl, N14, K14, f15, f16, Fn14, f17⟩ hZ hELw R14 (by decide) (by decide) (fun fs hr => X14.returnOut hx Bd.returns (hb hby d_jdk_42_m149_26) hr)
def Q_rmC0 (Z : State) (x1 : Addr) (b1 : Addr) (u1 : Value) (kc1 : ClassId) (h0 : Heap) (n0 : Nat) (v : Option Value) (h : Heap) (L : List Loc) : Prop := ∃ (t : Addr) (kb : ClassId), v = none ∧ Fr n0 L ∧ Keep h0 h [x1] ∧ Exa Z h x1 "java/lang/String" ∧ Fld Z h x1 "java/lang/String" "value" "[B" (.ref t) ∧ Fld Z h x1 "java/lang/String" "coder" "B" (.int (0 : Int32)) ∧ Arv Z h t kb .byte (Int32.ofNat ([] : List Int32).length) (bsV ([] : List Int32)) (.int (0 : Int32))
theorem ef_rmC0 (m : MethodId) (x0 : Addr) (x1 : Addr) : entryFrame m #[(.ref x0), (.ref x1)] 2 = mkF m 0 #[.val (.ref x0), .val (.ref x1)] [] := by first | (simp [entryFrame, mkF, argsToLocals, Value.category]; done) | rfl
theorem d_jdk_42_m3_0 : decode jdk_42_method_3_code 0 = .ok (.aload_n 0, 1) := by decide +kernel
theorem d_jdk_42_m3_1 : decode jdk_42_method_3_code 1 = .ok (.aload_n 1, 1) := by decide +kernel
theorem d_jdk_42_m3_2 : decode jdk_42_method_3_code 2 = .ok (.iconst 0, 1) := by decide +kernel
theorem d_jdk_42_m3_3 : decode jdk_42_method_3_code 3 = .ok (.aload_n 1, 1) := by decide +kernel
theorem d_jdk_42_m3_4 : decode jdk_42_method_3_code 4 = .ok (.arraylength, 1) := by decide +kernel
theorem d_jdk_42_m3_5 : decode jdk_42_method_3_code 5 = .ok (.aconst_null, 1) := by decide +kernel
theorem d_jdk_42_m3_6 : decode jdk_42_method_3_code 6 = .ok (.invokespecial 27, 3) := by decide +kernel
theorem pd_20 : parseMethodDescriptor "([CIILjava/lang/Void;)V" = some ⟨[(.array .char), .int, .int, (.object "java/lang/Void")], none⟩ := by decide +kernel
theorem d_jdk_42_m3_9 : decode jdk_42_method_3_code 9 = .ok (.return_, 1) := by decide +kernel
set_option maxRecDepth 65536 in
set_option maxHeartbeats 40000000 in
theorem rmC0 (l : Launch) (Z : State) (a0 : Array Value) (hw : ∀ d ∈ tables_1, d.before a0 Z = true) (ws : List Jvm.Cond) (x1 : Addr) (b1 : Addr) (u1 : Value) (kc1 : ClassId) (h0 : Heap) (n0 : Nat) (Z0 : n0 ≤ h0.size) (E1 : Exa Z h0 x1 "java/lang/String") (F1 : Fld Z h0 x1 "java/lang/String" "value" "[B" u1) (F2 : Fld Z h0 x1 "java/lang/String" "coder" "B" (.int (0 : Int32))) (A1 : Arv Z h0 b1 kc1 .char (0 : Int32) [] (.int (0 : Int32))) (g1 : n0 ≤ x1) :
    MetFree l (⟨"java/lang/String", "<init>", "([C)V"⟩ : MethodName) (head1 (Jvm.Cond.code (⟨"java/lang/String", "<init>", "([C)V"⟩ : MethodName) jdk_42_method_3_code 2 none :: ws) ({ frames := 2, cells := 4, slots := 8, locals := 29 } : Room)) (fun a U => a = #[(.ref x1), (.ref b1)] ∧ Z.Warmed39 U.vm ∧ U.heap = h0 ∧ CHv Z own_EL U.vm h0 ∧ ∀ x ∈ ([x1] : List Addr), Safe Z own_EL U.vm h0 x) (fun _ _ _ _ _ => True) (fun _ U o U' => ∃ v L, o = .returned v ∧ Q_rmC0 Z x1 b1 u1 kc1 h0 n0 v U'.heap L ∧ CHr Z own_EL U.vm U.heap U'.vm U'.heap ∧ ReturnedEndW U o U' L ({ frames := 2, cells := 4, slots := 8, locals := 29 } : Room).cells ({ frames := 2, cells := 4, slots := 8, locals := 29 } : Room).slots) := by
  refine MetFree.of_bodySF (plainFor_of_name pn_java_lang_String) hisR ?_
  intro p e s m args below meth c s₁ Bd hml0 hP hK
  obtain ⟨rfl, hZ, hh, hCH, hSf⟩ := hP
  have hx := Bd.exec
  have hby := Bd.bytes
  have hlk := BodyLoose.notSynchronized Bd
  have hml : c.maxLocals = 2 := hml0
  have hown : s.vm.findClass "java/lang/String" = some m.cls := findClass_of_methodNamed Bd.named
  have hnm := (name_of_methodNamed Bd.named Bd.method).1
  have X0 : Stand p l e ({ frames := 2, cells := 4, slots := 8, locals := 29 } : Room) s m #[(.ref x1), (.ref b1)] below meth c s₁ [] 0 0 := Stand.of_body Bd
  have e0 : s₁.heap = h0 := by rw [← hh, Bd.state]; rfl
  have N0 := Fr.nil n0
  have K0 := Keep.refl h0 [x1]
  skip
  show Wk p e below (EndW Z own_EL s (Q_rmC0 Z x1 b1 u1 kc1 h0 n0) ({ frames := 2, cells := 4, slots := 8, locals := 29 } : Room).cells ({ frames := 2, cells := 4, slots := 8, locals := 29 } : Room).slots) s₁ (entryFrame m #[(.ref x1), (.ref b1)] 2)
  rw [ef_rmC0]
  have Bs0 := Base.start s h0.size
  have R0 := CHr.refl hCH
  have hELw := own_ew hw
  have Sf_x1 := hSf _ (List.mem_of_getElem? (i := 0) rfl)
  have lt_E1 := ny E1.lt
  have lt_F1 := ny F1.lt
  have lt_F2 := ny F2.lt
  have lt_A1 := ny A1.lt
  refine Wk.aloadN X0 hx (hb hby d_jdk_42_m3_0) (n := 1) rfl rfl rfl ?_
  refine Wk.aloadN X0 hx (hb hby d_jdk_42_m3_1) (n := 2) rfl rfl rfl ?_
  refine Wk.iconst X0 hx (hb hby d_jdk_42_m3_2) (n := 3) rfl (z := (0 : Int32)) rfl ?_
  refine Wk.aloadN X0 hx (hb hby d_jdk_42_m3_3) (n := 4) rfl rfl rfl ?_
  obtain ⟨cl1, Ar1, qn1, Sz1, N_1, H_1, Gn1⟩ := id A1
  refine Wk.arrlen X0 hx hZ e0 Ar1 Sz1 N_1 (hb hby d_jdk_42_m3_4) (n := 5) rfl ?_
  refine Wk.aconstNull X0 hx (hb hby d_jdk_42_m3_5) (n := 6) rfl ?_
  have cl2_ := fun (Ls : Array Slot) (hLs : Ls.size = c.maxLocals) => X0.specialBackS hx (y := (⟨"java/lang/String", "<init>", "([CIILjava/lang/Void;)V"⟩ : MethodName)) rfl hown (mvT hZ (hw _ (List.mem_of_getElem? (i := 8) rfl))) (mvT hZ (hw _ (List.mem_of_getElem? (i := 9) rfl))) (mvT hZ (hw _ (List.mem_of_getElem? (i := 11) rfl))) (by decide) (backWd (W := 0) (EL := own_EL) (rmV0 l Z a0 hw [] x1 b1 u1 h0 n0 (by omega) E1 F1 F2 (by omega)) hZ (hw _ (List.mem_of_getElem? (i := 11) rfl)) (hw _ (List.mem_of_getElem? (i := 4) rfl)) (by decide) (by decide) hELw R0.1 (List.forall_mem_cons.mpr ⟨ny (by omega), (fun _ q => nomatch q)⟩) (sfS Sf_x1 sf0)) (g := mkF m 6 Ls [.null, (.int (0 : Int32)), (.int (0 : Int32)), (.ref b1), (.ref x1)]) rfl hLs (Steps.refl _) (a := x1) (argsL := [(.ref b1), (.int (0 : Int32)), (.int (0 : Int32)), .null]) (rest := []) (lenOf pd_20 rfl) rfl (by show 2 * 0 + _ ≤ _; exact Nat.le_of_eq rfl) (hb hby d_jdk_42_m3_6) (fun _ _ => ⟨rfl, e0, (by decide : 0 + 4 ≤ _), (by decide : 0 + 8 ≤ _)⟩)
  refine Wk.backW (n := 9) (rc := 4) (rs := 8) (Q := Q_rmV0 Z x1 b1 u1 h0 n0) e0 Bs0 (by omega) hZ hown R0 (cl2_ _ (by rw [hml]; rfl)) fun vn2 us2 T2 L2 X2 Bs2 hZ hown A_2 R2 hQ2 => ?_
  obtain ⟨t_2, kb_2, rfl, M2, J2, p2_0, p2_1, p2_2, p2_3⟩ := hQ2
  have N2 := Fr.app N0 M2
  have sz2 := J2.1
  have K2 := K0.trans J2 (allS (Or.inl (List.mem_of_getElem? (i := 0) rfl)) all0)
  have lt_p2_0 := ny p2_0.lt
  have lt_p2_3 := ny p2_3.lt
  show Wk p e below _ T2 (mkF m 9 _ [])
  exact Wk.leaveW X2 Bs2 (by omega) (v := none) (fun _ => rfl) hlk rfl hh ⟨t_2, kb_2, rfl, N2, K2, p2_0, p2_1, p2_2, p2_3⟩ hZ hELw R2 (by decide) (by decide) (fun fs hr => X2.returnOut hx Bd.returns (hb hby d_jdk_42_m3_9) hr)
def Q_rmRI (Z : State) (a1 : Addr) (h0 : Heap) (n0 : Nat) (v : Option Value) (h : Heap) (L : List Loc) : Prop := v = none ∧ Fr n0 L ∧ h = h0
theorem ef_rmRI (m : MethodId) (x0 : Addr) : entryFrame m #[(.ref x0)] 1 = mkF m 0 #[.val (.ref x0)] [] := by first | (simp [entryFrame, mkF, argsToLocals, Value.category]; done) | rfl
theorem pn_java_lang_Record : plainName "java/lang/Record" = true := by first | (simp [plainName, overriddenIn]; done) | decide +kernel
theorem d_jdk_30_m1_0 : decode jdk_30_method_1_code 0 = .ok (.aload_n 0, 1) := by decide +kernel
theorem d_jdk_30_m1_1 : decode jdk_30_method_1_code 1 = .ok (.invokespecial 1, 3) := by decide +kernel
theorem d_jdk_30_m1_4 : decode jdk_30_method_1_code 4 = .ok (.return_, 1) := by decide +kernel
set_option maxRecDepth 65536 in
set_option maxHeartbeats 40000000 in
theorem rmRI (l : Launch) (Z : State) (a0 : Array Value) (hw : ∀ d ∈ tables_1, d.before a0 Z = true) (ws : List Jvm.Cond) (a1 : Addr) (h0 : Heap) (n0 : Nat) (Z0 : n0 ≤ h0.size) :
    MetFree l (⟨"java/lang/Record", "<init>", "()V"⟩ : MethodName) (head1 (Jvm.Cond.code (⟨"java/lang/Record", "<init>", "()V"⟩ : MethodName) jdk_30_method_1_code 1 none :: ws) ({ frames := 1, cells := 0, slots := 0, locals := 12 } : Room)) (fun a U => a = #[(.ref a1)] ∧ Z.Warmed39 U.vm ∧ U.heap = h0) (fun _ _ _ _ _ => True) (fun _ U o U' => ∃ v L, o = .returned v ∧ Q_rmRI Z a1 h0 n0 v U'.heap L ∧ FrameEnd U o U' L ({ frames := 1, cells := 0, slots := 0, locals := 12 } : Room).cells ({ frames := 1, cells := 0, slots := 0, locals := 12 } : Room).slots) := by
  refine MetFree.of_bodySF (plainFor_of_name pn_java_lang_Record) hisR ?_
  intro p e s m args below meth c s₁ Bd hml0 hP hK
  obtain ⟨rfl, hZ, hh⟩ := hP
  have hx := Bd.exec
  have hby := Bd.bytes
  have hlk := BodyLoose.notSynchronized Bd
  have hml : c.maxLocals = 1 := hml0
  have hown : s.vm.findClass "java/lang/Record" = some m.cls := findClass_of_methodNamed Bd.named
  have hnm := (name_of_methodNamed Bd.named Bd.method).1
  have X0 : Stand p l e ({ frames := 1, cells := 0, slots := 0, locals := 12 } : Room) s m #[(.ref a1)] below meth c s₁ [] 0 0 := Stand.of_body Bd
  have e0 : s₁.heap = h0 := by rw [← hh, Bd.state]; rfl
  have N0 := Fr.nil n0
  have K0 := Keep.refl h0 []
  clear hh
  show Wk p e below (EndN s (Q_rmRI Z a1 h0 n0) ({ frames := 1, cells := 0, slots := 0, locals := 12 } : Room).cells ({ frames := 1, cells := 0, slots := 0, locals := 12 } : Room).slots) s₁ (entryFrame m #[(.ref a1)] 1)
  rw [ef_rmRI]
  refine Wk.aloadN X0 hx (hb hby d_jdk_30_m1_0) (n := 1) rfl rfl rfl ?_
  refine Wk.initO X0 hx hZ hown (hw _ (List.mem_of_getElem? (i := 34) rfl)) (hw _ (List.mem_of_getElem? (i := 13) rfl)) (hw _ (List.mem_of_getElem? (i := 14) rfl)) e0 (by rw [hml]; rfl) (hb hby d_jdk_30_m1_1) (n := 4) rfl (by decide) (w := 0) (Nat.le_of_eq rfl) (by decide) fun T1 X1 e1 => ?_
  exact Wk.leave X1 (v := none) (fun _ => rfl) hlk e1 ⟨rfl, N0, rfl⟩ (by decide) (by decide) (fun fs hr => X1.returnOut hx Bd.returns (hb hby d_jdk_30_m1_4) hr)
def Q_rmLI (Z : State) (a1 : Addr) (y1 : Addr) (y2 : Addr) (u0 : Value) (u1 : Value) (h0 : Heap) (n0 : Nat) (v : Option Value) (h : Heap) (L : List Loc) : Prop := v = none ∧ Fr n0 L ∧ Keep h0 h [a1] ∧ Exa Z h a1 "com/example/net_thirty/netthirty/mail/MailServer$Login"
theorem ef_rmLI (m : MethodId) (x0 : Addr) (x1 : Addr) (x2 : Addr) : entryFrame m #[(.ref x0), (.ref x1), (.ref x2)] 3 = mkF m 0 #[.val (.ref x0), .val (.ref x1), .val (.ref x2)] [] := by first | (simp [entryFrame, mkF, argsToLocals, Value.category]; done) | rfl
theorem pn_com_example_net_thirty_netthirty_mail_MailServer_Login : plainName "com/example/net_thirty/netthirty/mail/MailServer$Login" = true := by first | (simp [plainName, overriddenIn]; done) | decide +kernel
theorem d_prog_30_m1_0 : decode prog_30_method_1_code 0 = .ok (.aload_n 0, 1) := by decide +kernel
theorem d_prog_30_m1_1 : decode prog_30_method_1_code 1 = .ok (.invokespecial 1, 3) := by decide +kernel
theorem pd_21 : parseMethodDescriptor "()V" = some ⟨[], none⟩ := by decide +kernel
theorem d_prog_30_m1_4 : decode prog_30_method_1_code 4 = .ok (.aload_n 0, 1) := by decide +kernel
theorem d_prog_30_m1_5 : decode prog_30_method_1_code 5 = .ok (.aload_n 1, 1) := by decide +kernel
theorem d_prog_30_m1_6 : decode prog_30_method_1_code 6 = .ok (.putfield 7, 3) := by decide +kernel
theorem d_prog_30_m1_9 : decode prog_30_method_1_code 9 = .ok (.aload_n 0, 1) := by decide +kernel
theorem d_prog_30_m1_10 : decode prog_30_method_1_code 10 = .ok (.aload_n 2, 1) := by decide +kernel
theorem d_prog_30_m1_11 : decode prog_30_method_1_code 11 = .ok (.putfield 13, 3) := by decide +kernel
theorem d_prog_30_m1_14 : decode prog_30_method_1_code 14 = .ok (.return_, 1) := by decide +kernel
set_option maxRecDepth 65536 in
set_option maxHeartbeats 40000000 in
theorem rmLI (l : Launch) (Z : State) (a0 : Array Value) (hw : ∀ d ∈ tables_1, d.before a0 Z = true) (ws : List Jvm.Cond) (a1 : Addr) (y1 : Addr) (y2 : Addr) (u0 : Value) (u1 : Value) (h0 : Heap) (n0 : Nat) (Z0 : n0 ≤ h0.size) (E1 : Exa Z h0 a1 "com/example/net_thirty/netthirty/mail/MailServer$Login") (F1 : Fld Z h0 a1 "com/example/net_thirty/netthirty/mail/MailServer$Login" "user" "Ljava/lang/String;" u0) (F2 : Fld Z h0 a1 "com/example/net_thirty/netthirty/mail/MailServer$Login" "password" "Ljava/lang/String;" u1) (g1 : n0 ≤ a1) :
    MetFree l (⟨"com/example/net_thirty/netthirty/mail/MailServer$Login", "<init>", "(Ljava/lang/String;Ljava/lang/String;)V"⟩ : MethodName) (head1 (Jvm.Cond.code (⟨"com/example/net_thirty/netthirty/mail/MailServer$Login", "<init>", "(Ljava/lang/String;Ljava/lang/String;)V"⟩ : MethodName) prog_30_method_1_code 3 none :: ws) ({ frames := 2, cells := 0, slots := 0, locals := 24 } : Room)) (fun a U => a = #[(.ref a1), (.ref y1), (.ref y2)] ∧ Z.Warmed39 U.vm ∧ U.heap = h0) (fun _ _ _ _ _ => True) (fun _ U o U' => ∃ v L, o = .returned v ∧ Q_rmLI Z a1 y1 y2 u0 u1 h0 n0 v U'.heap L ∧ FrameEnd U o U' L ({ frames := 2, cells := 0, slots := 0, locals := 24 } : Room).cells ({ frames := 2, cells := 0, slots := 0, locals := 24 } : Room).slots) := by
  refine MetFree.of_bodySF (plainFor_of_name pn_com_example_net_thirty_netthirty_mail_MailServer_Login) hisR ?_
  intro p e s m args below meth c s₁ Bd hml0 hP hK
  obtain ⟨rfl, hZ, hh⟩ := hP
  have hx := Bd.exec
  have hby := Bd.bytes
  have hlk := BodyLoose.notSynchronized Bd
  have hml : c.maxLocals = 3 := hml0
  have hown : s.vm.findClass "com/example/net_thirty/netthirty/mail/MailServer$Login" = some m.cls := findClass_of_methodNamed Bd.named
  have hnm := (name_of_methodNamed Bd.named Bd.method).1
  have X0 : Stand p l e ({ frames := 2, cells := 0, slots := 0, locals := 24 } : Room) s m #[(.ref a1), (.ref y1), (.ref y2)] below meth c s₁ [] 0 0 := Stand.of_body Bd
  have e0 : s₁.heap = h0 := by rw [← hh, Bd.state]; rfl
  have N0 := Fr.nil n0
  have K0 := Keep.refl h0 [a1]
  clear hh
  show Wk p e below (EndN s (Q_rmLI Z a1 y1 y2 u0 u1 h0 n0) ({ frames := 2, cells := 0, slots := 0, locals := 24 } : Room).cells ({ frames := 2, cells := 0, slots := 0, locals := 24 } : Room).slots) s₁ (entryFrame m #[(.ref a1), (.ref y1), (.ref y2)] 3)
  rw [ef_rmLI]
  have lt_E1 := ny E1.lt
  have lt_F1 := ny F1.lt
  have lt_F2 := ny F2.lt
  refine Wk.aloadN X0 hx (hb hby d_prog_30_m1_0) (n := 1) rfl rfl rfl ?_
  have cl1_ := fun (Ls : Array Slot) (hLs : Ls.size = c.maxLocals) => X0.specialBack hx (y := (⟨"java/lang/Record", "<init>", "()V"⟩ : MethodName)) rfl hown (mvT hZ (hw _ (List.mem_of_getElem? (i := 241) rfl))) (mvT hZ (hw _ (List.mem_of_getElem? (i := 30) rfl))) (mvT hZ (hw _ (List.mem_of_getElem? (i := 33) rfl))) (by decide) (backOf (W := 0) (rmRI l Z a0 hw [] a1 h0 n0 (by omega)) hZ (hw _ (List.mem_of_getElem? (i := 33) rfl)) (hw _ (List.mem_of_getElem? (i := 32) rfl)) (by decide) (by decide)) (g := mkF m 1 Ls [(.ref a1)]) rfl hLs (Steps.refl _) (a := a1) (argsL := []) (rest := []) (lenOf pd_21 rfl) rfl (by show 2 * 0 + _ ≤ _; exact Nat.le_of_eq rfl) (hb hby d_prog_30_m1_1) (fun _ _ => ⟨rfl, e0, (by decide : 0 + 0 ≤ _), (by decide : 0 + 0 ≤ _)⟩)
  refine Wk.back (n := 4) (rc := 0) (rs := 0) (Q := Q_rmRI Z a1 h0 n0) (cl1_ _ (by rw [hml]; rfl)) fun vn1 T1 L1 X1 hQ1 => ?_
  clear cl1_
  obtain ⟨rfl, M1, e1⟩ := hQ1
  have N1 := Fr.app N0 M1
  show Wk p e below _ T1 (mkF m 4 _ [])
  refine Wk.aloadN X1 hx (hb hby d_prog_30_m1_4) (n := 5) rfl rfl rfl ?_
  refine Wk.aloadN X1 hx (hb hby d_prog_30_m1_5) (n := 6) rfl rfl rfl ?_
  refine Wk.putF X1 hx hZ hown (host := "") (Or.inl (hw _ (List.mem_of_getElem? (i := 242) rfl))) Via.refl e1 F1 E1 (Or.inr ⟨(hw _ (List.mem_of_getElem? (i := 243) rfl)), rfl, hnm⟩) (hw _ (List.mem_of_getElem? (i := 223) rfl)) (ty := (.object "java/lang/String")) (by decide) rfl rfl (hb hby d_prog_30_m1_6) (n := 9) rfl fun T2 H2 X2 e2 Wn2 => ?_
  have sz2 := Wn2.size
  have Fn2 := F1.same Wn2
  have K2 := K0.wr Wn2 (Or.inl (List.mem_of_getElem? (i := 0) rfl))
  have N2 := Fr.snoc X2 N1 (by omega)
  refine Wk.aloadN X2 hx (hb hby d_prog_30_m1_9) (n := 10) rfl rfl rfl ?_
  refine Wk.aloadN X2 hx (hb hby d_prog_30_m1_10) (n := 11) rfl rfl rfl ?_
  have f3 := (F2.other Wn2 (Or.inr (slot_ne (Or.inr (hw _ (List.mem_of_getElem? (i := 245) rfl))) (Or.inr (hw _ (List.mem_of_getElem? (i := 243) rfl))) (by decide) (t := (.object "java/lang/String")) (t' := (.object "java/lang/String")) (by decide) (by decide))))
  have f4 := (E1.wr Wn2)
  refine Wk.putF X2 hx hZ hown (host := "") (Or.inl (hw _ (List.mem_of_getElem? (i := 244) rfl))) Via.refl e2 f3 f4 (Or.inr ⟨(hw _ (List.mem_of_getElem? (i := 245) rfl)), rfl, hnm⟩) (hw _ (List.mem_of_getElem? (i := 223) rfl)) (ty := (.object "java/lang/String")) (by decide) rfl rfl (hb hby d_prog_30_m1_11) (n := 14) rfl fun T5 H5 X5 e5 Wn5 => ?_
  have sz5 := Wn5.size
  have Fn5 := f3.same Wn5
  have K5 := K2.wr Wn5 (Or.inl (List.mem_of_getElem? (i := 0) rfl))
  have N5 := Fr.snoc X5 N2 (by omega)
  have f6 := (f4.wr Wn5)
  exact Wk.leave X5 (v := none) (fun _ => rfl) hlk e5 ⟨rfl, N5, K5, f6⟩ (by decide) (by decide) (fun fs hr => X5.returnOut hx Bd.returns (hb hby d_prog_30_m1_14) hr)
def Q_rmMI (Z : State) (a1 : Addr) (y1 : Addr) (p1 : Int32) (p2 : Int32) (lg : Value) (u0 : Value) (u1 : Value) (u2 : Value) (u3 : Value) (h0 : Heap) (n0 : Nat) (v : Option Value) (h : Heap) (L : List Loc) : Prop := v = none ∧ Fr n0 L ∧ Keep h0 h [a1] ∧ Exa Z h a1 "com/example/net_thirty/netthirty/mail/MailServer" ∧ Fld Z h a1 "com/example/net_thirty/netthirty/mail/MailServer" "host" "Ljava/lang/String;" (.ref y1) ∧ Fld Z h a1 "com/example/net_thirty/netthirty/mail/MailServer" "port" "I" (.int p1)
theorem ef_rmMI (m : MethodId) (x0 : Addr) (x1 : Addr) (x2 : Int32) (x3 : Int32) (x4 : Value) (hq4 : x4.isRef = true) : entryFrame m #[(.ref x0), (.ref x1), (.int x2), (.int x3), x4] 5 = mkF m 0 #[.val (.ref x0), .val (.ref x1), .val (.int x2), .val (.int x3), .val x4] [] := by rcases ref_cases hq4 with rfl | ⟨z4, rfl⟩ <;> first | (simp [entryFrame, mkF, argsToLocals, Value.category]; done) | rfl
theorem pn_com_example_net_thirty_netthirty_mail_MailServer : plainName "com/example/net_thirty/netthirty/mail/MailServer" = true := by first | (simp [plainName, overriddenIn]; done) | decide +kernel
theorem d_prog_29_m1_0 : decode prog_29_method_1_code 0 = .ok (.aload_n 0, 1) := by decide +kernel
theorem d_prog_29_m1_1 : decode prog_29_method_1_code 1 = .ok (.invokespecial 1, 3) := by decide +kernel
theorem d_prog_29_m1_4 : decode prog_29_method_1_code 4 = .ok (.aload_n 0, 1) := by decide +kernel
theorem d_prog_29_m1_5 : decode prog_29_method_1_code 5 = .ok (.aload_n 1, 1) := by decide +kernel
theorem d_prog_29_m1_6 : decode prog_29_method_1_code 6 = .ok (.putfield 7, 3) := by decide +kernel
theorem d_prog_29_m1_9 : decode prog_29_method_1_code 9 = .ok (.aload_n 0, 1) := by decide +kernel
theorem d_prog_29_m1_10 : decode prog_29_method_1_code 10 = .ok (.iload_n 2, 1) := by decide +kernel
theorem d_prog_29_m1_11 : decode prog_29_method_1_code 11 = .ok (.putfield 13, 3) := by decide +kernel
theorem d_prog_29_m1_14 : decode prog_29_method_1_code 14 = .ok (.aload_n 0, 1) := by decide +kernel
theorem d_prog_29_m1_15 : decode prog_29_method_1_code 15 = .ok (.iload_n 3, 1) := by decide +kernel
theorem d_prog_29_m1_16 : decode prog_29_method_1_code 16 = .ok (.putfield 17, 3) := by decide +kernel
theorem d_prog_29_m1_19 : decode prog_29_method_1_code 19 = .ok (.aload_n 0, 1) := by decide +kernel
theorem d_prog_29_m1_20 : decode prog_29_method_1_code 20 = .ok (.aload 4, 2) := by decide +kernel
theorem d_prog_29_m1_22 : decode prog_29_method_1_code 22 = .ok (.putfield 21, 3) := by decide +kernel
theorem d_prog_29_m1_25 : decode prog_29_method_1_code 25 = .ok (.return_, 1) := by decide +kernel
set_option maxRecDepth 65536 in
set_option maxHeartbeats 40000000 in
theorem rmMI (l : Launch) (Z : State) (a0 : Array Value) (hw : ∀ d ∈ tables_1, d.before a0 Z = true) (ws : List Jvm.Cond) (a1 : Addr) (y1 : Addr) (p1 : Int32) (p2 : Int32) (lg : Value) (u0 : Value) (u1 : Value) (u2 : Value) (u3 : Value) (h0 : Heap) (n0 : Nat) (Z0 : n0 ≤ h0.size) (E1 : Exa Z h0 a1 "com/example/net_thirty/netthirty/mail/MailServer") (F1 : Fld Z h0 a1 "com/example/net_thirty/netthirty/mail/MailServer" "host" "Ljava/lang/String;" u0) (F2 : Fld Z h0 a1 "com/example/net_thirty/netthirty/mail/MailServer" "port" "I" u1) (F3 : Fld Z h0 a1 "com/example/net_thirty/netthirty/mail/MailServer" "startTls" "Z" u2) (F4 : Fld Z h0 a1 "com/example/net_thirty/netthirty/mail/MailServer" "login" "Lcom/example/net_thirty/netthirty/mail/MailServer$Login;" u3) (g1 : n0 ≤ a1) (hlg : lg.isRef = true) :
    MetFree l (⟨"com/example/net_thirty/netthirty/mail/MailServer", "<init>", "(Ljava/lang/String;IZLcom/example/net_thirty/netthirty/mail/MailServer$Login;)V"⟩ : MethodName) (head1 (Jvm.Cond.code (⟨"com/example/net_thirty/netthirty/mail/MailServer", "<init>", "(Ljava/lang/String;IZLcom/example/net_thirty/netthirty/mail/MailServer$Login;)V"⟩ : MethodName) prog_29_method_1_code 5 none :: ws) ({ frames := 2, cells := 0, slots := 0, locals := 24 } : Room)) (fun a U => a = #[(.ref a1), (.ref y1), (.int p1), (.int p2), lg] ∧ Z.Warmed39 U.vm ∧ U.heap = h0) (fun _ _ _ _ _ => True) (fun _ U o U' => ∃ v L, o = .returned v ∧ Q_rmMI Z a1 y1 p1 p2 lg u0 u1 u2 u3 h0 n0 v U'.heap L ∧ FrameEnd U o U' L ({ frames := 2, cells := 0, slots := 0, locals := 24 } : Room).cells ({ frames := 2, cells := 0, slots := 0, locals := 24 } : Room).slots) := by
  refine MetFree.of_bodySF (plainFor_of_name pn_com_example_net_thirty_netthirty_mail_MailServer) hisR ?_
  intro p e s m args below meth c s₁ Bd hml0 hP hK
  obtain ⟨rfl, hZ, hh⟩ := hP
  have hx := Bd.exec
  have hby := Bd.bytes
  have hlk := BodyLoose.notSynchronized Bd
  have hml : c.maxLocals = 5 := hml0
  have hown : s.vm.findClass "com/example/net_thirty/netthirty/mail/MailServer" = some m.cls := findClass_of_methodNamed Bd.named
  have hnm := (name_of_methodNamed Bd.named Bd.method).1
  have X0 : Stand p l e ({ frames := 2, cells := 0, slots := 0, locals := 24 } : Room) s m #[(.ref a1), (.ref y1), (.int p1), (.int p2), lg] below meth c s₁ [] 0 0 := Stand.of_body Bd
  have e0 : s₁.heap = h0 := by rw [← hh, Bd.state]; rfl
  have N0 := Fr.nil n0
  have K0 := Keep.refl h0 [a1]
  clear hh
  show Wk p e below (EndN s (Q_rmMI Z a1 y1 p1 p2 lg u0 u1 u2 u3 h0 n0) ({ frames := 2, cells := 0, slots := 0, locals := 24 } : Room).cells ({ frames := 2, cells := 0, slots := 0, locals := 24 } : Room).slots) s₁ (entryFrame m #[(.ref a1), (.ref y1), (.int p1), (.int p2), lg] 5)
  rw [ef_rmMI m a1 y1 p1 p2 lg hlg]
  have lt_E1 := ny E1.lt
  have lt_F1 := ny F1.lt
  have lt_F2 := ny F2.lt
  have lt_F3 := ny F3.lt
  have lt_F4 := ny F4.lt
  refine Wk.aloadN X0 hx (hb hby d_prog_29_m1_0) (n := 1) rfl rfl rfl ?_
  have cl1_ := fun (Ls : Array Slot) (hLs : Ls.size = c.maxLocals) => X0.specialBack hx (y := (⟨"java/lang/Record", "<init>", "()V"⟩ : MethodName)) rfl hown (mvT hZ (hw _ (List.mem_of_getElem? (i := 29) rfl))) (mvT hZ (hw _ (List.mem_of_getElem? (i := 30) rfl))) (mvT hZ (hw _ (List.mem_of_getElem? (i := 33) rfl))) (by decide) (backOf (W := 0) (rmRI l Z a0 hw [] a1 h0 n0 (by omega)) hZ (hw _ (List.mem_of_getElem? (i := 33) rfl)) (hw _ (List.mem_of_getElem? (i := 32) rfl)) (by decide) (by decide)) (g := mkF m 1 Ls [(.ref a1)]) rfl hLs (Steps.refl _) (a := a1) (argsL := []) (rest := []) (lenOf pd_21 rfl) rfl (by show 2 * 0 + _ ≤ _; exact Nat.le_of_eq rfl) (hb hby d_prog_29_m1_1) (fun _ _ => ⟨rfl, e0, (by decide : 0 + 0 ≤ _), (by decide : 0 + 0 ≤ _)⟩)
  refine Wk.back (n := 4) (rc := 0) (rs := 0) (Q := Q_rmRI Z a1 h0 n0) (cl1_ _ (by rw [hml]; rfl)) fun vn1 T1 L1 X1 hQ1 => ?_
  clear cl1_
  obtain ⟨rfl, M1, e1⟩ := hQ1
  have N1 := Fr.app N0 M1
  show Wk p e below _ T1 (mkF m 4 _ [])
  refine Wk.aloadN X1 hx (hb hby d_prog_29_m1_4) (n := 5) rfl rfl rfl ?_
  refine Wk.aloadN X1 hx (hb hby d_prog_29_m1_5) (n := 6) rfl rfl rfl ?_
  refine Wk.putF X1 hx hZ hown (host := "") (Or.inl (hw _ (List.mem_of_getElem? (i := 35) rfl))) Via.refl e1 F1 E1 (Or.inr ⟨(hw _ (List.mem_of_getElem? (i := 36) rfl)), rfl, hnm⟩) (hw _ (List.mem_of_getElem? (i := 24) rfl)) (ty := (.object "java/lang/String")) (by decide) rfl rfl (hb hby d_prog_29_m1_6) (n := 9) rfl fun T2 H2 X2 e2 Wn2 => ?_
  have sz2 := Wn2.size
  have Fn2 := F1.same Wn2
  have K2 := K0.wr Wn2 (Or.inl (List.mem_of_getElem? (i := 0) rfl))
  have N2 := Fr.snoc X2 N1 (by omega)
  refine Wk.aloadN X2 hx (hb hby d_prog_29_m1_9) (n := 10) rfl rfl rfl ?_
  refine Wk.iloadN X2 hx (hb hby d_prog_29_m1_10) (n := 11) rfl rfl ?_
  have f3 := (F2.other Wn2 (Or.inr (slot_ne (Or.inr (hw _ (List.mem_of_getElem? (i := 38) rfl))) (Or.inr (hw _ (List.mem_of_getElem? (i := 36) rfl))) (by decide) (t := .int) (t' := (.object "java/lang/String")) (by decide) (by decide))))
  have f4 := (E1.wr Wn2)
  refine Wk.putF X2 hx hZ hown (host := "") (Or.inl (hw _ (List.mem_of_getElem? (i := 37) rfl))) Via.refl e2 f3 f4 (Or.inr ⟨(hw _ (List.mem_of_getElem? (i := 38) rfl)), rfl, hnm⟩) (hw _ (List.mem_of_getElem? (i := 24) rfl)) (ty := .int) (by decide) rfl rfl (hb hby d_prog_29_m1_11) (n := 14) rfl fun T5 H5 X5 e5 Wn5 => ?_
  have sz5 := Wn5.size
  have Fn5 := f3.same Wn5
  have K5 := K2.wr Wn5 (Or.inl (List.mem_of_getElem? (i := 0) rfl))
  have N5 := Fr.snoc X5 N2 (by omega)
  refine Wk.aloadN X5 hx (hb hby d_prog_29_m1_14) (n := 15) rfl rfl rfl ?_
  refine Wk.iloadN X5 hx (hb hby d_prog_29_m1_15) (n := 16) rfl rfl ?_
  have f6 := ((F3.other Wn2 (Or.inr (slot_ne (Or.inr (hw _ (List.mem_of_getElem? (i := 40) rfl))) (Or.inr (hw _ (List.mem_of_getElem? (i := 36) rfl))) (by decide) (t := .boolean) (t' := (.object "java/lang/String")) (by decide) (by decide)))).other Wn5 (Or.inr (slot_ne (Or.inr (hw _ (List.mem_of_getElem? (i := 40) rfl))) (Or.inr (hw _ (List.mem_of_getElem? (i := 38) rfl))) (by decide) (t := .boolean) (t' := .int) (by decide) (by decide))))
  have f7 := (f4.wr Wn5)
  refine Wk.putFN X5 hx hZ hown (hw _ (List.mem_of_getElem? (i := 39) rfl)) Via.refl e5 f6 f7 (Or.inr ⟨(hw _ (List.mem_of_getElem? (i := 40) rfl)), rfl, hnm⟩) (hw _ (List.mem_of_getElem? (i := 24) rfl)) (ty := .boolean) (by decide) (v' := (.int (p2 &&& 1))) rfl (fits_nar_bool _) (hb hby d_prog_29_m1_16) (n := 19) rfl fun T8 H8 X8 e8 Wn8 => ?_
  have sz8 := Wn8.size
  have Fn8 := f6.same Wn8
  have K8 := K5.wr Wn8 (Or.inl (List.mem_of_getElem? (i := 0) rfl))
  have N8 := Fr.snoc X8 N5 (by omega)
  refine Wk.aloadN X8 hx (hb hby d_prog_29_m1_19) (n := 20) rfl rfl rfl ?_
  refine Wk.aload X8 hx (hb hby d_prog_29_m1_20) (n := 22) rfl rfl hlg ?_
  have f9 := (((F4.other Wn2 (Or.inr (slot_ne (Or.inr (hw _ (List.mem_of_getElem? (i := 42) rfl))) (Or.inr (hw _ (List.mem_of_getElem? (i := 36) rfl))) (by decide) (t := (.object "com/example/net_thirty/netthirty/mail/MailServer$Login")) (t' := (.object "java/lang/String")) (by decide) (by decide)))).other Wn5 (Or.inr (slot_ne (Or.inr (hw _ (List.mem_of_getElem? (i := 42) rfl))) (Or.inr (hw _ (List.mem_of_getElem? (i := 38) rfl))) (by decide) (t := (.object "com/example/net_thirty/netthirty/mail/MailServer$Login")) (t' := .int) (by decide) (by decide)))).other Wn8 (Or.inr (slot_ne (Or.inr (hw _ (List.mem_of_getElem? (i := 42) rfl))) (Or.inr (hw _ (List.mem_of_getElem? (i := 40) rfl))) (by decide) (t := (.object "com/example/net_thirty/netthirty/mail/MailServer$Login")) (t' := .boolean) (by decide) (by decide))))
  have f10 := (f7.wr Wn8)
  refine Wk.putF X8 hx hZ hown (host := "") (Or.inl (hw _ (List.mem_of_getElem? (i := 41) rfl))) Via.refl e8 f9 f10 (Or.inr ⟨(hw _ (List.mem_of_getElem? (i := 42) rfl)), rfl, hnm⟩) (hw _ (List.mem_of_getElem? (i := 24) rfl)) (ty := (.object "com/example/net_thirty/netthirty/mail/MailServer$Login")) (by decide) (own_narr hlg) (own_fitr hlg) (hb hby d_prog_29_m1_22) (n := 25) rfl fun T11 H11 X11 e11 Wn11 => ?_
  have sz11 := Wn11.size
  have Fn11 := f9.same Wn11
  have K11 := K8.wr Wn11 (Or.inl (List.mem_of_getElem? (i := 0) rfl))
  have N11 := Fr.snoc X11 N8 (by omega)
  have f12 := (f10.wr Wn11)
  have f13 := (((Fn2.other Wn5 (Or.inr (slot_ne (Or.inr (hw _ (List.mem_of_getElem? (i := 36) rfl))) (Or.inr (hw _ (List.mem_of_getElem? (i := 38) rfl))) (by decide) (t := (.object "java/lang/String")) (t' := .int) (by decide) (by decide)))).other Wn8 (Or.inr (slot_ne (Or.inr (hw _ (List.mem_of_getElem? (i := 36) rfl))) (Or.inr (hw _ (List.mem_of_getElem? (i := 40) rfl))) (by decide) (t := (.object "java/lang/String")) (t' := .boolean) (by decide) (by decide)))).other Wn11 (Or.inr (slot_ne (Or.inr (hw _ (List.mem_of_getElem? (i := 36) rfl))) (Or.inr (hw _ (List.mem_of_getElem? (i := 42) rfl))) (by decide) (t := (.object "java/lang/String")) (t' := (.object "com/example/net_thirty/netthirty/mail/MailServer$Login")) (by decide) (by decide))))
  have f14 := ((Fn5.other Wn8 (Or.inr (slot_ne (Or.inr (hw _ (List.mem_of_getElem? (i := 38) rfl))) (Or.inr (hw _ (List.mem_of_getElem? (i := 40) rfl))) (by decide) (t := .int) (t' := .boolean) (by decide) (by decide)))).other Wn11 (Or.inr (slot_ne (Or.inr (hw _ (List.mem_of_getElem? (i := 38) rfl))) (Or.inr (hw _ (List.mem_of_getElem? (i := 42) rfl))) (by decide) (t := .int) (t' := (.object "com/example/net_thirty/netthirty/mail/MailServer$Login")) (by decide) (by decide))))
  exact Wk.leave X11 (v := none) (fun _ => rfl) hlk e11 ⟨rfl, N11, K11, f12, f13, f14⟩ (by decide) (by decide) (fun fs hr => X11.returnOut hx Bd.returns (hb hby d_prog_29_m1_25) hr)
def Q_rmAdr (Z : State) (a1 : Addr) (p1 : Int32) (x1 : Addr) (t1 : Addr) (k1 : ClassId) (c1 : List Int32) (zc : Int32) (dO : Addr) (kO : ClassId) (dT : Addr) (kT : ClassId) (h0 : Heap) (n0 : Nat) (v : Option Value) (h : Heap) (L : List Loc) : Prop := ∃ (r : Addr) (t : Addr) (kb : ClassId), v = some (.ref r) ∧ Fr n0 L ∧ Keep h0 h [] ∧ Exa Z h r "java/lang/String" ∧ Fld Z h r "java/lang/String" "value" "[B" (.ref t) ∧ Fld Z h r "java/lang/String" "coder" "B" (.int (0 : Int32)) ∧ Arv Z h t kb .byte (Int32.ofNat (c1 ++ 58 :: (sgl p1 ++ dl (mg p1))).length) (bsV (c1 ++ 58 :: (sgl p1 ++ dl (mg p1)))) (.int (0 : Int32))
theorem ef_rmAdr (m : MethodId) (x0 : Addr) : entryFrame m #[(.ref x0)] 1 = mkF m 0 #[.val (.ref x0)] [] := by first | (simp [entryFrame, mkF, argsToLocals, Value.category]; done) | rfl
theorem d_prog_29_m2_0 : decode prog_29_method_2_code 0 = .ok (.new 25, 3) := by decide +kernel
theorem d_prog_29_m2_3 : decode prog_29_method_2_code 3 = .ok (.dup, 1) := by decide +kernel
theorem d_prog_29_m2_4 : decode prog_29_method_2_code 4 = .ok (.invokespecial 27, 3) := by decide +kernel
theorem d_prog_29_m2_7 : decode prog_29_method_2_code 7 = .ok (.aload_n 0, 1) := by decide +kernel
theorem d_prog_29_m2_8 : decode prog_29_method_2_code 8 = .ok (.getfield 7, 3) := by decide +kernel
theorem d_prog_29_m2_11 : decode prog_29_method_2_code 11 = .ok (.invokevirtual 28, 3) := by decide +kernel
theorem pd_22 : parseMethodDescriptor "(Ljava/lang/String;)Ljava/lang/StringBuilder;" = some ⟨[(.object "java/lang/String")], some (.object "java/lang/StringBuilder")⟩ := by decide +kernel
theorem d_prog_29_m2_14 : decode prog_29_method_2_code 14 = .ok (.ldc 32, 2) := by decide +kernel
theorem d_prog_29_m2_16 : decode prog_29_method_2_code 16 = .ok (.invokevirtual 28, 3) := by decide +kernel
theorem d_prog_29_m2_19 : decode prog_29_method_2_code 19 = .ok (.aload_n 0, 1) := by decide +kernel
theorem d_prog_29_m2_20 : decode prog_29_method_2_code 20 = .ok (.getfield 13, 3) := by decide +kernel
theorem d_prog_29_m2_23 : decode prog_29_method_2_code 23 = .ok (.invokevirtual 34, 3) := by decide +kernel
theorem pd_23 : parseMethodDescriptor "(I)Ljava/lang/StringBuilder;" = some ⟨[.int], some (.object "java/lang/StringBuilder")⟩ := by decide +kernel
theorem d_prog_29_m2_26 : decode prog_29_method_2_code 26 = .ok (.invokevirtual 37, 3) := by decide +kernel
theorem pd_24 : parseMethodDescriptor "()Ljava/lang/String;" = some ⟨[], some (.object "java/lang/String")⟩ := by decide +kernel
theorem d_prog_29_m2_29 : decode prog_29_method_2_code 29 = .ok (.areturn, 1) := by decide +kernel
set_option maxRecDepth 65536 in
set_option maxHeartbeats 40000000 in
theorem rmAdr (l : Launch) (Z : State) (a0 : Array Value) (hw : ∀ d ∈ tables_1, d.before a0 Z = true) (ws : List Jvm.Cond) (a1 : Addr) (p1 : Int32) (x1 : Addr) (t1 : Addr) (k1 : ClassId) (c1 : List Int32) (zc : Int32) (dO : Addr) (kO : ClassId) (dT : Addr) (kT : ClassId) (h0 : Heap) (n0 : Nat) (Z0 : n0 ≤ h0.size) (E1 : Exa Z h0 a1 "com/example/net_thirty/netthirty/mail/MailServer") (F1 : Fld Z h0 a1 "com/example/net_thirty/netthirty/mail/MailServer" "host" "Ljava/lang/String;" (.ref x1)) (F3 : Fld Z h0 a1 "com/example/net_thirty/netthirty/mail/MailServer" "port" "I" (.int p1)) (Es1 : Exa Z h0 x1 "java/lang/String") (Fv1 : Fld Z h0 x1 "java/lang/String" "value" "[B" (.ref t1)) (Fc1 : Fld Z h0 x1 "java/lang/String" "coder" "B" (.int (0 : Int32))) (As1 : Arv Z h0 t1 k1 .byte (Int32.ofNat c1.length) (bsV c1) (.int (0 : Int32))) (S4 : Sta Z Z.heap "java/lang/String" "COMPACT_STRINGS" "Z" (.int zc)) (O1 : Old Z n0 h0) (S6 : Sta Z Z.heap "java/lang/Integer" "DigitOnes" "[B" (.ref dO)) (S7 : Sta Z Z.heap "java/lang/Integer" "DigitTens" "[B" (.ref dT)) (A6 : Arv Z Z.heap dO kO .byte (100 : Int32) dgO (.int (0 : Int32))) (A7 : Arv Z Z.heap dT kT .byte (100 : Int32) dgT (.int (0 : Int32))) (hCS : ¬ zc = 0) (l1 : c1.length ≤ 3) (q1 : ∀ c ∈ c1, ¬ c < 0 ∧ ¬ (255 : Int32) < c) :
    MetFree l (⟨"com/example/net_thirty/netthirty/mail/MailServer", "address", "()Ljava/lang/String;"⟩ : MethodName) (head1 (Jvm.Cond.code (⟨"com/example/net_thirty/netthirty/mail/MailServer", "address", "()Ljava/lang/String;"⟩ : MethodName) prog_29_method_2_code 1 (some (.object "java/lang/String")) :: ws) ({ frames := 6, cells := 6, slots := 48, locals := 105 } : Room)) (fun a U => a = #[(.ref a1)] ∧ Z.Warmed39 U.vm ∧ U.heap = h0 ∧ CHv Z own_EL U.vm h0 ∧ ∀ x ∈ ([] : List Addr), Safe Z own_EL U.vm h0 x) (fun _ _ _ _ _ => True) (fun _ U o U' => ∃ v L, o = .returned v ∧ Q_rmAdr Z a1 p1 x1 t1 k1 c1 zc dO kO dT kT h0 n0 v U'.heap L ∧ CHr Z own_EL U.vm U.heap U'.vm U'.heap ∧ ReturnedEndW U o U' L ({ frames := 6, cells := 6, slots := 48, locals := 105 } : Room).cells ({ frames := 6, cells := 6, slots := 48, locals := 105 } : Room).slots) := by
  refine MetFree.of_bodySF (plainFor_of_name pn_com_example_net_thirty_netthirty_mail_MailServer) hisR ?_
  intro p e s m args below meth c s₁ Bd hml0 hP hK
  obtain ⟨rfl, hZ, hh, hCH, hSf⟩ := hP
  have hx := Bd.exec
  have hby := Bd.bytes
  have hlk := BodyLoose.notSynchronized Bd
  have hml : c.maxLocals = 1 := hml0
  have hown : s.vm.findClass "com/example/net_thirty/netthirty/mail/MailServer" = some m.cls := findClass_of_methodNamed Bd.named
  have hnm := (name_of_methodNamed Bd.named Bd.method).1
  have X0 : Stand p l e ({ frames := 6, cells := 6, slots := 48, locals := 105 } : Room) s m #[(.ref a1)] below meth c s₁ [] 0 0 := Stand.of_body Bd
  have e0 : s₁.heap = h0 := by rw [← hh, Bd.state]; rfl
  have N0 := Fr.nil n0
  have K0 := Keep.refl h0 []
  skip
  show Wk p e below (EndW Z own_EL s (Q_rmAdr Z a1 p1 x1 t1 k1 c1 zc dO kO dT kT h0 n0) ({ frames := 6, cells := 6, slots := 48, locals := 105 } : Room).cells ({ frames := 6, cells := 6, slots := 48, locals := 105 } : Room).slots) s₁ (entryFrame m #[(.ref a1)] 1)
  rw [ef_rmAdr]
  have Bs0 := Base.start s h0.size
  have R0 := CHr.refl hCH
  have hELw := own_ew hw
  have lt_E1 := ny E1.lt
  have lt_F1 := ny F1.lt
  have lt_F3 := ny F3.lt
  have lt_Es1 := ny Es1.lt
  have lt_Fv1 := ny Fv1.lt
  have lt_Fc1 := ny Fc1.lt
  have lt_As1 := ny As1.lt
  have lG1 := sgl_le p1
  have lG2 := dl_le (mg p1) (mg_le p1)
  refine Wk.newO X0 hx hZ hown (hw _ (List.mem_of_getElem? (i := 48) rfl)) (hw _ (List.mem_of_getElem? (i := 49) rfl)) (hw _ (List.mem_of_getElem? (i := 50) rfl)) e0 (hb hby d_prog_29_m2_0) (n := 3) rfl (by decide) (by decide) fun T1 H1 b1 gn1 X1 e1 Ex1 An1 Dn1 Yn1 => ?_
  have gn1 := nx gn1
  have sz1 := Ex1.1
  have lt1 := ny An1.lt
  have K1 := K0.ext Ex1
  have R1 := R0.trans (CHr.ext Ex1 R0.1)
  have Fn1_value : Fld Z H1 b1 "java/lang/AbstractStringBuilder" "value" "[B" .null := Dn1 (Or.inl (hw _ (List.mem_of_getElem? (i := 63) rfl))) (ty := (.array .byte)) (by decide)
  have Fn1_coder : Fld Z H1 b1 "java/lang/AbstractStringBuilder" "coder" "B" (.int (0 : Int32)) := Dn1 (Or.inl (hw _ (List.mem_of_getElem? (i := 65) rfl))) (ty := .byte) (by decide)
  have Fn1_count : Fld Z H1 b1 "java/lang/AbstractStringBuilder" "count" "I" (.int (0 : Int32)) := Dn1 (Or.inl (hw _ (List.mem_of_getElem? (i := 88) rfl))) (ty := .int) (by decide)
  refine Wk.dup X1 hx (hb hby d_prog_29_m2_3) (n := 4) rfl rfl ?_
  have f2 := (O1.ext Ex1)
  have cl3_ := fun (Ls : Array Slot) (hLs : Ls.size = c.maxLocals) => X1.specialBack hx (y := (⟨"java/lang/StringBuilder", "<init>", "()V"⟩ : MethodName)) rfl hown (mvT hZ (hw _ (List.mem_of_getElem? (i := 51) rfl))) (mvT hZ (hw _ (List.mem_of_getElem? (i := 52) rfl))) (mvT hZ (hw _ (List.mem_of_getElem? (i := 53) rfl))) (by decide) (backOf (W := 1) (sbI0 l Z a0 hw [] b1 .null zc H1 n0 (by omega) An1 Fn1_value Fn1_coder Fn1_count S4 f2 (by omega) hCS) hZ (hw _ (List.mem_of_getElem? (i := 53) rfl)) (hw _ (List.mem_of_getElem? (i := 50) rfl)) (by decide) (by decide)) (g := mkF m 4 Ls [(.ref b1), (.ref b1)]) rfl hLs (Steps.refl _) (a := b1) (argsL := []) (rest := [(.ref b1)]) (lenOf pd_21 rfl) rfl (by show 2 * 0 + _ ≤ _; exact Nat.le_of_eq rfl) (hb hby d_prog_29_m2_4) (fun _ _ => ⟨rfl, e1, (by decide : 0 + 1 + 1 ≤ _), (by decide : 0 + 4 + 16 ≤ _)⟩)
  refine Wk.back (n := 7) (rc := 1) (rs := 16) (Q := Q_sbI0 Z b1 .null zc H1 n0) (cl3_ _ (by rw [hml]; rfl)) fun vn3 T3 L3 X3 hQ3 => ?_
  clear cl3_
  obtain ⟨t_3, kb_3, rfl, M3, J3, p3_0, p3_1, p3_2, p3_3, p3_4, gt_3⟩ := hQ3
  have N3 := Fr.app N0 M3
  have sz3 := J3.1
  have hs3 : ∀ x ∈ ([b1] : List Addr), Safe Z own_EL s.vm H1 x := (sfS (Safe.exa (EL := own_EL) hZ.alike An1 (by decide) (by decide)) sf0)
  have R3 := R1.trans (CHr.keep J3 hs3 R1.1)
  have K3 := K1.trans J3 (allS (Or.inr (by omega)) all0)
  have lt_p3_0 := ny p3_0.lt
  have lt_p3_4 := ny p3_4.lt
  have Sf3_t := Safe.keep (x := t_3) J3 hs3 R1.1 (Safe.new (by omega))
  show Wk p e below _ T3 (mkF m 7 _ [(.ref b1)])
  refine Wk.aloadN X3 hx (hb hby d_prog_29_m2_7) (n := 8) rfl rfl rfl ?_
  have f4 := ((F1.ext Ex1).keep J3 (ninS (nz (by omega)) nin0))
  refine Wk.getF X3 hx hZ hown (host := "") (Or.inl (hw _ (List.mem_of_getElem? (i := 35) rfl))) Via.refl rfl f4 (hb hby d_prog_29_m2_8) (n := 11) rfl fun T5 X5 e5 => ?_
  have f6 := ((Es1.ext Ex1).keep J3)
  have f7 := ((Fv1.ext Ex1).keep J3 (ninS (nz (by omega)) nin0))
  have f8 := ((Fc1.ext Ex1).keep J3 (ninS (nz (by omega)) nin0))
  have f9 := ((As1.ext Ex1).keep J3 (ninS (nz (by omega)) nin0))
  have f10 := (f2.keep J3 (allS (by omega) all0))
  obtain ⟨cq11, kq11, qn11a, qn11b, qn11c⟩ := isOf hZ e5 p3_0
  have cl11_ := fun (Ls : Array Slot) (hLs : Ls.size = c.maxLocals) => X5.virtualBack hx (y := (⟨"java/lang/StringBuilder", "append", "(Ljava/lang/String;)Ljava/lang/StringBuilder;"⟩ : MethodName)) (z := (⟨"java/lang/StringBuilder", "append", "(Ljava/lang/String;)Ljava/lang/StringBuilder;"⟩ : MethodName)) hown (mvT hZ (hw _ (List.mem_of_getElem? (i := 66) rfl))) (mvT hZ (hw _ (List.mem_of_getElem? (i := 67) rfl))) (notFace_of_selects (args := #[]) (mvT hZ (hw _ (List.mem_of_getElem? (i := 69) rfl)))) (mvT hZ (hw _ (List.mem_of_getElem? (i := 69) rfl))) (mvT hZ (hw _ (List.mem_of_getElem? (i := 68) rfl))) (by decide) (backOf (W := 0) (sbSA l Z a0 hw [] b1 x1 t1 k1 c1 t_3 kb_3 ([] : List Int32) zc T3.heap n0 (by omega) p3_0 p3_1 p3_2 p3_3 p3_4 f6 f7 f8 f9 S4 f10 hCS q1 (by simp only [List.length_append, List.length_cons, List.length_nil]; omega) (by omega) (by omega) (by omega) (by omega)) hZ (hw _ (List.mem_of_getElem? (i := 70) rfl)) (hw _ (List.mem_of_getElem? (i := 50) rfl)) (by decide) (by decide)) qn11a qn11c (g := mkF m 11 Ls [(.ref x1), (.ref b1)]) rfl hLs (Steps.refl _) (argsL := [(.ref x1)]) (rest := []) (lenOf pd_22 rfl) rfl (by show 2 * 0 + _ ≤ _; exact Nat.le_of_eq rfl) (hb hby d_prog_29_m2_11) (fun _ _ => ⟨rfl, e5, (by decide : 0 + 1 + 1 + 0 ≤ _), (by decide : 0 + 4 + 16 + 0 ≤ _)⟩)
  refine Wk.back (n := 14) (rc := 0) (rs := 0) (Q := Q_sbSA Z b1 x1 t1 k1 c1 t_3 kb_3 ([] : List Int32) zc T3.heap n0) (cl11_ _ (by rw [hml]; rfl)) fun vn11 T11 L11 X11 hQ11 => ?_
  clear cl11_
  obtain ⟨rfl, M11, J11, p11_0, p11_1, p11_2, p11_3, p11_4⟩ := hQ11
  have N11 := Fr.app N3 M11
  have sz11 := J11.1
  have hs11 : ∀ x ∈ ([b1, t_3] : List Addr), Safe Z own_EL s.vm T3.heap x := (sfS (Safe.exa (EL := own_EL) hZ.alike p3_0 (by decide) (by decide)) (sfS Sf3_t sf0))
  have R11 := R3.trans (CHr.keep J11 hs11 R3.1)
  have K11 := K3.trans J11 (allS (Or.inr (by omega)) (allS (Or.inr (by omega)) all0))
  have lt_p11_0 := ny p11_0.lt
  have lt_p11_4 := ny p11_4.lt
  show Wk p e below _ T11 (mkF m 14 _ [(.ref b1)])
  refine Wk.ldcL (text := ":") X11 hx hZ hown (hw _ (List.mem_of_getElem? (i := 114) rfl)) (fun d hd => hw d (own_wS d hd)) rfl Bs0 (by omega) hELw (by decide) R11 (vs := (bsV [58])) (z := (Int32.ofNat ([58] : List Int32).length)) ⟨by decide, rfl⟩ (by decide) (by decide) (hb hby d_prog_29_m2_14) (n := 16) rfl (nn := 4) (by decide) (by decide) (by decide) (by decide) fun us12 T12 H12 a12_ t12_ k12_ X12 e12 Ex12 Bs12 hZ hown An12 Fn12_c Fn12_v Vn12 A_12 R12 hne12 => ?_
  have sz12 := Ex12.1
  have lt12 := ny An12.lt
  have lu12 := ny Vn12.lt
  have K12 := K11.ext Ex12
  have f13 := (A_12.safe (ny (by omega)) (Safe.keep J11 hs11 R3.1 Sf3_t))
  have nl12_t_3 := nw (hne12 _ f13).1
  have nm12_t_3 := nw (hne12 _ f13).2
  have f14 := (p11_0.ext Ex12)
  have f15 := (p11_1.ext Ex12)
  have f16 := (p11_2.ext Ex12)
  have f17 := (p11_3.ext Ex12)
  have f18 := (p11_4.ext Ex12)
  have f19 := ((f10.keep J11 (allS (by omega) (allS (by omega) all0))).ext Ex12)
  obtain ⟨cq20, kq20, qn20a, qn20b, qn20c⟩ := isOf hZ e12 f14
  have cl20_ := fun (Ls : Array Slot) (hLs : Ls.size = c.maxLocals) => X12.virtualBack hx (y := (⟨"java/lang/StringBuilder", "append", "(Ljava/lang/String;)Ljava/lang/StringBuilder;"⟩ : MethodName)) (z := (⟨"java/lang/StringBuilder", "append", "(Ljava/lang/String;)Ljava/lang/StringBuilder;"⟩ : MethodName)) hown (mvT hZ (hw _ (List.mem_of_getElem? (i := 66) rfl))) (mvT hZ (hw _ (List.mem_of_getElem? (i := 67) rfl))) (notFace_of_selects (args := #[]) (mvT hZ (hw _ (List.mem_of_getElem? (i := 69) rfl)))) (mvT hZ (hw _ (List.mem_of_getElem? (i := 69) rfl))) (mvT hZ (hw _ (List.mem_of_getElem? (i := 68) rfl))) (by decide) (backOf (W := 0) (sbSA l Z a0 hw [] b1 a12_ t12_ k12_ ([58] : List Int32) t_3 kb_3 (([] : List Int32) ++ c1) zc H12 n0 (by omega) f14 f15 f16 f17 f18 An12 Fn12_v Fn12_c Vn12 S4 f19 hCS (by decide) (by simp only [List.length_append, List.length_cons, List.length_nil]; omega) (by omega) (by omega) (by omega) (by omega)) hZ (hw _ (List.mem_of_getElem? (i := 70) rfl)) (hw _ (List.mem_of_getElem? (i := 50) rfl)) (by decide) (by decide)) qn20a qn20c (g := mkF m 16 Ls [(.ref a12_), (.ref b1)]) rfl hLs (Steps.refl _) (argsL := [(.ref a12_)]) (rest := []) (lenOf pd_22 rfl) rfl (by show 2 * 0 + _ ≤ _; exact Nat.le_of_eq rfl) (hb hby d_prog_29_m2_16) (fun _ _ => ⟨rfl, e12, (by decide : 0 + 1 + 1 + 0 + 2 + 0 ≤ _), (by decide : 0 + 4 + 16 + 0 + (4 + 4) + 0 ≤ _)⟩)
  refine Wk.back (n := 19) (rc := 0) (rs := 0) (Q := Q_sbSA Z b1 a12_ t12_ k12_ ([58] : List Int32) t_3 kb_3 (([] : List Int32) ++ c1) zc H12 n0) (cl20_ _ (by rw [hml]; rfl)) fun vn20 T20 L20 X20 hQ20 => ?_
  clear cl20_
  obtain ⟨rfl, M20, J20, p20_0, p20_1, p20_2, p20_3, p20_4⟩ := hQ20
  have N20 := Fr.app N11 M20
  have sz20 := J20.1
  have hs20 : ∀ x ∈ ([b1, t_3] : List Addr), Safe Z own_EL us12.vm H12 x := (sfS (Safe.exa (EL := own_EL) hZ.alike f14 (by decide) (by decide)) (sfS f13 sf0))
  have R20 := R12.trans (CHr.keep J20 hs20 R12.1)
  have K20 := K12.trans J20 (allS (Or.inr (by omega)) (allS (Or.inr (by omega)) all0))
  have lt_p20_0 := ny p20_0.lt
  have lt_p20_4 := ny p20_4.lt
  show Wk p e below _ T20 (mkF m 19 _ [(.ref b1)])
  refine Wk.aloadN X20 hx (hb hby d_prog_29_m2_19) (n := 20) rfl rfl rfl ?_
  have f21 := (((((F3.ext Ex1).keep J3 (ninS (nz (by omega)) nin0)).keep J11 (ninS (nz (by omega)) (ninS (nz (by omega)) nin0))).ext Ex12).keep J20 (ninS (nz (by omega)) (ninS (nz (by omega)) nin0)))
  refine Wk.getF X20 hx hZ hown (host := "") (Or.inl (hw _ (List.mem_of_getElem? (i := 37) rfl))) Via.refl rfl f21 (hb hby d_prog_29_m2_20) (n := 23) rfl fun T22 X22 e22 => ?_
  have f23 := (f19.keep J20 (allS (by omega) (allS (by omega) all0)))
  obtain ⟨cq24, kq24, qn24a, qn24b, qn24c⟩ := isOf hZ e22 p20_0
  have cl24_ := fun (Ls : Array Slot) (hLs : Ls.size = c.maxLocals) => X22.virtualBack hx (y := (⟨"java/lang/StringBuilder", "append", "(I)Ljava/lang/StringBuilder;"⟩ : MethodName)) (z := (⟨"java/lang/StringBuilder", "append", "(I)Ljava/lang/StringBuilder;"⟩ : MethodName)) hown (mvT hZ (hw _ (List.mem_of_getElem? (i := 115) rfl))) (mvT hZ (hw _ (List.mem_of_getElem? (i := 116) rfl))) (notFace_of_selects (args := #[]) (mvT hZ (hw _ (List.mem_of_getElem? (i := 118) rfl)))) (mvT hZ (hw _ (List.mem_of_getElem? (i := 118) rfl))) (mvT hZ (hw _ (List.mem_of_getElem? (i := 117) rfl))) (by decide) (backOf (W := 0) (sbSI2 l Z a0 hw [] b1 p1 t_3 kb_3 ((([] : List Int32) ++ c1) ++ ([58] : List Int32)) zc dO kO dT kT T20.heap n0 (by omega) p20_0 p20_1 p20_2 p20_3 p20_4 S4 f23 S6 S7 A6 A7 hCS (by simp only [List.length_append, List.length_cons, List.length_nil]; omega) (by omega) (by omega) (by omega)) hZ (hw _ (List.mem_of_getElem? (i := 119) rfl)) (hw _ (List.mem_of_getElem? (i := 50) rfl)) (by decide) (by decide)) qn24a qn24c (g := mkF m 23 Ls [(.int p1), (.ref b1)]) rfl hLs (Steps.refl _) (argsL := [(.int p1)]) (rest := []) (lenOf pd_23 rfl) rfl (by show 2 * 0 + _ ≤ _; exact Nat.le_of_eq rfl) (hb hby d_prog_29_m2_23) (fun _ _ => ⟨rfl, e22, (by decide : 0 + 1 + 1 + 0 + 2 + 0 + 0 ≤ _), (by decide : 0 + 4 + 16 + 0 + (4 + 4) + 0 + 0 ≤ _)⟩)
  refine Wk.back (n := 26) (rc := 0) (rs := 0) (Q := Q_sbSI2 Z b1 p1 t_3 kb_3 ((([] : List Int32) ++ c1) ++ ([58] : List Int32)) zc dO kO dT kT T20.heap n0) (cl24_ _ (by rw [hml]; rfl)) fun vn24 T24 L24 X24 hQ24 => ?_
  clear cl24_
  obtain ⟨rfl, M24, J24, p24_0, p24_1, p24_2, p24_3, p24_4⟩ := hQ24
  have N24 := Fr.app N20 M24
  have sz24 := J24.1
  have f25 := (Safe.keep J20 hs20 R12.1 f13)
  have hs24 : ∀ x ∈ ([b1, t_3] : List Addr), Safe Z own_EL us12.vm T20.heap x := (sfS (Safe.exa (EL := own_EL) hZ.alike p20_0 (by decide) (by decide)) (sfS f25 sf0))
  have R24 := R20.trans (CHr.keep J24 hs24 R20.1)
  have K24 := K20.trans J24 (allS (Or.inr (by omega)) (allS (Or.inr (by omega)) all0))
  have lt_p24_0 := ny p24_0.lt
  have lt_p24_4 := ny p24_4.lt
  show Wk p e below _ T24 (mkF m 26 _ [(.ref b1)])
  have f26 := (f23.keep J24 (allS (by omega) (allS (by omega) all0)))
  obtain ⟨cq27, kq27, qn27a, qn27b, qn27c⟩ := isOf hZ rfl p24_0
  have cl27_ := fun (Ls : Array Slot) (hLs : Ls.size = c.maxLocals) => X24.virtualBack hx (y := (⟨"java/lang/StringBuilder", "toString", "()Ljava/lang/String;"⟩ : MethodName)) (z := (⟨"java/lang/StringBuilder", "toString", "()Ljava/lang/String;"⟩ : MethodName)) hown (mvT hZ (hw _ (List.mem_of_getElem? (i := 137) rfl))) (mvT hZ (hw _ (List.mem_of_getElem? (i := 138) rfl))) (notFace_of_selects (args := #[]) (mvT hZ (hw _ (List.mem_of_getElem? (i := 140) rfl)))) (mvT hZ (hw _ (List.mem_of_getElem? (i := 140) rfl))) (mvT hZ (hw _ (List.mem_of_getElem? (i := 139) rfl))) (by decide) (backOf (W := 0) (sbTS l Z a0 hw [] b1 t_3 kb_3 (((([] : List Int32) ++ c1) ++ ([58] : List Int32)) ++ (sgl p1 ++ dl (mg p1))) zc T24.heap n0 (by omega) p24_0 p24_1 p24_2 p24_3 p24_4 S4 f26 hCS (by simp only [List.length_append, List.length_cons, List.length_nil]; omega)) hZ (hw _ (List.mem_of_getElem? (i := 141) rfl)) (hw _ (List.mem_of_getElem? (i := 50) rfl)) (by decide) (by decide)) qn27a qn27c (g := mkF m 26 Ls [(.ref b1)]) rfl hLs (Steps.refl _) (argsL := []) (rest := []) (lenOf pd_24 rfl) rfl (by show 2 * 0 + _ ≤ _; exact Nat.le_of_eq rfl) (hb hby d_prog_29_m2_26) (fun _ _ => ⟨rfl, rfl, (by decide : 0 + 1 + 1 + 0 + 2 + 0 + 0 + 2 ≤ _), (by decide : 0 + 4 + 16 + 0 + (4 + 4) + 0 + 0 + 20 ≤ _)⟩)
  refine Wk.back (n := 29) (rc := 2) (rs := 20) (Q := Q_sbTS Z b1 t_3 kb_3 (((([] : List Int32) ++ c1) ++ ([58] : List Int32)) ++ (sgl p1 ++ dl (mg p1))) zc T24.heap n0) (cl27_ _ (by rw [hml]; rfl)) fun vn27 T27 L27 X27 hQ27 => ?_
  clear cl27_
  obtain ⟨r_27, t_27, kb_27, rfl, M27, J27, p27_0, p27_1, p27_2, p27_3, gr_27, gt_27⟩ := hQ27
  have N27 := Fr.app N24 M27
  have sz27 := J27.1
  have hs27 : ∀ x ∈ ([] : List Addr), Safe Z own_EL us12.vm T24.heap x := sf0
  have R27 := R24.trans (CHr.keep J27 hs27 R24.1)
  have K27 := K24.trans J27 (fun x hx => nomatch hx)
  have lt_p27_0 := ny p27_0.lt
  have lt_p27_3 := ny p27_3.lt
  have Sf27_r := Safe.keep (x := r_27) J27 hs27 R24.1 (Safe.new (by omega))
  have Sf27_t := Safe.keep (x := t_27) J27 hs27 R24.1 (Safe.new (by omega))
  show Wk p e below _ T27 (mkF m 29 _ [(.ref r_27)])
  exact Wk.leaveW X27 Bs12 (by omega) (v := some (.ref r_27)) (fun h => by rw [Bd.returns] at h; cases h) hlk rfl hh ⟨r_27, t_27, kb_27, rfl, N27, K27, p27_0, p27_1, p27_2, (by have q := p27_3; rw [own_as3] at q; exact q)⟩ hZ hELw R27 (by decide) (by decide) (fun fs hr => retA X27 hx rfl Bd.returns rfl (hb hby d_prog_29_m2_29) hr)
def Q_rmAB (Z : State) (j1 : Int64) (p1 : Int32) (h0 : Heap) (n0 : Nat) (v : Option Value) (h : Heap) (L : List Loc) : Prop := v = some (.long (Int64.ofNat (mg p1))) ∧ Fr n0 L ∧ h = h0
theorem ef_rmAB (m : MethodId) (x0 : Int64) : entryFrame m #[(.long x0)] 2 = mkF m 0 #[.val (.long x0), .second] [] := by first | (simp [entryFrame, mkF, argsToLocals, Value.category]; done) | rfl
theorem d_jdk_29_m61_0 : decode jdk_29_method_61_code 0 = .ok (.lload_n 0, 1) := by decide +kernel
theorem d_jdk_29_m61_1 : decode jdk_29_method_61_code 1 = .ok (.lconst 0, 1) := by decide +kernel
theorem d_jdk_29_m61_2 : decode jdk_29_method_61_code 2 = .ok (.lcmp, 1) := by decide +kernel
theorem d_jdk_29_m61_3 : decode jdk_29_method_61_code 3 = .ok (.ifCond .ge 8, 3) := by decide +kernel
theorem d_jdk_29_m61_6 : decode jdk_29_method_61_code 6 = .ok (.lload_n 0, 1) := by decide +kernel
theorem d_jdk_29_m61_7 : decode jdk_29_method_61_code 7 = .ok (.lneg, 1) := by decide +kernel
theorem d_jdk_29_m61_8 : decode jdk_29_method_61_code 8 = .ok (.goto 4, 3) := by decide +kernel
theorem d_jdk_29_m61_12 : decode jdk_29_method_61_code 12 = .ok (.lreturn, 1) := by decide +kernel
theorem d_jdk_29_m61_11 : decode jdk_29_method_61_code 11 = .ok (.lload_n 0, 1) := by decide +kernel
set_option maxRecDepth 65536 in
set_option maxHeartbeats 40000000 in
theorem rmAB (l : Launch) (Z : State) (a0 : Array Value) (hw : ∀ d ∈ tables_1, d.before a0 Z = true) (ws : List Jvm.Cond) (j1 : Int64) (p1 : Int32) (h0 : Heap) (n0 : Nat) (Z0 : n0 ≤ h0.size) (hj : j1 = p1.toInt64) :
    MetFree l (⟨"java/lang/Math", "abs", "(J)J"⟩ : MethodName) (head1 (Jvm.Cond.code (⟨"java/lang/Math", "abs", "(J)J"⟩ : MethodName) jdk_29_method_61_code 2 (some .long) :: ws) ({ frames := 0, cells := 0, slots := 0, locals := 0 } : Room)) (fun a U => a = #[(.long j1)] ∧ Z.Warmed39 U.vm ∧ U.heap = h0) (fun _ _ _ _ _ => True) (fun _ U o U' => ∃ v L, o = .returned v ∧ Q_rmAB Z j1 p1 h0 n0 v U'.heap L ∧ FrameEnd U o U' L ({ frames := 0, cells := 0, slots := 0, locals := 0 } : Room).cells ({ frames := 0, cells := 0, slots := 0, locals := 0 } : Room).slots) := by
  refine MetFree.of_bodySF (Jvm.Free.JP.mathPlain rfl (by decide +kernel)) hisR ?_
  intro p e s m args below meth c s₁ Bd hml0 hP hK
  obtain ⟨rfl, hZ, hh⟩ := hP
  have hx := Bd.exec
  have hby := Bd.bytes
  have hlk := BodyLoose.notSynchronized Bd
  have hml : c.maxLocals = 2 := hml0
  have hown : s.vm.findClass "java/lang/Math" = some m.cls := findClass_of_methodNamed Bd.named
  have hnm := (name_of_methodNamed Bd.named Bd.method).1
  have X0 : Stand p l e ({ frames := 0, cells := 0, slots := 0, locals := 0 } : Room) s m #[(.long j1)] below meth c s₁ [] 0 0 := Stand.of_body Bd
  have e0 : s₁.heap = h0 := by rw [← hh, Bd.state]; rfl
  have N0 := Fr.nil n0
  have K0 := Keep.refl h0 []
  clear hh
  show Wk p e below (EndN s (Q_rmAB Z j1 p1 h0 n0) ({ frames := 0, cells := 0, slots := 0, locals := 0 } : Room).cells ({ frames := 0, cells := 0, slots := 0, locals := 0 } : Room).slots) s₁ (entryFrame m #[(.long j1)] 2)
  rw [ef_rmAB]
  refine Wk.lloadN X0 hx (hb hby d_jdk_29_m61_0) (n := 1) rfl rfl ?_
  refine Wk.lconst X0 hx (hb hby d_jdk_29_m61_1) (n := 2) rfl (z := (0 : Int64)) rfl ?_
  refine Wk.lcmp X0 hx (hb hby d_jdk_29_m61_2) (n := 3) rfl ?_
  by_cases hc3 : j1 < (0 : Int64)
  ·
    refine Wk.ifNo X0 hx (hb hby d_jdk_29_m61_3) (n := 6) rfl ((if0 _ _).trans (tlt ((lw_lt j1 (0 : Int64)).mpr hc3)).2.1) ?_
    refine Wk.lloadN X0 hx (hb hby d_jdk_29_m61_6) (n := 7) rfl rfl ?_
    refine Wk.lneg X0 hx (hb hby d_jdk_29_m61_7) (n := 8) rfl ?_
    refine Wk.goto X0 hx (hb hby d_jdk_29_m61_8) (by decide) (n := 12) (by decide) ?_
    exact Wk.leave X0 (v := some (.long (-j1))) (fun h => by rw [Bd.returns] at h; cases h) hlk e0 ⟨(congrArg (fun z => some (Value.long z)) (by rw [hj] at hc3 ⊢; exact own_abs1 p1 hc3)), N0, rfl⟩ (by decide) (by decide) (fun fs hr => retL X0 hx Bd.returns (hb hby d_jdk_29_m61_12) hr)
  ·
    refine Wk.ifYes X0 hx (hb hby d_jdk_29_m61_3) ((if0 _ _).trans (flt (mt (lw_lt j1 (0 : Int64)).mp hc3)).2.1) (by decide) (n := 11) (by decide) ?_
    refine Wk.lloadN X0 hx (hb hby d_jdk_29_m61_11) (n := 12) rfl rfl ?_
    exact Wk.leave X0 (v := some (.long j1)) (fun h => by rw [Bd.returns] at h; cases h) hlk e0 ⟨(congrArg (fun z => some (Value.long z)) (by rw [hj] at hc3 ⊢; exact own_abs2 p1 hc3)), N0, rfl⟩ (by decide) (by decide) (fun fs hr => retL X0 hx Bd.returns (hb hby d_jdk_29_m61_12) hr)
def Q_rmDI (Z : State) (j1 : Int64) (vz : Nat) (h0 : Heap) (n0 : Nat) (v : Option Value) (h : Heap) (L : List Loc) : Prop := v = some (.int (Int32.ofNat (dl vz).length)) ∧ Fr n0 L ∧ h = h0
theorem ef_rmDI (m : MethodId) (x0 : Int64) : entryFrame m #[(.long x0)] 2 = mkF m 0 #[.val (.long x0), .second] [] := by first | (simp [entryFrame, mkF, argsToLocals, Value.category]; done) | rfl
theorem pn_com_example_net_thirty_netthirty_mail_MailServerAddressPinLaw : plainName "com/example/net_thirty/netthirty/mail/MailServerAddressPinLaw" = true := by first | (simp [plainName, overriddenIn]; done) | decide +kernel
theorem d_m3_0 : decode method_3_code 0 = .ok (.lload_n 0, 1) := by decide +kernel
theorem d_m3_1 : decode method_3_code 1 = .ok (.ldc2_w 56, 3) := by decide +kernel
theorem d_m3_4 : decode method_3_code 4 = .ok (.lcmp, 1) := by decide +kernel
theorem d_m3_5 : decode method_3_code 5 = .ok (.ifCond .ge 5, 3) := by decide +kernel
theorem d_m3_8 : decode method_3_code 8 = .ok (.iconst 1, 1) := by decide +kernel
theorem d_m3_9 : decode method_3_code 9 = .ok (.ireturn, 1) := by decide +kernel
theorem d_m3_10 : decode method_3_code 10 = .ok (.lload_n 0, 1) := by decide +kernel
theorem d_m3_11 : decode method_3_code 11 = .ok (.ldc2_w 58, 3) := by decide +kernel
theorem d_m3_14 : decode method_3_code 14 = .ok (.lcmp, 1) := by decide +kernel
theorem d_m3_15 : decode method_3_code 15 = .ok (.ifCond .ge 5, 3) := by decide +kernel
theorem d_m3_18 : decode method_3_code 18 = .ok (.iconst 2, 1) := by decide +kernel
theorem d_m3_19 : decode method_3_code 19 = .ok (.ireturn, 1) := by decide +kernel
theorem d_m3_20 : decode method_3_code 20 = .ok (.lload_n 0, 1) := by decide +kernel
theorem d_m3_21 : decode method_3_code 21 = .ok (.ldc2_w 60, 3) := by decide +kernel
theorem d_m3_24 : decode method_3_code 24 = .ok (.lcmp, 1) := by decide +kernel
theorem d_m3_25 : decode method_3_code 25 = .ok (.ifCond .ge 5, 3) := by decide +kernel
theorem d_m3_28 : decode method_3_code 28 = .ok (.iconst 3, 1) := by decide +kernel
theorem d_m3_29 : decode method_3_code 29 = .ok (.ireturn, 1) := by decide +kernel
theorem d_m3_30 : decode method_3_code 30 = .ok (.lload_n 0, 1) := by decide +kernel
theorem d_m3_31 : decode method_3_code 31 = .ok (.ldc2_w 62, 3) := by decide +kernel
theorem d_m3_34 : decode method_3_code 34 = .ok (.lcmp, 1) := by decide +kernel
theorem d_m3_35 : decode method_3_code 35 = .ok (.ifCond .ge 5, 3) := by decide +kernel
theorem d_m3_38 : decode method_3_code 38 = .ok (.iconst 4, 1) := by decide +kernel
theorem d_m3_39 : decode method_3_code 39 = .ok (.ireturn, 1) := by decide +kernel
theorem d_m3_40 : decode method_3_code 40 = .ok (.lload_n 0, 1) := by decide +kernel
theorem d_m3_41 : decode method_3_code 41 = .ok (.ldc2_w 64, 3) := by decide +kernel
theorem d_m3_44 : decode method_3_code 44 = .ok (.lcmp, 1) := by decide +kernel
theorem d_m3_45 : decode method_3_code 45 = .ok (.ifCond .ge 5, 3) := by decide +kernel
theorem d_m3_48 : decode method_3_code 48 = .ok (.iconst 5, 1) := by decide +kernel
theorem d_m3_49 : decode method_3_code 49 = .ok (.ireturn, 1) := by decide +kernel
theorem d_m3_50 : decode method_3_code 50 = .ok (.lload_n 0, 1) := by decide +kernel
theorem d_m3_51 : decode method_3_code 51 = .ok (.ldc2_w 66, 3) := by decide +kernel
theorem d_m3_54 : decode method_3_code 54 = .ok (.lcmp, 1) := by decide +kernel
theorem d_m3_55 : decode method_3_code 55 = .ok (.ifCond .ge 6, 3) := by decide +kernel
theorem d_m3_58 : decode method_3_code 58 = .ok (.bipush 6, 2) := by decide +kernel
theorem d_m3_60 : decode method_3_code 60 = .ok (.ireturn, 1) := by decide +kernel
theorem d_m3_61 : decode method_3_code 61 = .ok (.lload_n 0, 1) := by decide +kernel
theorem d_m3_62 : decode method_3_code 62 = .ok (.ldc2_w 68, 3) := by decide +kernel
theorem d_m3_65 : decode method_3_code 65 = .ok (.lcmp, 1) := by decide +kernel
theorem d_m3_66 : decode method_3_code 66 = .ok (.ifCond .ge 6, 3) := by decide +kernel
theorem d_m3_69 : decode method_3_code 69 = .ok (.bipush 7, 2) := by decide +kernel
theorem d_m3_71 : decode method_3_code 71 = .ok (.ireturn, 1) := by decide +kernel
theorem d_m3_72 : decode method_3_code 72 = .ok (.lload_n 0, 1) := by decide +kernel
theorem d_m3_73 : decode method_3_code 73 = .ok (.ldc2_w 70, 3) := by decide +kernel
theorem d_m3_76 : decode method_3_code 76 = .ok (.lcmp, 1) := by decide +kernel
theorem d_m3_77 : decode method_3_code 77 = .ok (.ifCond .ge 6, 3) := by decide +kernel
theorem d_m3_80 : decode method_3_code 80 = .ok (.bipush 8, 2) := by decide +kernel
theorem d_m3_82 : decode method_3_code 82 = .ok (.ireturn, 1) := by decide +kernel
theorem d_m3_83 : decode method_3_code 83 = .ok (.lload_n 0, 1) := by decide +kernel
theorem d_m3_84 : decode method_3_code 84 = .ok (.ldc2_w 72, 3) := by decide +kernel
theorem d_m3_87 : decode method_3_code 87 = .ok (.lcmp, 1) := by decide +kernel
theorem d_m3_88 : decode method_3_code 88 = .ok (.ifCond .ge 6, 3) := by decide +kernel
theorem d_m3_91 : decode method_3_code 91 = .ok (.bipush 9, 2) := by decide +kernel
theorem d_m3_93 : decode method_3_code 93 = .ok (.ireturn, 1) := by decide +kernel
theorem d_m3_94 : decode method_3_code 94 = .ok (.bipush 10, 2) := by decide +kernel
theorem d_m3_96 : decode method_3_code 96 = .ok (.ireturn, 1) := by decide +kernel
set_option maxRecDepth 65536 in
set_option maxHeartbeats 40000000 in
theorem rmDI (l : Launch) (Z : State) (a0 : Array Value) (hw : ∀ d ∈ tables_1, d.before a0 Z = true) (ws : List Jvm.Cond) (j1 : Int64) (vz : Nat) (h0 : Heap) (n0 : Nat) (Z0 : n0 ≤ h0.size) (hj : j1 = Int64.ofNat vz) (hv : vz ≤ 2147483648) :
    MetFree l (⟨"com/example/net_thirty/netthirty/mail/MailServerAddressPinLaw", "digits", "(J)I"⟩ : MethodName) (head1 (Jvm.Cond.code (⟨"com/example/net_thirty/netthirty/mail/MailServerAddressPinLaw", "digits", "(J)I"⟩ : MethodName) method_3_code 2 (some .int) :: ws) ({ frames := 0, cells := 0, slots := 0, locals := 0 } : Room)) (fun a U => a = #[(.long j1)] ∧ Z.Warmed39 U.vm ∧ U.heap = h0) (fun _ _ _ _ _ => True) (fun _ U o U' => ∃ v L, o = .returned v ∧ Q_rmDI Z j1 vz h0 n0 v U'.heap L ∧ FrameEnd U o U' L ({ frames := 0, cells := 0, slots := 0, locals := 0 } : Room).cells ({ frames := 0, cells := 0, slots := 0, locals := 0 } : Room).slots) := by
  refine MetFree.of_bodySF (plainFor_of_name pn_com_example_net_thirty_netthirty_mail_MailServerAddressPinLaw) hisR ?_
  intro p e s m args below meth c s₁ Bd hml0 hP hK
  obtain ⟨rfl, hZ, hh⟩ := hP
  have hx := Bd.exec
  have hby := Bd.bytes
  have hlk := BodyLoose.notSynchronized Bd
  have hml : c.maxLocals = 2 := hml0
  have hown : s.vm.findClass "com/example/net_thirty/netthirty/mail/MailServerAddressPinLaw" = some m.cls := findClass_of_methodNamed Bd.named
  have hnm := (name_of_methodNamed Bd.named Bd.method).1
  have X0 : Stand p l e ({ frames := 0, cells := 0, slots := 0, locals := 0 } : Room) s m #[(.long j1)] below meth c s₁ [] 0 0 := Stand.of_body Bd
  have e0 : s₁.heap = h0 := by rw [← hh, Bd.state]; rfl
  have N0 := Fr.nil n0
  have K0 := Keep.refl h0 []
  clear hh
  show Wk p e below (EndN s (Q_rmDI Z j1 vz h0 n0) ({ frames := 0, cells := 0, slots := 0, locals := 0 } : Room).cells ({ frames := 0, cells := 0, slots := 0, locals := 0 } : Room).slots) s₁ (entryFrame m #[(.long j1)] 2)
  rw [ef_rmDI]
  refine Wk.lloadN X0 hx (hb hby d_m3_0) (n := 1) rfl rfl ?_
  refine Wk.ldc2Long X0 hx hown (mvT hZ (hw _ (List.mem_of_getElem? (i := 185) rfl))) (hb hby d_m3_1) (n := 4) rfl ?_
  refine Wk.lcmp X0 hx (hb hby d_m3_4) (n := 5) rfl ?_
  by_cases hc5 : j1 < (10 : Int64)
  ·
    refine Wk.ifNo X0 hx (hb hby d_m3_5) (n := 8) rfl ((if0 _ _).trans (tlt ((lw_lt j1 (10 : Int64)).mpr hc5)).2.1) ?_
    refine Wk.iconst X0 hx (hb hby d_m3_8) (n := 9) rfl (z := (1 : Int32)) rfl ?_
    have hlen : (dl vz).length = 1 := dl_len 0 vz ((own_lt64 (b := 10 ^ 1) (by omega) (by decide)).mp (hj ▸ hc5)) (Or.inl rfl)
    exact Wk.leave X0 (v := some (.int (1 : Int32))) (fun h => by rw [Bd.returns] at h; cases h) hlk e0 ⟨(congrArg (fun z => some (Value.int z)) (by rw [hlen]; rfl)), N0, rfl⟩ (by decide) (by decide) (fun fs hr => retI X0 hx Bd.returns (hb hby d_m3_9) hr)
  ·
    refine Wk.ifYes X0 hx (hb hby d_m3_5) ((if0 _ _).trans (flt (mt (lw_lt j1 (10 : Int64)).mp hc5)).2.1) (by decide) (n := 10) (by decide) ?_
    refine Wk.lloadN X0 hx (hb hby d_m3_10) (n := 11) rfl rfl ?_
    refine Wk.ldc2Long X0 hx hown (mvT hZ (hw _ (List.mem_of_getElem? (i := 213) rfl))) (hb hby d_m3_11) (n := 14) rfl ?_
    refine Wk.lcmp X0 hx (hb hby d_m3_14) (n := 15) rfl ?_
    by_cases hc15 : j1 < (100 : Int64)
    ·
      refine Wk.ifNo X0 hx (hb hby d_m3_15) (n := 18) rfl ((if0 _ _).trans (tlt ((lw_lt j1 (100 : Int64)).mpr hc15)).2.1) ?_
      refine Wk.iconst X0 hx (hb hby d_m3_18) (n := 19) rfl (z := (2 : Int32)) rfl ?_
      have hlen : (dl vz).length = 2 := dl_len 1 vz ((own_lt64 (b := 10 ^ 2) (by omega) (by decide)).mp (hj ▸ hc15)) (Or.inr (Nat.le_of_not_lt fun q => hc5 (by rw [hj]; exact (own_lt64 (by omega) (by decide)).mpr q)))
      exact Wk.leave X0 (v := some (.int (2 : Int32))) (fun h => by rw [Bd.returns] at h; cases h) hlk e0 ⟨(congrArg (fun z => some (Value.int z)) (by rw [hlen]; rfl)), N0, rfl⟩ (by decide) (by decide) (fun fs hr => retI X0 hx Bd.returns (hb hby d_m3_19) hr)
    ·
      refine Wk.ifYes X0 hx (hb hby d_m3_15) ((if0 _ _).trans (flt (mt (lw_lt j1 (100 : Int64)).mp hc15)).2.1) (by decide) (n := 20) (by decide) ?_
      refine Wk.lloadN X0 hx (hb hby d_m3_20) (n := 21) rfl rfl ?_
      refine Wk.ldc2Long X0 hx hown (mvT hZ (hw _ (List.mem_of_getElem? (i := 214) rfl))) (hb hby d_m3_21) (n := 24) rfl ?_
      refine Wk.lcmp X0 hx (hb hby d_m3_24) (n := 25) rfl ?_
      by_cases hc25 : j1 < (1000 : Int64)
      ·
        refine Wk.ifNo X0 hx (hb hby d_m3_25) (n := 28) rfl ((if0 _ _).trans (tlt ((lw_lt j1 (1000 : Int64)).mpr hc25)).2.1) ?_
        refine Wk.iconst X0 hx (hb hby d_m3_28) (n := 29) rfl (z := (3 : Int32)) rfl ?_
        have hlen : (dl vz).length = 3 := dl_len 2 vz ((own_lt64 (b := 10 ^ 3) (by omega) (by decide)).mp (hj ▸ hc25)) (Or.inr (Nat.le_of_not_lt fun q => hc15 (by rw [hj]; exact (own_lt64 (by omega) (by decide)).mpr q)))
        exact Wk.leave X0 (v := some (.int (3 : Int32))) (fun h => by rw [Bd.returns] at h; cases h) hlk e0 ⟨(congrArg (fun z => some (Value.int z)) (by rw [hlen]; rfl)), N0, rfl⟩ (by decide) (by decide) (fun fs hr => retI X0 hx Bd.returns (hb hby d_m3_29) hr)
      ·
        refine Wk.ifYes X0 hx (hb hby d_m3_25) ((if0 _ _).trans (flt (mt (lw_lt j1 (1000 : Int64)).mp hc25)).2.1) (by decide) (n := 30) (by decide) ?_
        refine Wk.lloadN X0 hx (hb hby d_m3_30) (n := 31) rfl rfl ?_
        refine Wk.ldc2Long X0 hx hown (mvT hZ (hw _ (List.mem_of_getElem? (i := 215) rfl))) (hb hby d_m3_31) (n := 34) rfl ?_
        refine Wk.lcmp X0 hx (hb hby d_m3_34) (n := 35) rfl ?_
        by_cases hc35 : j1 < (10000 : Int64)
        ·
          refine Wk.ifNo X0 hx (hb hby d_m3_35) (n := 38) rfl ((if0 _ _).trans (tlt ((lw_lt j1 (10000 : Int64)).mpr hc35)).2.1) ?_
          refine Wk.iconst X0 hx (hb hby d_m3_38) (n := 39) rfl (z := (4 : Int32)) rfl ?_
          have hlen : (dl vz).length = 4 := dl_len 3 vz ((own_lt64 (b := 10 ^ 4) (by omega) (by decide)).mp (hj ▸ hc35)) (Or.inr (Nat.le_of_not_lt fun q => hc25 (by rw [hj]; exact (own_lt64 (by omega) (by decide)).mpr q)))
          exact Wk.leave X0 (v := some (.int (4 : Int32))) (fun h => by rw [Bd.returns] at h; cases h) hlk e0 ⟨(congrArg (fun z => some (Value.int z)) (by rw [hlen]; rfl)), N0, rfl⟩ (by decide) (by decide) (fun fs hr => retI X0 hx Bd.returns (hb hby d_m3_39) hr)
        ·
          refine Wk.ifYes X0 hx (hb hby d_m3_35) ((if0 _ _).trans (flt (mt (lw_lt j1 (10000 : Int64)).mp hc35)).2.1) (by decide) (n := 40) (by decide) ?_
          refine Wk.lloadN X0 hx (hb hby d_m3_40) (n := 41) rfl rfl ?_
          refine Wk.ldc2Long X0 hx hown (mvT hZ (hw _ (List.mem_of_getElem? (i := 216) rfl))) (hb hby d_m3_41) (n := 44) rfl ?_
          refine Wk.lcmp X0 hx (hb hby d_m3_44) (n := 45) rfl ?_
          by_cases hc45 : j1 < (100000 : Int64)
          ·
            refine Wk.ifNo X0 hx (hb hby d_m3_45) (n := 48) rfl ((if0 _ _).trans (tlt ((lw_lt j1 (100000 : Int64)).mpr hc45)).2.1) ?_
            refine Wk.iconst X0 hx (hb hby d_m3_48) (n := 49) rfl (z := (5 : Int32)) rfl ?_
            have hlen : (dl vz).length = 5 := dl_len 4 vz ((own_lt64 (b := 10 ^ 5) (by omega) (by decide)).mp (hj ▸ hc45)) (Or.inr (Nat.le_of_not_lt fun q => hc35 (by rw [hj]; exact (own_lt64 (by omega) (by decide)).mpr q)))
            exact Wk.leave X0 (v := some (.int (5 : Int32))) (fun h => by rw [Bd.returns] at h; cases h) hlk e0 ⟨(congrArg (fun z => some (Value.int z)) (by rw [hlen]; rfl)), N0, rfl⟩ (by decide) (by decide) (fun fs hr => retI X0 hx Bd.returns (hb hby d_m3_49) hr)
          ·
            refine Wk.ifYes X0 hx (hb hby d_m3_45) ((if0 _ _).trans (flt (mt (lw_lt j1 (100000 : Int64)).mp hc45)).2.1) (by decide) (n := 50) (by decide) ?_
            refine Wk.lloadN X0 hx (hb hby d_m3_50) (n := 51) rfl rfl ?_
            refine Wk.ldc2Long X0 hx hown (mvT hZ (hw _ (List.mem_of_getElem? (i := 217) rfl))) (hb hby d_m3_51) (n := 54) rfl ?_
            refine Wk.lcmp X0 hx (hb hby d_m3_54) (n := 55) rfl ?_
            by_cases hc55 : j1 < (1000000 : Int64)
            ·
              refine Wk.ifNo X0 hx (hb hby d_m3_55) (n := 58) rfl ((if0 _ _).trans (tlt ((lw_lt j1 (1000000 : Int64)).mpr hc55)).2.1) ?_
              refine Wk.bipush X0 hx (hb hby d_m3_58) (n := 60) rfl (z := (6 : Int32)) rfl ?_
              have hlen : (dl vz).length = 6 := dl_len 5 vz ((own_lt64 (b := 10 ^ 6) (by omega) (by decide)).mp (hj ▸ hc55)) (Or.inr (Nat.le_of_not_lt fun q => hc45 (by rw [hj]; exact (own_lt64 (by omega) (by decide)).mpr q)))
              exact Wk.leave X0 (v := some (.int (6 : Int32))) (fun h => by rw [Bd.returns] at h; cases h) hlk e0 ⟨(congrArg (fun z => some (Value.int z)) (by rw [hlen]; rfl)), N0, rfl⟩ (by decide) (by decide) (fun fs hr => retI X0 hx Bd.returns (hb hby d_m3_60) hr)
            ·
              refine Wk.ifYes X0 hx (hb hby d_m3_55) ((if0 _ _).trans (flt (mt (lw_lt j1 (1000000 : Int64)).mp hc55)).2.1) (by decide) (n := 61) (by decide) ?_
              refine Wk.lloadN X0 hx (hb hby d_m3_61) (n := 62) rfl rfl ?_
              refine Wk.ldc2Long X0 hx hown (mvT hZ (hw _ (List.mem_of_getElem? (i := 218) rfl))) (hb hby d_m3_62) (n := 65) rfl ?_
              refine Wk.lcmp X0 hx (hb hby d_m3_65) (n := 66) rfl ?_
              by_cases hc66 : j1 < (10000000 : Int64)
              ·
                refine Wk.ifNo X0 hx (hb hby d_m3_66) (n := 69) rfl ((if0 _ _).trans (tlt ((lw_lt j1 (10000000 : Int64)).mpr hc66)).2.1) ?_
                refine Wk.bipush X0 hx (hb hby d_m3_69) (n := 71) rfl (z := (7 : Int32)) rfl ?_
                have hlen : (dl vz).length = 7 := dl_len 6 vz ((own_lt64 (b := 10 ^ 7) (by omega) (by decide)).mp (hj ▸ hc66)) (Or.inr (Nat.le_of_not_lt fun q => hc55 (by rw [hj]; exact (own_lt64 (by omega) (by decide)).mpr q)))
                exact Wk.leave X0 (v := some (.int (7 : Int32))) (fun h => by rw [Bd.returns] at h; cases h) hlk e0 ⟨(congrArg (fun z => some (Value.int z)) (by rw [hlen]; rfl)), N0, rfl⟩ (by decide) (by decide) (fun fs hr => retI X0 hx Bd.returns (hb hby d_m3_71) hr)
              ·
                refine Wk.ifYes X0 hx (hb hby d_m3_66) ((if0 _ _).trans (flt (mt (lw_lt j1 (10000000 : Int64)).mp hc66)).2.1) (by decide) (n := 72) (by decide) ?_
                refine Wk.lloadN X0 hx (hb hby d_m3_72) (n := 73) rfl rfl ?_
                refine Wk.ldc2Long X0 hx hown (mvT hZ (hw _ (List.mem_of_getElem? (i := 219) rfl))) (hb hby d_m3_73) (n := 76) rfl ?_
                refine Wk.lcmp X0 hx (hb hby d_m3_76) (n := 77) rfl ?_
                by_cases hc77 : j1 < (100000000 : Int64)
                ·
                  refine Wk.ifNo X0 hx (hb hby d_m3_77) (n := 80) rfl ((if0 _ _).trans (tlt ((lw_lt j1 (100000000 : Int64)).mpr hc77)).2.1) ?_
                  refine Wk.bipush X0 hx (hb hby d_m3_80) (n := 82) rfl (z := (8 : Int32)) rfl ?_
                  have hlen : (dl vz).length = 8 := dl_len 7 vz ((own_lt64 (b := 10 ^ 8) (by omega) (by decide)).mp (hj ▸ hc77)) (Or.inr (Nat.le_of_not_lt fun q => hc66 (by rw [hj]; exact (own_lt64 (by omega) (by decide)).mpr q)))
                  exact Wk.leave X0 (v := some (.int (8 : Int32))) (fun h => by rw [Bd.returns] at h; cases h) hlk e0 ⟨(congrArg (fun z => some (Value.int z)) (by rw [hlen]; rfl)), N0, rfl⟩ (by decide) (by decide) (fun fs hr => retI X0 hx Bd.returns (hb hby d_m3_82) hr)
                ·
                  refine Wk.ifYes X0 hx (hb hby d_m3_77) ((if0 _ _).trans (flt (mt (lw_lt j1 (100000000 : Int64)).mp hc77)).2.1) (by decide) (n := 83) (by decide) ?_
                  refine Wk.lloadN X0 hx (hb hby d_m3_83) (n := 84) rfl rfl ?_
                  refine Wk.ldc2Long X0 hx hown (mvT hZ (hw _ (List.mem_of_getElem? (i := 220) rfl))) (hb hby d_m3_84) (n := 87) rfl ?_
                  refine Wk.lcmp X0 hx (hb hby d_m3_87) (n := 88) rfl ?_
                  by_cases hc88 : j1 < (1000000000 : Int64)
                  ·
                    refine Wk.ifNo X0 hx (hb hby d_m3_88) (n := 91) rfl ((if0 _ _).trans (tlt ((lw_lt j1 (1000000000 : Int64)).mpr hc88)).2.1) ?_
                    refine Wk.bipush X0 hx (hb hby d_m3_91) (n := 93) rfl (z := (9 : Int32)) rfl ?_
                    have hlen : (dl vz).length = 9 := dl_len 8 vz ((own_lt64 (b := 10 ^ 9) (by omega) (by decide)).mp (hj ▸ hc88)) (Or.inr (Nat.le_of_not_lt fun q => hc77 (by rw [hj]; exact (own_lt64 (by omega) (by decide)).mpr q)))
                    exact Wk.leave X0 (v := some (.int (9 : Int32))) (fun h => by rw [Bd.returns] at h; cases h) hlk e0 ⟨(congrArg (fun z => some (Value.int z)) (by rw [hlen]; rfl)), N0, rfl⟩ (by decide) (by decide) (fun fs hr => retI X0 hx Bd.returns (hb hby d_m3_93) hr)
                  ·
                    refine Wk.ifYes X0 hx (hb hby d_m3_88) ((if0 _ _).trans (flt (mt (lw_lt j1 (1000000000 : Int64)).mp hc88)).2.1) (by decide) (n := 94) (by decide) ?_
                    refine Wk.bipush X0 hx (hb hby d_m3_94) (n := 96) rfl (z := (10 : Int32)) rfl ?_
                    have hlen : (dl vz).length = 10 := dl_len 9 vz (by omega) (Or.inr (Nat.le_of_not_lt fun q => hc88 (by rw [hj]; exact (own_lt64 (by omega) (by decide)).mpr q)))
                    exact Wk.leave X0 (v := some (.int (10 : Int32))) (fun h => by rw [Bd.returns] at h; cases h) hlk e0 ⟨(congrArg (fun z => some (Value.int z)) (by rw [hlen]; rfl)), N0, rfl⟩ (by decide) (by decide) (fun fs hr => retI X0 hx Bd.returns (hb hby d_m3_96) hr)
def Q_rmDK (Z : State) (x1 : Addr) (t1 : Addr) (k1 : ClassId) (cw : List Int32) (cz : List Int32) (s1 : Int32) (n1 : Int32) (i1 : Int32) (j1 : Int64) (jz : Nat) (vz : Nat) (zc : Int32) (fm : Value) (h0 : Heap) (n0 : Nat) (v : Option Value) (h : Heap) (L : List Loc) : Prop := v = some (.int (1 : Int32)) ∧ Fr n0 L ∧ Keep h0 h []
theorem ef_rmDK (m : MethodId) (x0 : Addr) (x1 : Int32) (x2 : Int32) (x3 : Int32) (x4 : Int64) : entryFrame m #[(.ref x0), (.int x1), (.int x2), (.int x3), (.long x4)] 9 = mkF m 0 #[.val (.ref x0), .val (.int x1), .val (.int x2), .val (.int x3), .val (.long x4), .second, .unset, .unset, .unset] [] := by first | (simp [entryFrame, mkF, argsToLocals, Value.category]; done) | rfl
theorem d_m4_0 : decode method_4_code 0 = .ok (.iload_n 3, 1) := by decide +kernel
theorem d_m4_1 : decode method_4_code 1 = .ok (.iload_n 2, 1) := by decide +kernel
theorem d_m4_2 : decode method_4_code 2 = .ok (.if_icmp .lt 5, 3) := by decide +kernel
theorem d_m4_7 : decode method_4_code 7 = .ok (.bipush 10, 2) := by decide +kernel
theorem d_m4_9 : decode method_4_code 9 = .ok (.newarray .long, 2) := by decide +kernel
theorem d_m4_11 : decode method_4_code 11 = .ok (.dup, 1) := by decide +kernel
theorem d_m4_12 : decode method_4_code 12 = .ok (.iconst 0, 1) := by decide +kernel
theorem d_m4_13 : decode method_4_code 13 = .ok (.lconst 1, 1) := by decide +kernel
theorem d_m4_14 : decode method_4_code 14 = .ok (.lastore, 1) := by decide +kernel
theorem d_m4_15 : decode method_4_code 15 = .ok (.dup, 1) := by decide +kernel
theorem d_m4_16 : decode method_4_code 16 = .ok (.iconst 1, 1) := by decide +kernel
theorem d_m4_17 : decode method_4_code 17 = .ok (.ldc2_w 56, 3) := by decide +kernel
theorem d_m4_20 : decode method_4_code 20 = .ok (.lastore, 1) := by decide +kernel
theorem d_m4_21 : decode method_4_code 21 = .ok (.dup, 1) := by decide +kernel
theorem d_m4_22 : decode method_4_code 22 = .ok (.iconst 2, 1) := by decide +kernel
theorem d_m4_23 : decode method_4_code 23 = .ok (.ldc2_w 58, 3) := by decide +kernel
theorem d_m4_26 : decode method_4_code 26 = .ok (.lastore, 1) := by decide +kernel
theorem d_m4_27 : decode method_4_code 27 = .ok (.dup, 1) := by decide +kernel
theorem d_m4_28 : decode method_4_code 28 = .ok (.iconst 3, 1) := by decide +kernel
theorem d_m4_29 : decode method_4_code 29 = .ok (.ldc2_w 60, 3) := by decide +kernel
theorem d_m4_32 : decode method_4_code 32 = .ok (.lastore, 1) := by decide +kernel
theorem d_m4_33 : decode method_4_code 33 = .ok (.dup, 1) := by decide +kernel
theorem d_m4_34 : decode method_4_code 34 = .ok (.iconst 4, 1) := by decide +kernel
theorem d_m4_35 : decode method_4_code 35 = .ok (.ldc2_w 62, 3) := by decide +kernel
theorem d_m4_38 : decode method_4_code 38 = .ok (.lastore, 1) := by decide +kernel
theorem d_m4_39 : decode method_4_code 39 = .ok (.dup, 1) := by decide +kernel
theorem d_m4_40 : decode method_4_code 40 = .ok (.iconst 5, 1) := by decide +kernel
theorem d_m4_41 : decode method_4_code 41 = .ok (.ldc2_w 64, 3) := by decide +kernel
theorem d_m4_44 : decode method_4_code 44 = .ok (.lastore, 1) := by decide +kernel
theorem d_m4_45 : decode method_4_code 45 = .ok (.dup, 1) := by decide +kernel
theorem d_m4_46 : decode method_4_code 46 = .ok (.bipush 6, 2) := by decide +kernel
theorem d_m4_48 : decode method_4_code 48 = .ok (.ldc2_w 66, 3) := by decide +kernel
theorem d_m4_51 : decode method_4_code 51 = .ok (.lastore, 1) := by decide +kernel
theorem d_m4_52 : decode method_4_code 52 = .ok (.dup, 1) := by decide +kernel
theorem d_m4_53 : decode method_4_code 53 = .ok (.bipush 7, 2) := by decide +kernel
theorem d_m4_55 : decode method_4_code 55 = .ok (.ldc2_w 68, 3) := by decide +kernel
theorem d_m4_58 : decode method_4_code 58 = .ok (.lastore, 1) := by decide +kernel
theorem d_m4_59 : decode method_4_code 59 = .ok (.dup, 1) := by decide +kernel
theorem d_m4_60 : decode method_4_code 60 = .ok (.bipush 8, 2) := by decide +kernel
theorem d_m4_62 : decode method_4_code 62 = .ok (.ldc2_w 70, 3) := by decide +kernel
theorem d_m4_65 : decode method_4_code 65 = .ok (.lastore, 1) := by decide +kernel
theorem d_m4_66 : decode method_4_code 66 = .ok (.dup, 1) := by decide +kernel
theorem d_m4_67 : decode method_4_code 67 = .ok (.bipush 9, 2) := by decide +kernel
theorem d_m4_69 : decode method_4_code 69 = .ok (.ldc2_w 72, 3) := by decide +kernel
theorem d_m4_72 : decode method_4_code 72 = .ok (.lastore, 1) := by decide +kernel
theorem d_m4_73 : decode method_4_code 73 = .ok (.astore 6, 2) := by decide +kernel
theorem d_m4_75 : decode method_4_code 75 = .ok (.lload 4, 2) := by decide +kernel
theorem d_m4_77 : decode method_4_code 77 = .ok (.aload 6, 2) := by decide +kernel
theorem d_m4_79 : decode method_4_code 79 = .ok (.iload_n 2, 1) := by decide +kernel
theorem d_m4_80 : decode method_4_code 80 = .ok (.iconst 1, 1) := by decide +kernel
theorem d_m4_81 : decode method_4_code 81 = .ok (.isub, 1) := by decide +kernel
theorem d_m4_82 : decode method_4_code 82 = .ok (.iload_n 3, 1) := by decide +kernel
theorem d_m4_83 : decode method_4_code 83 = .ok (.isub, 1) := by decide +kernel
theorem d_m4_84 : decode method_4_code 84 = .ok (.laload, 1) := by decide +kernel
theorem d_m4_85 : decode method_4_code 85 = .ok (.ldiv, 1) := by decide +kernel
theorem d_m4_86 : decode method_4_code 86 = .ok (.ldc2_w 56, 3) := by decide +kernel
theorem d_m4_89 : decode method_4_code 89 = .ok (.lrem, 1) := by decide +kernel
theorem d_m4_90 : decode method_4_code 90 = .ok (.lstore 7, 2) := by decide +kernel
theorem d_m4_92 : decode method_4_code 92 = .ok (.aload_n 0, 1) := by decide +kernel
theorem d_m4_93 : decode method_4_code 93 = .ok (.iload_n 1, 1) := by decide +kernel
theorem d_m4_94 : decode method_4_code 94 = .ok (.iload_n 3, 1) := by decide +kernel
theorem d_m4_95 : decode method_4_code 95 = .ok (.iadd, 1) := by decide +kernel
theorem d_m4_96 : decode method_4_code 96 = .ok (.invokevirtual 48, 3) := by decide +kernel
theorem pd_25 : parseMethodDescriptor "(I)C" = some ⟨[.int], some .char⟩ := by decide +kernel
theorem d_m4_99 : decode method_4_code 99 = .ok (.ldc2_w 74, 3) := by decide +kernel
theorem d_m4_102 : decode method_4_code 102 = .ok (.lload 7, 2) := by decide +kernel
theorem d_m4_104 : decode method_4_code 104 = .ok (.ladd, 1) := by decide +kernel
theorem d_m4_105 : decode method_4_code 105 = .ok (.l2i, 1) := by decide +kernel
theorem d_m4_106 : decode method_4_code 106 = .ok (.i2c, 1) := by decide +kernel
theorem d_m4_107 : decode method_4_code 107 = .ok (.if_icmp .ne 7, 3) := by decide +kernel
theorem d_m4_110 : decode method_4_code 110 = .ok (.iconst 1, 1) := by decide +kernel
theorem d_m4_111 : decode method_4_code 111 = .ok (.goto 4, 3) := by decide +kernel
theorem d_m4_115 : decode method_4_code 115 = .ok (.ireturn, 1) := by decide +kernel
theorem d_m4_5 : decode method_4_code 5 = .ok (.iconst 1, 1) := by decide +kernel
theorem d_m4_6 : decode method_4_code 6 = .ok (.ireturn, 1) := by decide +kernel
set_option maxRecDepth 65536 in
set_option maxHeartbeats 40000000 in
theorem rmDK (l : Launch) (Z : State) (a0 : Array Value) (hw : ∀ d ∈ tables_1, d.before a0 Z = true) (ws : List Jvm.Cond) (x1 : Addr) (t1 : Addr) (k1 : ClassId) (cw : List Int32) (cz : List Int32) (s1 : Int32) (n1 : Int32) (i1 : Int32) (j1 : Int64) (jz : Nat) (vz : Nat) (zc : Int32) (fm : Value) (h0 : Heap) (n0 : Nat) (Z0 : n0 ≤ h0.size) (Es1 : Exa Z h0 x1 "java/lang/String") (Fv1 : Fld Z h0 x1 "java/lang/String" "value" "[B" (.ref t1)) (Fc1 : Fld Z h0 x1 "java/lang/String" "coder" "B" (.int (0 : Int32))) (As1 : Arv Z h0 t1 k1 .byte (Int32.ofNat cw.length) (bsV cw) (.int (0 : Int32))) (S4 : Sta Z Z.heap "java/lang/String" "COMPACT_STRINGS" "Z" (.int zc)) (O1 : Old Z n0 h0) (S5 : Sta Z Z.heap "jdk/internal/util/Preconditions" "SIOOBE_FORMATTER" "Ljava/util/function/BiFunction;" fm) (hCS : ¬ zc = 0) (hFM : fm.isRef = true) (hp : ∀ c ∈ cw, ¬ c < 0 ∧ ¬ (255 : Int32) < c) (hcw : cw = cz ++ dl vz) (lz : cz.length ≤ 5) (hv : vz ≤ 2147483648) (qs : s1 = Int32.ofNat cz.length) (qn : n1 = Int32.ofNat (dl vz).length) (qi : i1 = Int32.ofNat jz) (qj : j1 = Int64.ofNat vz) (hjz : jz ≤ 9) :
    MetFree l (⟨"com/example/net_thirty/netthirty/mail/MailServerAddressPinLaw", "digitOk", "(Ljava/lang/String;IIIJ)Z"⟩ : MethodName) (head1 (Jvm.Cond.code (⟨"com/example/net_thirty/netthirty/mail/MailServerAddressPinLaw", "digitOk", "(Ljava/lang/String;IIIJ)Z"⟩ : MethodName) method_4_code 9 (some .boolean) :: ws) ({ frames := 4, cells := 1, slots := 10, locals := 54 } : Room)) (fun a U => a = #[(.ref x1), (.int s1), (.int n1), (.int i1), (.long j1)] ∧ Z.Warmed39 U.vm ∧ U.heap = h0) (fun _ _ _ _ _ => True) (fun _ U o U' => ∃ v L, o = .returned v ∧ Q_rmDK Z x1 t1 k1 cw cz s1 n1 i1 j1 jz vz zc fm h0 n0 v U'.heap L ∧ FrameEnd U o U' L ({ frames := 4, cells := 1, slots := 10, locals := 54 } : Room).cells ({ frames := 4, cells := 1, slots := 10, locals := 54 } : Room).slots) := by
  refine MetFree.of_bodySF (plainFor_of_name pn_com_example_net_thirty_netthirty_mail_MailServerAddressPinLaw) hisR ?_
  intro p e s m args below meth c s₁ Bd hml0 hP hK
  obtain ⟨rfl, hZ, hh⟩ := hP
  have hx := Bd.exec
  have hby := Bd.bytes
  have hlk := BodyLoose.notSynchronized Bd
  have hml : c.maxLocals = 9 := hml0
  have hown : s.vm.findClass "com/example/net_thirty/netthirty/mail/MailServerAddressPinLaw" = some m.cls := findClass_of_methodNamed Bd.named
  have hnm := (name_of_methodNamed Bd.named Bd.method).1
  have X0 : Stand p l e ({ frames := 4, cells := 1, slots := 10, locals := 54 } : Room) s m #[(.ref x1), (.int s1), (.int n1), (.int i1), (.long j1)] below meth c s₁ [] 0 0 := Stand.of_body Bd
  have e0 : s₁.heap = h0 := by rw [← hh, Bd.state]; rfl
  have N0 := Fr.nil n0
  have K0 := Keep.refl h0 []
  clear hh
  show Wk p e below (EndN s (Q_rmDK Z x1 t1 k1 cw cz s1 n1 i1 j1 jz vz zc fm h0 n0) ({ frames := 4, cells := 1, slots := 10, locals := 54 } : Room).cells ({ frames := 4, cells := 1, slots := 10, locals := 54 } : Room).slots) s₁ (entryFrame m #[(.ref x1), (.int s1), (.int n1), (.int i1), (.long j1)] 9)
  rw [ef_rmDK]
  have lt_Es1 := ny Es1.lt
  have lt_Fv1 := ny Fv1.lt
  have lt_Fc1 := ny Fc1.lt
  have lt_As1 := ny As1.lt
  have ld := dl_le vz hv
  have lw : cw.length = cz.length + (dl vz).length := by rw [hcw, List.length_append]
  refine Wk.iloadN X0 hx (hb hby d_m4_0) (n := 1) rfl rfl ?_
  refine Wk.iloadN X0 hx (hb hby d_m4_1) (n := 2) rfl rfl ?_
  by_cases hc2 : i1 < n1
  ·
    refine Wk.icmpYes X0 hx (hb hby d_m4_2) (tlt hc2).1 (by decide) (n := 7) (by decide) ?_
    have hj1 : jz < (dl vz).length := by rw [qi, qn] at hc2; exact (own_lt (by omega) (by omega)).mp hc2
    obtain ⟨kz, hkz⟩ : ∃ kz, (dl vz).length = kz + 1 := ⟨(dl vz).length - 1, by omega⟩
    refine Wk.bipush X0 hx (hb hby d_m4_7) (n := 9) rfl (z := (10 : Int32)) rfl ?_
    refine Wk.newP X0 hx hZ (hw _ (List.mem_of_getElem? (i := 212) rfl)) e0 (hb hby d_m4_9) (n := 11) rfl (by decide) (cap := 10) (by decide) (by decide) (by decide) (by decide) fun T1 H1 b1 k1 gn1 X1 e1 Ex1 An1 => ?_
    have gn1 := nx gn1
    have sz1 := Ex1.1
    have K1 := K0.ext Ex1
    have Vn1 : Arv Z H1 b1 k1 .long (10 : Int32) [(.long (0 : Int64)), (.long (0 : Int64)), (.long (0 : Int64)), (.long (0 : Int64)), (.long (0 : Int64)), (.long (0 : Int64)), (.long (0 : Int64)), (.long (0 : Int64)), (.long (0 : Int64)), (.long (0 : Int64))] (.long (0 : Int64)) := (Arv.new An1 (by decide)).pad (pad_rep [] (.long (0 : Int64)) 10)
    have lt1 := ny Vn1.lt
    refine Wk.dup X1 hx (hb hby d_m4_11) (n := 12) rfl rfl ?_
    refine Wk.iconst X1 hx (hb hby d_m4_12) (n := 13) rfl (z := (0 : Int32)) rfl ?_
    refine Wk.lconst X1 hx (hb hby d_m4_13) (n := 14) rfl (z := (1 : Int64)) rfl ?_
    obtain ⟨cl2, Ar2, qn2, Sz2, N_2, H_2, Gn2⟩ := id Vn1
    have hin2 : ¬ ((0 : Int32) < 0 ∨ cl2.slots.size ≤ ((0 : Int32)).toNatClampNeg) := inb_of Sz2 ⟨by decide, by decide⟩
    refine Wk.stJ X1 hx hZ e1 Ar2 hin2 (hb hby d_m4_14) (n := 15) rfl fun T2 H2 X2 e2 Wn2 => ?_
    have Vn2 := Arv.set Ar2 qn2 Sz2 N_2 H_2 Gn2 rfl Wn2 0 rfl (Nat.le_of_ble_eq_true rfl)
    have Un2 : Arv Z H2 b1 k1 .long (10 : Int32) [(.long (1 : Int64)), (.long (0 : Int64)), (.long (0 : Int64)), (.long (0 : Int64)), (.long (0 : Int64)), (.long (0 : Int64)), (.long (0 : Int64)), (.long (0 : Int64)), (.long (0 : Int64)), (.long (0 : Int64))] (.long (0 : Int64)) := Vn2
    have sz2 := Wn2.size
    have K2 := K1.wr Wn2 (Or.inr (by omega))
    have N2 := Fr.snoc X2 N0 (by omega)
    refine Wk.dup X2 hx (hb hby d_m4_15) (n := 16) rfl rfl ?_
    refine Wk.iconst X2 hx (hb hby d_m4_16) (n := 17) rfl (z := (1 : Int32)) rfl ?_
    refine Wk.ldc2Long X2 hx hown (mvT hZ (hw _ (List.mem_of_getElem? (i := 185) rfl))) (hb hby d_m4_17) (n := 20) rfl ?_
    obtain ⟨cl3, Ar3, qn3, Sz3, N_3, H_3, Gn3⟩ := id Un2
    have hin3 : ¬ ((1 : Int32) < 0 ∨ cl3.slots.size ≤ ((1 : Int32)).toNatClampNeg) := inb_of Sz3 ⟨by decide, by decide⟩
    refine Wk.stJ X2 hx hZ e2 Ar3 hin3 (hb hby d_m4_20) (n := 21) rfl fun T3 H3 X3 e3 Wn3 => ?_
    have Vn3 := Arv.set Ar3 qn3 Sz3 N_3 H_3 Gn3 rfl Wn3 1 rfl (Nat.le_of_ble_eq_true rfl)
    have Un3 : Arv Z H3 b1 k1 .long (10 : Int32) [(.long (1 : Int64)), (.long (10 : Int64)), (.long (0 : Int64)), (.long (0 : Int64)), (.long (0 : Int64)), (.long (0 : Int64)), (.long (0 : Int64)), (.long (0 : Int64)), (.long (0 : Int64)), (.long (0 : Int64))] (.long (0 : Int64)) := Vn3
    have sz3 := Wn3.size
    have K3 := K2.wr Wn3 (Or.inr (by omega))
    have N3 := Fr.snoc X3 N2 (by omega)
    refine Wk.dup X3 hx (hb hby d_m4_21) (n := 22) rfl rfl ?_
    refine Wk.iconst X3 hx (hb hby d_m4_22) (n := 23) rfl (z := (2 : Int32)) rfl ?_
    refine Wk.ldc2Long X3 hx hown (mvT hZ (hw _ (List.mem_of_getElem? (i := 213) rfl))) (hb hby d_m4_23) (n := 26) rfl ?_
    obtain ⟨cl4, Ar4, qn4, Sz4, N_4, H_4, Gn4⟩ := id Un3
    have hin4 : ¬ ((2 : Int32) < 0 ∨ cl4.slots.size ≤ ((2 : Int32)).toNatClampNeg) := inb_of Sz4 ⟨by decide, by decide⟩
    refine Wk.stJ X3 hx hZ e3 Ar4 hin4 (hb hby d_m4_26) (n := 27) rfl fun T4 H4 X4 e4 Wn4 => ?_
    have Vn4 := Arv.set Ar4 qn4 Sz4 N_4 H_4 Gn4 rfl Wn4 2 rfl (Nat.le_of_ble_eq_true rfl)
    have Un4 : Arv Z H4 b1 k1 .long (10 : Int32) [(.long (1 : Int64)), (.long (10 : Int64)), (.long (100 : Int64)), (.long (0 : Int64)), (.long (0 : Int64)), (.long (0 : Int64)), (.long (0 : Int64)), (.long (0 : Int64)), (.long (0 : Int64)), (.long (0 : Int64))] (.long (0 : Int64)) := Vn4
    have sz4 := Wn4.size
    have K4 := K3.wr Wn4 (Or.inr (by omega))
    have N4 := Fr.snoc X4 N3 (by omega)
    refine Wk.dup X4 hx (hb hby d_m4_27) (n := 28) rfl rfl ?_
    refine Wk.iconst X4 hx (hb hby d_m4_28) (n := 29) rfl (z := (3 : Int32)) rfl ?_
    refine Wk.ldc2Long X4 hx hown (mvT hZ (hw _ (List.mem_of_getElem? (i := 214) rfl))) (hb hby d_m4_29) (n := 32) rfl ?_
    obtain ⟨cl5, Ar5, qn5, Sz5, N_5, H_5, Gn5⟩ := id Un4
    have hin5 : ¬ ((3 : Int32) < 0 ∨ cl5.slots.size ≤ ((3 : Int32)).toNatClampNeg) := inb_of Sz5 ⟨by decide, by decide⟩
    refine Wk.stJ X4 hx hZ e4 Ar5 hin5 (hb hby d_m4_32) (n := 33) rfl fun T5 H5 X5 e5 Wn5 => ?_
    have Vn5 := Arv.set Ar5 qn5 Sz5 N_5 H_5 Gn5 rfl Wn5 3 rfl (Nat.le_of_ble_eq_true rfl)
    have Un5 : Arv Z H5 b1 k1 .long (10 : Int32) [(.long (1 : Int64)), (.long (10 : Int64)), (.long (100 : Int64)), (.long (1000 : Int64)), (.long (0 : Int64)), (.long (0 : Int64)), (.long (0 : Int64)), (.long (0 : Int64)), (.long (0 : Int64)), (.long (0 : Int64))] (.long (0 : Int64)) := Vn5
    have sz5 := Wn5.size
    have K5 := K4.wr Wn5 (Or.inr (by omega))
    have N5 := Fr.snoc X5 N4 (by omega)
    refine Wk.dup X5 hx (hb hby d_m4_33) (n := 34) rfl rfl ?_
    refine Wk.iconst X5 hx (hb hby d_m4_34) (n := 35) rfl (z := (4 : Int32)) rfl ?_
    refine Wk.ldc2Long X5 hx hown (mvT hZ (hw _ (List.mem_of_getElem? (i := 215) rfl))) (hb hby d_m4_35) (n := 38) rfl ?_
    obtain ⟨cl6, Ar6, qn6, Sz6, N_6, H_6, Gn6⟩ := id Un5
    have hin6 : ¬ ((4 : Int32) < 0 ∨ cl6.slots.size ≤ ((4 : Int32)).toNatClampNeg) := inb_of Sz6 ⟨by decide, by decide⟩
    refine Wk.stJ X5 hx hZ e5 Ar6 hin6 (hb hby d_m4_38) (n := 39) rfl fun T6 H6 X6 e6 Wn6 => ?_
    have Vn6 := Arv.set Ar6 qn6 Sz6 N_6 H_6 Gn6 rfl Wn6 4 rfl (Nat.le_of_ble_eq_true rfl)
    have Un6 : Arv Z H6 b1 k1 .long (10 : Int32) [(.long (1 : Int64)), (.long (10 : Int64)), (.long (100 : Int64)), (.long (1000 : Int64)), (.long (10000 : Int64)), (.long (0 : Int64)), (.long (0 : Int64)), (.long (0 : Int64)), (.long (0 : Int64)), (.long (0 : Int64))] (.long (0 : Int64)) := Vn6
    have sz6 := Wn6.size
    have K6 := K5.wr Wn6 (Or.inr (by omega))
    have N6 := Fr.snoc X6 N5 (by omega)
    refine Wk.dup X6 hx (hb hby d_m4_39) (n := 40) rfl rfl ?_
    refine Wk.iconst X6 hx (hb hby d_m4_40) (n := 41) rfl (z := (5 : Int32)) rfl ?_
    refine Wk.ldc2Long X6 hx hown (mvT hZ (hw _ (List.mem_of_getElem? (i := 216) rfl))) (hb hby d_m4_41) (n := 44) rfl ?_
    obtain ⟨cl7, Ar7, qn7, Sz7, N_7, H_7, Gn7⟩ := id Un6
    have hin7 : ¬ ((5 : Int32) < 0 ∨ cl7.slots.size ≤ ((5 : Int32)).toNatClampNeg) := inb_of Sz7 ⟨by decide, by decide⟩
    refine Wk.stJ X6 hx hZ e6 Ar7 hin7 (hb hby d_m4_44) (n := 45) rfl fun T7 H7 X7 e7 Wn7 => ?_
    have Vn7 := Arv.set Ar7 qn7 Sz7 N_7 H_7 Gn7 rfl Wn7 5 rfl (Nat.le_of_ble_eq_true rfl)
    have Un7 : Arv Z H7 b1 k1 .long (10 : Int32) [(.long (1 : Int64)), (.long (10 : Int64)), (.long (100 : Int64)), (.long (1000 : Int64)), (.long (10000 : Int64)), (.long (100000 : Int64)), (.long (0 : Int64)), (.long (0 : Int64)), (.long (0 : Int64)), (.long (0 : Int64))] (.long (0 : Int64)) := Vn7
    have sz7 := Wn7.size
    have K7 := K6.wr Wn7 (Or.inr (by omega))
    have N7 := Fr.snoc X7 N6 (by omega)
    refine Wk.dup X7 hx (hb hby d_m4_45) (n := 46) rfl rfl ?_
    refine Wk.bipush X7 hx (hb hby d_m4_46) (n := 48) rfl (z := (6 : Int32)) rfl ?_
    refine Wk.ldc2Long X7 hx hown (mvT hZ (hw _ (List.mem_of_getElem? (i := 217) rfl))) (hb hby d_m4_48) (n := 51) rfl ?_
    obtain ⟨cl8, Ar8, qn8, Sz8, N_8, H_8, Gn8⟩ := id Un7
    have hin8 : ¬ ((6 : Int32) < 0 ∨ cl8.slots.size ≤ ((6 : Int32)).toNatClampNeg) := inb_of Sz8 ⟨by decide, by decide⟩
    refine Wk.stJ X7 hx hZ e7 Ar8 hin8 (hb hby d_m4_51) (n := 52) rfl fun T8 H8 X8 e8 Wn8 => ?_
    have Vn8 := Arv.set Ar8 qn8 Sz8 N_8 H_8 Gn8 rfl Wn8 6 rfl (Nat.le_of_ble_eq_true rfl)
    have Un8 : Arv Z H8 b1 k1 .long (10 : Int32) [(.long (1 : Int64)), (.long (10 : Int64)), (.long (100 : Int64)), (.long (1000 : Int64)), (.long (10000 : Int64)), (.long (100000 : Int64)), (.long (1000000 : Int64)), (.long (0 : Int64)), (.long (0 : Int64)), (.long (0 : Int64))] (.long (0 : Int64)) := Vn8
    have sz8 := Wn8.size
    have K8 := K7.wr Wn8 (Or.inr (by omega))
    have N8 := Fr.snoc X8 N7 (by omega)
    refine Wk.dup X8 hx (hb hby d_m4_52) (n := 53) rfl rfl ?_
    refine Wk.bipush X8 hx (hb hby d_m4_53) (n := 55) rfl (z := (7 : Int32)) rfl ?_
    refine Wk.ldc2Long X8 hx hown (mvT hZ (hw _ (List.mem_of_getElem? (i := 218) rfl))) (hb hby d_m4_55) (n := 58) rfl ?_
    obtain ⟨cl9, Ar9, qn9, Sz9, N_9, H_9, Gn9⟩ := id Un8
    have hin9 : ¬ ((7 : Int32) < 0 ∨ cl9.slots.size ≤ ((7 : Int32)).toNatClampNeg) := inb_of Sz9 ⟨by decide, by decide⟩
    refine Wk.stJ X8 hx hZ e8 Ar9 hin9 (hb hby d_m4_58) (n := 59) rfl fun T9 H9 X9 e9 Wn9 => ?_
    have Vn9 := Arv.set Ar9 qn9 Sz9 N_9 H_9 Gn9 rfl Wn9 7 rfl (Nat.le_of_ble_eq_true rfl)
    have Un9 : Arv Z H9 b1 k1 .long (10 : Int32) [(.long (1 : Int64)), (.long (10 : Int64)), (.long (100 : Int64)), (.long (1000 : Int64)), (.long (10000 : Int64)), (.long (100000 : Int64)), (.long (1000000 : Int64)), (.long (10000000 : Int64)), (.long (0 : Int64)), (.long (0 : Int64))] (.long (0 : Int64)) := Vn9
    have sz9 := Wn9.size
    have K9 := K8.wr Wn9 (Or.inr (by omega))
    have N9 := Fr.snoc X9 N8 (by omega)
    refine Wk.dup X9 hx (hb hby d_m4_59) (n := 60) rfl rfl ?_
    refine Wk.bipush X9 hx (hb hby d_m4_60) (n := 62) rfl (z := (8 : Int32)) rfl ?_
    refine Wk.ldc2Long X9 hx hown (mvT hZ (hw _ (List.mem_of_getElem? (i := 219) rfl))) (hb hby d_m4_62) (n := 65) rfl ?_
    obtain ⟨cl10, Ar10, qn10, Sz10, N_10, H_10, Gn10⟩ := id Un9
    have hin10 : ¬ ((8 : Int32) < 0 ∨ cl10.slots.size ≤ ((8 : Int32)).toNatClampNeg) := inb_of Sz10 ⟨by decide, by decide⟩
    refine Wk.stJ X9 hx hZ e9 Ar10 hin10 (hb hby d_m4_65) (n := 66) rfl fun T10 H10 X10 e10 Wn10 => ?_
    have Vn10 := Arv.set Ar10 qn10 Sz10 N_10 H_10 Gn10 rfl Wn10 8 rfl (Nat.le_of_ble_eq_true rfl)
    have Un10 : Arv Z H10 b1 k1 .long (10 : Int32) [(.long (1 : Int64)), (.long (10 : Int64)), (.long (100 : Int64)), (.long (1000 : Int64)), (.long (10000 : Int64)), (.long (100000 : Int64)), (.long (1000000 : Int64)), (.long (10000000 : Int64)), (.long (100000000 : Int64)), (.long (0 : Int64))] (.long (0 : Int64)) := Vn10
    have sz10 := Wn10.size
    have K10 := K9.wr Wn10 (Or.inr (by omega))
    have N10 := Fr.snoc X10 N9 (by omega)
    refine Wk.dup X10 hx (hb hby d_m4_66) (n := 67) rfl rfl ?_
    refine Wk.bipush X10 hx (hb hby d_m4_67) (n := 69) rfl (z := (9 : Int32)) rfl ?_
    refine Wk.ldc2Long X10 hx hown (mvT hZ (hw _ (List.mem_of_getElem? (i := 220) rfl))) (hb hby d_m4_69) (n := 72) rfl ?_
    obtain ⟨cl11, Ar11, qn11, Sz11, N_11, H_11, Gn11⟩ := id Un10
    have hin11 : ¬ ((9 : Int32) < 0 ∨ cl11.slots.size ≤ ((9 : Int32)).toNatClampNeg) := inb_of Sz11 ⟨by decide, by decide⟩
    refine Wk.stJ X10 hx hZ e10 Ar11 hin11 (hb hby d_m4_72) (n := 73) rfl fun T11 H11 X11 e11 Wn11 => ?_
    have Vn11 := Arv.set Ar11 qn11 Sz11 N_11 H_11 Gn11 rfl Wn11 9 rfl (Nat.le_of_ble_eq_true rfl)
    have Un11 : Arv Z H11 b1 k1 .long (10 : Int32) [(.long (1 : Int64)), (.long (10 : Int64)), (.long (100 : Int64)), (.long (1000 : Int64)), (.long (10000 : Int64)), (.long (100000 : Int64)), (.long (1000000 : Int64)), (.long (10000000 : Int64)), (.long (100000000 : Int64)), (.long (1000000000 : Int64))] (.long (0 : Int64)) := Vn11
    have sz11 := Wn11.size
    have K11 := K10.wr Wn11 (Or.inr (by omega))
    have N11 := Fr.snoc X11 N10 (by omega)
    refine Wk.astore X11 hx (hb hby d_m4_73) (n := 75) rfl rfl (L' := #[.val (.ref x1), .val (.int s1), .val (.int n1), .val (.int i1), .val (.long j1), .second, .val (.ref b1), .unset, .unset]) rfl ?_
    refine Wk.lload X11 hx (hb hby d_m4_75) (n := 77) rfl rfl ?_
    refine Wk.aload X11 hx (hb hby d_m4_77) (n := 79) rfl rfl rfl ?_
    refine Wk.iloadN X11 hx (hb hby d_m4_79) (n := 80) rfl rfl ?_
    refine Wk.iconst X11 hx (hb hby d_m4_80) (n := 81) rfl (z := (1 : Int32)) rfl ?_
    refine Wk.isub X11 hx (hb hby d_m4_81) (n := 82) rfl ?_
    refine Wk.iloadN X11 hx (hb hby d_m4_82) (n := 83) rfl rfl ?_
    refine Wk.isub X11 hx (hb hby d_m4_83) (n := 84) rfl ?_
    have qk : ((n1 - (1 : Int32)) - i1) = Int32.ofNat (kz - jz) := by rw [qn, qi, hkz]; exact own_ix (by omega)
    obtain ⟨cl12, Ar12, qn12, Sz12, N_12, H_12, Gn12⟩ := id Un11
    have hin12 : ¬ (((n1 - (1 : Int32)) - i1) < 0 ∨ cl12.slots.size ≤ (((n1 - (1 : Int32)) - i1)).toNatClampNeg) := inb_of Sz12 (by rw [qk]; exact ⟨own_nonneg (by omega), (own_lt (b := 10) (by omega) (by decide)).mpr (by omega)⟩)
    refine Wk.laload X11 hx hZ e11 Ar12 (v := (.long (Int64.ofNat (10 ^ (kz - jz))))) hin12 (H_12.at hin12 (by rw [qk, own_cl (by omega)]; exact own_pw _ (by omega))) (hb hby d_m4_84) (n := 85) rfl ?_
    refine Wk.ldiv X11 hx (hb hby d_m4_85) (n := 86) rfl (own_pnz (by omega)) ?_
    refine Wk.ldc2Long X11 hx hown (mvT hZ (hw _ (List.mem_of_getElem? (i := 185) rfl))) (hb hby d_m4_86) (n := 89) rfl ?_
    refine Wk.lrem X11 hx (hb hby d_m4_89) (n := 90) rfl (by decide) ?_
    refine Wk.lstore X11 hx (hb hby d_m4_90) (n := 92) rfl (L' := #[.val (.ref x1), .val (.int s1), .val (.int n1), .val (.int i1), .val (.long j1), .second, .val (.ref b1), .val (.long ((j1 / (Int64.ofNat (10 ^ (kz - jz)))) - ((j1 / (Int64.ofNat (10 ^ (kz - jz)))) / (10 : Int64)) * (10 : Int64))), .second]) rfl ?_
    refine Wk.aloadN X11 hx (hb hby d_m4_92) (n := 93) rfl rfl rfl ?_
    refine Wk.iloadN X11 hx (hb hby d_m4_93) (n := 94) rfl rfl ?_
    refine Wk.iloadN X11 hx (hb hby d_m4_94) (n := 95) rfl rfl ?_
    refine Wk.iadd X11 hx (hb hby d_m4_95) (n := 96) rfl ?_
    have qx : (s1 + i1) = Int32.ofNat (cz.length + jz) := by rw [qs, qi]; exact own_ofadd _ _
    have f14 := (((((((((((Es1.ext Ex1).wr Wn2).wr Wn3).wr Wn4).wr Wn5).wr Wn6).wr Wn7).wr Wn8).wr Wn9).wr Wn10).wr Wn11)
    have f15 := (((((((((((Fv1.ext Ex1).other Wn2 (Or.inl (nz (by omega)))).other Wn3 (Or.inl (nz (by omega)))).other Wn4 (Or.inl (nz (by omega)))).other Wn5 (Or.inl (nz (by omega)))).other Wn6 (Or.inl (nz (by omega)))).other Wn7 (Or.inl (nz (by omega)))).other Wn8 (Or.inl (nz (by omega)))).other Wn9 (Or.inl (nz (by omega)))).other Wn10 (Or.inl (nz (by omega)))).other Wn11 (Or.inl (nz (by omega))))
    have f16 := (((((((((((Fc1.ext Ex1).other Wn2 (Or.inl (nz (by omega)))).other Wn3 (Or.inl (nz (by omega)))).other Wn4 (Or.inl (nz (by omega)))).other Wn5 (Or.inl (nz (by omega)))).other Wn6 (Or.inl (nz (by omega)))).other Wn7 (Or.inl (nz (by omega)))).other Wn8 (Or.inl (nz (by omega)))).other Wn9 (Or.inl (nz (by omega)))).other Wn10 (Or.inl (nz (by omega)))).other Wn11 (Or.inl (nz (by omega))))
    have f17 := (((((((((((As1.ext Ex1).other Wn2 (nz (by omega))).other Wn3 (nz (by omega))).other Wn4 (nz (by omega))).other Wn5 (nz (by omega))).other Wn6 (nz (by omega))).other Wn7 (nz (by omega))).other Wn8 (nz (by omega))).other Wn9 (nz (by omega))).other Wn10 (nz (by omega))).other Wn11 (nz (by omega)))
    have f18 := (((((((((((O1.ext Ex1).wr Wn2 (by omega)).wr Wn3 (by omega)).wr Wn4 (by omega)).wr Wn5 (by omega)).wr Wn6 (by omega)).wr Wn7 (by omega)).wr Wn8 (by omega)).wr Wn9 (by omega)).wr Wn10 (by omega)).wr Wn11 (by omega))
    obtain ⟨cq13, kq13, qn13a, qn13b, qn13c⟩ := isOf hZ e11 f14
    have cl13_ := fun (Ls : Array Slot) (hLs : Ls.size = c.maxLocals) => X11.virtualBack hx (y := (⟨"java/lang/String", "charAt", "(I)C"⟩ : MethodName)) (z := (⟨"java/lang/String", "charAt", "(I)C"⟩ : MethodName)) hown (mvT hZ (hw _ (List.mem_of_getElem? (i := 187) rfl))) (mvT hZ (hw _ (List.mem_of_getElem? (i := 188) rfl))) (notFace_of_selects (args := #[]) (mvT hZ (hw _ (List.mem_of_getElem? (i := 190) rfl)))) (mvT hZ (hw _ (List.mem_of_getElem? (i := 190) rfl))) (mvT hZ (hw _ (List.mem_of_getElem? (i := 189) rfl))) (by decide) (StrChars.Road.chN (W := 0) hZ (fun d hd => hw d (own_wc d hd)) (kI := 4) (hw _ (List.mem_of_getElem? (i := 3) rfl)) f14 f15 f16 f17 (StrChars.Road.codOf (cs := cw) (n := cw.length) rfl (fun c hc => (hp c hc).2)) (own_up hp) (Sta.ext f18.2 S4) hCS (Sta.ext f18.2 S5) hFM (by omega) (i := (cz.length + jz)) (by omega) (j := (s1 + i1)) qx (by decide) (by decide)) qn13a qn13c (g := mkF m 96 Ls [(.int (s1 + i1)), (.ref x1)]) rfl hLs (Steps.refl _) (argsL := [(.int (s1 + i1))]) (rest := []) (lenOf pd_25 rfl) rfl (by show 2 * 0 + _ ≤ _; exact Nat.le_of_eq rfl) (hb hby d_m4_96) (fun _ _ => ⟨rfl, e11, (by decide : 0 + 1 + 0 ≤ _), (by decide : 0 + 10 + 0 ≤ _)⟩)
    refine Wk.back (n := 99) (rc := 0) (rs := 0) (Q := fun v h' L => (v = some (.int ((cw : List Int32).getD (cz.length + jz) 0)) ∧ L = [] ∧ h' = H11)) (cl13_ _ (by rw [hml]; rfl)) fun vn13 T13 L13 X13 hQ13 => ?_
    clear cl13_
    obtain ⟨rfl, rfl, e13⟩ := hQ13
    have N13 := Fr.app N11 (Fr.nil n0)
    show Wk p e below _ T13 (mkF m 99 _ [(.int (cw.getD (cz.length + jz) 0))])
    refine Wk.ldc2Long X13 hx hown (mvT hZ (hw _ (List.mem_of_getElem? (i := 221) rfl))) (hb hby d_m4_99) (n := 102) rfl ?_
    refine Wk.lload X13 hx (hb hby d_m4_102) (n := 104) rfl rfl ?_
    refine Wk.ladd X13 hx (hb hby d_m4_104) (n := 105) rfl ?_
    refine Wk.l2i X13 hx (hb hby d_m4_105) (n := 106) rfl ?_
    refine Wk.i2c X13 hx (hb hby d_m4_106) (n := 107) rfl rfl ?_
    have hc107_19 : (cw.getD (cz.length + jz) 0) = ((((48 : Int64) + ((j1 / (Int64.ofNat (10 ^ (kz - jz)))) - ((j1 / (Int64.ofNat (10 ^ (kz - jz)))) / (10 : Int64)) * (10 : Int64))).toInt32).toUInt32.toUInt16.toUInt32.toInt32) := by rw [hcw, own_gr, dl_get kz vz jz hkz (by omega), qj, own_dv64 (by omega) (own_p62 (by omega)), own_md64 (own_dq hv), own_dg (Nat.mod_lt _ (by decide))]
    refine Wk.icmpNo X13 hx (hb hby d_m4_107) (n := 110) rfl (teq hc107_19).2 ?_
    refine Wk.iconst X13 hx (hb hby d_m4_110) (n := 111) rfl (z := (1 : Int32)) rfl ?_
    refine Wk.goto X13 hx (hb hby d_m4_111) (by decide) (n := 115) (by decide) ?_
    exact Wk.leave X13 (v := some (.int (1 : Int32))) (fun h => by rw [Bd.returns] at h; cases h) hlk e13 ⟨rfl, N13, K11⟩ (by decide) (by decide) (fun fs hr => retNz X13 hx (t := .boolean) rfl Bd.returns (by simp) (hb hby d_m4_115) hr)
  ·
    refine Wk.icmpNo X0 hx (hb hby d_m4_2) (n := 5) rfl (flt hc2).1 ?_
    refine Wk.iconst X0 hx (hb hby d_m4_5) (n := 6) rfl (z := (1 : Int32)) rfl ?_
    exact Wk.leave X0 (v := some (.int (1 : Int32))) (fun h => by rw [Bd.returns] at h; cases h) hlk e0 ⟨rfl, N0, K0⟩ (by decide) (by decide) (fun fs hr => retNz X0 hx (t := .boolean) rfl Bd.returns (by simp) (hb hby d_m4_6) hr)
def Q_rm0 (Z : State) (p1 : Int32) (j1 : Int64) (p2 : Int32) (zc : Int32) (fm : Value) (dO : Addr) (kO : ClassId) (dT : Addr) (kT : ClassId) (h0 : Heap) (n0 : Nat) (v : Option Value) (h : Heap) (L : List Loc) : Prop := v = some (.int (1 : Int32)) ∧ Fr n0 L ∧ Keep h0 h []
theorem ef_rm0 (m : MethodId) (x0 : Int32) (x1 : Int64) (x2 : Int32) : entryFrame m #[(.int x0), (.long x1), (.int x2)] maxLocals = mkF m 0 #[.val (.int x0), .val (.long x1), .second, .val (.int x2), .unset, .unset, .unset, .unset, .unset, .unset, .unset, .unset, .unset, .unset, .unset, .unset, .unset, .unset, .unset, .unset] [] := by first | (simp [entryFrame, mkF, argsToLocals, Value.category, maxLocals]; done) | rfl
theorem pd_26 : parseMethodDescriptor "(Ljava/lang/String;IIIJ)Z" = some ⟨[(.object "java/lang/String"), .int, .int, .int, .long], some .boolean⟩ := by decide +kernel
theorem pd_27 : parseMethodDescriptor "(Ljava/lang/String;IZLcom/example/net_thirty/netthirty/mail/MailServer$Login;)V" = some ⟨[(.object "java/lang/String"), .int, .boolean, (.object "com/example/net_thirty/netthirty/mail/MailServer$Login")], none⟩ := by decide +kernel
theorem pd_28 : parseMethodDescriptor "(J)J" = some ⟨[.long], some .long⟩ := by decide +kernel
theorem pd_29 : parseMethodDescriptor "(J)I" = some ⟨[.long], some .int⟩ := by decide +kernel
theorem pd_30 : parseMethodDescriptor "([C)V" = some ⟨[(.array .char)], none⟩ := by decide +kernel
theorem pd_31 : parseMethodDescriptor "(C)Ljava/lang/String;" = some ⟨[.char], some (.object "java/lang/String")⟩ := by decide +kernel
theorem pd_32 : parseMethodDescriptor "(Ljava/lang/String;Ljava/lang/String;)V" = some ⟨[(.object "java/lang/String"), (.object "java/lang/String")], none⟩ := by decide +kernel
set_option maxRecDepth 65536 in
set_option maxHeartbeats 40000000 in
theorem rm0 (l : Launch) (Z : State) (a0 : Array Value) (hw : ∀ d ∈ tables_1, d.before a0 Z = true) (ws : List Jvm.Cond) (p1 : Int32) (j1 : Int64) (p2 : Int32) (zc : Int32) (fm : Value) (dO : Addr) (kO : ClassId) (dT : Addr) (kT : ClassId) (h0 : Heap) (n0 : Nat) (Z0 : n0 ≤ h0.size) (S4 : Sta Z Z.heap "java/lang/String" "COMPACT_STRINGS" "Z" (.int zc)) (O1 : Old Z n0 h0) (S5 : Sta Z Z.heap "jdk/internal/util/Preconditions" "SIOOBE_FORMATTER" "Ljava/util/function/BiFunction;" fm) (S6 : Sta Z Z.heap "java/lang/Integer" "DigitOnes" "[B" (.ref dO)) (S7 : Sta Z Z.heap "java/lang/Integer" "DigitTens" "[B" (.ref dT)) (A6 : Arv Z Z.heap dO kO .byte (100 : Int32) dgO (.int (0 : Int32))) (A7 : Arv Z Z.heap dT kT .byte (100 : Int32) dgT (.int (0 : Int32))) (hCS : ¬ zc = 0) (hFM : fm.isRef = true) :
    MetFree l x (head1 (Jvm.Cond.code x code maxLocals ret :: ws) room_1) (fun a U => a = #[(.int p1), (.long j1), (.int p2)] ∧ Z.Warmed39 U.vm ∧ U.heap = h0 ∧ CHv Z own_EL U.vm h0 ∧ ∀ x ∈ ([] : List Addr), Safe Z own_EL U.vm h0 x) (fun _ _ _ _ _ => True) (fun _ U o U' => ∃ v L, o = .returned v ∧ Q_rm0 Z p1 j1 p2 zc fm dO kO dT kT h0 n0 v U'.heap L ∧ CHr Z own_EL U.vm U.heap U'.vm U'.heap ∧ ReturnedEndW U o U' L room_1.cells room_1.slots) := by
  refine MetFree.of_bodySF (plainFor_of_name pn_com_example_net_thirty_netthirty_mail_MailServerAddressPinLaw) hisR ?_
  intro p e s m args below meth c s₁ Bd hml0 hP hK
  obtain ⟨rfl, hZ, hh, hCH, hSf⟩ := hP
  have hx := Bd.exec
  have hby := Bd.bytes
  have hlk := BodyLoose.notSynchronized Bd
  have hml : c.maxLocals = 20 := hml0
  have hown : s.vm.findClass "com/example/net_thirty/netthirty/mail/MailServerAddressPinLaw" = some m.cls := findClass_of_methodNamed Bd.named
  have hnm := (name_of_methodNamed Bd.named Bd.method).1
  have X0 : Stand p l e room_1 s m #[(.int p1), (.long j1), (.int p2)] below meth c s₁ [] 0 0 := Stand.of_body Bd
  have e0 : s₁.heap = h0 := by rw [← hh, Bd.state]; rfl
  have N0 := Fr.nil n0
  have K0 := Keep.refl h0 []
  skip
  show Wk p e below (EndW Z own_EL s (Q_rm0 Z p1 j1 p2 zc fm dO kO dT kT h0 n0) room_1.cells room_1.slots) s₁ (entryFrame m #[(.int p1), (.long j1), (.int p2)] maxLocals)
  rw [ef_rm0]
  have Bs0 := Base.start s h0.size
  have R0 := CHr.refl hCH
  have hELw := own_ew hw
  have jt_a : ∀ (Tj1 : State) (Hj1 : Heap) (Lcj1 : List Loc) (usj1 : State) (kzj1 : Nat) (hz : Int32) (tl : Int32) (fl : Int32) (c0 : Int32) (c1 : Int32) (c2 : Int32) (ah : Addr) (rh : Addr) (sv : Addr) (rr : Addr) (tr : Addr) (kr : ClassId) (lg : Value) (sg : Int32) (cw : List Int32) (cz : List Int32), (Stand p l e room_1 usj1 m #[(.int p1), (.long j1), (.int p2)] below meth c Tj1 Lcj1 26 110) → (Tj1.heap = Hj1) → (Keep h0 Hj1 []) → (Fr n0 Lcj1) → (Base s usj1 kzj1) → (kzj1 ≤ Hj1.size) → (Z.Warmed39 usj1.vm) → (usj1.vm.findClass "com/example/net_thirty/netthirty/mail/MailServerAddressPinLaw" = some m.cls) → (CHr Z own_EL s.vm h0 usj1.vm Hj1) → (Exa Z Hj1 rr "java/lang/String") → (Fld Z Hj1 rr "java/lang/String" "value" "[B" (.ref tr)) → (Fld Z Hj1 rr "java/lang/String" "coder" "B" (.int (0 : Int32))) → (Arv Z Hj1 tr kr .byte (Int32.ofNat cw.length) (bsV cw) (.int (0 : Int32))) → (Old Z n0 Hj1) → (lg.isRef = true) → (∀ c ∈ cw, ¬ c < 0 ∧ ¬ (255 : Int32) < c) → (cw = cz ++ dl (mg p2)) → (cz.length ≤ 5) → (hz + (1 : Int32) + sg = Int32.ofNat cz.length) → Wk p e below (EndW Z own_EL s (Q_rm0 Z p1 j1 p2 zc fm dO kO dT kT h0 n0) room_1.cells room_1.slots) Tj1 (mkF m 304 #[.val (.int p1), .val (.long j1), .second, .val (.int p2), .val (.int hz), .val (.int tl), .val (.int fl), .val (.int c0), .val (.int c1), .val (.int c2), .val (.ref ah), .val (.ref rh), .val lg, .val (.ref sv), .val (.ref rr), .val (.long (Int64.ofNat (mg p2))), .second, .val (.int (Int32.ofNat (dl (mg p2)).length)), .val (.int sg), .unset] []) := by
    intro Tj1 Hj1 Lcj1 usj1 kzj1 hz tl fl c0 c1 c2 ah rh sv rr tr kr lg sg cw cz Xj1 ej1 Kj1 Nj1 Bsj1 hkzj1 hZ hown Rj1 Es8 Fv8 Fc8 As8 Olj1 hlg qp hcw lz qst
    have szj1 := Kj1.1
    have lt_Es8 := ny Es8.lt
    have lt_Fv8 := ny Fv8.lt
    have lt_Fc8 := ny Fc8.lt
    have lt_As8 := ny As8.lt
    have lG1 := sgl_le p2
    have lG2 := dl_le (mg p2) (mg_le p2)
    have lW : cw.length = cz.length + (dl (mg p2)).length := by rw [hcw, List.length_append]
    refine Wk.iload Xj1 hx (hb hby at_304) (n := 306) rfl rfl ?_
    refine Wk.iconst Xj1 hx (hb hby at_306) (n := 307) rfl (z := (1 : Int32)) rfl ?_
    refine Wk.iadd Xj1 hx (hb hby at_307) (n := 308) rfl ?_
    refine Wk.iload Xj1 hx (hb hby at_308) (n := 310) rfl rfl ?_
    refine Wk.iadd Xj1 hx (hb hby at_310) (n := 311) rfl ?_
    refine Wk.istore Xj1 hx (hb hby at_311) (n := 313) rfl (L' := #[.val (.int p1), .val (.long j1), .second, .val (.int p2), .val (.int hz), .val (.int tl), .val (.int fl), .val (.int c0), .val (.int c1), .val (.int c2), .val (.ref ah), .val (.ref rh), .val lg, .val (.ref sv), .val (.ref rr), .val (.long (Int64.ofNat (mg p2))), .second, .val (.int (Int32.ofNat (dl (mg p2)).length)), .val (.int sg), .val (.int ((hz + (1 : Int32)) + sg))]) rfl ?_
    refine Wk.aload Xj1 hx (hb hby at_313) (n := 315) rfl rfl rfl ?_
    refine Wk.iload Xj1 hx (hb hby at_315) (n := 317) rfl rfl ?_
    refine Wk.iload Xj1 hx (hb hby at_317) (n := 319) rfl rfl ?_
    refine Wk.iconst Xj1 hx (hb hby at_319) (n := 320) rfl (z := (0 : Int32)) rfl ?_
    refine Wk.lload Xj1 hx (hb hby at_320) (n := 322) rfl rfl ?_
    have cl2_ := fun (Ls : Array Slot) (hLs : Ls.size = c.maxLocals) => Jvm.LawKit.callS Xj1 hx (y := (⟨"com/example/net_thirty/netthirty/mail/MailServerAddressPinLaw", "digitOk", "(Ljava/lang/String;IIIJ)Z"⟩ : MethodName)) hown (mvT hZ (hw _ (List.mem_of_getElem? (i := 209) rfl))) (mvT hZ (hw _ (List.mem_of_getElem? (i := 210) rfl))) (mvT hZ (hw _ (List.mem_of_getElem? (i := 183) rfl))) (mvT hZ (hw _ (List.mem_of_getElem? (i := 211) rfl))) (by decide) (backOf (W := 0) (rmDK l Z a0 hw [] rr tr kr cw cz ((hz + (1 : Int32)) + sg) (Int32.ofNat (dl (mg p2)).length) (0 : Int32) (Int64.ofNat (mg p2)) 0 (mg p2) zc fm Hj1 n0 (by omega) Es8 Fv8 Fc8 As8 S4 Olj1 S5 hCS hFM qp hcw lz (mg_le p2) qst rfl rfl rfl (by decide)) hZ (hw _ (List.mem_of_getElem? (i := 211) rfl)) (hw _ (List.mem_of_getElem? (i := 183) rfl)) (by decide) (by decide)) (g := mkF m 322 Ls [(.long (Int64.ofNat (mg p2))), (.int (0 : Int32)), (.int (Int32.ofNat (dl (mg p2)).length)), (.int ((hz + (1 : Int32)) + sg)), (.ref rr)]) rfl hLs (argsL := [(.ref rr), (.int ((hz + (1 : Int32)) + sg)), (.int (Int32.ofNat (dl (mg p2)).length)), (.int (0 : Int32)), (.long (Int64.ofNat (mg p2)))]) (rest := []) (lenOf pd_26 rfl) rfl (by show 2 * 0 + _ ≤ _; exact Nat.le_of_eq rfl) (hb hby at_322) (fun _ _ => ⟨rfl, ej1, (by decide : 26 + 1 ≤ _), (by decide : 110 + 10 ≤ _)⟩)
    refine Wk.backS (n := 325) (rc := 1) (rs := 10) (Q := Q_rmDK Z rr tr kr cw cz ((hz + (1 : Int32)) + sg) (Int32.ofNat (dl (mg p2)).length) (0 : Int32) (Int64.ofNat (mg p2)) 0 (mg p2) zc fm Hj1 n0) (cl2_ _ (by rw [hml]; rfl)) fun vn2 T2 L2 X2 hQ2 => ?_
    clear cl2_
    obtain ⟨rfl, M2, J2⟩ := hQ2
    have N2 := Fr.app Nj1 M2
    have sz2 := J2.1
    have hs2 : ∀ x ∈ ([] : List Addr), Safe Z own_EL usj1.vm Hj1 x := sf0
    have R2 := Rj1.trans (CHr.keep J2 hs2 Rj1.1)
    have K2 := Kj1.trans J2 (fun x hx => nomatch hx)
    show Wk p e below _ T2 (mkF m 325 _ [(.int (1 : Int32))])
    have hc325_3 : ¬ ((1 : Int32) = (0 : Int32)) := by decide
    refine Wk.ifNo X2 hx (hb hby at_325) (n := 328) rfl ((if0 _ _).trans (feq hc325_3).1) ?_
    refine Wk.aload X2 hx (hb hby at_328) (n := 330) rfl rfl rfl ?_
    refine Wk.iload X2 hx (hb hby at_330) (n := 332) rfl rfl ?_
    refine Wk.iload X2 hx (hb hby at_332) (n := 334) rfl rfl ?_
    refine Wk.iconst X2 hx (hb hby at_334) (n := 335) rfl (z := (1 : Int32)) rfl ?_
    refine Wk.lload X2 hx (hb hby at_335) (n := 337) rfl rfl ?_
    have f4 := (Es8.keep J2)
    have f5 := (Fv8.keep J2 nin0)
    have f6 := (Fc8.keep J2 nin0)
    have f7 := (As8.keep J2 nin0)
    have f8 := (Olj1.keep J2 all0)
    have cl9_ := fun (Ls : Array Slot) (hLs : Ls.size = c.maxLocals) => Jvm.LawKit.callS X2 hx (y := (⟨"com/example/net_thirty/netthirty/mail/MailServerAddressPinLaw", "digitOk", "(Ljava/lang/String;IIIJ)Z"⟩ : MethodName)) hown (mvT hZ (hw _ (List.mem_of_getElem? (i := 209) rfl))) (mvT hZ (hw _ (List.mem_of_getElem? (i := 210) rfl))) (mvT hZ (hw _ (List.mem_of_getElem? (i := 183) rfl))) (mvT hZ (hw _ (List.mem_of_getElem? (i := 211) rfl))) (by decide) (backOf (W := 0) (rmDK l Z a0 hw [] rr tr kr cw cz ((hz + (1 : Int32)) + sg) (Int32.ofNat (dl (mg p2)).length) (1 : Int32) (Int64.ofNat (mg p2)) 1 (mg p2) zc fm T2.heap n0 (by omega) f4 f5 f6 f7 S4 f8 S5 hCS hFM qp hcw lz (mg_le p2) qst rfl rfl rfl (by decide)) hZ (hw _ (List.mem_of_getElem? (i := 211) rfl)) (hw _ (List.mem_of_getElem? (i := 183) rfl)) (by decide) (by decide)) (g := mkF m 337 Ls [(.long (Int64.ofNat (mg p2))), (.int (1 : Int32)), (.int (Int32.ofNat (dl (mg p2)).length)), (.int ((hz + (1 : Int32)) + sg)), (.ref rr)]) rfl hLs (argsL := [(.ref rr), (.int ((hz + (1 : Int32)) + sg)), (.int (Int32.ofNat (dl (mg p2)).length)), (.int (1 : Int32)), (.long (Int64.ofNat (mg p2)))]) (rest := []) (lenOf pd_26 rfl) rfl (by show 2 * 0 + _ ≤ _; exact Nat.le_of_eq rfl) (hb hby at_337) (fun _ _ => ⟨rfl, rfl, (by decide : 26 + 1 + 1 ≤ _), (by decide : 110 + 10 + 10 ≤ _)⟩)
    refine Wk.backS (n := 340) (rc := 1) (rs := 10) (Q := Q_rmDK Z rr tr kr cw cz ((hz + (1 : Int32)) + sg) (Int32.ofNat (dl (mg p2)).length) (1 : Int32) (Int64.ofNat (mg p2)) 1 (mg p2) zc fm T2.heap n0) (cl9_ _ (by rw [hml]; rfl)) fun vn9 T9 L9 X9 hQ9 => ?_
    clear cl9_
    obtain ⟨rfl, M9, J9⟩ := hQ9
    have N9 := Fr.app N2 M9
    have sz9 := J9.1
    have hs9 : ∀ x ∈ ([] : List Addr), Safe Z own_EL usj1.vm T2.heap x := sf0
    have R9 := R2.trans (CHr.keep J9 hs9 R2.1)
    have K9 := K2.trans J9 (fun x hx => nomatch hx)
    show Wk p e below _ T9 (mkF m 340 _ [(.int (1 : Int32))])
    have hc340_10 : ¬ ((1 : Int32) = (0 : Int32)) := by decide
    refine Wk.ifNo X9 hx (hb hby at_340) (n := 343) rfl ((if0 _ _).trans (feq hc340_10).1) ?_
    refine Wk.aload X9 hx (hb hby at_343) (n := 345) rfl rfl rfl ?_
    refine Wk.iload X9 hx (hb hby at_345) (n := 347) rfl rfl ?_
    refine Wk.iload X9 hx (hb hby at_347) (n := 349) rfl rfl ?_
    refine Wk.iconst X9 hx (hb hby at_349) (n := 350) rfl (z := (2 : Int32)) rfl ?_
    refine Wk.lload X9 hx (hb hby at_350) (n := 352) rfl rfl ?_
    have f11 := (f4.keep J9)
    have f12 := (f5.keep J9 nin0)
    have f13 := (f6.keep J9 nin0)
    have f14 := (f7.keep J9 nin0)
    have f15 := (f8.keep J9 all0)
    have cl16_ := fun (Ls : Array Slot) (hLs : Ls.size = c.maxLocals) => Jvm.LawKit.callS X9 hx (y := (⟨"com/example/net_thirty/netthirty/mail/MailServerAddressPinLaw", "digitOk", "(Ljava/lang/String;IIIJ)Z"⟩ : MethodName)) hown (mvT hZ (hw _ (List.mem_of_getElem? (i := 209) rfl))) (mvT hZ (hw _ (List.mem_of_getElem? (i := 210) rfl))) (mvT hZ (hw _ (List.mem_of_getElem? (i := 183) rfl))) (mvT hZ (hw _ (List.mem_of_getElem? (i := 211) rfl))) (by decide) (backOf (W := 0) (rmDK l Z a0 hw [] rr tr kr cw cz ((hz + (1 : Int32)) + sg) (Int32.ofNat (dl (mg p2)).length) (2 : Int32) (Int64.ofNat (mg p2)) 2 (mg p2) zc fm T9.heap n0 (by omega) f11 f12 f13 f14 S4 f15 S5 hCS hFM qp hcw lz (mg_le p2) qst rfl rfl rfl (by decide)) hZ (hw _ (List.mem_of_getElem? (i := 211) rfl)) (hw _ (List.mem_of_getElem? (i := 183) rfl)) (by decide) (by decide)) (g := mkF m 352 Ls [(.long (Int64.ofNat (mg p2))), (.int (2 : Int32)), (.int (Int32.ofNat (dl (mg p2)).length)), (.int ((hz + (1 : Int32)) + sg)), (.ref rr)]) rfl hLs (argsL := [(.ref rr), (.int ((hz + (1 : Int32)) + sg)), (.int (Int32.ofNat (dl (mg p2)).length)), (.int (2 : Int32)), (.long (Int64.ofNat (mg p2)))]) (rest := []) (lenOf pd_26 rfl) rfl (by show 2 * 0 + _ ≤ _; exact Nat.le_of_eq rfl) (hb hby at_352) (fun _ _ => ⟨rfl, rfl, (by decide : 26 + 1 + 1 + 1 ≤ _), (by decide : 110 + 10 + 10 + 10 ≤ _)⟩)
    refine Wk.backS (n := 355) (rc := 1) (rs := 10) (Q := Q_rmDK Z rr tr kr cw cz ((hz + (1 : Int32)) + sg) (Int32.ofNat (dl (mg p2)).length) (2 : Int32) (Int64.ofNat (mg p2)) 2 (mg p2) zc fm T9.heap n0) (cl16_ _ (by rw [hml]; rfl)) fun vn16 T16 L16 X16 hQ16 => ?_
    clear cl16_
    obtain ⟨rfl, M16, J16⟩ := hQ16
    have N16 := Fr.app N9 M16
    have sz16 := J16.1
    have hs16 : ∀ x ∈ ([] : List Addr), Safe Z own_EL usj1.vm T9.heap x := sf0
    have R16 := R9.trans (CHr.keep J16 hs16 R9.1)
    have K16 := K9.trans J16 (fun x hx => nomatch hx)
    show Wk p e below _ T16 (mkF m 355 _ [(.int (1 : Int32))])
    have hc355_17 : ¬ ((1 : Int32) = (0 : Int32)) := by decide
    refine Wk.ifNo X16 hx (hb hby at_355) (n := 358) rfl ((if0 _ _).trans (feq hc355_17).1) ?_
    refine Wk.aload X16 hx (hb hby at_358) (n := 360) rfl rfl rfl ?_
    refine Wk.iload X16 hx (hb hby at_360) (n := 362) rfl rfl ?_
    refine Wk.iload X16 hx (hb hby at_362) (n := 364) rfl rfl ?_
    refine Wk.iconst X16 hx (hb hby at_364) (n := 365) rfl (z := (3 : Int32)) rfl ?_
    refine Wk.lload X16 hx (hb hby at_365) (n := 367) rfl rfl ?_
    have f18 := (f11.keep J16)
    have f19 := (f12.keep J16 nin0)
    have f20 := (f13.keep J16 nin0)
    have f21 := (f14.keep J16 nin0)
    have f22 := (f15.keep J16 all0)
    have cl23_ := fun (Ls : Array Slot) (hLs : Ls.size = c.maxLocals) => Jvm.LawKit.callS X16 hx (y := (⟨"com/example/net_thirty/netthirty/mail/MailServerAddressPinLaw", "digitOk", "(Ljava/lang/String;IIIJ)Z"⟩ : MethodName)) hown (mvT hZ (hw _ (List.mem_of_getElem? (i := 209) rfl))) (mvT hZ (hw _ (List.mem_of_getElem? (i := 210) rfl))) (mvT hZ (hw _ (List.mem_of_getElem? (i := 183) rfl))) (mvT hZ (hw _ (List.mem_of_getElem? (i := 211) rfl))) (by decide) (backOf (W := 0) (rmDK l Z a0 hw [] rr tr kr cw cz ((hz + (1 : Int32)) + sg) (Int32.ofNat (dl (mg p2)).length) (3 : Int32) (Int64.ofNat (mg p2)) 3 (mg p2) zc fm T16.heap n0 (by omega) f18 f19 f20 f21 S4 f22 S5 hCS hFM qp hcw lz (mg_le p2) qst rfl rfl rfl (by decide)) hZ (hw _ (List.mem_of_getElem? (i := 211) rfl)) (hw _ (List.mem_of_getElem? (i := 183) rfl)) (by decide) (by decide)) (g := mkF m 367 Ls [(.long (Int64.ofNat (mg p2))), (.int (3 : Int32)), (.int (Int32.ofNat (dl (mg p2)).length)), (.int ((hz + (1 : Int32)) + sg)), (.ref rr)]) rfl hLs (argsL := [(.ref rr), (.int ((hz + (1 : Int32)) + sg)), (.int (Int32.ofNat (dl (mg p2)).length)), (.int (3 : Int32)), (.long (Int64.ofNat (mg p2)))]) (rest := []) (lenOf pd_26 rfl) rfl (by show 2 * 0 + _ ≤ _; exact Nat.le_of_eq rfl) (hb hby at_367) (fun _ _ => ⟨rfl, rfl, (by decide : 26 + 1 + 1 + 1 + 1 ≤ _), (by decide : 110 + 10 + 10 + 10 + 10 ≤ _)⟩)
    refine Wk.backS (n := 370) (rc := 1) (rs := 10) (Q := Q_rmDK Z rr tr kr cw cz ((hz + (1 : Int32)) + sg) (Int32.ofNat (dl (mg p2)).length) (3 : Int32) (Int64.ofNat (mg p2)) 3 (mg p2) zc fm T16.heap n0) (cl23_ _ (by rw [hml]; rfl)) fun vn23 T23 L23 X23 hQ23 => ?_
    clear cl23_
    obtain ⟨rfl, M23, J23⟩ := hQ23
    have N23 := Fr.app N16 M23
    have sz23 := J23.1
    have hs23 : ∀ x ∈ ([] : List Addr), Safe Z own_EL usj1.vm T16.heap x := sf0
    have R23 := R16.trans (CHr.keep J23 hs23 R16.1)
    have K23 := K16.trans J23 (fun x hx => nomatch hx)
    show Wk p e below _ T23 (mkF m 370 _ [(.int (1 : Int32))])
    have hc370_24 : ¬ ((1 : Int32) = (0 : Int32)) := by decide
    refine Wk.ifNo X23 hx (hb hby at_370) (n := 373) rfl ((if0 _ _).trans (feq hc370_24).1) ?_
    refine Wk.aload X23 hx (hb hby at_373) (n := 375) rfl rfl rfl ?_
    refine Wk.iload X23 hx (hb hby at_375) (n := 377) rfl rfl ?_
    refine Wk.iload X23 hx (hb hby at_377) (n := 379) rfl rfl ?_
    refine Wk.iconst X23 hx (hb hby at_379) (n := 380) rfl (z := (4 : Int32)) rfl ?_
    refine Wk.lload X23 hx (hb hby at_380) (n := 382) rfl rfl ?_
    have f25 := (f18.keep J23)
    have f26 := (f19.keep J23 nin0)
    have f27 := (f20.keep J23 nin0)
    have f28 := (f21.keep J23 nin0)
    have f29 := (f22.keep J23 all0)
    have cl30_ := fun (Ls : Array Slot) (hLs : Ls.size = c.maxLocals) => Jvm.LawKit.callS X23 hx (y := (⟨"com/example/net_thirty/netthirty/mail/MailServerAddressPinLaw", "digitOk", "(Ljava/lang/String;IIIJ)Z"⟩ : MethodName)) hown (mvT hZ (hw _ (List.mem_of_getElem? (i := 209) rfl))) (mvT hZ (hw _ (List.mem_of_getElem? (i := 210) rfl))) (mvT hZ (hw _ (List.mem_of_getElem? (i := 183) rfl))) (mvT hZ (hw _ (List.mem_of_getElem? (i := 211) rfl))) (by decide) (backOf (W := 0) (rmDK l Z a0 hw [] rr tr kr cw cz ((hz + (1 : Int32)) + sg) (Int32.ofNat (dl (mg p2)).length) (4 : Int32) (Int64.ofNat (mg p2)) 4 (mg p2) zc fm T23.heap n0 (by omega) f25 f26 f27 f28 S4 f29 S5 hCS hFM qp hcw lz (mg_le p2) qst rfl rfl rfl (by decide)) hZ (hw _ (List.mem_of_getElem? (i := 211) rfl)) (hw _ (List.mem_of_getElem? (i := 183) rfl)) (by decide) (by decide)) (g := mkF m 382 Ls [(.long (Int64.ofNat (mg p2))), (.int (4 : Int32)), (.int (Int32.ofNat (dl (mg p2)).length)), (.int ((hz + (1 : Int32)) + sg)), (.ref rr)]) rfl hLs (argsL := [(.ref rr), (.int ((hz + (1 : Int32)) + sg)), (.int (Int32.ofNat (dl (mg p2)).length)), (.int (4 : Int32)), (.long (Int64.ofNat (mg p2)))]) (rest := []) (lenOf pd_26 rfl) rfl (by show 2 * 0 + _ ≤ _; exact Nat.le_of_eq rfl) (hb hby at_382) (fun _ _ => ⟨rfl, rfl, (by decide : 26 + 1 + 1 + 1 + 1 + 1 ≤ _), (by decide : 110 + 10 + 10 + 10 + 10 + 10 ≤ _)⟩)
    refine Wk.backS (n := 385) (rc := 1) (rs := 10) (Q := Q_rmDK Z rr tr kr cw cz ((hz + (1 : Int32)) + sg) (Int32.ofNat (dl (mg p2)).length) (4 : Int32) (Int64.ofNat (mg p2)) 4 (mg p2) zc fm T23.heap n0) (cl30_ _ (by rw [hml]; rfl)) fun vn30 T30 L30 X30 hQ30 => ?_
    clear cl30_
    obtain ⟨rfl, M30, J30⟩ := hQ30
    have N30 := Fr.app N23 M30
    have sz30 := J30.1
    have hs30 : ∀ x ∈ ([] : List Addr), Safe Z own_EL usj1.vm T23.heap x := sf0
    have R30 := R23.trans (CHr.keep J30 hs30 R23.1)
    have K30 := K23.trans J30 (fun x hx => nomatch hx)
    show Wk p e below _ T30 (mkF m 385 _ [(.int (1 : Int32))])
    have hc385_31 : ¬ ((1 : Int32) = (0 : Int32)) := by decide
    refine Wk.ifNo X30 hx (hb hby at_385) (n := 388) rfl ((if0 _ _).trans (feq hc385_31).1) ?_
    refine Wk.aload X30 hx (hb hby at_388) (n := 390) rfl rfl rfl ?_
    refine Wk.iload X30 hx (hb hby at_390) (n := 392) rfl rfl ?_
    refine Wk.iload X30 hx (hb hby at_392) (n := 394) rfl rfl ?_
    refine Wk.iconst X30 hx (hb hby at_394) (n := 395) rfl (z := (5 : Int32)) rfl ?_
    refine Wk.lload X30 hx (hb hby at_395) (n := 397) rfl rfl ?_
    have f32 := (f25.keep J30)
    have f33 := (f26.keep J30 nin0)
    have f34 := (f27.keep J30 nin0)
    have f35 := (f28.keep J30 nin0)
    have f36 := (f29.keep J30 all0)
    have cl37_ := fun (Ls : Array Slot) (hLs : Ls.size = c.maxLocals) => Jvm.LawKit.callS X30 hx (y := (⟨"com/example/net_thirty/netthirty/mail/MailServerAddressPinLaw", "digitOk", "(Ljava/lang/String;IIIJ)Z"⟩ : MethodName)) hown (mvT hZ (hw _ (List.mem_of_getElem? (i := 209) rfl))) (mvT hZ (hw _ (List.mem_of_getElem? (i := 210) rfl))) (mvT hZ (hw _ (List.mem_of_getElem? (i := 183) rfl))) (mvT hZ (hw _ (List.mem_of_getElem? (i := 211) rfl))) (by decide) (backOf (W := 0) (rmDK l Z a0 hw [] rr tr kr cw cz ((hz + (1 : Int32)) + sg) (Int32.ofNat (dl (mg p2)).length) (5 : Int32) (Int64.ofNat (mg p2)) 5 (mg p2) zc fm T30.heap n0 (by omega) f32 f33 f34 f35 S4 f36 S5 hCS hFM qp hcw lz (mg_le p2) qst rfl rfl rfl (by decide)) hZ (hw _ (List.mem_of_getElem? (i := 211) rfl)) (hw _ (List.mem_of_getElem? (i := 183) rfl)) (by decide) (by decide)) (g := mkF m 397 Ls [(.long (Int64.ofNat (mg p2))), (.int (5 : Int32)), (.int (Int32.ofNat (dl (mg p2)).length)), (.int ((hz + (1 : Int32)) + sg)), (.ref rr)]) rfl hLs (argsL := [(.ref rr), (.int ((hz + (1 : Int32)) + sg)), (.int (Int32.ofNat (dl (mg p2)).length)), (.int (5 : Int32)), (.long (Int64.ofNat (mg p2)))]) (rest := []) (lenOf pd_26 rfl) rfl (by show 2 * 0 + _ ≤ _; exact Nat.le_of_eq rfl) (hb hby at_397) (fun _ _ => ⟨rfl, rfl, (by decide : 26 + 1 + 1 + 1 + 1 + 1 + 1 ≤ _), (by decide : 110 + 10 + 10 + 10 + 10 + 10 + 10 ≤ _)⟩)
    refine Wk.backS (n := 400) (rc := 1) (rs := 10) (Q := Q_rmDK Z rr tr kr cw cz ((hz + (1 : Int32)) + sg) (Int32.ofNat (dl (mg p2)).length) (5 : Int32) (Int64.ofNat (mg p2)) 5 (mg p2) zc fm T30.heap n0) (cl37_ _ (by rw [hml]; rfl)) fun vn37 T37 L37 X37 hQ37 => ?_
    clear cl37_
    obtain ⟨rfl, M37, J37⟩ := hQ37
    have N37 := Fr.app N30 M37
    have sz37 := J37.1
    have hs37 : ∀ x ∈ ([] : List Addr), Safe Z own_EL usj1.vm T30.heap x := sf0
    have R37 := R30.trans (CHr.keep J37 hs37 R30.1)
    have K37 := K30.trans J37 (fun x hx => nomatch hx)
    show Wk p e below _ T37 (mkF m 400 _ [(.int (1 : Int32))])
    have hc400_38 : ¬ ((1 : Int32) = (0 : Int32)) := by decide
    refine Wk.ifNo X37 hx (hb hby at_400) (n := 403) rfl ((if0 _ _).trans (feq hc400_38).1) ?_
    refine Wk.aload X37 hx (hb hby at_403) (n := 405) rfl rfl rfl ?_
    refine Wk.iload X37 hx (hb hby at_405) (n := 407) rfl rfl ?_
    refine Wk.iload X37 hx (hb hby at_407) (n := 409) rfl rfl ?_
    refine Wk.bipush X37 hx (hb hby at_409) (n := 411) rfl (z := (6 : Int32)) rfl ?_
    refine Wk.lload X37 hx (hb hby at_411) (n := 413) rfl rfl ?_
    have f39 := (f32.keep J37)
    have f40 := (f33.keep J37 nin0)
    have f41 := (f34.keep J37 nin0)
    have f42 := (f35.keep J37 nin0)
    have f43 := (f36.keep J37 all0)
    have cl44_ := fun (Ls : Array Slot) (hLs : Ls.size = c.maxLocals) => Jvm.LawKit.callS X37 hx (y := (⟨"com/example/net_thirty/netthirty/mail/MailServerAddressPinLaw", "digitOk", "(Ljava/lang/String;IIIJ)Z"⟩ : MethodName)) hown (mvT hZ (hw _ (List.mem_of_getElem? (i := 209) rfl))) (mvT hZ (hw _ (List.mem_of_getElem? (i := 210) rfl))) (mvT hZ (hw _ (List.mem_of_getElem? (i := 183) rfl))) (mvT hZ (hw _ (List.mem_of_getElem? (i := 211) rfl))) (by decide) (backOf (W := 0) (rmDK l Z a0 hw [] rr tr kr cw cz ((hz + (1 : Int32)) + sg) (Int32.ofNat (dl (mg p2)).length) (6 : Int32) (Int64.ofNat (mg p2)) 6 (mg p2) zc fm T37.heap n0 (by omega) f39 f40 f41 f42 S4 f43 S5 hCS hFM qp hcw lz (mg_le p2) qst rfl rfl rfl (by decide)) hZ (hw _ (List.mem_of_getElem? (i := 211) rfl)) (hw _ (List.mem_of_getElem? (i := 183) rfl)) (by decide) (by decide)) (g := mkF m 413 Ls [(.long (Int64.ofNat (mg p2))), (.int (6 : Int32)), (.int (Int32.ofNat (dl (mg p2)).length)), (.int ((hz + (1 : Int32)) + sg)), (.ref rr)]) rfl hLs (argsL := [(.ref rr), (.int ((hz + (1 : Int32)) + sg)), (.int (Int32.ofNat (dl (mg p2)).length)), (.int (6 : Int32)), (.long (Int64.ofNat (mg p2)))]) (rest := []) (lenOf pd_26 rfl) rfl (by show 2 * 0 + _ ≤ _; exact Nat.le_of_eq rfl) (hb hby at_413) (fun _ _ => ⟨rfl, rfl, (by decide : 26 + 1 + 1 + 1 + 1 + 1 + 1 + 1 ≤ _), (by decide : 110 + 10 + 10 + 10 + 10 + 10 + 10 + 10 ≤ _)⟩)
    refine Wk.backS (n := 416) (rc := 1) (rs := 10) (Q := Q_rmDK Z rr tr kr cw cz ((hz + (1 : Int32)) + sg) (Int32.ofNat (dl (mg p2)).length) (6 : Int32) (Int64.ofNat (mg p2)) 6 (mg p2) zc fm T37.heap n0) (cl44_ _ (by rw [hml]; rfl)) fun vn44 T44 L44 X44 hQ44 => ?_
    clear cl44_
    obtain ⟨rfl, M44, J44⟩ := hQ44
    have N44 := Fr.app N37 M44
    have sz44 := J44.1
    have hs44 : ∀ x ∈ ([] : List Addr), Safe Z own_EL usj1.vm T37.heap x := sf0
    have R44 := R37.trans (CHr.keep J44 hs44 R37.1)
    have K44 := K37.trans J44 (fun x hx => nomatch hx)
    show Wk p e below _ T44 (mkF m 416 _ [(.int (1 : Int32))])
    have hc416_45 : ¬ ((1 : Int32) = (0 : Int32)) := by decide
    refine Wk.ifNo X44 hx (hb hby at_416) (n := 419) rfl ((if0 _ _).trans (feq hc416_45).1) ?_
    refine Wk.aload X44 hx (hb hby at_419) (n := 421) rfl rfl rfl ?_
    refine Wk.iload X44 hx (hb hby at_421) (n := 423) rfl rfl ?_
    refine Wk.iload X44 hx (hb hby at_423) (n := 425) rfl rfl ?_
    refine Wk.bipush X44 hx (hb hby at_425) (n := 427) rfl (z := (7 : Int32)) rfl ?_
    refine Wk.lload X44 hx (hb hby at_427) (n := 429) rfl rfl ?_
    have f46 := (f39.keep J44)
    have f47 := (f40.keep J44 nin0)
    have f48 := (f41.keep J44 nin0)
    have f49 := (f42.keep J44 nin0)
    have f50 := (f43.keep J44 all0)
    have cl51_ := fun (Ls : Array Slot) (hLs : Ls.size = c.maxLocals) => Jvm.LawKit.callS X44 hx (y := (⟨"com/example/net_thirty/netthirty/mail/MailServerAddressPinLaw", "digitOk", "(Ljava/lang/String;IIIJ)Z"⟩ : MethodName)) hown (mvT hZ (hw _ (List.mem_of_getElem? (i := 209) rfl))) (mvT hZ (hw _ (List.mem_of_getElem? (i := 210) rfl))) (mvT hZ (hw _ (List.mem_of_getElem? (i := 183) rfl))) (mvT hZ (hw _ (List.mem_of_getElem? (i := 211) rfl))) (by decide) (backOf (W := 0) (rmDK l Z a0 hw [] rr tr kr cw cz ((hz + (1 : Int32)) + sg) (Int32.ofNat (dl (mg p2)).length) (7 : Int32) (Int64.ofNat (mg p2)) 7 (mg p2) zc fm T44.heap n0 (by omega) f46 f47 f48 f49 S4 f50 S5 hCS hFM qp hcw lz (mg_le p2) qst rfl rfl rfl (by decide)) hZ (hw _ (List.mem_of_getElem? (i := 211) rfl)) (hw _ (List.mem_of_getElem? (i := 183) rfl)) (by decide) (by decide)) (g := mkF m 429 Ls [(.long (Int64.ofNat (mg p2))), (.int (7 : Int32)), (.int (Int32.ofNat (dl (mg p2)).length)), (.int ((hz + (1 : Int32)) + sg)), (.ref rr)]) rfl hLs (argsL := [(.ref rr), (.int ((hz + (1 : Int32)) + sg)), (.int (Int32.ofNat (dl (mg p2)).length)), (.int (7 : Int32)), (.long (Int64.ofNat (mg p2)))]) (rest := []) (lenOf pd_26 rfl) rfl (by show 2 * 0 + _ ≤ _; exact Nat.le_of_eq rfl) (hb hby at_429) (fun _ _ => ⟨rfl, rfl, (by decide : 26 + 1 + 1 + 1 + 1 + 1 + 1 + 1 + 1 ≤ _), (by decide : 110 + 10 + 10 + 10 + 10 + 10 + 10 + 10 + 10 ≤ _)⟩)
    refine Wk.backS (n := 432) (rc := 1) (rs := 10) (Q := Q_rmDK Z rr tr kr cw cz ((hz + (1 : Int32)) + sg) (Int32.ofNat (dl (mg p2)).length) (7 : Int32) (Int64.ofNat (mg p2)) 7 (mg p2) zc fm T44.heap n0) (cl51_ _ (by rw [hml]; rfl)) fun vn51 T51 L51 X51 hQ51 => ?_
    clear cl51_
    obtain ⟨rfl, M51, J51⟩ := hQ51
    have N51 := Fr.app N44 M51
    have sz51 := J51.1
    have hs51 : ∀ x ∈ ([] : List Addr), Safe Z own_EL usj1.vm T44.heap x := sf0
    have R51 := R44.trans (CHr.keep J51 hs51 R44.1)
    have K51 := K44.trans J51 (fun x hx => nomatch hx)
    show Wk p e below _ T51 (mkF m 432 _ [(.int (1 : Int32))])
    have hc432_52 : ¬ ((1 : Int32) = (0 : Int32)) := by decide
    refine Wk.ifNo X51 hx (hb hby at_432) (n := 435) rfl ((if0 _ _).trans (feq hc432_52).1) ?_
    refine Wk.aload X51 hx (hb hby at_435) (n := 437) rfl rfl rfl ?_
    refine Wk.iload X51 hx (hb hby at_437) (n := 439) rfl rfl ?_
    refine Wk.iload X51 hx (hb hby at_439) (n := 441) rfl rfl ?_
    refine Wk.bipush X51 hx (hb hby at_441) (n := 443) rfl (z := (8 : Int32)) rfl ?_
    refine Wk.lload X51 hx (hb hby at_443) (n := 445) rfl rfl ?_
    have f53 := (f46.keep J51)
    have f54 := (f47.keep J51 nin0)
    have f55 := (f48.keep J51 nin0)
    have f56 := (f49.keep J51 nin0)
    have f57 := (f50.keep J51 all0)
    have cl58_ := fun (Ls : Array Slot) (hLs : Ls.size = c.maxLocals) => Jvm.LawKit.callS X51 hx (y := (⟨"com/example/net_thirty/netthirty/mail/MailServerAddressPinLaw", "digitOk", "(Ljava/lang/String;IIIJ)Z"⟩ : MethodName)) hown (mvT hZ (hw _ (List.mem_of_getElem? (i := 209) rfl))) (mvT hZ (hw _ (List.mem_of_getElem? (i := 210) rfl))) (mvT hZ (hw _ (List.mem_of_getElem? (i := 183) rfl))) (mvT hZ (hw _ (List.mem_of_getElem? (i := 211) rfl))) (by decide) (backOf (W := 0) (rmDK l Z a0 hw [] rr tr kr cw cz ((hz + (1 : Int32)) + sg) (Int32.ofNat (dl (mg p2)).length) (8 : Int32) (Int64.ofNat (mg p2)) 8 (mg p2) zc fm T51.heap n0 (by omega) f53 f54 f55 f56 S4 f57 S5 hCS hFM qp hcw lz (mg_le p2) qst rfl rfl rfl (by decide)) hZ (hw _ (List.mem_of_getElem? (i := 211) rfl)) (hw _ (List.mem_of_getElem? (i := 183) rfl)) (by decide) (by decide)) (g := mkF m 445 Ls [(.long (Int64.ofNat (mg p2))), (.int (8 : Int32)), (.int (Int32.ofNat (dl (mg p2)).length)), (.int ((hz + (1 : Int32)) + sg)), (.ref rr)]) rfl hLs (argsL := [(.ref rr), (.int ((hz + (1 : Int32)) + sg)), (.int (Int32.ofNat (dl (mg p2)).length)), (.int (8 : Int32)), (.long (Int64.ofNat (mg p2)))]) (rest := []) (lenOf pd_26 rfl) rfl (by show 2 * 0 + _ ≤ _; exact Nat.le_of_eq rfl) (hb hby at_445) (fun _ _ => ⟨rfl, rfl, (by decide : 26 + 1 + 1 + 1 + 1 + 1 + 1 + 1 + 1 + 1 ≤ _), (by decide : 110 + 10 + 10 + 10 + 10 + 10 + 10 + 10 + 10 + 10 ≤ _)⟩)
    refine Wk.backS (n := 448) (rc := 1) (rs := 10) (Q := Q_rmDK Z rr tr kr cw cz ((hz + (1 : Int32)) + sg) (Int32.ofNat (dl (mg p2)).length) (8 : Int32) (Int64.ofNat (mg p2)) 8 (mg p2) zc fm T51.heap n0) (cl58_ _ (by rw [hml]; rfl)) fun vn58 T58 L58 X58 hQ58 => ?_
    clear cl58_
    obtain ⟨rfl, M58, J58⟩ := hQ58
    have N58 := Fr.app N51 M58
    have sz58 := J58.1
    have hs58 : ∀ x ∈ ([] : List Addr), Safe Z own_EL usj1.vm T51.heap x := sf0
    have R58 := R51.trans (CHr.keep J58 hs58 R51.1)
    have K58 := K51.trans J58 (fun x hx => nomatch hx)
    show Wk p e below _ T58 (mkF m 448 _ [(.int (1 : Int32))])
    have hc448_59 : ¬ ((1 : Int32) = (0 : Int32)) := by decide
    refine Wk.ifNo X58 hx (hb hby at_448) (n := 451) rfl ((if0 _ _).trans (feq hc448_59).1) ?_
    refine Wk.aload X58 hx (hb hby at_451) (n := 453) rfl rfl rfl ?_
    refine Wk.iload X58 hx (hb hby at_453) (n := 455) rfl rfl ?_
    refine Wk.iload X58 hx (hb hby at_455) (n := 457) rfl rfl ?_
    refine Wk.bipush X58 hx (hb hby at_457) (n := 459) rfl (z := (9 : Int32)) rfl ?_
    refine Wk.lload X58 hx (hb hby at_459) (n := 461) rfl rfl ?_
    have f60 := (f53.keep J58)
    have f61 := (f54.keep J58 nin0)
    have f62 := (f55.keep J58 nin0)
    have f63 := (f56.keep J58 nin0)
    have f64 := (f57.keep J58 all0)
    have cl65_ := fun (Ls : Array Slot) (hLs : Ls.size = c.maxLocals) => Jvm.LawKit.callS X58 hx (y := (⟨"com/example/net_thirty/netthirty/mail/MailServerAddressPinLaw", "digitOk", "(Ljava/lang/String;IIIJ)Z"⟩ : MethodName)) hown (mvT hZ (hw _ (List.mem_of_getElem? (i := 209) rfl))) (mvT hZ (hw _ (List.mem_of_getElem? (i := 210) rfl))) (mvT hZ (hw _ (List.mem_of_getElem? (i := 183) rfl))) (mvT hZ (hw _ (List.mem_of_getElem? (i := 211) rfl))) (by decide) (backOf (W := 0) (rmDK l Z a0 hw [] rr tr kr cw cz ((hz + (1 : Int32)) + sg) (Int32.ofNat (dl (mg p2)).length) (9 : Int32) (Int64.ofNat (mg p2)) 9 (mg p2) zc fm T58.heap n0 (by omega) f60 f61 f62 f63 S4 f64 S5 hCS hFM qp hcw lz (mg_le p2) qst rfl rfl rfl (by decide)) hZ (hw _ (List.mem_of_getElem? (i := 211) rfl)) (hw _ (List.mem_of_getElem? (i := 183) rfl)) (by decide) (by decide)) (g := mkF m 461 Ls [(.long (Int64.ofNat (mg p2))), (.int (9 : Int32)), (.int (Int32.ofNat (dl (mg p2)).length)), (.int ((hz + (1 : Int32)) + sg)), (.ref rr)]) rfl hLs (argsL := [(.ref rr), (.int ((hz + (1 : Int32)) + sg)), (.int (Int32.ofNat (dl (mg p2)).length)), (.int (9 : Int32)), (.long (Int64.ofNat (mg p2)))]) (rest := []) (lenOf pd_26 rfl) rfl (by show 2 * 0 + _ ≤ _; exact Nat.le_of_eq rfl) (hb hby at_461) (fun _ _ => ⟨rfl, rfl, (by decide : 26 + 1 + 1 + 1 + 1 + 1 + 1 + 1 + 1 + 1 + 1 ≤ _), (by decide : 110 + 10 + 10 + 10 + 10 + 10 + 10 + 10 + 10 + 10 + 10 ≤ _)⟩)
    refine Wk.backS (n := 464) (rc := 1) (rs := 10) (Q := Q_rmDK Z rr tr kr cw cz ((hz + (1 : Int32)) + sg) (Int32.ofNat (dl (mg p2)).length) (9 : Int32) (Int64.ofNat (mg p2)) 9 (mg p2) zc fm T58.heap n0) (cl65_ _ (by rw [hml]; rfl)) fun vn65 T65 L65 X65 hQ65 => ?_
    clear cl65_
    obtain ⟨rfl, M65, J65⟩ := hQ65
    have N65 := Fr.app N58 M65
    have sz65 := J65.1
    have hs65 : ∀ x ∈ ([] : List Addr), Safe Z own_EL usj1.vm T58.heap x := sf0
    have R65 := R58.trans (CHr.keep J65 hs65 R58.1)
    have K65 := K58.trans J65 (fun x hx => nomatch hx)
    show Wk p e below _ T65 (mkF m 464 _ [(.int (1 : Int32))])
    have hc464_66 : ¬ ((1 : Int32) = (0 : Int32)) := by decide
    refine Wk.ifNo X65 hx (hb hby at_464) (n := 467) rfl ((if0 _ _).trans (feq hc464_66).1) ?_
    refine Wk.iconst X65 hx (hb hby at_467) (n := 468) rfl (z := (1 : Int32)) rfl ?_
    refine Wk.goto X65 hx (hb hby at_468) (by decide) (n := 472) (by decide) ?_
    exact Wk.leaveW X65 Bsj1 (by omega) (v := some (.int (1 : Int32))) (fun h => by rw [Bd.returns] at h; cases h) hlk rfl hh ⟨rfl, N65, K65⟩ hZ hELw R65 (by decide) (by decide) (fun fs hr => retNz X65 hx (t := .boolean) rfl Bd.returns (by simp) (hb hby at_472) hr)
  have jt_b : ∀ (Tj67 : State) (Hj67 : Heap) (Lcj67 : List Loc) (usj67 : State) (kzj67 : Nat) (hz : Int32) (tl : Int32) (fl : Int32) (c0 : Int32) (c1 : Int32) (c2 : Int32) (ah : Addr) (rh : Addr) (sv : Addr) (rr : Addr) (tr : Addr) (kr : ClassId) (lg : Value) (sg : Int32) (cw : List Int32) (cz : List Int32) (ch : List Int32), (Stand p l e room_1 usj67 m #[(.int p1), (.long j1), (.int p2)] below meth c Tj67 Lcj67 26 110) → (Tj67.heap = Hj67) → (Keep h0 Hj67 []) → (Fr n0 Lcj67) → (Base s usj67 kzj67) → (kzj67 ≤ Hj67.size) → (Z.Warmed39 usj67.vm) → (usj67.vm.findClass "com/example/net_thirty/netthirty/mail/MailServerAddressPinLaw" = some m.cls) → (CHr Z own_EL s.vm h0 usj67.vm Hj67) → (Exa Z Hj67 rr "java/lang/String") → (Fld Z Hj67 rr "java/lang/String" "value" "[B" (.ref tr)) → (Fld Z Hj67 rr "java/lang/String" "coder" "B" (.int (0 : Int32))) → (Arv Z Hj67 tr kr .byte (Int32.ofNat cw.length) (bsV cw) (.int (0 : Int32))) → (Old Z n0 Hj67) → (lg.isRef = true) → (∀ c ∈ cw, ¬ c < 0 ∧ ¬ (255 : Int32) < c) → (cw = cz ++ dl (mg p2)) → (cz.length ≤ 5) → (cz = ch ++ 58 :: sgl p2) → (hz = Int32.ofNat ch.length) → (ch.length ≤ 3) → ((p2 < 0 ∧ sg = 1) ∨ (¬ p2 < 0 ∧ sg = 0)) → Wk p e below (EndW Z own_EL s (Q_rm0 Z p1 j1 p2 zc fm dO kO dT kT h0 n0) room_1.cells room_1.slots) Tj67 (mkF m 268 #[.val (.int p1), .val (.long j1), .second, .val (.int p2), .val (.int hz), .val (.int tl), .val (.int fl), .val (.int c0), .val (.int c1), .val (.int c2), .val (.ref ah), .val (.ref rh), .val lg, .val (.ref sv), .val (.ref rr), .val (.long (Int64.ofNat (mg p2))), .second, .val (.int (Int32.ofNat (dl (mg p2)).length)), .val (.int sg), .unset] []) := by
    intro Tj67 Hj67 Lcj67 usj67 kzj67 hz tl fl c0 c1 c2 ah rh sv rr tr kr lg sg cw cz ch Xj67 ej67 Kj67 Nj67 Bsj67 hkzj67 hZ hown Rj67 Es8 Fv8 Fc8 As8 Olj67 hlg qp hcw lz hcz qh lch qsg
    have szj67 := Kj67.1
    have lt_Es8 := ny Es8.lt
    have lt_Fv8 := ny Fv8.lt
    have lt_Fc8 := ny Fc8.lt
    have lt_As8 := ny As8.lt
    have lG1 := sgl_le p2
    have lG2 := dl_le (mg p2) (mg_le p2)
    have lW : cw.length = cz.length + (dl (mg p2)).length := by rw [hcw, List.length_append]
    have lz2 : cz.length = ch.length + 1 + (sgl p2).length := by rw [hcz]; simp; omega
    refine Wk.aload Xj67 hx (hb hby at_268) (n := 270) rfl rfl rfl ?_
    refine Wk.iload Xj67 hx (hb hby at_270) (n := 272) rfl rfl ?_
    obtain ⟨cq68, kq68, qn68a, qn68b, qn68c⟩ := isOf hZ ej67 Es8
    have cl68_ := fun (Ls : Array Slot) (hLs : Ls.size = c.maxLocals) => Xj67.virtualBack hx (y := (⟨"java/lang/String", "charAt", "(I)C"⟩ : MethodName)) (z := (⟨"java/lang/String", "charAt", "(I)C"⟩ : MethodName)) hown (mvT hZ (hw _ (List.mem_of_getElem? (i := 187) rfl))) (mvT hZ (hw _ (List.mem_of_getElem? (i := 188) rfl))) (notFace_of_selects (args := #[]) (mvT hZ (hw _ (List.mem_of_getElem? (i := 190) rfl)))) (mvT hZ (hw _ (List.mem_of_getElem? (i := 190) rfl))) (mvT hZ (hw _ (List.mem_of_getElem? (i := 189) rfl))) (by decide) (StrChars.Road.chN (W := 0) hZ (fun d hd => hw d (own_wc d hd)) (kI := 4) (hw _ (List.mem_of_getElem? (i := 3) rfl)) Es8 Fv8 Fc8 As8 (StrChars.Road.codOf (cs := cw) (n := cw.length) rfl (fun c hc => (qp c hc).2)) (own_up qp) (Sta.ext Olj67.2 S4) hCS (Sta.ext Olj67.2 S5) hFM (by omega) (i := ch.length) (by omega) (j := hz) qh (by decide) (by decide)) qn68a qn68c (g := mkF m 272 Ls [(.int hz), (.ref rr)]) rfl hLs (Steps.refl _) (argsL := [(.int hz)]) (rest := []) (lenOf pd_25 rfl) rfl (by show 2 * 0 + _ ≤ _; exact Nat.le_of_eq rfl) (hb hby at_272) (fun _ _ => ⟨rfl, ej67, (by decide : 26 + 0 ≤ _), (by decide : 110 + 0 ≤ _)⟩)
    refine Wk.back (n := 275) (rc := 0) (rs := 0) (Q := fun v h' L => (v = some (.int ((cw : List Int32).getD ch.length 0)) ∧ L = [] ∧ h' = Hj67)) (cl68_ _ (by rw [hml]; rfl)) fun vn68 T68 L68 X68 hQ68 => ?_
    clear cl68_
    obtain ⟨rfl, rfl, e68⟩ := hQ68
    have N68 := Fr.app Nj67 (Fr.nil n0)
    show Wk p e below _ T68 (mkF m 275 _ [(.int (cw.getD ch.length 0))])
    refine Wk.bipush X68 hx (hb hby at_275) (n := 277) rfl (z := (58 : Int32)) rfl ?_
    have hc277_69 : (cw.getD ch.length 0) = (58 : Int32) := by rw [hcw, hcz]; exact own_h58 _ _ _
    refine Wk.icmpYes X68 hx (hb hby at_277) (teq hc277_69).1 (by decide) (n := 282) (by decide) ?_
    refine Wk.iload X68 hx (hb hby at_282) (n := 284) rfl rfl ?_
    refine Wk.iconst X68 hx (hb hby at_284) (n := 285) rfl (z := (1 : Int32)) rfl ?_
    by_cases hc285 : sg = (1 : Int32)
    ·
      refine Wk.icmpNo X68 hx (hb hby at_285) (n := 288) rfl (teq hc285).2 ?_
      refine Wk.aload X68 hx (hb hby at_288) (n := 290) rfl rfl rfl ?_
      refine Wk.iload X68 hx (hb hby at_290) (n := 292) rfl rfl ?_
      refine Wk.iconst X68 hx (hb hby at_292) (n := 293) rfl (z := (1 : Int32)) rfl ?_
      refine Wk.iadd X68 hx (hb hby at_293) (n := 294) rfl ?_
      have hng : p2 < 0 := (qsg.resolve_right fun q => absurd (q.2.symm.trans hc285) (by decide)).1
      have hsl : (sgl p2).length = 1 := by rw [show sgl p2 = [45] from if_pos hng]; rfl
      obtain ⟨cq70, kq70, qn70a, qn70b, qn70c⟩ := isOf hZ e68 Es8
      have cl70_ := fun (Ls : Array Slot) (hLs : Ls.size = c.maxLocals) => X68.virtualBack hx (y := (⟨"java/lang/String", "charAt", "(I)C"⟩ : MethodName)) (z := (⟨"java/lang/String", "charAt", "(I)C"⟩ : MethodName)) hown (mvT hZ (hw _ (List.mem_of_getElem? (i := 187) rfl))) (mvT hZ (hw _ (List.mem_of_getElem? (i := 188) rfl))) (notFace_of_selects (args := #[]) (mvT hZ (hw _ (List.mem_of_getElem? (i := 190) rfl)))) (mvT hZ (hw _ (List.mem_of_getElem? (i := 190) rfl))) (mvT hZ (hw _ (List.mem_of_getElem? (i := 189) rfl))) (by decide) (StrChars.Road.chN (W := 0) hZ (fun d hd => hw d (own_wc d hd)) (kI := 4) (hw _ (List.mem_of_getElem? (i := 3) rfl)) Es8 Fv8 Fc8 As8 (StrChars.Road.codOf (cs := cw) (n := cw.length) rfl (fun c hc => (qp c hc).2)) (own_up qp) (Sta.ext Olj67.2 S4) hCS (Sta.ext Olj67.2 S5) hFM (by omega) (i := (ch.length + 1)) (by omega) (j := (hz + (1 : Int32))) (by rw [qh]; exact own_ofadd _ 1) (by decide) (by decide)) qn70a qn70c (g := mkF m 294 Ls [(.int (hz + (1 : Int32))), (.ref rr)]) rfl hLs (Steps.refl _) (argsL := [(.int (hz + (1 : Int32)))]) (rest := []) (lenOf pd_25 rfl) rfl (by show 2 * 0 + _ ≤ _; exact Nat.le_of_eq rfl) (hb hby at_294) (fun _ _ => ⟨rfl, e68, (by decide : 26 + 0 + 0 ≤ _), (by decide : 110 + 0 + 0 ≤ _)⟩)
      refine Wk.back (n := 297) (rc := 0) (rs := 0) (Q := fun v h' L => (v = some (.int ((cw : List Int32).getD (ch.length + 1) 0)) ∧ L = [] ∧ h' = Hj67)) (cl70_ _ (by rw [hml]; rfl)) fun vn70 T70 L70 X70 hQ70 => ?_
      clear cl70_
      obtain ⟨rfl, rfl, e70⟩ := hQ70
      have N70 := Fr.app N68 (Fr.nil n0)
      show Wk p e below _ T70 (mkF m 297 _ [(.int (cw.getD (ch.length + 1) 0))])
      refine Wk.bipush X70 hx (hb hby at_297) (n := 299) rfl (z := (45 : Int32)) rfl ?_
      have hc299_71 : (cw.getD (ch.length + 1) 0) = (45 : Int32) := by rw [hcw, hcz, show sgl p2 = [45] from if_pos hng]; exact own_h45 _ _
      refine Wk.icmpYes X70 hx (hb hby at_299) (teq hc299_71).1 (by decide) (n := 304) (by decide) ?_
      have qsl : hz + (1 : Int32) + sg = Int32.ofNat cz.length := own_hz qh lz2 qsg
      exact jt_a T70 Hj67 _ usj67 _ hz tl fl c0 c1 c2 ah rh sv rr tr kr lg sg cw cz (X70.mono (by decide) (by decide)) e70 Kj67 N70 Bsj67 (by omega) hZ hown Rj67 Es8 Fv8 Fc8 As8 Olj67 hlg qp hcw lz qsl
    ·
      refine Wk.icmpYes X68 hx (hb hby at_285) (feq hc285).2 (by decide) (n := 304) (by decide) ?_
      have qsl : hz + (1 : Int32) + sg = Int32.ofNat cz.length := own_hz qh lz2 qsg
      exact jt_a T68 Hj67 _ usj67 _ hz tl fl c0 c1 c2 ah rh sv rr tr kr lg sg cw cz (X68.mono (by decide) (by decide)) e68 Kj67 N68 Bsj67 (by omega) hZ hown Rj67 Es8 Fv8 Fc8 As8 Olj67 hlg qp hcw lz qsl
  refine Wk.iloadN X0 hx (hb hby at_0) (n := 1) rfl rfl ?_
  refine Wk.iconst X0 hx (hb hby at_1) (n := 2) rfl (z := (3 : Int32)) rfl ?_
  refine Wk.iand X0 hx (hb hby at_2) (n := 3) rfl ?_
  rcases own_and3 p1 with q3 | q3 | q3 | q3
  ·
    rw [q3]
    refine Wk.istore X0 hx (hb hby at_3) (n := 5) rfl (L' := #[.val (.int p1), .val (.long j1), .second, .val (.int p2), .val (.int (0 : Int32)), .unset, .unset, .unset, .unset, .unset, .unset, .unset, .unset, .unset, .unset, .unset, .unset, .unset, .unset, .unset]) rfl ?_
    have jt_d : ∀ (tl : Int32), Wk p e below (EndW Z own_EL s (Q_rm0 Z p1 j1 p2 zc fm dO kO dT kT h0 n0) room_1.cells room_1.slots) s₁ (mkF m 16 #[.val (.int p1), .val (.long j1), .second, .val (.int p2), .val (.int (0 : Int32)), .unset, .unset, .unset, .unset, .unset, .unset, .unset, .unset, .unset, .unset, .unset, .unset, .unset, .unset, .unset] [(.int tl)]) := by
      intro tl
      refine Wk.istore X0 hx (hb hby at_16) (n := 18) rfl (L' := #[.val (.int p1), .val (.long j1), .second, .val (.int p2), .val (.int (0 : Int32)), .val (.int tl), .unset, .unset, .unset, .unset, .unset, .unset, .unset, .unset, .unset, .unset, .unset, .unset, .unset, .unset]) rfl ?_
      have jt_c : ∀ (Tj72 : State) (Hj72 : Heap) (Lcj72 : List Loc) (usj72 : State) (kzj72 : Nat) (c0 : Int32) (c1 : Int32) (c2 : Int32) (fl : Int32) (ah : Addr) (rh : Addr) (th : Addr) (kh : ClassId) (lg : Value), (Stand p l e room_1 usj72 m #[(.int p1), (.long j1), (.int p2)] below meth c Tj72 Lcj72 16 44) → (Tj72.heap = Hj72) → (Keep h0 Hj72 []) → (Fr n0 Lcj72) → (Base s usj72 kzj72) → (kzj72 ≤ Hj72.size) → (Z.Warmed39 usj72.vm) → (usj72.vm.findClass "com/example/net_thirty/netthirty/mail/MailServerAddressPinLaw" = some m.cls) → (CHr Z own_EL s.vm h0 usj72.vm Hj72) → (Exa Z Hj72 rh "java/lang/String") → (Fld Z Hj72 rh "java/lang/String" "value" "[B" (.ref th)) → (Fld Z Hj72 rh "java/lang/String" "coder" "B" (.int (0 : Int32))) → (Arv Z Hj72 th kh .byte (Int32.ofNat ([] : List Int32).length) (bsV ([] : List Int32)) (.int (0 : Int32))) → (Old Z n0 Hj72) → (∀ c ∈ ([] : List Int32), ¬ c < 0 ∧ ¬ (255 : Int32) < c) → (lg.isRef = true) → Wk p e below (EndW Z own_EL s (Q_rm0 Z p1 j1 p2 zc fm dO kO dT kT h0 n0) room_1.cells room_1.slots) Tj72 (mkF m 144 #[.val (.int p1), .val (.long j1), .second, .val (.int p2), .val (.int (0 : Int32)), .val (.int tl), .val (.int fl), .val (.int c0), .val (.int c1), .val (.int c2), .val (.ref ah), .val (.ref rh), .val lg, .unset, .unset, .unset, .unset, .unset, .unset, .unset] []) := by
        intro Tj72 Hj72 Lcj72 usj72 kzj72 c0 c1 c2 fl ah rh th kh lg Xj72 ej72 Kj72 Nj72 Bsj72 hkzj72 hZ hown Rj72 Es9 Fv9 Fc9 As9 Olj72 hpc hlg
        have szj72 := Kj72.1
        have lt_Es9 := ny Es9.lt
        have lt_Fv9 := ny Fv9.lt
        have lt_Fc9 := ny Fc9.lt
        have lt_As9 := ny As9.lt
        refine Wk.newO Xj72 hx hZ hown (hw _ (List.mem_of_getElem? (i := 23) rfl)) (hw _ (List.mem_of_getElem? (i := 24) rfl)) (hw _ (List.mem_of_getElem? (i := 25) rfl)) ej72 (hb hby at_144) (n := 147) rfl (by decide) (by decide) fun T73 H73 b73 gn73 X73 e73 Ex73 An73 Dn73 Yn73 => ?_
        have gn73 := nx gn73
        have sz73 := Ex73.1
        have lt73 := ny An73.lt
        have K73 := Kj72.ext Ex73
        have R73 := Rj72.trans (CHr.ext Ex73 Rj72.1)
        have Fn73_host : Fld Z H73 b73 "com/example/net_thirty/netthirty/mail/MailServer" "host" "Ljava/lang/String;" .null := Dn73 (Or.inr (hw _ (List.mem_of_getElem? (i := 36) rfl))) (ty := (.object "java/lang/String")) (by decide)
        have Fn73_port : Fld Z H73 b73 "com/example/net_thirty/netthirty/mail/MailServer" "port" "I" (.int (0 : Int32)) := Dn73 (Or.inr (hw _ (List.mem_of_getElem? (i := 38) rfl))) (ty := .int) (by decide)
        have Fn73_startTls : Fld Z H73 b73 "com/example/net_thirty/netthirty/mail/MailServer" "startTls" "Z" (.int (0 : Int32)) := Dn73 (Or.inr (hw _ (List.mem_of_getElem? (i := 40) rfl))) (ty := .boolean) (by decide)
        have Fn73_login : Fld Z H73 b73 "com/example/net_thirty/netthirty/mail/MailServer" "login" "Lcom/example/net_thirty/netthirty/mail/MailServer$Login;" .null := Dn73 (Or.inr (hw _ (List.mem_of_getElem? (i := 42) rfl))) (ty := (.object "com/example/net_thirty/netthirty/mail/MailServer$Login")) (by decide)
        refine Wk.dup X73 hx (hb hby at_147) (n := 148) rfl rfl ?_
        refine Wk.aload X73 hx (hb hby at_148) (n := 150) rfl rfl rfl ?_
        refine Wk.iloadN X73 hx (hb hby at_150) (n := 151) rfl rfl ?_
        refine Wk.iload X73 hx (hb hby at_151) (n := 153) rfl rfl ?_
        refine Wk.aload X73 hx (hb hby at_153) (n := 155) rfl rfl hlg ?_
        have cl74_ := fun (Ls : Array Slot) (hLs : Ls.size = c.maxLocals) => X73.specialBack hx (y := (⟨"com/example/net_thirty/netthirty/mail/MailServer", "<init>", "(Ljava/lang/String;IZLcom/example/net_thirty/netthirty/mail/MailServer$Login;)V"⟩ : MethodName)) rfl hown (mvT hZ (hw _ (List.mem_of_getElem? (i := 26) rfl))) (mvT hZ (hw _ (List.mem_of_getElem? (i := 27) rfl))) (mvT hZ (hw _ (List.mem_of_getElem? (i := 28) rfl))) (by decide) (backOf (W := 1) (rmMI l Z a0 hw [] b73 rh p2 tl lg .null (.int (0 : Int32)) (.int (0 : Int32)) .null H73 n0 (by omega) An73 Fn73_host Fn73_port Fn73_startTls Fn73_login (by omega) hlg) hZ (hw _ (List.mem_of_getElem? (i := 28) rfl)) (hw _ (List.mem_of_getElem? (i := 25) rfl)) (by decide) (by decide)) (g := mkF m 155 Ls [lg, (.int tl), (.int p2), (.ref rh), (.ref b73), (.ref b73)]) rfl hLs (Steps.refl _) (a := b73) (argsL := [(.ref rh), (.int p2), (.int tl), lg]) (rest := [(.ref b73)]) (lenOf pd_27 rfl) rfl (by show 2 * 0 + _ ≤ _; exact Nat.le_of_eq rfl) (hb hby at_155) (fun _ _ => ⟨rfl, e73, (by decide : 16 + 1 + 0 ≤ _), (by decide : 44 + 4 + 0 ≤ _)⟩)
        refine Wk.back (n := 158) (rc := 0) (rs := 0) (Q := Q_rmMI Z b73 rh p2 tl lg .null (.int (0 : Int32)) (.int (0 : Int32)) .null H73 n0) (cl74_ _ (by rw [hml]; rfl)) fun vn74 T74 L74 X74 hQ74 => ?_
        clear cl74_
        obtain ⟨rfl, M74, J74, p74_0, p74_1, p74_2⟩ := hQ74
        have N74 := Fr.app Nj72 M74
        have sz74 := J74.1
        have hs74 : ∀ x ∈ ([b73] : List Addr), Safe Z own_EL usj72.vm H73 x := (sfS (Safe.exa (EL := own_EL) hZ.alike An73 (by decide) (by decide)) sf0)
        have R74 := R73.trans (CHr.keep J74 hs74 R73.1)
        have K74 := K73.trans J74 (allS (Or.inr (by omega)) all0)
        have lt_p74_0 := ny p74_0.lt
        show Wk p e below _ T74 (mkF m 158 _ [(.ref b73)])
        refine Wk.astore X74 hx (hb hby at_158) (n := 160) rfl rfl (L' := #[.val (.int p1), .val (.long j1), .second, .val (.int p2), .val (.int (0 : Int32)), .val (.int tl), .val (.int fl), .val (.int c0), .val (.int c1), .val (.int c2), .val (.ref ah), .val (.ref rh), .val lg, .val (.ref b73), .unset, .unset, .unset, .unset, .unset, .unset]) rfl ?_
        refine Wk.aload X74 hx (hb hby at_160) (n := 162) rfl rfl rfl ?_
        have f75 := ((Es9.ext Ex73).keep J74)
        have f76 := ((Fv9.ext Ex73).keep J74 (ninS (nz (by omega)) nin0))
        have f77 := ((Fc9.ext Ex73).keep J74 (ninS (nz (by omega)) nin0))
        have f78 := ((As9.ext Ex73).keep J74 (ninS (nz (by omega)) nin0))
        have f79 := ((Olj72.ext Ex73).keep J74 (allS (by omega) all0))
        obtain ⟨cq80, kq80, qn80a, qn80b, qn80c⟩ := isOf hZ rfl p74_0
        have cl80_ := fun (Ls : Array Slot) (hLs : Ls.size = c.maxLocals) => X74.virtualBackS hx (y := (⟨"com/example/net_thirty/netthirty/mail/MailServer", "address", "()Ljava/lang/String;"⟩ : MethodName)) (z := (⟨"com/example/net_thirty/netthirty/mail/MailServer", "address", "()Ljava/lang/String;"⟩ : MethodName)) hown (mvT hZ (hw _ (List.mem_of_getElem? (i := 43) rfl))) (mvT hZ (hw _ (List.mem_of_getElem? (i := 44) rfl))) (notFace_of_selects (args := #[]) (mvT hZ (hw _ (List.mem_of_getElem? (i := 46) rfl)))) (mvT hZ (hw _ (List.mem_of_getElem? (i := 46) rfl))) (mvT hZ (hw _ (List.mem_of_getElem? (i := 45) rfl))) (by decide) (backWd (W := 0) (EL := own_EL) (rmAdr l Z a0 hw [] b73 p2 rh th kh ([] : List Int32) zc dO kO dT kT T74.heap n0 (by omega) p74_0 p74_1 p74_2 f75 f76 f77 f78 S4 f79 S6 S7 A6 A7 hCS (Nat.le_of_ble_eq_true rfl) hpc) hZ (hw _ (List.mem_of_getElem? (i := 47) rfl)) (hw _ (List.mem_of_getElem? (i := 25) rfl)) (by decide) (by decide) hELw R74.1 (fun _ q => nomatch q) sf0) qn80a qn80c (g := mkF m 162 Ls [(.ref b73)]) rfl hLs (Steps.refl _) (argsL := []) (rest := []) (lenOf pd_24 rfl) rfl (by show 2 * 0 + _ ≤ _; exact Nat.le_of_eq rfl) (hb hby at_162) (fun _ _ => ⟨rfl, rfl, (by decide : 16 + 1 + 0 + 6 ≤ _), (by decide : 44 + 4 + 0 + 48 ≤ _)⟩)
        refine Wk.backW (n := 165) (rc := 6) (rs := 48) (Q := Q_rmAdr Z b73 p2 rh th kh ([] : List Int32) zc dO kO dT kT T74.heap n0) rfl Bsj72 (by omega) hZ hown R74 (cl80_ _ (by rw [hml]; rfl)) fun vn80 us80 T80 L80 X80 Bs80 hZ hown A_80 R80 hQ80 => ?_
        obtain ⟨r_80, t_80, kb_80, rfl, M80, J80, p80_0, p80_1, p80_2, p80_3⟩ := hQ80
        have N80 := Fr.app N74 M80
        have sz80 := J80.1
        have K80 := K74.trans J80 (fun x hx => nomatch hx)
        have lt_p80_0 := ny p80_0.lt
        have lt_p80_3 := ny p80_3.lt
        show Wk p e below _ T80 (mkF m 165 _ [(.ref r_80)])
        have lG1 := sgl_le p2
        have lG2 := dl_le (mg p2) (mg_le p2)
        have lp : (([] : List Int32) ++ 58 :: (sgl p2 ++ dl (mg p2))).length = 1 + (sgl p2).length + (dl (mg p2)).length := by simp; omega
        have qp : ∀ c ∈ (([] : List Int32) ++ 58 :: (sgl p2 ++ dl (mg p2))), ¬ c < 0 ∧ ¬ (255 : Int32) < c := own_rapp hpc (own_rapp (a := [58]) (by decide) (own_rapp (sgl_rng p2) (dl_rng _)))
        refine Wk.astore X80 hx (hb hby at_165) (n := 167) rfl rfl (L' := #[.val (.int p1), .val (.long j1), .second, .val (.int p2), .val (.int (0 : Int32)), .val (.int tl), .val (.int fl), .val (.int c0), .val (.int c1), .val (.int c2), .val (.ref ah), .val (.ref rh), .val lg, .val (.ref b73), .val (.ref r_80), .unset, .unset, .unset, .unset, .unset]) rfl ?_
        refine Wk.iloadN X80 hx (hb hby at_167) (n := 168) rfl rfl ?_
        refine Wk.i2l X80 hx (hb hby at_168) (n := 169) rfl ?_
        have cl81_ := fun (Ls : Array Slot) (hLs : Ls.size = c.maxLocals) => Jvm.LawKit.callS X80 hx (y := (⟨"java/lang/Math", "abs", "(J)J"⟩ : MethodName)) hown (mvT hZ (hw _ (List.mem_of_getElem? (i := 178) rfl))) (mvT hZ (hw _ (List.mem_of_getElem? (i := 179) rfl))) (mvT hZ (hw _ (List.mem_of_getElem? (i := 175) rfl))) (mvT hZ (hw _ (List.mem_of_getElem? (i := 180) rfl))) (by decide) (backOf (W := 0) (rmAB l Z a0 hw [] (p2.toInt64) p2 T80.heap n0 (by omega) rfl) hZ (hw _ (List.mem_of_getElem? (i := 180) rfl)) (hw _ (List.mem_of_getElem? (i := 175) rfl)) (by decide) (by decide)) (g := mkF m 169 Ls [(.long (p2.toInt64))]) rfl hLs (argsL := [(.long (p2.toInt64))]) (rest := []) (lenOf pd_28 rfl) rfl (by show 2 * 0 + _ ≤ _; exact Nat.le_of_eq rfl) (hb hby at_169) (fun _ _ => ⟨rfl, rfl, (by decide : 16 + 1 + 0 + 6 + 0 ≤ _), (by decide : 44 + 4 + 0 + 48 + 0 ≤ _)⟩)
        refine Wk.backS (n := 172) (rc := 0) (rs := 0) (Q := Q_rmAB Z (p2.toInt64) p2 T80.heap n0) (cl81_ _ (by rw [hml]; rfl)) fun vn81 T81 L81 X81 hQ81 => ?_
        clear cl81_
        obtain ⟨rfl, M81, e81⟩ := hQ81
        have N81 := Fr.app N80 M81
        show Wk p e below _ T81 (mkF m 172 _ [(.long (Int64.ofNat (mg p2)))])
        refine Wk.lstore X81 hx (hb hby at_172) (n := 174) rfl (L' := #[.val (.int p1), .val (.long j1), .second, .val (.int p2), .val (.int (0 : Int32)), .val (.int tl), .val (.int fl), .val (.int c0), .val (.int c1), .val (.int c2), .val (.ref ah), .val (.ref rh), .val lg, .val (.ref b73), .val (.ref r_80), .val (.long (Int64.ofNat (mg p2))), .second, .unset, .unset, .unset]) rfl ?_
        refine Wk.lload X81 hx (hb hby at_174) (n := 176) rfl rfl ?_
        have cl82_ := fun (Ls : Array Slot) (hLs : Ls.size = c.maxLocals) => Jvm.LawKit.callS X81 hx (y := (⟨"com/example/net_thirty/netthirty/mail/MailServerAddressPinLaw", "digits", "(J)I"⟩ : MethodName)) hown (mvT hZ (hw _ (List.mem_of_getElem? (i := 181) rfl))) (mvT hZ (hw _ (List.mem_of_getElem? (i := 182) rfl))) (mvT hZ (hw _ (List.mem_of_getElem? (i := 183) rfl))) (mvT hZ (hw _ (List.mem_of_getElem? (i := 184) rfl))) (by decide) (backOf (W := 0) (rmDI l Z a0 hw [] (Int64.ofNat (mg p2)) (mg p2) T80.heap n0 (by omega) rfl (mg_le p2)) hZ (hw _ (List.mem_of_getElem? (i := 184) rfl)) (hw _ (List.mem_of_getElem? (i := 183) rfl)) (by decide) (by decide)) (g := mkF m 176 Ls [(.long (Int64.ofNat (mg p2)))]) rfl hLs (argsL := [(.long (Int64.ofNat (mg p2)))]) (rest := []) (lenOf pd_29 rfl) rfl (by show 2 * 0 + _ ≤ _; exact Nat.le_of_eq rfl) (hb hby at_176) (fun _ _ => ⟨rfl, e81, (by decide : 16 + 1 + 0 + 6 + 0 + 0 ≤ _), (by decide : 44 + 4 + 0 + 48 + 0 + 0 ≤ _)⟩)
        refine Wk.backS (n := 179) (rc := 0) (rs := 0) (Q := Q_rmDI Z (Int64.ofNat (mg p2)) (mg p2) T80.heap n0) (cl82_ _ (by rw [hml]; rfl)) fun vn82 T82 L82 X82 hQ82 => ?_
        clear cl82_
        obtain ⟨rfl, M82, e82⟩ := hQ82
        have N82 := Fr.app N81 M82
        show Wk p e below _ T82 (mkF m 179 _ [(.int (Int32.ofNat (dl (mg p2)).length))])
        refine Wk.istore X82 hx (hb hby at_179) (n := 181) rfl (L' := #[.val (.int p1), .val (.long j1), .second, .val (.int p2), .val (.int (0 : Int32)), .val (.int tl), .val (.int fl), .val (.int c0), .val (.int c1), .val (.int c2), .val (.ref ah), .val (.ref rh), .val lg, .val (.ref b73), .val (.ref r_80), .val (.long (Int64.ofNat (mg p2))), .second, .val (.int (Int32.ofNat (dl (mg p2)).length)), .unset, .unset]) rfl ?_
        refine Wk.iloadN X82 hx (hb hby at_181) (n := 182) rfl rfl ?_
        by_cases hc182 : p2 < (0 : Int32)
        ·
          refine Wk.ifNo X82 hx (hb hby at_182) (n := 185) rfl ((if0 _ _).trans (tlt hc182).2.1) ?_
          refine Wk.iconst X82 hx (hb hby at_185) (n := 186) rfl (z := (1 : Int32)) rfl ?_
          refine Wk.goto X82 hx (hb hby at_186) (by decide) (n := 190) (by decide) ?_
          have hs : sgl p2 = [45] := if_pos hc182
          have hsl : (sgl p2).length = 1 := by rw [hs]; rfl
          refine Wk.istore X82 hx (hb hby at_190) (n := 192) rfl (L' := #[.val (.int p1), .val (.long j1), .second, .val (.int p2), .val (.int (0 : Int32)), .val (.int tl), .val (.int fl), .val (.int c0), .val (.int c1), .val (.int c2), .val (.ref ah), .val (.ref rh), .val lg, .val (.ref b73), .val (.ref r_80), .val (.long (Int64.ofNat (mg p2))), .second, .val (.int (Int32.ofNat (dl (mg p2)).length)), .val (.int (1 : Int32)), .unset]) rfl ?_
          refine Wk.aload X82 hx (hb hby at_192) (n := 194) rfl rfl rfl ?_
          have f84 := (f79.keep J80 all0)
          obtain ⟨cq83, kq83, qn83a, qn83b, qn83c⟩ := isOf hZ e82 p80_0
          have cl83_ := fun (Ls : Array Slot) (hLs : Ls.size = c.maxLocals) => X82.virtualBack hx (y := (⟨"java/lang/String", "length", "()I"⟩ : MethodName)) (z := (⟨"java/lang/String", "length", "()I"⟩ : MethodName)) hown (mvT hZ (hw _ (List.mem_of_getElem? (i := 186) rfl))) (mvT hZ (hw _ (List.mem_of_getElem? (i := 77) rfl))) (notFace_of_selects (args := #[]) (mvT hZ (hw _ (List.mem_of_getElem? (i := 79) rfl)))) (mvT hZ (hw _ (List.mem_of_getElem? (i := 79) rfl))) (mvT hZ (hw _ (List.mem_of_getElem? (i := 78) rfl))) (by decide) (StrChars.Road.lenW (W := 0) hZ (fun d hd => hw d (own_wl d hd)) (kI := 4) (hw _ (List.mem_of_getElem? (i := 3) rfl)) p80_0 p80_1 p80_2 p80_3 (StrChars.Road.codOf (cs := (([] : List Int32) ++ 58 :: (sgl p2 ++ dl (mg p2)))) (n := (([] : List Int32) ++ 58 :: (sgl p2 ++ dl (mg p2))).length) rfl (fun c hc => (qp c hc).2)) (own_up qp) (Sta.ext f84.2 S4) hCS (by omega) (by decide) (by decide)) qn83a qn83c (g := mkF m 194 Ls [(.ref r_80)]) rfl hLs (Steps.refl _) (argsL := []) (rest := []) (lenOf pd_7 rfl) rfl (by show 2 * 0 + _ ≤ _; exact Nat.le_of_eq rfl) (hb hby at_194) (fun _ _ => ⟨rfl, e82, (by decide : 16 + 1 + 0 + 6 + 0 + 0 + 0 ≤ _), (by decide : 44 + 4 + 0 + 48 + 0 + 0 + 0 ≤ _)⟩)
          refine Wk.back (n := 197) (rc := 0) (rs := 0) (Q := fun v h' L => (v = some (.int (Int32.ofNat ((([] : List Int32) ++ 58 :: (sgl p2 ++ dl (mg p2))) : List Int32).length)) ∧ L = [] ∧ h' = T80.heap)) (cl83_ _ (by rw [hml]; rfl)) fun vn83 T83 L83 X83 hQ83 => ?_
          clear cl83_
          obtain ⟨rfl, rfl, e83⟩ := hQ83
          have N83 := Fr.app N82 (Fr.nil n0)
          show Wk p e below _ T83 (mkF m 197 _ [(.int (Int32.ofNat (([] : List Int32) ++ 58 :: (sgl p2 ++ dl (mg p2))).length))])
          refine Wk.iload X83 hx (hb hby at_197) (n := 199) rfl rfl ?_
          refine Wk.iconst X83 hx (hb hby at_199) (n := 200) rfl (z := (1 : Int32)) rfl ?_
          refine Wk.iadd X83 hx (hb hby at_200) (n := 201) rfl ?_
          refine Wk.iload X83 hx (hb hby at_201) (n := 203) rfl rfl ?_
          refine Wk.iadd X83 hx (hb hby at_203) (n := 204) rfl ?_
          refine Wk.iload X83 hx (hb hby at_204) (n := 206) rfl rfl ?_
          refine Wk.iadd X83 hx (hb hby at_206) (n := 207) rfl ?_
          have hc207_85 : (Int32.ofNat (([] : List Int32) ++ 58 :: (sgl p2 ++ dl (mg p2))).length) = ((((0 : Int32) + (1 : Int32)) + (1 : Int32)) + (Int32.ofNat (dl (mg p2)).length)) := by rw [lp, hsl, ← own_ofadd]; rfl
          refine Wk.icmpYes X83 hx (hb hby at_207) (teq hc207_85).1 (by decide) (n := 212) (by decide) ?_
          refine Wk.iload X83 hx (hb hby at_212) (n := 214) rfl rfl ?_
          have hc214_86 : ¬ ((0 : Int32) < (0 : Int32)) := by decide
          refine Wk.ifYes X83 hx (hb hby at_214) ((if0 _ _).trans (flt hc214_86).2.2.2) (by decide) (n := 230) (by decide) ?_
          refine Wk.iload X83 hx (hb hby at_230) (n := 232) rfl rfl ?_
          refine Wk.iconst X83 hx (hb hby at_232) (n := 233) rfl (z := (1 : Int32)) rfl ?_
          have hc233_87 : ¬ ((1 : Int32) < (0 : Int32)) := by decide
          refine Wk.icmpYes X83 hx (hb hby at_233) (flt hc233_87).2.2.2 (by decide) (n := 249) (by decide) ?_
          refine Wk.iload X83 hx (hb hby at_249) (n := 251) rfl rfl ?_
          refine Wk.iconst X83 hx (hb hby at_251) (n := 252) rfl (z := (2 : Int32)) rfl ?_
          have hc252_88 : ¬ ((2 : Int32) < (0 : Int32)) := by decide
          refine Wk.icmpYes X83 hx (hb hby at_252) (flt hc252_88).2.2.2 (by decide) (n := 268) (by decide) ?_
          exact jt_b T83 T80.heap _ us80 _ (0 : Int32) tl fl c0 c1 c2 ah rh b73 r_80 t_80 kb_80 lg (1 : Int32) (([] : List Int32) ++ 58 :: (sgl p2 ++ dl (mg p2))) (([] : List Int32) ++ 58 :: sgl p2) ([] : List Int32) (X83.mono (by decide) (by decide)) e83 K80 N83 Bs80 (by omega) hZ hown R80 p80_0 p80_1 p80_2 p80_3 f84 hlg qp (by simp) (by simp; omega) rfl rfl (Nat.le_of_ble_eq_true rfl) (Or.inl ⟨hc182, rfl⟩)
        ·
          refine Wk.ifYes X82 hx (hb hby at_182) ((if0 _ _).trans (flt hc182).2.1) (by decide) (n := 189) (by decide) ?_
          refine Wk.iconst X82 hx (hb hby at_189) (n := 190) rfl (z := (0 : Int32)) rfl ?_
          have hs : sgl p2 = [] := if_neg hc182
          have hsl : (sgl p2).length = 0 := by rw [hs]; rfl
          refine Wk.istore X82 hx (hb hby at_190) (n := 192) rfl (L' := #[.val (.int p1), .val (.long j1), .second, .val (.int p2), .val (.int (0 : Int32)), .val (.int tl), .val (.int fl), .val (.int c0), .val (.int c1), .val (.int c2), .val (.ref ah), .val (.ref rh), .val lg, .val (.ref b73), .val (.ref r_80), .val (.long (Int64.ofNat (mg p2))), .second, .val (.int (Int32.ofNat (dl (mg p2)).length)), .val (.int (0 : Int32)), .unset]) rfl ?_
          refine Wk.aload X82 hx (hb hby at_192) (n := 194) rfl rfl rfl ?_
          have f90 := (f79.keep J80 all0)
          obtain ⟨cq89, kq89, qn89a, qn89b, qn89c⟩ := isOf hZ e82 p80_0
          have cl89_ := fun (Ls : Array Slot) (hLs : Ls.size = c.maxLocals) => X82.virtualBack hx (y := (⟨"java/lang/String", "length", "()I"⟩ : MethodName)) (z := (⟨"java/lang/String", "length", "()I"⟩ : MethodName)) hown (mvT hZ (hw _ (List.mem_of_getElem? (i := 186) rfl))) (mvT hZ (hw _ (List.mem_of_getElem? (i := 77) rfl))) (notFace_of_selects (args := #[]) (mvT hZ (hw _ (List.mem_of_getElem? (i := 79) rfl)))) (mvT hZ (hw _ (List.mem_of_getElem? (i := 79) rfl))) (mvT hZ (hw _ (List.mem_of_getElem? (i := 78) rfl))) (by decide) (StrChars.Road.lenW (W := 0) hZ (fun d hd => hw d (own_wl d hd)) (kI := 4) (hw _ (List.mem_of_getElem? (i := 3) rfl)) p80_0 p80_1 p80_2 p80_3 (StrChars.Road.codOf (cs := (([] : List Int32) ++ 58 :: (sgl p2 ++ dl (mg p2)))) (n := (([] : List Int32) ++ 58 :: (sgl p2 ++ dl (mg p2))).length) rfl (fun c hc => (qp c hc).2)) (own_up qp) (Sta.ext f90.2 S4) hCS (by omega) (by decide) (by decide)) qn89a qn89c (g := mkF m 194 Ls [(.ref r_80)]) rfl hLs (Steps.refl _) (argsL := []) (rest := []) (lenOf pd_7 rfl) rfl (by show 2 * 0 + _ ≤ _; exact Nat.le_of_eq rfl) (hb hby at_194) (fun _ _ => ⟨rfl, e82, (by decide : 16 + 1 + 0 + 6 + 0 + 0 + 0 ≤ _), (by decide : 44 + 4 + 0 + 48 + 0 + 0 + 0 ≤ _)⟩)
          refine Wk.back (n := 197) (rc := 0) (rs := 0) (Q := fun v h' L => (v = some (.int (Int32.ofNat ((([] : List Int32) ++ 58 :: (sgl p2 ++ dl (mg p2))) : List Int32).length)) ∧ L = [] ∧ h' = T80.heap)) (cl89_ _ (by rw [hml]; rfl)) fun vn89 T89 L89 X89 hQ89 => ?_
          clear cl89_
          obtain ⟨rfl, rfl, e89⟩ := hQ89
          have N89 := Fr.app N82 (Fr.nil n0)
          show Wk p e below _ T89 (mkF m 197 _ [(.int (Int32.ofNat (([] : List Int32) ++ 58 :: (sgl p2 ++ dl (mg p2))).length))])
          refine Wk.iload X89 hx (hb hby at_197) (n := 199) rfl rfl ?_
          refine Wk.iconst X89 hx (hb hby at_199) (n := 200) rfl (z := (1 : Int32)) rfl ?_
          refine Wk.iadd X89 hx (hb hby at_200) (n := 201) rfl ?_
          refine Wk.iload X89 hx (hb hby at_201) (n := 203) rfl rfl ?_
          refine Wk.iadd X89 hx (hb hby at_203) (n := 204) rfl ?_
          refine Wk.iload X89 hx (hb hby at_204) (n := 206) rfl rfl ?_
          refine Wk.iadd X89 hx (hb hby at_206) (n := 207) rfl ?_
          have hc207_91 : (Int32.ofNat (([] : List Int32) ++ 58 :: (sgl p2 ++ dl (mg p2))).length) = ((((0 : Int32) + (1 : Int32)) + (0 : Int32)) + (Int32.ofNat (dl (mg p2)).length)) := by rw [lp, hsl, ← own_ofadd]; rfl
          refine Wk.icmpYes X89 hx (hb hby at_207) (teq hc207_91).1 (by decide) (n := 212) (by decide) ?_
          refine Wk.iload X89 hx (hb hby at_212) (n := 214) rfl rfl ?_
          have hc214_92 : ¬ ((0 : Int32) < (0 : Int32)) := by decide
          refine Wk.ifYes X89 hx (hb hby at_214) ((if0 _ _).trans (flt hc214_92).2.2.2) (by decide) (n := 230) (by decide) ?_
          refine Wk.iload X89 hx (hb hby at_230) (n := 232) rfl rfl ?_
          refine Wk.iconst X89 hx (hb hby at_232) (n := 233) rfl (z := (1 : Int32)) rfl ?_
          have hc233_93 : ¬ ((1 : Int32) < (0 : Int32)) := by decide
          refine Wk.icmpYes X89 hx (hb hby at_233) (flt hc233_93).2.2.2 (by decide) (n := 249) (by decide) ?_
          refine Wk.iload X89 hx (hb hby at_249) (n := 251) rfl rfl ?_
          refine Wk.iconst X89 hx (hb hby at_251) (n := 252) rfl (z := (2 : Int32)) rfl ?_
          have hc252_94 : ¬ ((2 : Int32) < (0 : Int32)) := by decide
          refine Wk.icmpYes X89 hx (hb hby at_252) (flt hc252_94).2.2.2 (by decide) (n := 268) (by decide) ?_
          exact jt_b T89 T80.heap _ us80 _ (0 : Int32) tl fl c0 c1 c2 ah rh b73 r_80 t_80 kb_80 lg (0 : Int32) (([] : List Int32) ++ 58 :: (sgl p2 ++ dl (mg p2))) (([] : List Int32) ++ 58 :: sgl p2) ([] : List Int32) (X89.mono (by decide) (by decide)) e89 K80 N89 Bs80 (by omega) hZ hown R80 p80_0 p80_1 p80_2 p80_3 f90 hlg qp (by simp) (by simp; omega) rfl rfl (Nat.le_of_ble_eq_true rfl) (Or.inr ⟨hc182, rfl⟩)
      refine Wk.iloadN X0 hx (hb hby at_18) (n := 19) rfl rfl ?_
      refine Wk.bipush X0 hx (hb hby at_19) (n := 21) rfl (z := (8 : Int32)) rfl ?_
      refine Wk.iand X0 hx (hb hby at_21) (n := 22) rfl ?_
      by_cases hc22 : (p1 &&& (8 : Int32)) = (0 : Int32)
      ·
        refine Wk.ifYes X0 hx (hb hby at_22) ((if0 _ _).trans (teq hc22).1) (by decide) (n := 29) (by decide) ?_
        refine Wk.iconst X0 hx (hb hby at_29) (n := 30) rfl (z := (0 : Int32)) rfl ?_
        refine Wk.istore X0 hx (hb hby at_30) (n := 32) rfl (L' := #[.val (.int p1), .val (.long j1), .second, .val (.int p2), .val (.int (0 : Int32)), .val (.int tl), .val (.int (0 : Int32)), .unset, .unset, .unset, .unset, .unset, .unset, .unset, .unset, .unset, .unset, .unset, .unset, .unset]) rfl ?_
        refine Wk.lloadN X0 hx (hb hby at_32) (n := 33) rfl rfl ?_
        refine Wk.ldc2Long X0 hx hown (mvT hZ (hw _ (List.mem_of_getElem? (i := 0) rfl))) (hb hby at_33) (n := 36) rfl ?_
        refine Wk.land X0 hx (hb hby at_36) (n := 37) rfl ?_
        refine Wk.l2i X0 hx (hb hby at_37) (n := 38) rfl ?_
        obtain ⟨c0, q_c0⟩ : ∃ z : Int32, z = (((j1 &&& (255 : Int64)).toInt32).toUInt32.toUInt16.toUInt32.toInt32) := ⟨_, rfl⟩
        have n_c0 : nar .char c0 = c0 := by rw [q_c0]; exact own_cL _
        have r_c0 : ¬ c0 < 0 ∧ ¬ (255 : Int32) < c0 := by rw [q_c0]; exact own_rL _
        refine Wk.i2c X0 hx (hb hby at_38) (n := 39) rfl q_c0.symm ?_
        refine Wk.istore X0 hx (hb hby at_39) (n := 41) rfl (L' := #[.val (.int p1), .val (.long j1), .second, .val (.int p2), .val (.int (0 : Int32)), .val (.int tl), .val (.int (0 : Int32)), .val (.int c0), .unset, .unset, .unset, .unset, .unset, .unset, .unset, .unset, .unset, .unset, .unset, .unset]) rfl ?_
        refine Wk.lloadN X0 hx (hb hby at_41) (n := 42) rfl rfl ?_
        refine Wk.bipush X0 hx (hb hby at_42) (n := 44) rfl (z := (8 : Int32)) rfl ?_
        refine Wk.lushr X0 hx (hb hby at_44) (n := 45) rfl (z := ((j1.toUInt64 >>> ((8 : Int32) &&& 63).toInt64.toUInt64).toInt64)) rfl ?_
        refine Wk.ldc2Long X0 hx hown (mvT hZ (hw _ (List.mem_of_getElem? (i := 0) rfl))) (hb hby at_45) (n := 48) rfl ?_
        refine Wk.land X0 hx (hb hby at_48) (n := 49) rfl ?_
        refine Wk.l2i X0 hx (hb hby at_49) (n := 50) rfl ?_
        obtain ⟨c1, q_c1⟩ : ∃ z : Int32, z = (((((j1.toUInt64 >>> ((8 : Int32) &&& 63).toInt64.toUInt64).toInt64) &&& (255 : Int64)).toInt32).toUInt32.toUInt16.toUInt32.toInt32) := ⟨_, rfl⟩
        have n_c1 : nar .char c1 = c1 := by rw [q_c1]; exact own_cL _
        have r_c1 : ¬ c1 < 0 ∧ ¬ (255 : Int32) < c1 := by rw [q_c1]; exact own_rL _
        refine Wk.i2c X0 hx (hb hby at_50) (n := 51) rfl q_c1.symm ?_
        refine Wk.istore X0 hx (hb hby at_51) (n := 53) rfl (L' := #[.val (.int p1), .val (.long j1), .second, .val (.int p2), .val (.int (0 : Int32)), .val (.int tl), .val (.int (0 : Int32)), .val (.int c0), .val (.int c1), .unset, .unset, .unset, .unset, .unset, .unset, .unset, .unset, .unset, .unset, .unset]) rfl ?_
        refine Wk.lloadN X0 hx (hb hby at_53) (n := 54) rfl rfl ?_
        refine Wk.bipush X0 hx (hb hby at_54) (n := 56) rfl (z := (16 : Int32)) rfl ?_
        refine Wk.lushr X0 hx (hb hby at_56) (n := 57) rfl (z := ((j1.toUInt64 >>> ((16 : Int32) &&& 63).toInt64.toUInt64).toInt64)) rfl ?_
        refine Wk.ldc2Long X0 hx hown (mvT hZ (hw _ (List.mem_of_getElem? (i := 0) rfl))) (hb hby at_57) (n := 60) rfl ?_
        refine Wk.land X0 hx (hb hby at_60) (n := 61) rfl ?_
        refine Wk.l2i X0 hx (hb hby at_61) (n := 62) rfl ?_
        obtain ⟨c2, q_c2⟩ : ∃ z : Int32, z = (((((j1.toUInt64 >>> ((16 : Int32) &&& 63).toInt64.toUInt64).toInt64) &&& (255 : Int64)).toInt32).toUInt32.toUInt16.toUInt32.toInt32) := ⟨_, rfl⟩
        have n_c2 : nar .char c2 = c2 := by rw [q_c2]; exact own_cL _
        have r_c2 : ¬ c2 < 0 ∧ ¬ (255 : Int32) < c2 := by rw [q_c2]; exact own_rL _
        refine Wk.i2c X0 hx (hb hby at_62) (n := 63) rfl q_c2.symm ?_
        refine Wk.istore X0 hx (hb hby at_63) (n := 65) rfl (L' := #[.val (.int p1), .val (.long j1), .second, .val (.int p2), .val (.int (0 : Int32)), .val (.int tl), .val (.int (0 : Int32)), .val (.int c0), .val (.int c1), .val (.int c2), .unset, .unset, .unset, .unset, .unset, .unset, .unset, .unset, .unset, .unset]) rfl ?_
        refine Wk.iload X0 hx (hb hby at_65) (n := 67) rfl rfl ?_
        refine Wk.newP X0 hx hZ (hw _ (List.mem_of_getElem? (i := 1) rfl)) e0 (hb hby at_67) (n := 69) rfl (by decide) (cap := 0) (by decide) (by decide) (by decide) (by decide) fun T95 H95 b95 k95 gn95 X95 e95 Ex95 An95 => ?_
        have gn95 := nx gn95
        have sz95 := Ex95.1
        have K95 := K0.ext Ex95
        have R95 := R0.trans (CHr.ext Ex95 R0.1)
        have Vn95 : Arv Z H95 b95 k95 .char (0 : Int32) [] (.int (0 : Int32)) := (Arv.new An95 (by decide)).pad (pad_rep [] (.int (0 : Int32)) 0)
        have lt95 := ny Vn95.lt
        refine Wk.astore X95 hx (hb hby at_69) (n := 71) rfl rfl (L' := #[.val (.int p1), .val (.long j1), .second, .val (.int p2), .val (.int (0 : Int32)), .val (.int tl), .val (.int (0 : Int32)), .val (.int c0), .val (.int c1), .val (.int c2), .val (.ref b95), .unset, .unset, .unset, .unset, .unset, .unset, .unset, .unset, .unset]) rfl ?_
        refine Wk.iload X95 hx (hb hby at_71) (n := 73) rfl rfl ?_
        have hc73_96 : ¬ ((0 : Int32) < (0 : Int32)) := by decide
        refine Wk.ifYes X95 hx (hb hby at_73) ((if0 _ _).trans (flt hc73_96).2.2.2) (by decide) (n := 82) (by decide) ?_
        refine Wk.iload X95 hx (hb hby at_82) (n := 84) rfl rfl ?_
        refine Wk.iconst X95 hx (hb hby at_84) (n := 85) rfl (z := (1 : Int32)) rfl ?_
        have hc85_97 : ¬ ((1 : Int32) < (0 : Int32)) := by decide
        refine Wk.icmpYes X95 hx (hb hby at_85) (flt hc85_97).2.2.2 (by decide) (n := 94) (by decide) ?_
        refine Wk.iload X95 hx (hb hby at_94) (n := 96) rfl rfl ?_
        refine Wk.iconst X95 hx (hb hby at_96) (n := 97) rfl (z := (2 : Int32)) rfl ?_
        have hc97_98 : ¬ ((2 : Int32) < (0 : Int32)) := by decide
        refine Wk.icmpYes X95 hx (hb hby at_97) (flt hc97_98).2.2.2 (by decide) (n := 106) (by decide) ?_
        refine Wk.newO X95 hx hZ hown (hw _ (List.mem_of_getElem? (i := 2) rfl)) (hw _ (List.mem_of_getElem? (i := 3) rfl)) (hw _ (List.mem_of_getElem? (i := 4) rfl)) e95 (hb hby at_106) (n := 109) rfl (by decide) (by decide) fun T99 H99 b99 gn99 X99 e99 Ex99 An99 Dn99 Yn99 => ?_
        have gn99 := nx gn99
        have sz99 := Ex99.1
        have lt99 := ny An99.lt
        have K99 := K95.ext Ex99
        have R99 := R95.trans (CHr.ext Ex99 R95.1)
        have Sf99 := Safe.ext (x := b99) Ex99 R95.1 (Safe.new (Nat.le_of_eq gn99.symm))
        have Fn99_value : Fld Z H99 b99 "java/lang/String" "value" "[B" .null := Dn99 (Or.inr (hw _ (List.mem_of_getElem? (i := 17) rfl))) (ty := (.array .byte)) (by decide)
        have Fn99_coder : Fld Z H99 b99 "java/lang/String" "coder" "B" (.int (0 : Int32)) := Dn99 (Or.inr (hw _ (List.mem_of_getElem? (i := 18) rfl))) (ty := .byte) (by decide)
        refine Wk.dup X99 hx (hb hby at_109) (n := 110) rfl rfl ?_
        refine Wk.aload X99 hx (hb hby at_110) (n := 112) rfl rfl rfl ?_
        have f100 := (Vn95.ext Ex99)
        have cl101_ := fun (Ls : Array Slot) (hLs : Ls.size = c.maxLocals) => X99.specialBackS hx (y := (⟨"java/lang/String", "<init>", "([C)V"⟩ : MethodName)) rfl hown (mvT hZ (hw _ (List.mem_of_getElem? (i := 5) rfl))) (mvT hZ (hw _ (List.mem_of_getElem? (i := 6) rfl))) (mvT hZ (hw _ (List.mem_of_getElem? (i := 7) rfl))) (by decide) (backWd (W := 1) (EL := own_EL) (rmC0 l Z a0 hw [] b99 b95 .null k95 H99 n0 (by omega) An99 Fn99_value Fn99_coder f100 (by omega)) hZ (hw _ (List.mem_of_getElem? (i := 7) rfl)) (hw _ (List.mem_of_getElem? (i := 4) rfl)) (by decide) (by decide) hELw R99.1 (List.forall_mem_cons.mpr ⟨ny (by omega), (fun _ q => nomatch q)⟩) (sfS Sf99 sf0)) (g := mkF m 112 Ls [(.ref b95), (.ref b99), (.ref b99)]) rfl hLs (Steps.refl _) (a := b99) (argsL := [(.ref b95)]) (rest := [(.ref b99)]) (lenOf pd_30 rfl) rfl (by show 2 * 0 + _ ≤ _; exact Nat.le_of_eq rfl) (hb hby at_112) (fun _ _ => ⟨rfl, e99, (by decide : 0 + 1 + 1 + 4 ≤ _), (by decide : 0 + 0 + 4 + 8 ≤ _)⟩)
        refine Wk.backW (n := 115) (rc := 4) (rs := 8) (Q := Q_rmC0 Z b99 b95 .null k95 H99 n0) e99 Bs0 (by omega) hZ hown R99 (cl101_ _ (by rw [hml]; rfl)) fun vn101 us101 T101 L101 X101 Bs101 hZ hown A_101 R101 hQ101 => ?_
        obtain ⟨t_101, kb_101, rfl, M101, J101, p101_0, p101_1, p101_2, p101_3⟩ := hQ101
        have N101 := Fr.app N0 M101
        have sz101 := J101.1
        have K101 := K99.trans J101 (allS (Or.inr (by omega)) all0)
        have lt_p101_0 := ny p101_0.lt
        have lt_p101_3 := ny p101_3.lt
        show Wk p e below _ T101 (mkF m 115 _ [(.ref b99)])
        refine Wk.astore X101 hx (hb hby at_115) (n := 117) rfl rfl (L' := #[.val (.int p1), .val (.long j1), .second, .val (.int p2), .val (.int (0 : Int32)), .val (.int tl), .val (.int (0 : Int32)), .val (.int c0), .val (.int c1), .val (.int c2), .val (.ref b95), .val (.ref b99), .unset, .unset, .unset, .unset, .unset, .unset, .unset, .unset]) rfl ?_
        refine Wk.aconstNull X101 hx (hb hby at_117) (n := 118) rfl ?_
        refine Wk.astore X101 hx (hb hby at_118) (n := 120) rfl rfl (L' := #[.val (.int p1), .val (.long j1), .second, .val (.int p2), .val (.int (0 : Int32)), .val (.int tl), .val (.int (0 : Int32)), .val (.int c0), .val (.int c1), .val (.int c2), .val (.ref b95), .val (.ref b99), .val .null, .unset, .unset, .unset, .unset, .unset, .unset, .unset]) rfl ?_
        refine Wk.iload X101 hx (hb hby at_120) (n := 122) rfl rfl ?_
        have hc122_102 : (0 : Int32) = (0 : Int32) := rfl
        refine Wk.ifYes X101 hx (hb hby at_122) ((if0 _ _).trans (teq hc122_102).1) (by decide) (n := 144) (by decide) ?_
        have f103 := (((O1.ext Ex95).ext Ex99).keep J101 (allS (by omega) all0))
        exact jt_c T101 T101.heap _ us101 _ c0 c1 c2 (0 : Int32) b95 b99 t_101 kb_101 .null (X101.mono (by decide) (by decide)) rfl K101 N101 Bs101 (by omega) hZ hown R101 p101_0 p101_1 p101_2 p101_3 f103 (fun _ q => nomatch q) rfl
      ·
        refine Wk.ifNo X0 hx (hb hby at_22) (n := 25) rfl ((if0 _ _).trans (feq hc22).1) ?_
        refine Wk.iconst X0 hx (hb hby at_25) (n := 26) rfl (z := (1 : Int32)) rfl ?_
        refine Wk.goto X0 hx (hb hby at_26) (by decide) (n := 30) (by decide) ?_
        refine Wk.istore X0 hx (hb hby at_30) (n := 32) rfl (L' := #[.val (.int p1), .val (.long j1), .second, .val (.int p2), .val (.int (0 : Int32)), .val (.int tl), .val (.int (1 : Int32)), .unset, .unset, .unset, .unset, .unset, .unset, .unset, .unset, .unset, .unset, .unset, .unset, .unset]) rfl ?_
        refine Wk.lloadN X0 hx (hb hby at_32) (n := 33) rfl rfl ?_
        refine Wk.ldc2Long X0 hx hown (mvT hZ (hw _ (List.mem_of_getElem? (i := 0) rfl))) (hb hby at_33) (n := 36) rfl ?_
        refine Wk.land X0 hx (hb hby at_36) (n := 37) rfl ?_
        refine Wk.l2i X0 hx (hb hby at_37) (n := 38) rfl ?_
        obtain ⟨c0, q_c0⟩ : ∃ z : Int32, z = (((j1 &&& (255 : Int64)).toInt32).toUInt32.toUInt16.toUInt32.toInt32) := ⟨_, rfl⟩
        have n_c0 : nar .char c0 = c0 := by rw [q_c0]; exact own_cL _
        have r_c0 : ¬ c0 < 0 ∧ ¬ (255 : Int32) < c0 := by rw [q_c0]; exact own_rL _
        refine Wk.i2c X0 hx (hb hby at_38) (n := 39) rfl q_c0.symm ?_
        refine Wk.istore X0 hx (hb hby at_39) (n := 41) rfl (L' := #[.val (.int p1), .val (.long j1), .second, .val (.int p2), .val (.int (0 : Int32)), .val (.int tl), .val (.int (1 : Int32)), .val (.int c0), .unset, .unset, .unset, .unset, .unset, .unset, .unset, .unset, .unset, .unset, .unset, .unset]) rfl ?_
        refine Wk.lloadN X0 hx (hb hby at_41) (n := 42) rfl rfl ?_
        refine Wk.bipush X0 hx (hb hby at_42) (n := 44) rfl (z := (8 : Int32)) rfl ?_
        refine Wk.lushr X0 hx (hb hby at_44) (n := 45) rfl (z := ((j1.toUInt64 >>> ((8 : Int32) &&& 63).toInt64.toUInt64).toInt64)) rfl ?_
        refine Wk.ldc2Long X0 hx hown (mvT hZ (hw _ (List.mem_of_getElem? (i := 0) rfl))) (hb hby at_45) (n := 48) rfl ?_
        refine Wk.land X0 hx (hb hby at_48) (n := 49) rfl ?_
        refine Wk.l2i X0 hx (hb hby at_49) (n := 50) rfl ?_
        obtain ⟨c1, q_c1⟩ : ∃ z : Int32, z = (((((j1.toUInt64 >>> ((8 : Int32) &&& 63).toInt64.toUInt64).toInt64) &&& (255 : Int64)).toInt32).toUInt32.toUInt16.toUInt32.toInt32) := ⟨_, rfl⟩
        have n_c1 : nar .char c1 = c1 := by rw [q_c1]; exact own_cL _
        have r_c1 : ¬ c1 < 0 ∧ ¬ (255 : Int32) < c1 := by rw [q_c1]; exact own_rL _
        refine Wk.i2c X0 hx (hb hby at_50) (n := 51) rfl q_c1.symm ?_
        refine Wk.istore X0 hx (hb hby at_51) (n := 53) rfl (L' := #[.val (.int p1), .val (.long j1), .second, .val (.int p2), .val (.int (0 : Int32)), .val (.int tl), .val (.int (1 : Int32)), .val (.int c0), .val (.int c1), .unset, .unset, .unset, .unset, .unset, .unset, .unset, .unset, .unset, .unset, .unset]) rfl ?_
        refine Wk.lloadN X0 hx (hb hby at_53) (n := 54) rfl rfl ?_
        refine Wk.bipush X0 hx (hb hby at_54) (n := 56) rfl (z := (16 : Int32)) rfl ?_
        refine Wk.lushr X0 hx (hb hby at_56) (n := 57) rfl (z := ((j1.toUInt64 >>> ((16 : Int32) &&& 63).toInt64.toUInt64).toInt64)) rfl ?_
        refine Wk.ldc2Long X0 hx hown (mvT hZ (hw _ (List.mem_of_getElem? (i := 0) rfl))) (hb hby at_57) (n := 60) rfl ?_
        refine Wk.land X0 hx (hb hby at_60) (n := 61) rfl ?_
        refine Wk.l2i X0 hx (hb hby at_61) (n := 62) rfl ?_
        obtain ⟨c2, q_c2⟩ : ∃ z : Int32, z = (((((j1.toUInt64 >>> ((16 : Int32) &&& 63).toInt64.toUInt64).toInt64) &&& (255 : Int64)).toInt32).toUInt32.toUInt16.toUInt32.toInt32) := ⟨_, rfl⟩
        have n_c2 : nar .char c2 = c2 := by rw [q_c2]; exact own_cL _
        have r_c2 : ¬ c2 < 0 ∧ ¬ (255 : Int32) < c2 := by rw [q_c2]; exact own_rL _
        refine Wk.i2c X0 hx (hb hby at_62) (n := 63) rfl q_c2.symm ?_
        refine Wk.istore X0 hx (hb hby at_63) (n := 65) rfl (L' := #[.val (.int p1), .val (.long j1), .second, .val (.int p2), .val (.int (0 : Int32)), .val (.int tl), .val (.int (1 : Int32)), .val (.int c0), .val (.int c1), .val (.int c2), .unset, .unset, .unset, .unset, .unset, .unset, .unset, .unset, .unset, .unset]) rfl ?_
        refine Wk.iload X0 hx (hb hby at_65) (n := 67) rfl rfl ?_
        refine Wk.newP X0 hx hZ (hw _ (List.mem_of_getElem? (i := 1) rfl)) e0 (hb hby at_67) (n := 69) rfl (by decide) (cap := 0) (by decide) (by decide) (by decide) (by decide) fun T104 H104 b104 k104 gn104 X104 e104 Ex104 An104 => ?_
        have gn104 := nx gn104
        have sz104 := Ex104.1
        have K104 := K0.ext Ex104
        have R104 := R0.trans (CHr.ext Ex104 R0.1)
        have Vn104 : Arv Z H104 b104 k104 .char (0 : Int32) [] (.int (0 : Int32)) := (Arv.new An104 (by decide)).pad (pad_rep [] (.int (0 : Int32)) 0)
        have lt104 := ny Vn104.lt
        refine Wk.astore X104 hx (hb hby at_69) (n := 71) rfl rfl (L' := #[.val (.int p1), .val (.long j1), .second, .val (.int p2), .val (.int (0 : Int32)), .val (.int tl), .val (.int (1 : Int32)), .val (.int c0), .val (.int c1), .val (.int c2), .val (.ref b104), .unset, .unset, .unset, .unset, .unset, .unset, .unset, .unset, .unset]) rfl ?_
        refine Wk.iload X104 hx (hb hby at_71) (n := 73) rfl rfl ?_
        have hc73_105 : ¬ ((0 : Int32) < (0 : Int32)) := by decide
        refine Wk.ifYes X104 hx (hb hby at_73) ((if0 _ _).trans (flt hc73_105).2.2.2) (by decide) (n := 82) (by decide) ?_
        refine Wk.iload X104 hx (hb hby at_82) (n := 84) rfl rfl ?_
        refine Wk.iconst X104 hx (hb hby at_84) (n := 85) rfl (z := (1 : Int32)) rfl ?_
        have hc85_106 : ¬ ((1 : Int32) < (0 : Int32)) := by decide
        refine Wk.icmpYes X104 hx (hb hby at_85) (flt hc85_106).2.2.2 (by decide) (n := 94) (by decide) ?_
        refine Wk.iload X104 hx (hb hby at_94) (n := 96) rfl rfl ?_
        refine Wk.iconst X104 hx (hb hby at_96) (n := 97) rfl (z := (2 : Int32)) rfl ?_
        have hc97_107 : ¬ ((2 : Int32) < (0 : Int32)) := by decide
        refine Wk.icmpYes X104 hx (hb hby at_97) (flt hc97_107).2.2.2 (by decide) (n := 106) (by decide) ?_
        refine Wk.newO X104 hx hZ hown (hw _ (List.mem_of_getElem? (i := 2) rfl)) (hw _ (List.mem_of_getElem? (i := 3) rfl)) (hw _ (List.mem_of_getElem? (i := 4) rfl)) e104 (hb hby at_106) (n := 109) rfl (by decide) (by decide) fun T108 H108 b108 gn108 X108 e108 Ex108 An108 Dn108 Yn108 => ?_
        have gn108 := nx gn108
        have sz108 := Ex108.1
        have lt108 := ny An108.lt
        have K108 := K104.ext Ex108
        have R108 := R104.trans (CHr.ext Ex108 R104.1)
        have Sf108 := Safe.ext (x := b108) Ex108 R104.1 (Safe.new (Nat.le_of_eq gn108.symm))
        have Fn108_value : Fld Z H108 b108 "java/lang/String" "value" "[B" .null := Dn108 (Or.inr (hw _ (List.mem_of_getElem? (i := 17) rfl))) (ty := (.array .byte)) (by decide)
        have Fn108_coder : Fld Z H108 b108 "java/lang/String" "coder" "B" (.int (0 : Int32)) := Dn108 (Or.inr (hw _ (List.mem_of_getElem? (i := 18) rfl))) (ty := .byte) (by decide)
        refine Wk.dup X108 hx (hb hby at_109) (n := 110) rfl rfl ?_
        refine Wk.aload X108 hx (hb hby at_110) (n := 112) rfl rfl rfl ?_
        have f109 := (Vn104.ext Ex108)
        have cl110_ := fun (Ls : Array Slot) (hLs : Ls.size = c.maxLocals) => X108.specialBackS hx (y := (⟨"java/lang/String", "<init>", "([C)V"⟩ : MethodName)) rfl hown (mvT hZ (hw _ (List.mem_of_getElem? (i := 5) rfl))) (mvT hZ (hw _ (List.mem_of_getElem? (i := 6) rfl))) (mvT hZ (hw _ (List.mem_of_getElem? (i := 7) rfl))) (by decide) (backWd (W := 1) (EL := own_EL) (rmC0 l Z a0 hw [] b108 b104 .null k104 H108 n0 (by omega) An108 Fn108_value Fn108_coder f109 (by omega)) hZ (hw _ (List.mem_of_getElem? (i := 7) rfl)) (hw _ (List.mem_of_getElem? (i := 4) rfl)) (by decide) (by decide) hELw R108.1 (List.forall_mem_cons.mpr ⟨ny (by omega), (fun _ q => nomatch q)⟩) (sfS Sf108 sf0)) (g := mkF m 112 Ls [(.ref b104), (.ref b108), (.ref b108)]) rfl hLs (Steps.refl _) (a := b108) (argsL := [(.ref b104)]) (rest := [(.ref b108)]) (lenOf pd_30 rfl) rfl (by show 2 * 0 + _ ≤ _; exact Nat.le_of_eq rfl) (hb hby at_112) (fun _ _ => ⟨rfl, e108, (by decide : 0 + 1 + 1 + 4 ≤ _), (by decide : 0 + 0 + 4 + 8 ≤ _)⟩)
        refine Wk.backW (n := 115) (rc := 4) (rs := 8) (Q := Q_rmC0 Z b108 b104 .null k104 H108 n0) e108 Bs0 (by omega) hZ hown R108 (cl110_ _ (by rw [hml]; rfl)) fun vn110 us110 T110 L110 X110 Bs110 hZ hown A_110 R110 hQ110 => ?_
        obtain ⟨t_110, kb_110, rfl, M110, J110, p110_0, p110_1, p110_2, p110_3⟩ := hQ110
        have N110 := Fr.app N0 M110
        have sz110 := J110.1
        have K110 := K108.trans J110 (allS (Or.inr (by omega)) all0)
        have lt_p110_0 := ny p110_0.lt
        have lt_p110_3 := ny p110_3.lt
        show Wk p e below _ T110 (mkF m 115 _ [(.ref b108)])
        refine Wk.astore X110 hx (hb hby at_115) (n := 117) rfl rfl (L' := #[.val (.int p1), .val (.long j1), .second, .val (.int p2), .val (.int (0 : Int32)), .val (.int tl), .val (.int (1 : Int32)), .val (.int c0), .val (.int c1), .val (.int c2), .val (.ref b104), .val (.ref b108), .unset, .unset, .unset, .unset, .unset, .unset, .unset, .unset]) rfl ?_
        refine Wk.aconstNull X110 hx (hb hby at_117) (n := 118) rfl ?_
        refine Wk.astore X110 hx (hb hby at_118) (n := 120) rfl rfl (L' := #[.val (.int p1), .val (.long j1), .second, .val (.int p2), .val (.int (0 : Int32)), .val (.int tl), .val (.int (1 : Int32)), .val (.int c0), .val (.int c1), .val (.int c2), .val (.ref b104), .val (.ref b108), .val .null, .unset, .unset, .unset, .unset, .unset, .unset, .unset]) rfl ?_
        refine Wk.iload X110 hx (hb hby at_120) (n := 122) rfl rfl ?_
        have hc122_111 : ¬ ((1 : Int32) = (0 : Int32)) := by decide
        refine Wk.ifNo X110 hx (hb hby at_122) (n := 125) rfl ((if0 _ _).trans (feq hc122_111).1) ?_
        refine Wk.newO X110 hx hZ hown (hw _ (List.mem_of_getElem? (i := 222) rfl)) (hw _ (List.mem_of_getElem? (i := 223) rfl)) (hw _ (List.mem_of_getElem? (i := 224) rfl)) rfl (hb hby at_125) (n := 128) rfl (by decide) (by decide) fun T112 H112 b112 gn112 X112 e112 Ex112 An112 Dn112 Yn112 => ?_
        have gn112 := nx gn112
        have sz112 := Ex112.1
        have lt112 := ny An112.lt
        have K112 := K110.ext Ex112
        have R112 := R110.trans (CHr.ext Ex112 R110.1)
        have Fn112_user : Fld Z H112 b112 "com/example/net_thirty/netthirty/mail/MailServer$Login" "user" "Ljava/lang/String;" .null := Dn112 (Or.inr (hw _ (List.mem_of_getElem? (i := 243) rfl))) (ty := (.object "java/lang/String")) (by decide)
        have Fn112_password : Fld Z H112 b112 "com/example/net_thirty/netthirty/mail/MailServer$Login" "password" "Ljava/lang/String;" .null := Dn112 (Or.inr (hw _ (List.mem_of_getElem? (i := 245) rfl))) (ty := (.object "java/lang/String")) (by decide)
        refine Wk.dup X112 hx (hb hby at_128) (n := 129) rfl rfl ?_
        refine Wk.iload X112 hx (hb hby at_129) (n := 131) rfl rfl ?_
        have f113 := ((((O1.ext Ex104).ext Ex108).keep J110 (allS (by omega) all0)).ext Ex112)
        have cl114_ := fun (Ls : Array Slot) (hLs : Ls.size = c.maxLocals) => Jvm.LawKit.callS X112 hx (y := (⟨"java/lang/String", "valueOf", "(C)Ljava/lang/String;"⟩ : MethodName)) hown (mvT hZ (hw _ (List.mem_of_getElem? (i := 225) rfl))) (mvT hZ (hw _ (List.mem_of_getElem? (i := 226) rfl))) (mvT hZ (hw _ (List.mem_of_getElem? (i := 4) rfl))) (mvT hZ (hw _ (List.mem_of_getElem? (i := 227) rfl))) (by decide) (backOf (W := 2) (rmSVO l Z a0 hw [] c1 zc H112 n0 (by omega) S4 f113 hCS r_c1.2) hZ (hw _ (List.mem_of_getElem? (i := 227) rfl)) (hw _ (List.mem_of_getElem? (i := 4) rfl)) (by decide) (by decide)) (g := mkF m 131 Ls [(.int c1), (.ref b112), (.ref b112)]) rfl hLs (argsL := [(.int c1)]) (rest := [(.ref b112), (.ref b112)]) (lenOf pd_31 rfl) rfl (by show 2 * 0 + _ ≤ _; exact Nat.le_of_eq rfl) (hb hby at_131) (fun _ _ => ⟨rfl, e112, (by decide : 0 + 1 + 1 + 4 + 1 + 2 ≤ _), (by decide : 0 + 0 + 4 + 8 + 2 + 5 ≤ _)⟩)
        refine Wk.backS (n := 134) (rc := 2) (rs := 5) (Q := Q_rmSVO Z c1 zc H112 n0) (cl114_ _ (by rw [hml]; rfl)) fun vn114 T114 L114 X114 hQ114 => ?_
        clear cl114_
        obtain ⟨r_114, t_114, kb_114, rfl, M114, J114, p114_0, p114_1, p114_2, p114_3, gr_114, gt_114⟩ := hQ114
        have N114 := Fr.app N110 M114
        have sz114 := J114.1
        have hs114 : ∀ x ∈ ([] : List Addr), Safe Z own_EL us110.vm H112 x := sf0
        have R114 := R112.trans (CHr.keep J114 hs114 R112.1)
        have K114 := K112.trans J114 (fun x hx => nomatch hx)
        have lt_p114_0 := ny p114_0.lt
        have lt_p114_3 := ny p114_3.lt
        show Wk p e below _ T114 (mkF m 134 _ [(.ref r_114), (.ref b112), (.ref b112)])
        refine Wk.iload X114 hx (hb hby at_134) (n := 136) rfl rfl ?_
        have f115 := (f113.keep J114 all0)
        have cl116_ := fun (Ls : Array Slot) (hLs : Ls.size = c.maxLocals) => Jvm.LawKit.callS X114 hx (y := (⟨"java/lang/String", "valueOf", "(C)Ljava/lang/String;"⟩ : MethodName)) hown (mvT hZ (hw _ (List.mem_of_getElem? (i := 225) rfl))) (mvT hZ (hw _ (List.mem_of_getElem? (i := 226) rfl))) (mvT hZ (hw _ (List.mem_of_getElem? (i := 4) rfl))) (mvT hZ (hw _ (List.mem_of_getElem? (i := 227) rfl))) (by decide) (backOf (W := 3) (rmSVO l Z a0 hw [] c2 zc T114.heap n0 (by omega) S4 f115 hCS r_c2.2) hZ (hw _ (List.mem_of_getElem? (i := 227) rfl)) (hw _ (List.mem_of_getElem? (i := 4) rfl)) (by decide) (by decide)) (g := mkF m 136 Ls [(.int c2), (.ref r_114), (.ref b112), (.ref b112)]) rfl hLs (argsL := [(.int c2)]) (rest := [(.ref r_114), (.ref b112), (.ref b112)]) (lenOf pd_31 rfl) rfl (by show 2 * 0 + _ ≤ _; exact Nat.le_of_eq rfl) (hb hby at_136) (fun _ _ => ⟨rfl, rfl, (by decide : 0 + 1 + 1 + 4 + 1 + 2 + 2 ≤ _), (by decide : 0 + 0 + 4 + 8 + 2 + 5 + 5 ≤ _)⟩)
        refine Wk.backS (n := 139) (rc := 2) (rs := 5) (Q := Q_rmSVO Z c2 zc T114.heap n0) (cl116_ _ (by rw [hml]; rfl)) fun vn116 T116 L116 X116 hQ116 => ?_
        clear cl116_
        obtain ⟨r_116, t_116, kb_116, rfl, M116, J116, p116_0, p116_1, p116_2, p116_3, gr_116, gt_116⟩ := hQ116
        have N116 := Fr.app N114 M116
        have sz116 := J116.1
        have hs116 : ∀ x ∈ ([] : List Addr), Safe Z own_EL us110.vm T114.heap x := sf0
        have R116 := R114.trans (CHr.keep J116 hs116 R114.1)
        have K116 := K114.trans J116 (fun x hx => nomatch hx)
        have lt_p116_0 := ny p116_0.lt
        have lt_p116_3 := ny p116_3.lt
        show Wk p e below _ T116 (mkF m 139 _ [(.ref r_116), (.ref r_114), (.ref b112), (.ref b112)])
        have f117 := ((An112.keep J114).keep J116)
        have f118 := ((Fn112_user.keep J114 nin0).keep J116 nin0)
        have f119 := ((Fn112_password.keep J114 nin0).keep J116 nin0)
        have cl120_ := fun (Ls : Array Slot) (hLs : Ls.size = c.maxLocals) => X116.specialBack hx (y := (⟨"com/example/net_thirty/netthirty/mail/MailServer$Login", "<init>", "(Ljava/lang/String;Ljava/lang/String;)V"⟩ : MethodName)) rfl hown (mvT hZ (hw _ (List.mem_of_getElem? (i := 238) rfl))) (mvT hZ (hw _ (List.mem_of_getElem? (i := 239) rfl))) (mvT hZ (hw _ (List.mem_of_getElem? (i := 240) rfl))) (by decide) (backOf (W := 1) (rmLI l Z a0 hw [] b112 r_114 r_116 .null .null T116.heap n0 (by omega) f117 f118 f119 (by omega)) hZ (hw _ (List.mem_of_getElem? (i := 240) rfl)) (hw _ (List.mem_of_getElem? (i := 224) rfl)) (by decide) (by decide)) (g := mkF m 139 Ls [(.ref r_116), (.ref r_114), (.ref b112), (.ref b112)]) rfl hLs (Steps.refl _) (a := b112) (argsL := [(.ref r_114), (.ref r_116)]) (rest := [(.ref b112)]) (lenOf pd_32 rfl) rfl (by show 2 * 0 + _ ≤ _; exact Nat.le_of_eq rfl) (hb hby at_139) (fun _ _ => ⟨rfl, rfl, (by decide : 0 + 1 + 1 + 4 + 1 + 2 + 2 + 0 ≤ _), (by decide : 0 + 0 + 4 + 8 + 2 + 5 + 5 + 0 ≤ _)⟩)
        refine Wk.back (n := 142) (rc := 0) (rs := 0) (Q := Q_rmLI Z b112 r_114 r_116 .null .null T116.heap n0) (cl120_ _ (by rw [hml]; rfl)) fun vn120 T120 L120 X120 hQ120 => ?_
        clear cl120_
        obtain ⟨rfl, M120, J120, p120_0⟩ := hQ120
        have N120 := Fr.app N116 M120
        have sz120 := J120.1
        have hs120 : ∀ x ∈ ([b112] : List Addr), Safe Z own_EL us110.vm T116.heap x := (sfS (Safe.exa (EL := own_EL) hZ.alike f117 (by decide) (by decide)) sf0)
        have R120 := R116.trans (CHr.keep J120 hs120 R116.1)
        have K120 := K116.trans J120 (allS (Or.inr (by omega)) all0)
        have lt_p120_0 := ny p120_0.lt
        show Wk p e below _ T120 (mkF m 142 _ [(.ref b112)])
        refine Wk.astore X120 hx (hb hby at_142) (n := 144) rfl rfl (L' := #[.val (.int p1), .val (.long j1), .second, .val (.int p2), .val (.int (0 : Int32)), .val (.int tl), .val (.int (1 : Int32)), .val (.int c0), .val (.int c1), .val (.int c2), .val (.ref b104), .val (.ref b108), .val (.ref b112), .unset, .unset, .unset, .unset, .unset, .unset, .unset]) rfl ?_
        have f121 := ((((p110_0.ext Ex112).keep J114).keep J116).keep J120)
        have f122 := ((((p110_1.ext Ex112).keep J114 nin0).keep J116 nin0).keep J120 (ninS (nz (by omega)) nin0))
        have f123 := ((((p110_2.ext Ex112).keep J114 nin0).keep J116 nin0).keep J120 (ninS (nz (by omega)) nin0))
        have f124 := ((((p110_3.ext Ex112).keep J114 nin0).keep J116 nin0).keep J120 (ninS (nz (by omega)) nin0))
        have f125 := ((f115.keep J116 all0).keep J120 (allS (by omega) all0))
        exact jt_c T120 T120.heap _ us110 _ c0 c1 c2 (1 : Int32) b104 b108 t_110 kb_110 (.ref b112) (X120.mono (by decide) (by decide)) rfl K120 N120 Bs110 (by omega) hZ hown R120 f121 f122 f123 f124 f125 (fun _ q => nomatch q) rfl
    refine Wk.iloadN X0 hx (hb hby at_5) (n := 6) rfl rfl ?_
    refine Wk.iconst X0 hx (hb hby at_6) (n := 7) rfl (z := (4 : Int32)) rfl ?_
    refine Wk.iand X0 hx (hb hby at_7) (n := 8) rfl ?_
    by_cases hc8 : (p1 &&& (4 : Int32)) = (0 : Int32)
    ·
      refine Wk.ifYes X0 hx (hb hby at_8) ((if0 _ _).trans (teq hc8).1) (by decide) (n := 15) (by decide) ?_
      refine Wk.iconst X0 hx (hb hby at_15) (n := 16) rfl (z := (0 : Int32)) rfl ?_
      exact jt_d (0 : Int32)
    ·
      refine Wk.ifNo X0 hx (hb hby at_8) (n := 11) rfl ((if0 _ _).trans (feq hc8).1) ?_
      refine Wk.iconst X0 hx (hb hby at_11) (n := 12) rfl (z := (1 : Int32)) rfl ?_
      refine Wk.goto X0 hx (hb hby at_12) (by decide) (n := 16) (by decide) ?_
      exact jt_d (1 : Int32)
  ·
    rw [q3]
    refine Wk.istore X0 hx (hb hby at_3) (n := 5) rfl (L' := #[.val (.int p1), .val (.long j1), .second, .val (.int p2), .val (.int (1 : Int32)), .unset, .unset, .unset, .unset, .unset, .unset, .unset, .unset, .unset, .unset, .unset, .unset, .unset, .unset, .unset]) rfl ?_
    have jt_d : ∀ (tl : Int32), Wk p e below (EndW Z own_EL s (Q_rm0 Z p1 j1 p2 zc fm dO kO dT kT h0 n0) room_1.cells room_1.slots) s₁ (mkF m 16 #[.val (.int p1), .val (.long j1), .second, .val (.int p2), .val (.int (1 : Int32)), .unset, .unset, .unset, .unset, .unset, .unset, .unset, .unset, .unset, .unset, .unset, .unset, .unset, .unset, .unset] [(.int tl)]) := by
      intro tl
      refine Wk.istore X0 hx (hb hby at_16) (n := 18) rfl (L' := #[.val (.int p1), .val (.long j1), .second, .val (.int p2), .val (.int (1 : Int32)), .val (.int tl), .unset, .unset, .unset, .unset, .unset, .unset, .unset, .unset, .unset, .unset, .unset, .unset, .unset, .unset]) rfl ?_
      have jt_c : ∀ (Tj126 : State) (Hj126 : Heap) (Lcj126 : List Loc) (usj126 : State) (kzj126 : Nat) (c0 : Int32) (c1 : Int32) (c2 : Int32) (fl : Int32) (ah : Addr) (rh : Addr) (th : Addr) (kh : ClassId) (lg : Value), (Stand p l e room_1 usj126 m #[(.int p1), (.long j1), (.int p2)] below meth c Tj126 Lcj126 16 44) → (Tj126.heap = Hj126) → (Keep h0 Hj126 []) → (Fr n0 Lcj126) → (Base s usj126 kzj126) → (kzj126 ≤ Hj126.size) → (Z.Warmed39 usj126.vm) → (usj126.vm.findClass "com/example/net_thirty/netthirty/mail/MailServerAddressPinLaw" = some m.cls) → (CHr Z own_EL s.vm h0 usj126.vm Hj126) → (Exa Z Hj126 rh "java/lang/String") → (Fld Z Hj126 rh "java/lang/String" "value" "[B" (.ref th)) → (Fld Z Hj126 rh "java/lang/String" "coder" "B" (.int (0 : Int32))) → (Arv Z Hj126 th kh .byte (Int32.ofNat [c0].length) (bsV [c0]) (.int (0 : Int32))) → (Old Z n0 Hj126) → (∀ c ∈ [c0], ¬ c < 0 ∧ ¬ (255 : Int32) < c) → (lg.isRef = true) → Wk p e below (EndW Z own_EL s (Q_rm0 Z p1 j1 p2 zc fm dO kO dT kT h0 n0) room_1.cells room_1.slots) Tj126 (mkF m 144 #[.val (.int p1), .val (.long j1), .second, .val (.int p2), .val (.int (1 : Int32)), .val (.int tl), .val (.int fl), .val (.int c0), .val (.int c1), .val (.int c2), .val (.ref ah), .val (.ref rh), .val lg, .unset, .unset, .unset, .unset, .unset, .unset, .unset] []) := by
        intro Tj126 Hj126 Lcj126 usj126 kzj126 c0 c1 c2 fl ah rh th kh lg Xj126 ej126 Kj126 Nj126 Bsj126 hkzj126 hZ hown Rj126 Es9 Fv9 Fc9 As9 Olj126 hpc hlg
        have szj126 := Kj126.1
        have lt_Es9 := ny Es9.lt
        have lt_Fv9 := ny Fv9.lt
        have lt_Fc9 := ny Fc9.lt
        have lt_As9 := ny As9.lt
        refine Wk.newO Xj126 hx hZ hown (hw _ (List.mem_of_getElem? (i := 23) rfl)) (hw _ (List.mem_of_getElem? (i := 24) rfl)) (hw _ (List.mem_of_getElem? (i := 25) rfl)) ej126 (hb hby at_144) (n := 147) rfl (by decide) (by decide) fun T127 H127 b127 gn127 X127 e127 Ex127 An127 Dn127 Yn127 => ?_
        have gn127 := nx gn127
        have sz127 := Ex127.1
        have lt127 := ny An127.lt
        have K127 := Kj126.ext Ex127
        have R127 := Rj126.trans (CHr.ext Ex127 Rj126.1)
        have Fn127_host : Fld Z H127 b127 "com/example/net_thirty/netthirty/mail/MailServer" "host" "Ljava/lang/String;" .null := Dn127 (Or.inr (hw _ (List.mem_of_getElem? (i := 36) rfl))) (ty := (.object "java/lang/String")) (by decide)
        have Fn127_port : Fld Z H127 b127 "com/example/net_thirty/netthirty/mail/MailServer" "port" "I" (.int (0 : Int32)) := Dn127 (Or.inr (hw _ (List.mem_of_getElem? (i := 38) rfl))) (ty := .int) (by decide)
        have Fn127_startTls : Fld Z H127 b127 "com/example/net_thirty/netthirty/mail/MailServer" "startTls" "Z" (.int (0 : Int32)) := Dn127 (Or.inr (hw _ (List.mem_of_getElem? (i := 40) rfl))) (ty := .boolean) (by decide)
        have Fn127_login : Fld Z H127 b127 "com/example/net_thirty/netthirty/mail/MailServer" "login" "Lcom/example/net_thirty/netthirty/mail/MailServer$Login;" .null := Dn127 (Or.inr (hw _ (List.mem_of_getElem? (i := 42) rfl))) (ty := (.object "com/example/net_thirty/netthirty/mail/MailServer$Login")) (by decide)
        refine Wk.dup X127 hx (hb hby at_147) (n := 148) rfl rfl ?_
        refine Wk.aload X127 hx (hb hby at_148) (n := 150) rfl rfl rfl ?_
        refine Wk.iloadN X127 hx (hb hby at_150) (n := 151) rfl rfl ?_
        refine Wk.iload X127 hx (hb hby at_151) (n := 153) rfl rfl ?_
        refine Wk.aload X127 hx (hb hby at_153) (n := 155) rfl rfl hlg ?_
        have cl128_ := fun (Ls : Array Slot) (hLs : Ls.size = c.maxLocals) => X127.specialBack hx (y := (⟨"com/example/net_thirty/netthirty/mail/MailServer", "<init>", "(Ljava/lang/String;IZLcom/example/net_thirty/netthirty/mail/MailServer$Login;)V"⟩ : MethodName)) rfl hown (mvT hZ (hw _ (List.mem_of_getElem? (i := 26) rfl))) (mvT hZ (hw _ (List.mem_of_getElem? (i := 27) rfl))) (mvT hZ (hw _ (List.mem_of_getElem? (i := 28) rfl))) (by decide) (backOf (W := 1) (rmMI l Z a0 hw [] b127 rh p2 tl lg .null (.int (0 : Int32)) (.int (0 : Int32)) .null H127 n0 (by omega) An127 Fn127_host Fn127_port Fn127_startTls Fn127_login (by omega) hlg) hZ (hw _ (List.mem_of_getElem? (i := 28) rfl)) (hw _ (List.mem_of_getElem? (i := 25) rfl)) (by decide) (by decide)) (g := mkF m 155 Ls [lg, (.int tl), (.int p2), (.ref rh), (.ref b127), (.ref b127)]) rfl hLs (Steps.refl _) (a := b127) (argsL := [(.ref rh), (.int p2), (.int tl), lg]) (rest := [(.ref b127)]) (lenOf pd_27 rfl) rfl (by show 2 * 0 + _ ≤ _; exact Nat.le_of_eq rfl) (hb hby at_155) (fun _ _ => ⟨rfl, e127, (by decide : 16 + 1 + 0 ≤ _), (by decide : 44 + 4 + 0 ≤ _)⟩)
        refine Wk.back (n := 158) (rc := 0) (rs := 0) (Q := Q_rmMI Z b127 rh p2 tl lg .null (.int (0 : Int32)) (.int (0 : Int32)) .null H127 n0) (cl128_ _ (by rw [hml]; rfl)) fun vn128 T128 L128 X128 hQ128 => ?_
        clear cl128_
        obtain ⟨rfl, M128, J128, p128_0, p128_1, p128_2⟩ := hQ128
        have N128 := Fr.app Nj126 M128
        have sz128 := J128.1
        have hs128 : ∀ x ∈ ([b127] : List Addr), Safe Z own_EL usj126.vm H127 x := (sfS (Safe.exa (EL := own_EL) hZ.alike An127 (by decide) (by decide)) sf0)
        have R128 := R127.trans (CHr.keep J128 hs128 R127.1)
        have K128 := K127.trans J128 (allS (Or.inr (by omega)) all0)
        have lt_p128_0 := ny p128_0.lt
        show Wk p e below _ T128 (mkF m 158 _ [(.ref b127)])
        refine Wk.astore X128 hx (hb hby at_158) (n := 160) rfl rfl (L' := #[.val (.int p1), .val (.long j1), .second, .val (.int p2), .val (.int (1 : Int32)), .val (.int tl), .val (.int fl), .val (.int c0), .val (.int c1), .val (.int c2), .val (.ref ah), .val (.ref rh), .val lg, .val (.ref b127), .unset, .unset, .unset, .unset, .unset, .unset]) rfl ?_
        refine Wk.aload X128 hx (hb hby at_160) (n := 162) rfl rfl rfl ?_
        have f129 := ((Es9.ext Ex127).keep J128)
        have f130 := ((Fv9.ext Ex127).keep J128 (ninS (nz (by omega)) nin0))
        have f131 := ((Fc9.ext Ex127).keep J128 (ninS (nz (by omega)) nin0))
        have f132 := ((As9.ext Ex127).keep J128 (ninS (nz (by omega)) nin0))
        have f133 := ((Olj126.ext Ex127).keep J128 (allS (by omega) all0))
        obtain ⟨cq134, kq134, qn134a, qn134b, qn134c⟩ := isOf hZ rfl p128_0
        have cl134_ := fun (Ls : Array Slot) (hLs : Ls.size = c.maxLocals) => X128.virtualBackS hx (y := (⟨"com/example/net_thirty/netthirty/mail/MailServer", "address", "()Ljava/lang/String;"⟩ : MethodName)) (z := (⟨"com/example/net_thirty/netthirty/mail/MailServer", "address", "()Ljava/lang/String;"⟩ : MethodName)) hown (mvT hZ (hw _ (List.mem_of_getElem? (i := 43) rfl))) (mvT hZ (hw _ (List.mem_of_getElem? (i := 44) rfl))) (notFace_of_selects (args := #[]) (mvT hZ (hw _ (List.mem_of_getElem? (i := 46) rfl)))) (mvT hZ (hw _ (List.mem_of_getElem? (i := 46) rfl))) (mvT hZ (hw _ (List.mem_of_getElem? (i := 45) rfl))) (by decide) (backWd (W := 0) (EL := own_EL) (rmAdr l Z a0 hw [] b127 p2 rh th kh ([c0]) zc dO kO dT kT T128.heap n0 (by omega) p128_0 p128_1 p128_2 f129 f130 f131 f132 S4 f133 S6 S7 A6 A7 hCS (Nat.le_of_ble_eq_true rfl) hpc) hZ (hw _ (List.mem_of_getElem? (i := 47) rfl)) (hw _ (List.mem_of_getElem? (i := 25) rfl)) (by decide) (by decide) hELw R128.1 (fun _ q => nomatch q) sf0) qn134a qn134c (g := mkF m 162 Ls [(.ref b127)]) rfl hLs (Steps.refl _) (argsL := []) (rest := []) (lenOf pd_24 rfl) rfl (by show 2 * 0 + _ ≤ _; exact Nat.le_of_eq rfl) (hb hby at_162) (fun _ _ => ⟨rfl, rfl, (by decide : 16 + 1 + 0 + 6 ≤ _), (by decide : 44 + 4 + 0 + 48 ≤ _)⟩)
        refine Wk.backW (n := 165) (rc := 6) (rs := 48) (Q := Q_rmAdr Z b127 p2 rh th kh ([c0]) zc dO kO dT kT T128.heap n0) rfl Bsj126 (by omega) hZ hown R128 (cl134_ _ (by rw [hml]; rfl)) fun vn134 us134 T134 L134 X134 Bs134 hZ hown A_134 R134 hQ134 => ?_
        obtain ⟨r_134, t_134, kb_134, rfl, M134, J134, p134_0, p134_1, p134_2, p134_3⟩ := hQ134
        have N134 := Fr.app N128 M134
        have sz134 := J134.1
        have K134 := K128.trans J134 (fun x hx => nomatch hx)
        have lt_p134_0 := ny p134_0.lt
        have lt_p134_3 := ny p134_3.lt
        show Wk p e below _ T134 (mkF m 165 _ [(.ref r_134)])
        have lG1 := sgl_le p2
        have lG2 := dl_le (mg p2) (mg_le p2)
        have lp : ([c0] ++ 58 :: (sgl p2 ++ dl (mg p2))).length = 2 + (sgl p2).length + (dl (mg p2)).length := by simp; omega
        have qp : ∀ c ∈ ([c0] ++ 58 :: (sgl p2 ++ dl (mg p2))), ¬ c < 0 ∧ ¬ (255 : Int32) < c := own_rapp hpc (own_rapp (a := [58]) (by decide) (own_rapp (sgl_rng p2) (dl_rng _)))
        refine Wk.astore X134 hx (hb hby at_165) (n := 167) rfl rfl (L' := #[.val (.int p1), .val (.long j1), .second, .val (.int p2), .val (.int (1 : Int32)), .val (.int tl), .val (.int fl), .val (.int c0), .val (.int c1), .val (.int c2), .val (.ref ah), .val (.ref rh), .val lg, .val (.ref b127), .val (.ref r_134), .unset, .unset, .unset, .unset, .unset]) rfl ?_
        refine Wk.iloadN X134 hx (hb hby at_167) (n := 168) rfl rfl ?_
        refine Wk.i2l X134 hx (hb hby at_168) (n := 169) rfl ?_
        have cl135_ := fun (Ls : Array Slot) (hLs : Ls.size = c.maxLocals) => Jvm.LawKit.callS X134 hx (y := (⟨"java/lang/Math", "abs", "(J)J"⟩ : MethodName)) hown (mvT hZ (hw _ (List.mem_of_getElem? (i := 178) rfl))) (mvT hZ (hw _ (List.mem_of_getElem? (i := 179) rfl))) (mvT hZ (hw _ (List.mem_of_getElem? (i := 175) rfl))) (mvT hZ (hw _ (List.mem_of_getElem? (i := 180) rfl))) (by decide) (backOf (W := 0) (rmAB l Z a0 hw [] (p2.toInt64) p2 T134.heap n0 (by omega) rfl) hZ (hw _ (List.mem_of_getElem? (i := 180) rfl)) (hw _ (List.mem_of_getElem? (i := 175) rfl)) (by decide) (by decide)) (g := mkF m 169 Ls [(.long (p2.toInt64))]) rfl hLs (argsL := [(.long (p2.toInt64))]) (rest := []) (lenOf pd_28 rfl) rfl (by show 2 * 0 + _ ≤ _; exact Nat.le_of_eq rfl) (hb hby at_169) (fun _ _ => ⟨rfl, rfl, (by decide : 16 + 1 + 0 + 6 + 0 ≤ _), (by decide : 44 + 4 + 0 + 48 + 0 ≤ _)⟩)
        refine Wk.backS (n := 172) (rc := 0) (rs := 0) (Q := Q_rmAB Z (p2.toInt64) p2 T134.heap n0) (cl135_ _ (by rw [hml]; rfl)) fun vn135 T135 L135 X135 hQ135 => ?_
        clear cl135_
        obtain ⟨rfl, M135, e135⟩ := hQ135
        have N135 := Fr.app N134 M135
        show Wk p e below _ T135 (mkF m 172 _ [(.long (Int64.ofNat (mg p2)))])
        refine Wk.lstore X135 hx (hb hby at_172) (n := 174) rfl (L' := #[.val (.int p1), .val (.long j1), .second, .val (.int p2), .val (.int (1 : Int32)), .val (.int tl), .val (.int fl), .val (.int c0), .val (.int c1), .val (.int c2), .val (.ref ah), .val (.ref rh), .val lg, .val (.ref b127), .val (.ref r_134), .val (.long (Int64.ofNat (mg p2))), .second, .unset, .unset, .unset]) rfl ?_
        refine Wk.lload X135 hx (hb hby at_174) (n := 176) rfl rfl ?_
        have cl136_ := fun (Ls : Array Slot) (hLs : Ls.size = c.maxLocals) => Jvm.LawKit.callS X135 hx (y := (⟨"com/example/net_thirty/netthirty/mail/MailServerAddressPinLaw", "digits", "(J)I"⟩ : MethodName)) hown (mvT hZ (hw _ (List.mem_of_getElem? (i := 181) rfl))) (mvT hZ (hw _ (List.mem_of_getElem? (i := 182) rfl))) (mvT hZ (hw _ (List.mem_of_getElem? (i := 183) rfl))) (mvT hZ (hw _ (List.mem_of_getElem? (i := 184) rfl))) (by decide) (backOf (W := 0) (rmDI l Z a0 hw [] (Int64.ofNat (mg p2)) (mg p2) T134.heap n0 (by omega) rfl (mg_le p2)) hZ (hw _ (List.mem_of_getElem? (i := 184) rfl)) (hw _ (List.mem_of_getElem? (i := 183) rfl)) (by decide) (by decide)) (g := mkF m 176 Ls [(.long (Int64.ofNat (mg p2)))]) rfl hLs (argsL := [(.long (Int64.ofNat (mg p2)))]) (rest := []) (lenOf pd_29 rfl) rfl (by show 2 * 0 + _ ≤ _; exact Nat.le_of_eq rfl) (hb hby at_176) (fun _ _ => ⟨rfl, e135, (by decide : 16 + 1 + 0 + 6 + 0 + 0 ≤ _), (by decide : 44 + 4 + 0 + 48 + 0 + 0 ≤ _)⟩)
        refine Wk.backS (n := 179) (rc := 0) (rs := 0) (Q := Q_rmDI Z (Int64.ofNat (mg p2)) (mg p2) T134.heap n0) (cl136_ _ (by rw [hml]; rfl)) fun vn136 T136 L136 X136 hQ136 => ?_
        clear cl136_
        obtain ⟨rfl, M136, e136⟩ := hQ136
        have N136 := Fr.app N135 M136
        show Wk p e below _ T136 (mkF m 179 _ [(.int (Int32.ofNat (dl (mg p2)).length))])
        refine Wk.istore X136 hx (hb hby at_179) (n := 181) rfl (L' := #[.val (.int p1), .val (.long j1), .second, .val (.int p2), .val (.int (1 : Int32)), .val (.int tl), .val (.int fl), .val (.int c0), .val (.int c1), .val (.int c2), .val (.ref ah), .val (.ref rh), .val lg, .val (.ref b127), .val (.ref r_134), .val (.long (Int64.ofNat (mg p2))), .second, .val (.int (Int32.ofNat (dl (mg p2)).length)), .unset, .unset]) rfl ?_
        refine Wk.iloadN X136 hx (hb hby at_181) (n := 182) rfl rfl ?_
        by_cases hc182 : p2 < (0 : Int32)
        ·
          refine Wk.ifNo X136 hx (hb hby at_182) (n := 185) rfl ((if0 _ _).trans (tlt hc182).2.1) ?_
          refine Wk.iconst X136 hx (hb hby at_185) (n := 186) rfl (z := (1 : Int32)) rfl ?_
          refine Wk.goto X136 hx (hb hby at_186) (by decide) (n := 190) (by decide) ?_
          have hs : sgl p2 = [45] := if_pos hc182
          have hsl : (sgl p2).length = 1 := by rw [hs]; rfl
          refine Wk.istore X136 hx (hb hby at_190) (n := 192) rfl (L' := #[.val (.int p1), .val (.long j1), .second, .val (.int p2), .val (.int (1 : Int32)), .val (.int tl), .val (.int fl), .val (.int c0), .val (.int c1), .val (.int c2), .val (.ref ah), .val (.ref rh), .val lg, .val (.ref b127), .val (.ref r_134), .val (.long (Int64.ofNat (mg p2))), .second, .val (.int (Int32.ofNat (dl (mg p2)).length)), .val (.int (1 : Int32)), .unset]) rfl ?_
          refine Wk.aload X136 hx (hb hby at_192) (n := 194) rfl rfl rfl ?_
          have f138 := (f133.keep J134 all0)
          obtain ⟨cq137, kq137, qn137a, qn137b, qn137c⟩ := isOf hZ e136 p134_0
          have cl137_ := fun (Ls : Array Slot) (hLs : Ls.size = c.maxLocals) => X136.virtualBack hx (y := (⟨"java/lang/String", "length", "()I"⟩ : MethodName)) (z := (⟨"java/lang/String", "length", "()I"⟩ : MethodName)) hown (mvT hZ (hw _ (List.mem_of_getElem? (i := 186) rfl))) (mvT hZ (hw _ (List.mem_of_getElem? (i := 77) rfl))) (notFace_of_selects (args := #[]) (mvT hZ (hw _ (List.mem_of_getElem? (i := 79) rfl)))) (mvT hZ (hw _ (List.mem_of_getElem? (i := 79) rfl))) (mvT hZ (hw _ (List.mem_of_getElem? (i := 78) rfl))) (by decide) (StrChars.Road.lenW (W := 0) hZ (fun d hd => hw d (own_wl d hd)) (kI := 4) (hw _ (List.mem_of_getElem? (i := 3) rfl)) p134_0 p134_1 p134_2 p134_3 (StrChars.Road.codOf (cs := ([c0] ++ 58 :: (sgl p2 ++ dl (mg p2)))) (n := ([c0] ++ 58 :: (sgl p2 ++ dl (mg p2))).length) rfl (fun c hc => (qp c hc).2)) (own_up qp) (Sta.ext f138.2 S4) hCS (by omega) (by decide) (by decide)) qn137a qn137c (g := mkF m 194 Ls [(.ref r_134)]) rfl hLs (Steps.refl _) (argsL := []) (rest := []) (lenOf pd_7 rfl) rfl (by show 2 * 0 + _ ≤ _; exact Nat.le_of_eq rfl) (hb hby at_194) (fun _ _ => ⟨rfl, e136, (by decide : 16 + 1 + 0 + 6 + 0 + 0 + 0 ≤ _), (by decide : 44 + 4 + 0 + 48 + 0 + 0 + 0 ≤ _)⟩)
          refine Wk.back (n := 197) (rc := 0) (rs := 0) (Q := fun v h' L => (v = some (.int (Int32.ofNat (([c0] ++ 58 :: (sgl p2 ++ dl (mg p2))) : List Int32).length)) ∧ L = [] ∧ h' = T134.heap)) (cl137_ _ (by rw [hml]; rfl)) fun vn137 T137 L137 X137 hQ137 => ?_
          clear cl137_
          obtain ⟨rfl, rfl, e137⟩ := hQ137
          have N137 := Fr.app N136 (Fr.nil n0)
          show Wk p e below _ T137 (mkF m 197 _ [(.int (Int32.ofNat ([c0] ++ 58 :: (sgl p2 ++ dl (mg p2))).length))])
          refine Wk.iload X137 hx (hb hby at_197) (n := 199) rfl rfl ?_
          refine Wk.iconst X137 hx (hb hby at_199) (n := 200) rfl (z := (1 : Int32)) rfl ?_
          refine Wk.iadd X137 hx (hb hby at_200) (n := 201) rfl ?_
          refine Wk.iload X137 hx (hb hby at_201) (n := 203) rfl rfl ?_
          refine Wk.iadd X137 hx (hb hby at_203) (n := 204) rfl ?_
          refine Wk.iload X137 hx (hb hby at_204) (n := 206) rfl rfl ?_
          refine Wk.iadd X137 hx (hb hby at_206) (n := 207) rfl ?_
          have hc207_139 : (Int32.ofNat ([c0] ++ 58 :: (sgl p2 ++ dl (mg p2))).length) = ((((1 : Int32) + (1 : Int32)) + (1 : Int32)) + (Int32.ofNat (dl (mg p2)).length)) := by rw [lp, hsl, ← own_ofadd]; rfl
          refine Wk.icmpYes X137 hx (hb hby at_207) (teq hc207_139).1 (by decide) (n := 212) (by decide) ?_
          refine Wk.iload X137 hx (hb hby at_212) (n := 214) rfl rfl ?_
          have hc214_140 : (0 : Int32) < (1 : Int32) := by decide
          refine Wk.ifNo X137 hx (hb hby at_214) (n := 217) rfl ((if0 _ _).trans (tlt hc214_140).2.2.2) ?_
          refine Wk.aload X137 hx (hb hby at_217) (n := 219) rfl rfl rfl ?_
          refine Wk.iconst X137 hx (hb hby at_219) (n := 220) rfl (z := (0 : Int32)) rfl ?_
          obtain ⟨cq141, kq141, qn141a, qn141b, qn141c⟩ := isOf hZ e137 p134_0
          have cl141_ := fun (Ls : Array Slot) (hLs : Ls.size = c.maxLocals) => X137.virtualBack hx (y := (⟨"java/lang/String", "charAt", "(I)C"⟩ : MethodName)) (z := (⟨"java/lang/String", "charAt", "(I)C"⟩ : MethodName)) hown (mvT hZ (hw _ (List.mem_of_getElem? (i := 187) rfl))) (mvT hZ (hw _ (List.mem_of_getElem? (i := 188) rfl))) (notFace_of_selects (args := #[]) (mvT hZ (hw _ (List.mem_of_getElem? (i := 190) rfl)))) (mvT hZ (hw _ (List.mem_of_getElem? (i := 190) rfl))) (mvT hZ (hw _ (List.mem_of_getElem? (i := 189) rfl))) (by decide) (StrChars.Road.chN (W := 0) hZ (fun d hd => hw d (own_wc d hd)) (kI := 4) (hw _ (List.mem_of_getElem? (i := 3) rfl)) p134_0 p134_1 p134_2 p134_3 (StrChars.Road.codOf (cs := ([c0] ++ 58 :: (sgl p2 ++ dl (mg p2)))) (n := ([c0] ++ 58 :: (sgl p2 ++ dl (mg p2))).length) rfl (fun c hc => (qp c hc).2)) (own_up qp) (Sta.ext f138.2 S4) hCS (Sta.ext f138.2 S5) hFM (by omega) (i := 0) (by rw [lp]; omega) (j := (0 : Int32)) rfl (by decide) (by decide)) qn141a qn141c (g := mkF m 220 Ls [(.int (0 : Int32)), (.ref r_134)]) rfl hLs (Steps.refl _) (argsL := [(.int (0 : Int32))]) (rest := []) (lenOf pd_25 rfl) rfl (by show 2 * 0 + _ ≤ _; exact Nat.le_of_eq rfl) (hb hby at_220) (fun _ _ => ⟨rfl, e137, (by decide : 16 + 1 + 0 + 6 + 0 + 0 + 0 + 0 ≤ _), (by decide : 44 + 4 + 0 + 48 + 0 + 0 + 0 + 0 ≤ _)⟩)
          refine Wk.back (n := 223) (rc := 0) (rs := 0) (Q := fun v h' L => (v = some (.int ((([c0] ++ 58 :: (sgl p2 ++ dl (mg p2))) : List Int32).getD 0 0)) ∧ L = [] ∧ h' = T134.heap)) (cl141_ _ (by rw [hml]; rfl)) fun vn141 T141 L141 X141 hQ141 => ?_
          clear cl141_
          obtain ⟨rfl, rfl, e141⟩ := hQ141
          have N141 := Fr.app N137 (Fr.nil n0)
          show Wk p e below _ T141 (mkF m 223 _ [(.int (([c0] ++ 58 :: (sgl p2 ++ dl (mg p2))).getD 0 0))])
          refine Wk.iload X141 hx (hb hby at_223) (n := 225) rfl rfl ?_
          have hc225_142 : (([c0] ++ 58 :: (sgl p2 ++ dl (mg p2))).getD 0 0) = c0 := rfl
          refine Wk.icmpYes X141 hx (hb hby at_225) (teq hc225_142).1 (by decide) (n := 230) (by decide) ?_
          refine Wk.iload X141 hx (hb hby at_230) (n := 232) rfl rfl ?_
          refine Wk.iconst X141 hx (hb hby at_232) (n := 233) rfl (z := (1 : Int32)) rfl ?_
          have hc233_143 : ¬ ((1 : Int32) < (1 : Int32)) := by decide
          refine Wk.icmpYes X141 hx (hb hby at_233) (flt hc233_143).2.2.2 (by decide) (n := 249) (by decide) ?_
          refine Wk.iload X141 hx (hb hby at_249) (n := 251) rfl rfl ?_
          refine Wk.iconst X141 hx (hb hby at_251) (n := 252) rfl (z := (2 : Int32)) rfl ?_
          have hc252_144 : ¬ ((2 : Int32) < (1 : Int32)) := by decide
          refine Wk.icmpYes X141 hx (hb hby at_252) (flt hc252_144).2.2.2 (by decide) (n := 268) (by decide) ?_
          exact jt_b T141 T134.heap _ us134 _ (1 : Int32) tl fl c0 c1 c2 ah rh b127 r_134 t_134 kb_134 lg (1 : Int32) ([c0] ++ 58 :: (sgl p2 ++ dl (mg p2))) ([c0] ++ 58 :: sgl p2) ([c0]) (X141.mono (by decide) (by decide)) e141 K134 N141 Bs134 (by omega) hZ hown R134 p134_0 p134_1 p134_2 p134_3 f138 hlg qp (by simp) (by simp; omega) rfl rfl (Nat.le_of_ble_eq_true rfl) (Or.inl ⟨hc182, rfl⟩)
        ·
          refine Wk.ifYes X136 hx (hb hby at_182) ((if0 _ _).trans (flt hc182).2.1) (by decide) (n := 189) (by decide) ?_
          refine Wk.iconst X136 hx (hb hby at_189) (n := 190) rfl (z := (0 : Int32)) rfl ?_
          have hs : sgl p2 = [] := if_neg hc182
          have hsl : (sgl p2).length = 0 := by rw [hs]; rfl
          refine Wk.istore X136 hx (hb hby at_190) (n := 192) rfl (L' := #[.val (.int p1), .val (.long j1), .second, .val (.int p2), .val (.int (1 : Int32)), .val (.int tl), .val (.int fl), .val (.int c0), .val (.int c1), .val (.int c2), .val (.ref ah), .val (.ref rh), .val lg, .val (.ref b127), .val (.ref r_134), .val (.long (Int64.ofNat (mg p2))), .second, .val (.int (Int32.ofNat (dl (mg p2)).length)), .val (.int (0 : Int32)), .unset]) rfl ?_
          refine Wk.aload X136 hx (hb hby at_192) (n := 194) rfl rfl rfl ?_
          have f146 := (f133.keep J134 all0)
          obtain ⟨cq145, kq145, qn145a, qn145b, qn145c⟩ := isOf hZ e136 p134_0
          have cl145_ := fun (Ls : Array Slot) (hLs : Ls.size = c.maxLocals) => X136.virtualBack hx (y := (⟨"java/lang/String", "length", "()I"⟩ : MethodName)) (z := (⟨"java/lang/String", "length", "()I"⟩ : MethodName)) hown (mvT hZ (hw _ (List.mem_of_getElem? (i := 186) rfl))) (mvT hZ (hw _ (List.mem_of_getElem? (i := 77) rfl))) (notFace_of_selects (args := #[]) (mvT hZ (hw _ (List.mem_of_getElem? (i := 79) rfl)))) (mvT hZ (hw _ (List.mem_of_getElem? (i := 79) rfl))) (mvT hZ (hw _ (List.mem_of_getElem? (i := 78) rfl))) (by decide) (StrChars.Road.lenW (W := 0) hZ (fun d hd => hw d (own_wl d hd)) (kI := 4) (hw _ (List.mem_of_getElem? (i := 3) rfl)) p134_0 p134_1 p134_2 p134_3 (StrChars.Road.codOf (cs := ([c0] ++ 58 :: (sgl p2 ++ dl (mg p2)))) (n := ([c0] ++ 58 :: (sgl p2 ++ dl (mg p2))).length) rfl (fun c hc => (qp c hc).2)) (own_up qp) (Sta.ext f146.2 S4) hCS (by omega) (by decide) (by decide)) qn145a qn145c (g := mkF m 194 Ls [(.ref r_134)]) rfl hLs (Steps.refl _) (argsL := []) (rest := []) (lenOf pd_7 rfl) rfl (by show 2 * 0 + _ ≤ _; exact Nat.le_of_eq rfl) (hb hby at_194) (fun _ _ => ⟨rfl, e136, (by decide : 16 + 1 + 0 + 6 + 0 + 0 + 0 ≤ _), (by decide : 44 + 4 + 0 + 48 + 0 + 0 + 0 ≤ _)⟩)
          refine Wk.back (n := 197) (rc := 0) (rs := 0) (Q := fun v h' L => (v = some (.int (Int32.ofNat (([c0] ++ 58 :: (sgl p2 ++ dl (mg p2))) : List Int32).length)) ∧ L = [] ∧ h' = T134.heap)) (cl145_ _ (by rw [hml]; rfl)) fun vn145 T145 L145 X145 hQ145 => ?_
          clear cl145_
          obtain ⟨rfl, rfl, e145⟩ := hQ145
          have N145 := Fr.app N136 (Fr.nil n0)
          show Wk p e below _ T145 (mkF m 197 _ [(.int (Int32.ofNat ([c0] ++ 58 :: (sgl p2 ++ dl (mg p2))).length))])
          refine Wk.iload X145 hx (hb hby at_197) (n := 199) rfl rfl ?_
          refine Wk.iconst X145 hx (hb hby at_199) (n := 200) rfl (z := (1 : Int32)) rfl ?_
          refine Wk.iadd X145 hx (hb hby at_200) (n := 201) rfl ?_
          refine Wk.iload X145 hx (hb hby at_201) (n := 203) rfl rfl ?_
          refine Wk.iadd X145 hx (hb hby at_203) (n := 204) rfl ?_
          refine Wk.iload X145 hx (hb hby at_204) (n := 206) rfl rfl ?_
          refine Wk.iadd X145 hx (hb hby at_206) (n := 207) rfl ?_
          have hc207_147 : (Int32.ofNat ([c0] ++ 58 :: (sgl p2 ++ dl (mg p2))).length) = ((((1 : Int32) + (1 : Int32)) + (0 : Int32)) + (Int32.ofNat (dl (mg p2)).length)) := by rw [lp, hsl, ← own_ofadd]; rfl
          refine Wk.icmpYes X145 hx (hb hby at_207) (teq hc207_147).1 (by decide) (n := 212) (by decide) ?_
          refine Wk.iload X145 hx (hb hby at_212) (n := 214) rfl rfl ?_
          have hc214_148 : (0 : Int32) < (1 : Int32) := by decide
          refine Wk.ifNo X145 hx (hb hby at_214) (n := 217) rfl ((if0 _ _).trans (tlt hc214_148).2.2.2) ?_
          refine Wk.aload X145 hx (hb hby at_217) (n := 219) rfl rfl rfl ?_
          refine Wk.iconst X145 hx (hb hby at_219) (n := 220) rfl (z := (0 : Int32)) rfl ?_
          obtain ⟨cq149, kq149, qn149a, qn149b, qn149c⟩ := isOf hZ e145 p134_0
          have cl149_ := fun (Ls : Array Slot) (hLs : Ls.size = c.maxLocals) => X145.virtualBack hx (y := (⟨"java/lang/String", "charAt", "(I)C"⟩ : MethodName)) (z := (⟨"java/lang/String", "charAt", "(I)C"⟩ : MethodName)) hown (mvT hZ (hw _ (List.mem_of_getElem? (i := 187) rfl))) (mvT hZ (hw _ (List.mem_of_getElem? (i := 188) rfl))) (notFace_of_selects (args := #[]) (mvT hZ (hw _ (List.mem_of_getElem? (i := 190) rfl)))) (mvT hZ (hw _ (List.mem_of_getElem? (i := 190) rfl))) (mvT hZ (hw _ (List.mem_of_getElem? (i := 189) rfl))) (by decide) (StrChars.Road.chN (W := 0) hZ (fun d hd => hw d (own_wc d hd)) (kI := 4) (hw _ (List.mem_of_getElem? (i := 3) rfl)) p134_0 p134_1 p134_2 p134_3 (StrChars.Road.codOf (cs := ([c0] ++ 58 :: (sgl p2 ++ dl (mg p2)))) (n := ([c0] ++ 58 :: (sgl p2 ++ dl (mg p2))).length) rfl (fun c hc => (qp c hc).2)) (own_up qp) (Sta.ext f146.2 S4) hCS (Sta.ext f146.2 S5) hFM (by omega) (i := 0) (by rw [lp]; omega) (j := (0 : Int32)) rfl (by decide) (by decide)) qn149a qn149c (g := mkF m 220 Ls [(.int (0 : Int32)), (.ref r_134)]) rfl hLs (Steps.refl _) (argsL := [(.int (0 : Int32))]) (rest := []) (lenOf pd_25 rfl) rfl (by show 2 * 0 + _ ≤ _; exact Nat.le_of_eq rfl) (hb hby at_220) (fun _ _ => ⟨rfl, e145, (by decide : 16 + 1 + 0 + 6 + 0 + 0 + 0 + 0 ≤ _), (by decide : 44 + 4 + 0 + 48 + 0 + 0 + 0 + 0 ≤ _)⟩)
          refine Wk.back (n := 223) (rc := 0) (rs := 0) (Q := fun v h' L => (v = some (.int ((([c0] ++ 58 :: (sgl p2 ++ dl (mg p2))) : List Int32).getD 0 0)) ∧ L = [] ∧ h' = T134.heap)) (cl149_ _ (by rw [hml]; rfl)) fun vn149 T149 L149 X149 hQ149 => ?_
          clear cl149_
          obtain ⟨rfl, rfl, e149⟩ := hQ149
          have N149 := Fr.app N145 (Fr.nil n0)
          show Wk p e below _ T149 (mkF m 223 _ [(.int (([c0] ++ 58 :: (sgl p2 ++ dl (mg p2))).getD 0 0))])
          refine Wk.iload X149 hx (hb hby at_223) (n := 225) rfl rfl ?_
          have hc225_150 : (([c0] ++ 58 :: (sgl p2 ++ dl (mg p2))).getD 0 0) = c0 := rfl
          refine Wk.icmpYes X149 hx (hb hby at_225) (teq hc225_150).1 (by decide) (n := 230) (by decide) ?_
          refine Wk.iload X149 hx (hb hby at_230) (n := 232) rfl rfl ?_
          refine Wk.iconst X149 hx (hb hby at_232) (n := 233) rfl (z := (1 : Int32)) rfl ?_
          have hc233_151 : ¬ ((1 : Int32) < (1 : Int32)) := by decide
          refine Wk.icmpYes X149 hx (hb hby at_233) (flt hc233_151).2.2.2 (by decide) (n := 249) (by decide) ?_
          refine Wk.iload X149 hx (hb hby at_249) (n := 251) rfl rfl ?_
          refine Wk.iconst X149 hx (hb hby at_251) (n := 252) rfl (z := (2 : Int32)) rfl ?_
          have hc252_152 : ¬ ((2 : Int32) < (1 : Int32)) := by decide
          refine Wk.icmpYes X149 hx (hb hby at_252) (flt hc252_152).2.2.2 (by decide) (n := 268) (by decide) ?_
          exact jt_b T149 T134.heap _ us134 _ (1 : Int32) tl fl c0 c1 c2 ah rh b127 r_134 t_134 kb_134 lg (0 : Int32) ([c0] ++ 58 :: (sgl p2 ++ dl (mg p2))) ([c0] ++ 58 :: sgl p2) ([c0]) (X149.mono (by decide) (by decide)) e149 K134 N149 Bs134 (by omega) hZ hown R134 p134_0 p134_1 p134_2 p134_3 f146 hlg qp (by simp) (by simp; omega) rfl rfl (Nat.le_of_ble_eq_true rfl) (Or.inr ⟨hc182, rfl⟩)
      refine Wk.iloadN X0 hx (hb hby at_18) (n := 19) rfl rfl ?_
      refine Wk.bipush X0 hx (hb hby at_19) (n := 21) rfl (z := (8 : Int32)) rfl ?_
      refine Wk.iand X0 hx (hb hby at_21) (n := 22) rfl ?_
      by_cases hc22 : (p1 &&& (8 : Int32)) = (0 : Int32)
      ·
        refine Wk.ifYes X0 hx (hb hby at_22) ((if0 _ _).trans (teq hc22).1) (by decide) (n := 29) (by decide) ?_
        refine Wk.iconst X0 hx (hb hby at_29) (n := 30) rfl (z := (0 : Int32)) rfl ?_
        refine Wk.istore X0 hx (hb hby at_30) (n := 32) rfl (L' := #[.val (.int p1), .val (.long j1), .second, .val (.int p2), .val (.int (1 : Int32)), .val (.int tl), .val (.int (0 : Int32)), .unset, .unset, .unset, .unset, .unset, .unset, .unset, .unset, .unset, .unset, .unset, .unset, .unset]) rfl ?_
        refine Wk.lloadN X0 hx (hb hby at_32) (n := 33) rfl rfl ?_
        refine Wk.ldc2Long X0 hx hown (mvT hZ (hw _ (List.mem_of_getElem? (i := 0) rfl))) (hb hby at_33) (n := 36) rfl ?_
        refine Wk.land X0 hx (hb hby at_36) (n := 37) rfl ?_
        refine Wk.l2i X0 hx (hb hby at_37) (n := 38) rfl ?_
        obtain ⟨c0, q_c0⟩ : ∃ z : Int32, z = (((j1 &&& (255 : Int64)).toInt32).toUInt32.toUInt16.toUInt32.toInt32) := ⟨_, rfl⟩
        have n_c0 : nar .char c0 = c0 := by rw [q_c0]; exact own_cL _
        have r_c0 : ¬ c0 < 0 ∧ ¬ (255 : Int32) < c0 := by rw [q_c0]; exact own_rL _
        refine Wk.i2c X0 hx (hb hby at_38) (n := 39) rfl q_c0.symm ?_
        refine Wk.istore X0 hx (hb hby at_39) (n := 41) rfl (L' := #[.val (.int p1), .val (.long j1), .second, .val (.int p2), .val (.int (1 : Int32)), .val (.int tl), .val (.int (0 : Int32)), .val (.int c0), .unset, .unset, .unset, .unset, .unset, .unset, .unset, .unset, .unset, .unset, .unset, .unset]) rfl ?_
        refine Wk.lloadN X0 hx (hb hby at_41) (n := 42) rfl rfl ?_
        refine Wk.bipush X0 hx (hb hby at_42) (n := 44) rfl (z := (8 : Int32)) rfl ?_
        refine Wk.lushr X0 hx (hb hby at_44) (n := 45) rfl (z := ((j1.toUInt64 >>> ((8 : Int32) &&& 63).toInt64.toUInt64).toInt64)) rfl ?_
        refine Wk.ldc2Long X0 hx hown (mvT hZ (hw _ (List.mem_of_getElem? (i := 0) rfl))) (hb hby at_45) (n := 48) rfl ?_
        refine Wk.land X0 hx (hb hby at_48) (n := 49) rfl ?_
        refine Wk.l2i X0 hx (hb hby at_49) (n := 50) rfl ?_
        obtain ⟨c1, q_c1⟩ : ∃ z : Int32, z = (((((j1.toUInt64 >>> ((8 : Int32) &&& 63).toInt64.toUInt64).toInt64) &&& (255 : Int64)).toInt32).toUInt32.toUInt16.toUInt32.toInt32) := ⟨_, rfl⟩
        have n_c1 : nar .char c1 = c1 := by rw [q_c1]; exact own_cL _
        have r_c1 : ¬ c1 < 0 ∧ ¬ (255 : Int32) < c1 := by rw [q_c1]; exact own_rL _
        refine Wk.i2c X0 hx (hb hby at_50) (n := 51) rfl q_c1.symm ?_
        refine Wk.istore X0 hx (hb hby at_51) (n := 53) rfl (L' := #[.val (.int p1), .val (.long j1), .second, .val (.int p2), .val (.int (1 : Int32)), .val (.int tl), .val (.int (0 : Int32)), .val (.int c0), .val (.int c1), .unset, .unset, .unset, .unset, .unset, .unset, .unset, .unset, .unset, .unset, .unset]) rfl ?_
        refine Wk.lloadN X0 hx (hb hby at_53) (n := 54) rfl rfl ?_
        refine Wk.bipush X0 hx (hb hby at_54) (n := 56) rfl (z := (16 : Int32)) rfl ?_
        refine Wk.lushr X0 hx (hb hby at_56) (n := 57) rfl (z := ((j1.toUInt64 >>> ((16 : Int32) &&& 63).toInt64.toUInt64).toInt64)) rfl ?_
        refine Wk.ldc2Long X0 hx hown (mvT hZ (hw _ (List.mem_of_getElem? (i := 0) rfl))) (hb hby at_57) (n := 60) rfl ?_
        refine Wk.land X0 hx (hb hby at_60) (n := 61) rfl ?_
        refine Wk.l2i X0 hx (hb hby at_61) (n := 62) rfl ?_
        obtain ⟨c2, q_c2⟩ : ∃ z : Int32, z = (((((j1.toUInt64 >>> ((16 : Int32) &&& 63).toInt64.toUInt64).toInt64) &&& (255 : Int64)).toInt32).toUInt32.toUInt16.toUInt32.toInt32) := ⟨_, rfl⟩
        have n_c2 : nar .char c2 = c2 := by rw [q_c2]; exact own_cL _
        have r_c2 : ¬ c2 < 0 ∧ ¬ (255 : Int32) < c2 := by rw [q_c2]; exact own_rL _
        refine Wk.i2c X0 hx (hb hby at_62) (n := 63) rfl q_c2.symm ?_
        refine Wk.istore X0 hx (hb hby at_63) (n := 65) rfl (L' := #[.val (.int p1), .val (.long j1), .second, .val (.int p2), .val (.int (1 : Int32)), .val (.int tl), .val (.int (0 : Int32)), .val (.int c0), .val (.int c1), .val (.int c2), .unset, .unset, .unset, .unset, .unset, .unset, .unset, .unset, .unset, .unset]) rfl ?_
        refine Wk.iload X0 hx (hb hby at_65) (n := 67) rfl rfl ?_
        refine Wk.newP X0 hx hZ (hw _ (List.mem_of_getElem? (i := 1) rfl)) e0 (hb hby at_67) (n := 69) rfl (by decide) (cap := 1) (by decide) (by decide) (by decide) (by decide) fun T153 H153 b153 k153 gn153 X153 e153 Ex153 An153 => ?_
        have gn153 := nx gn153
        have sz153 := Ex153.1
        have K153 := K0.ext Ex153
        have R153 := R0.trans (CHr.ext Ex153 R0.1)
        have Vn153 : Arv Z H153 b153 k153 .char (1 : Int32) [(.int (0 : Int32))] (.int (0 : Int32)) := (Arv.new An153 (by decide)).pad (pad_rep [] (.int (0 : Int32)) 1)
        have lt153 := ny Vn153.lt
        refine Wk.astore X153 hx (hb hby at_69) (n := 71) rfl rfl (L' := #[.val (.int p1), .val (.long j1), .second, .val (.int p2), .val (.int (1 : Int32)), .val (.int tl), .val (.int (0 : Int32)), .val (.int c0), .val (.int c1), .val (.int c2), .val (.ref b153), .unset, .unset, .unset, .unset, .unset, .unset, .unset, .unset, .unset]) rfl ?_
        refine Wk.iload X153 hx (hb hby at_71) (n := 73) rfl rfl ?_
        have hc73_154 : (0 : Int32) < (1 : Int32) := by decide
        refine Wk.ifNo X153 hx (hb hby at_73) (n := 76) rfl ((if0 _ _).trans (tlt hc73_154).2.2.2) ?_
        refine Wk.aload X153 hx (hb hby at_76) (n := 78) rfl rfl rfl ?_
        refine Wk.iconst X153 hx (hb hby at_78) (n := 79) rfl (z := (0 : Int32)) rfl ?_
        refine Wk.iload X153 hx (hb hby at_79) (n := 81) rfl rfl ?_
        obtain ⟨cl155, Ar155, qn155, Sz155, N_155, H_155, Gn155⟩ := id Vn153
        have hin155 : ¬ ((0 : Int32) < 0 ∨ cl155.slots.size ≤ ((0 : Int32)).toNatClampNeg) := inb_of Sz155 ⟨by decide, by decide⟩
        refine Wk.stC X153 hx hZ e153 Ar155 hin155 (hb hby at_81) (n := 82) rfl fun T155 H155 X155 e155 Wn155 => ?_
        have Vn155 := Arv.set Ar155 qn155 Sz155 N_155 H_155 Gn155 (fits_nar_char _) Wn155 0 rfl (Nat.le_of_ble_eq_true rfl)
        have Un155 : Arv Z H155 b153 k153 .char (1 : Int32) [(.int c0)] (.int (0 : Int32)) := by have q := Vn155; rw [n_c0] at q; exact q
        have sz155 := Wn155.size
        have Sw155 := (Safe.arv (EL := own_EL) hZ.alike Vn153 (by simp))
        have R155 := R153.trans (CHr.wr Wn155 Sw155 R153.1)
        have K155 := K153.wr Wn155 (Or.inr (by omega))
        have N155 := Fr.snoc X155 N0 (by omega)
        refine Wk.iload X155 hx (hb hby at_82) (n := 84) rfl rfl ?_
        refine Wk.iconst X155 hx (hb hby at_84) (n := 85) rfl (z := (1 : Int32)) rfl ?_
        have hc85_156 : ¬ ((1 : Int32) < (1 : Int32)) := by decide
        refine Wk.icmpYes X155 hx (hb hby at_85) (flt hc85_156).2.2.2 (by decide) (n := 94) (by decide) ?_
        refine Wk.iload X155 hx (hb hby at_94) (n := 96) rfl rfl ?_
        refine Wk.iconst X155 hx (hb hby at_96) (n := 97) rfl (z := (2 : Int32)) rfl ?_
        have hc97_157 : ¬ ((2 : Int32) < (1 : Int32)) := by decide
        refine Wk.icmpYes X155 hx (hb hby at_97) (flt hc97_157).2.2.2 (by decide) (n := 106) (by decide) ?_
        refine Wk.newO X155 hx hZ hown (hw _ (List.mem_of_getElem? (i := 2) rfl)) (hw _ (List.mem_of_getElem? (i := 3) rfl)) (hw _ (List.mem_of_getElem? (i := 4) rfl)) e155 (hb hby at_106) (n := 109) rfl (by decide) (by decide) fun T158 H158 b158 gn158 X158 e158 Ex158 An158 Dn158 Yn158 => ?_
        have gn158 := nx gn158
        have sz158 := Ex158.1
        have lt158 := ny An158.lt
        have K158 := K155.ext Ex158
        have R158 := R155.trans (CHr.ext Ex158 R155.1)
        have Sf158 := Safe.ext (x := b158) Ex158 R155.1 (Safe.new (Nat.le_of_eq gn158.symm))
        have Fn158_value : Fld Z H158 b158 "java/lang/String" "value" "[B" .null := Dn158 (Or.inr (hw _ (List.mem_of_getElem? (i := 17) rfl))) (ty := (.array .byte)) (by decide)
        have Fn158_coder : Fld Z H158 b158 "java/lang/String" "coder" "B" (.int (0 : Int32)) := Dn158 (Or.inr (hw _ (List.mem_of_getElem? (i := 18) rfl))) (ty := .byte) (by decide)
        refine Wk.dup X158 hx (hb hby at_109) (n := 110) rfl rfl ?_
        refine Wk.aload X158 hx (hb hby at_110) (n := 112) rfl rfl rfl ?_
        have f160 := (Un155.ext Ex158)
        have f161 := (((O1.ext Ex153).wr Wn155 (by omega)).ext Ex158)
        have hp162 : ∀ c ∈ ([c0] : List Int32), ¬ c < 0 ∧ ¬ (255 : Int32) < c := List.forall_mem_cons.mpr ⟨r_c0, (fun _ q => nomatch q)⟩
        have cl159_ := fun (Ls : Array Slot) (hLs : Ls.size = c.maxLocals) => X158.specialBack hx (y := (⟨"java/lang/String", "<init>", "([C)V"⟩ : MethodName)) rfl hown (mvT hZ (hw _ (List.mem_of_getElem? (i := 5) rfl))) (mvT hZ (hw _ (List.mem_of_getElem? (i := 6) rfl))) (mvT hZ (hw _ (List.mem_of_getElem? (i := 7) rfl))) (by decide) (StrChars.Road.backV (n0 := n0) (h := H158) (x := b158) (W := 1) hZ (fun d hd => hw d (own_ws d hd)) (kI := 4) (hw _ (List.mem_of_getElem? (i := 3) rfl)) (cs := [c0]) (bs := (([c0] : List Int32).map (fun c => c.toInt8.toInt32))) (n := 1) (by omega) (by omega) An158 Fn158_value Fn158_coder f160 (Sta.ext f161.2 S4) hCS rfl rfl (by decide) (by decide) hp162 rfl (by decide) (by decide)) (g := mkF m 112 Ls [(.ref b153), (.ref b158), (.ref b158)]) rfl hLs (Steps.refl _) (a := b158) (argsL := [(.ref b153)]) (rest := [(.ref b158)]) (lenOf pd_30 rfl) rfl (by show 2 * 0 + _ ≤ _; exact Nat.le_of_eq rfl) (hb hby at_112) (fun _ _ => ⟨rfl, e158, (by decide : 0 + 1 + 1 + 1 ≤ _), (by decide : 0 + 1 + 4 + 1 ≤ _)⟩)
        refine Wk.back (n := 115) (rc := 1) (rs := 1) (Q := StrChars.Road.QV Z b158 (1 : Int32) (([c0] : List Int32).map (fun c => c.toInt8.toInt32)) H158 n0) (cl159_ _ (by rw [hml]; rfl)) fun vn159 T159 L159 X159 hQ159 => ?_
        clear cl159_
        obtain ⟨rfl, M159, J159, p159_0, p159_1, t_159, kb_159, _, ge_159, nt_159, p159_2, p159_3⟩ := hQ159
        have nt_159 := nw nt_159
        have N159 := Fr.app N155 M159
        have sz159 := J159.1
        have hs159 : ∀ x ∈ ([b158] : List Addr), Safe Z own_EL s.vm H158 x := (sfS Sf158 sf0)
        have R159 := R158.trans (CHr.keep J159 hs159 R158.1)
        have K159 := K158.trans J159 (allS (Or.inr (by omega)) all0)
        have lt_p159 := ny p159_3.lt
        show Wk p e below _ T159 (mkF m 115 _ [(.ref b158)])
        refine Wk.astore X159 hx (hb hby at_115) (n := 117) rfl rfl (L' := #[.val (.int p1), .val (.long j1), .second, .val (.int p2), .val (.int (1 : Int32)), .val (.int tl), .val (.int (0 : Int32)), .val (.int c0), .val (.int c1), .val (.int c2), .val (.ref b153), .val (.ref b158), .unset, .unset, .unset, .unset, .unset, .unset, .unset, .unset]) rfl ?_
        refine Wk.aconstNull X159 hx (hb hby at_117) (n := 118) rfl ?_
        refine Wk.astore X159 hx (hb hby at_118) (n := 120) rfl rfl (L' := #[.val (.int p1), .val (.long j1), .second, .val (.int p2), .val (.int (1 : Int32)), .val (.int tl), .val (.int (0 : Int32)), .val (.int c0), .val (.int c1), .val (.int c2), .val (.ref b153), .val (.ref b158), .val .null, .unset, .unset, .unset, .unset, .unset, .unset, .unset]) rfl ?_
        refine Wk.iload X159 hx (hb hby at_120) (n := 122) rfl rfl ?_
        have hc122_163 : (0 : Int32) = (0 : Int32) := rfl
        refine Wk.ifYes X159 hx (hb hby at_122) ((if0 _ _).trans (teq hc122_163).1) (by decide) (n := 144) (by decide) ?_
        have f164 := (f161.keep J159 (allS (by omega) all0))
        exact jt_c T159 T159.heap _ s _ c0 c1 c2 (0 : Int32) b153 b158 t_159 kb_159 .null (X159.mono (by decide) (by decide)) rfl K159 N159 Bs0 (by omega) hZ hown R159 p159_0 p159_2 p159_1 p159_3 f164 hp162 rfl
      ·
        refine Wk.ifNo X0 hx (hb hby at_22) (n := 25) rfl ((if0 _ _).trans (feq hc22).1) ?_
        refine Wk.iconst X0 hx (hb hby at_25) (n := 26) rfl (z := (1 : Int32)) rfl ?_
        refine Wk.goto X0 hx (hb hby at_26) (by decide) (n := 30) (by decide) ?_
        refine Wk.istore X0 hx (hb hby at_30) (n := 32) rfl (L' := #[.val (.int p1), .val (.long j1), .second, .val (.int p2), .val (.int (1 : Int32)), .val (.int tl), .val (.int (1 : Int32)), .unset, .unset, .unset, .unset, .unset, .unset, .unset, .unset, .unset, .unset, .unset, .unset, .unset]) rfl ?_
        refine Wk.lloadN X0 hx (hb hby at_32) (n := 33) rfl rfl ?_
        refine Wk.ldc2Long X0 hx hown (mvT hZ (hw _ (List.mem_of_getElem? (i := 0) rfl))) (hb hby at_33) (n := 36) rfl ?_
        refine Wk.land X0 hx (hb hby at_36) (n := 37) rfl ?_
        refine Wk.l2i X0 hx (hb hby at_37) (n := 38) rfl ?_
        obtain ⟨c0, q_c0⟩ : ∃ z : Int32, z = (((j1 &&& (255 : Int64)).toInt32).toUInt32.toUInt16.toUInt32.toInt32) := ⟨_, rfl⟩
        have n_c0 : nar .char c0 = c0 := by rw [q_c0]; exact own_cL _
        have r_c0 : ¬ c0 < 0 ∧ ¬ (255 : Int32) < c0 := by rw [q_c0]; exact own_rL _
        refine Wk.i2c X0 hx (hb hby at_38) (n := 39) rfl q_c0.symm ?_
        refine Wk.istore X0 hx (hb hby at_39) (n := 41) rfl (L' := #[.val (.int p1), .val (.long j1), .second, .val (.int p2), .val (.int (1 : Int32)), .val (.int tl), .val (.int (1 : Int32)), .val (.int c0), .unset, .unset, .unset, .unset, .unset, .unset, .unset, .unset, .unset, .unset, .unset, .unset]) rfl ?_
        refine Wk.lloadN X0 hx (hb hby at_41) (n := 42) rfl rfl ?_
        refine Wk.bipush X0 hx (hb hby at_42) (n := 44) rfl (z := (8 : Int32)) rfl ?_
        refine Wk.lushr X0 hx (hb hby at_44) (n := 45) rfl (z := ((j1.toUInt64 >>> ((8 : Int32) &&& 63).toInt64.toUInt64).toInt64)) rfl ?_
        refine Wk.ldc2Long X0 hx hown (mvT hZ (hw _ (List.mem_of_getElem? (i := 0) rfl))) (hb hby at_45) (n := 48) rfl ?_
        refine Wk.land X0 hx (hb hby at_48) (n := 49) rfl ?_
        refine Wk.l2i X0 hx (hb hby at_49) (n := 50) rfl ?_
        obtain ⟨c1, q_c1⟩ : ∃ z : Int32, z = (((((j1.toUInt64 >>> ((8 : Int32) &&& 63).toInt64.toUInt64).toInt64) &&& (255 : Int64)).toInt32).toUInt32.toUInt16.toUInt32.toInt32) := ⟨_, rfl⟩
        have n_c1 : nar .char c1 = c1 := by rw [q_c1]; exact own_cL _
        have r_c1 : ¬ c1 < 0 ∧ ¬ (255 : Int32) < c1 := by rw [q_c1]; exact own_rL _
        refine Wk.i2c X0 hx (hb hby at_50) (n := 51) rfl q_c1.symm ?_
        refine Wk.istore X0 hx (hb hby at_51) (n := 53) rfl (L' := #[.val (.int p1), .val (.long j1), .second, .val (.int p2), .val (.int (1 : Int32)), .val (.int tl), .val (.int (1 : Int32)), .val (.int c0), .val (.int c1), .unset, .unset, .unset, .unset, .unset, .unset, .unset, .unset, .unset, .unset, .unset]) rfl ?_
        refine Wk.lloadN X0 hx (hb hby at_53) (n := 54) rfl rfl ?_
        refine Wk.bipush X0 hx (hb hby at_54) (n := 56) rfl (z := (16 : Int32)) rfl ?_
        refine Wk.lushr X0 hx (hb hby at_56) (n := 57) rfl (z := ((j1.toUInt64 >>> ((16 : Int32) &&& 63).toInt64.toUInt64).toInt64)) rfl ?_
        refine Wk.ldc2Long X0 hx hown (mvT hZ (hw _ (List.mem_of_getElem? (i := 0) rfl))) (hb hby at_57) (n := 60) rfl ?_
        refine Wk.land X0 hx (hb hby at_60) (n := 61) rfl ?_
        refine Wk.l2i X0 hx (hb hby at_61) (n := 62) rfl ?_
        obtain ⟨c2, q_c2⟩ : ∃ z : Int32, z = (((((j1.toUInt64 >>> ((16 : Int32) &&& 63).toInt64.toUInt64).toInt64) &&& (255 : Int64)).toInt32).toUInt32.toUInt16.toUInt32.toInt32) := ⟨_, rfl⟩
        have n_c2 : nar .char c2 = c2 := by rw [q_c2]; exact own_cL _
        have r_c2 : ¬ c2 < 0 ∧ ¬ (255 : Int32) < c2 := by rw [q_c2]; exact own_rL _
        refine Wk.i2c X0 hx (hb hby at_62) (n := 63) rfl q_c2.symm ?_
        refine Wk.istore X0 hx (hb hby at_63) (n := 65) rfl (L' := #[.val (.int p1), .val (.long j1), .second, .val (.int p2), .val (.int (1 : Int32)), .val (.int tl), .val (.int (1 : Int32)), .val (.int c0), .val (.int c1), .val (.int c2), .unset, .unset, .unset, .unset, .unset, .unset, .unset, .unset, .unset, .unset]) rfl ?_
        refine Wk.iload X0 hx (hb hby at_65) (n := 67) rfl rfl ?_
        refine Wk.newP X0 hx hZ (hw _ (List.mem_of_getElem? (i := 1) rfl)) e0 (hb hby at_67) (n := 69) rfl (by decide) (cap := 1) (by decide) (by decide) (by decide) (by decide) fun T165 H165 b165 k165 gn165 X165 e165 Ex165 An165 => ?_
        have gn165 := nx gn165
        have sz165 := Ex165.1
        have K165 := K0.ext Ex165
        have R165 := R0.trans (CHr.ext Ex165 R0.1)
        have Vn165 : Arv Z H165 b165 k165 .char (1 : Int32) [(.int (0 : Int32))] (.int (0 : Int32)) := (Arv.new An165 (by decide)).pad (pad_rep [] (.int (0 : Int32)) 1)
        have lt165 := ny Vn165.lt
        refine Wk.astore X165 hx (hb hby at_69) (n := 71) rfl rfl (L' := #[.val (.int p1), .val (.long j1), .second, .val (.int p2), .val (.int (1 : Int32)), .val (.int tl), .val (.int (1 : Int32)), .val (.int c0), .val (.int c1), .val (.int c2), .val (.ref b165), .unset, .unset, .unset, .unset, .unset, .unset, .unset, .unset, .unset]) rfl ?_
        refine Wk.iload X165 hx (hb hby at_71) (n := 73) rfl rfl ?_
        have hc73_166 : (0 : Int32) < (1 : Int32) := by decide
        refine Wk.ifNo X165 hx (hb hby at_73) (n := 76) rfl ((if0 _ _).trans (tlt hc73_166).2.2.2) ?_
        refine Wk.aload X165 hx (hb hby at_76) (n := 78) rfl rfl rfl ?_
        refine Wk.iconst X165 hx (hb hby at_78) (n := 79) rfl (z := (0 : Int32)) rfl ?_
        refine Wk.iload X165 hx (hb hby at_79) (n := 81) rfl rfl ?_
        obtain ⟨cl167, Ar167, qn167, Sz167, N_167, H_167, Gn167⟩ := id Vn165
        have hin167 : ¬ ((0 : Int32) < 0 ∨ cl167.slots.size ≤ ((0 : Int32)).toNatClampNeg) := inb_of Sz167 ⟨by decide, by decide⟩
        refine Wk.stC X165 hx hZ e165 Ar167 hin167 (hb hby at_81) (n := 82) rfl fun T167 H167 X167 e167 Wn167 => ?_
        have Vn167 := Arv.set Ar167 qn167 Sz167 N_167 H_167 Gn167 (fits_nar_char _) Wn167 0 rfl (Nat.le_of_ble_eq_true rfl)
        have Un167 : Arv Z H167 b165 k165 .char (1 : Int32) [(.int c0)] (.int (0 : Int32)) := by have q := Vn167; rw [n_c0] at q; exact q
        have sz167 := Wn167.size
        have Sw167 := (Safe.arv (EL := own_EL) hZ.alike Vn165 (by simp))
        have R167 := R165.trans (CHr.wr Wn167 Sw167 R165.1)
        have K167 := K165.wr Wn167 (Or.inr (by omega))
        have N167 := Fr.snoc X167 N0 (by omega)
        refine Wk.iload X167 hx (hb hby at_82) (n := 84) rfl rfl ?_
        refine Wk.iconst X167 hx (hb hby at_84) (n := 85) rfl (z := (1 : Int32)) rfl ?_
        have hc85_168 : ¬ ((1 : Int32) < (1 : Int32)) := by decide
        refine Wk.icmpYes X167 hx (hb hby at_85) (flt hc85_168).2.2.2 (by decide) (n := 94) (by decide) ?_
        refine Wk.iload X167 hx (hb hby at_94) (n := 96) rfl rfl ?_
        refine Wk.iconst X167 hx (hb hby at_96) (n := 97) rfl (z := (2 : Int32)) rfl ?_
        have hc97_169 : ¬ ((2 : Int32) < (1 : Int32)) := by decide
        refine Wk.icmpYes X167 hx (hb hby at_97) (flt hc97_169).2.2.2 (by decide) (n := 106) (by decide) ?_
        refine Wk.newO X167 hx hZ hown (hw _ (List.mem_of_getElem? (i := 2) rfl)) (hw _ (List.mem_of_getElem? (i := 3) rfl)) (hw _ (List.mem_of_getElem? (i := 4) rfl)) e167 (hb hby at_106) (n := 109) rfl (by decide) (by decide) fun T170 H170 b170 gn170 X170 e170 Ex170 An170 Dn170 Yn170 => ?_
        have gn170 := nx gn170
        have sz170 := Ex170.1
        have lt170 := ny An170.lt
        have K170 := K167.ext Ex170
        have R170 := R167.trans (CHr.ext Ex170 R167.1)
        have Sf170 := Safe.ext (x := b170) Ex170 R167.1 (Safe.new (Nat.le_of_eq gn170.symm))
        have Fn170_value : Fld Z H170 b170 "java/lang/String" "value" "[B" .null := Dn170 (Or.inr (hw _ (List.mem_of_getElem? (i := 17) rfl))) (ty := (.array .byte)) (by decide)
        have Fn170_coder : Fld Z H170 b170 "java/lang/String" "coder" "B" (.int (0 : Int32)) := Dn170 (Or.inr (hw _ (List.mem_of_getElem? (i := 18) rfl))) (ty := .byte) (by decide)
        refine Wk.dup X170 hx (hb hby at_109) (n := 110) rfl rfl ?_
        refine Wk.aload X170 hx (hb hby at_110) (n := 112) rfl rfl rfl ?_
        have f172 := (Un167.ext Ex170)
        have f173 := (((O1.ext Ex165).wr Wn167 (by omega)).ext Ex170)
        have hp174 : ∀ c ∈ ([c0] : List Int32), ¬ c < 0 ∧ ¬ (255 : Int32) < c := List.forall_mem_cons.mpr ⟨r_c0, (fun _ q => nomatch q)⟩
        have cl171_ := fun (Ls : Array Slot) (hLs : Ls.size = c.maxLocals) => X170.specialBack hx (y := (⟨"java/lang/String", "<init>", "([C)V"⟩ : MethodName)) rfl hown (mvT hZ (hw _ (List.mem_of_getElem? (i := 5) rfl))) (mvT hZ (hw _ (List.mem_of_getElem? (i := 6) rfl))) (mvT hZ (hw _ (List.mem_of_getElem? (i := 7) rfl))) (by decide) (StrChars.Road.backV (n0 := n0) (h := H170) (x := b170) (W := 1) hZ (fun d hd => hw d (own_ws d hd)) (kI := 4) (hw _ (List.mem_of_getElem? (i := 3) rfl)) (cs := [c0]) (bs := (([c0] : List Int32).map (fun c => c.toInt8.toInt32))) (n := 1) (by omega) (by omega) An170 Fn170_value Fn170_coder f172 (Sta.ext f173.2 S4) hCS rfl rfl (by decide) (by decide) hp174 rfl (by decide) (by decide)) (g := mkF m 112 Ls [(.ref b165), (.ref b170), (.ref b170)]) rfl hLs (Steps.refl _) (a := b170) (argsL := [(.ref b165)]) (rest := [(.ref b170)]) (lenOf pd_30 rfl) rfl (by show 2 * 0 + _ ≤ _; exact Nat.le_of_eq rfl) (hb hby at_112) (fun _ _ => ⟨rfl, e170, (by decide : 0 + 1 + 1 + 1 ≤ _), (by decide : 0 + 1 + 4 + 1 ≤ _)⟩)
        refine Wk.back (n := 115) (rc := 1) (rs := 1) (Q := StrChars.Road.QV Z b170 (1 : Int32) (([c0] : List Int32).map (fun c => c.toInt8.toInt32)) H170 n0) (cl171_ _ (by rw [hml]; rfl)) fun vn171 T171 L171 X171 hQ171 => ?_
        clear cl171_
        obtain ⟨rfl, M171, J171, p171_0, p171_1, t_171, kb_171, _, ge_171, nt_171, p171_2, p171_3⟩ := hQ171
        have nt_171 := nw nt_171
        have N171 := Fr.app N167 M171
        have sz171 := J171.1
        have hs171 : ∀ x ∈ ([b170] : List Addr), Safe Z own_EL s.vm H170 x := (sfS Sf170 sf0)
        have R171 := R170.trans (CHr.keep J171 hs171 R170.1)
        have K171 := K170.trans J171 (allS (Or.inr (by omega)) all0)
        have lt_p171 := ny p171_3.lt
        show Wk p e below _ T171 (mkF m 115 _ [(.ref b170)])
        refine Wk.astore X171 hx (hb hby at_115) (n := 117) rfl rfl (L' := #[.val (.int p1), .val (.long j1), .second, .val (.int p2), .val (.int (1 : Int32)), .val (.int tl), .val (.int (1 : Int32)), .val (.int c0), .val (.int c1), .val (.int c2), .val (.ref b165), .val (.ref b170), .unset, .unset, .unset, .unset, .unset, .unset, .unset, .unset]) rfl ?_
        refine Wk.aconstNull X171 hx (hb hby at_117) (n := 118) rfl ?_
        refine Wk.astore X171 hx (hb hby at_118) (n := 120) rfl rfl (L' := #[.val (.int p1), .val (.long j1), .second, .val (.int p2), .val (.int (1 : Int32)), .val (.int tl), .val (.int (1 : Int32)), .val (.int c0), .val (.int c1), .val (.int c2), .val (.ref b165), .val (.ref b170), .val .null, .unset, .unset, .unset, .unset, .unset, .unset, .unset]) rfl ?_
        refine Wk.iload X171 hx (hb hby at_120) (n := 122) rfl rfl ?_
        have hc122_175 : ¬ ((1 : Int32) = (0 : Int32)) := by decide
        refine Wk.ifNo X171 hx (hb hby at_122) (n := 125) rfl ((if0 _ _).trans (feq hc122_175).1) ?_
        refine Wk.newO X171 hx hZ hown (hw _ (List.mem_of_getElem? (i := 222) rfl)) (hw _ (List.mem_of_getElem? (i := 223) rfl)) (hw _ (List.mem_of_getElem? (i := 224) rfl)) rfl (hb hby at_125) (n := 128) rfl (by decide) (by decide) fun T176 H176 b176 gn176 X176 e176 Ex176 An176 Dn176 Yn176 => ?_
        have gn176 := nx gn176
        have sz176 := Ex176.1
        have lt176 := ny An176.lt
        have K176 := K171.ext Ex176
        have R176 := R171.trans (CHr.ext Ex176 R171.1)
        have Fn176_user : Fld Z H176 b176 "com/example/net_thirty/netthirty/mail/MailServer$Login" "user" "Ljava/lang/String;" .null := Dn176 (Or.inr (hw _ (List.mem_of_getElem? (i := 243) rfl))) (ty := (.object "java/lang/String")) (by decide)
        have Fn176_password : Fld Z H176 b176 "com/example/net_thirty/netthirty/mail/MailServer$Login" "password" "Ljava/lang/String;" .null := Dn176 (Or.inr (hw _ (List.mem_of_getElem? (i := 245) rfl))) (ty := (.object "java/lang/String")) (by decide)
        refine Wk.dup X176 hx (hb hby at_128) (n := 129) rfl rfl ?_
        refine Wk.iload X176 hx (hb hby at_129) (n := 131) rfl rfl ?_
        have f177 := ((f173.keep J171 (allS (by omega) all0)).ext Ex176)
        have cl178_ := fun (Ls : Array Slot) (hLs : Ls.size = c.maxLocals) => Jvm.LawKit.callS X176 hx (y := (⟨"java/lang/String", "valueOf", "(C)Ljava/lang/String;"⟩ : MethodName)) hown (mvT hZ (hw _ (List.mem_of_getElem? (i := 225) rfl))) (mvT hZ (hw _ (List.mem_of_getElem? (i := 226) rfl))) (mvT hZ (hw _ (List.mem_of_getElem? (i := 4) rfl))) (mvT hZ (hw _ (List.mem_of_getElem? (i := 227) rfl))) (by decide) (backOf (W := 2) (rmSVO l Z a0 hw [] c1 zc H176 n0 (by omega) S4 f177 hCS r_c1.2) hZ (hw _ (List.mem_of_getElem? (i := 227) rfl)) (hw _ (List.mem_of_getElem? (i := 4) rfl)) (by decide) (by decide)) (g := mkF m 131 Ls [(.int c1), (.ref b176), (.ref b176)]) rfl hLs (argsL := [(.int c1)]) (rest := [(.ref b176), (.ref b176)]) (lenOf pd_31 rfl) rfl (by show 2 * 0 + _ ≤ _; exact Nat.le_of_eq rfl) (hb hby at_131) (fun _ _ => ⟨rfl, e176, (by decide : 0 + 1 + 1 + 1 + 1 + 2 ≤ _), (by decide : 0 + 1 + 4 + 1 + 2 + 5 ≤ _)⟩)
        refine Wk.backS (n := 134) (rc := 2) (rs := 5) (Q := Q_rmSVO Z c1 zc H176 n0) (cl178_ _ (by rw [hml]; rfl)) fun vn178 T178 L178 X178 hQ178 => ?_
        clear cl178_
        obtain ⟨r_178, t_178, kb_178, rfl, M178, J178, p178_0, p178_1, p178_2, p178_3, gr_178, gt_178⟩ := hQ178
        have N178 := Fr.app N171 M178
        have sz178 := J178.1
        have hs178 : ∀ x ∈ ([] : List Addr), Safe Z own_EL s.vm H176 x := sf0
        have R178 := R176.trans (CHr.keep J178 hs178 R176.1)
        have K178 := K176.trans J178 (fun x hx => nomatch hx)
        have lt_p178_0 := ny p178_0.lt
        have lt_p178_3 := ny p178_3.lt
        show Wk p e below _ T178 (mkF m 134 _ [(.ref r_178), (.ref b176), (.ref b176)])
        refine Wk.iload X178 hx (hb hby at_134) (n := 136) rfl rfl ?_
        have f179 := (f177.keep J178 all0)
        have cl180_ := fun (Ls : Array Slot) (hLs : Ls.size = c.maxLocals) => Jvm.LawKit.callS X178 hx (y := (⟨"java/lang/String", "valueOf", "(C)Ljava/lang/String;"⟩ : MethodName)) hown (mvT hZ (hw _ (List.mem_of_getElem? (i := 225) rfl))) (mvT hZ (hw _ (List.mem_of_getElem? (i := 226) rfl))) (mvT hZ (hw _ (List.mem_of_getElem? (i := 4) rfl))) (mvT hZ (hw _ (List.mem_of_getElem? (i := 227) rfl))) (by decide) (backOf (W := 3) (rmSVO l Z a0 hw [] c2 zc T178.heap n0 (by omega) S4 f179 hCS r_c2.2) hZ (hw _ (List.mem_of_getElem? (i := 227) rfl)) (hw _ (List.mem_of_getElem? (i := 4) rfl)) (by decide) (by decide)) (g := mkF m 136 Ls [(.int c2), (.ref r_178), (.ref b176), (.ref b176)]) rfl hLs (argsL := [(.int c2)]) (rest := [(.ref r_178), (.ref b176), (.ref b176)]) (lenOf pd_31 rfl) rfl (by show 2 * 0 + _ ≤ _; exact Nat.le_of_eq rfl) (hb hby at_136) (fun _ _ => ⟨rfl, rfl, (by decide : 0 + 1 + 1 + 1 + 1 + 2 + 2 ≤ _), (by decide : 0 + 1 + 4 + 1 + 2 + 5 + 5 ≤ _)⟩)
        refine Wk.backS (n := 139) (rc := 2) (rs := 5) (Q := Q_rmSVO Z c2 zc T178.heap n0) (cl180_ _ (by rw [hml]; rfl)) fun vn180 T180 L180 X180 hQ180 => ?_
        clear cl180_
        obtain ⟨r_180, t_180, kb_180, rfl, M180, J180, p180_0, p180_1, p180_2, p180_3, gr_180, gt_180⟩ := hQ180
        have N180 := Fr.app N178 M180
        have sz180 := J180.1
        have hs180 : ∀ x ∈ ([] : List Addr), Safe Z own_EL s.vm T178.heap x := sf0
        have R180 := R178.trans (CHr.keep J180 hs180 R178.1)
        have K180 := K178.trans J180 (fun x hx => nomatch hx)
        have lt_p180_0 := ny p180_0.lt
        have lt_p180_3 := ny p180_3.lt
        show Wk p e below _ T180 (mkF m 139 _ [(.ref r_180), (.ref r_178), (.ref b176), (.ref b176)])
        have f181 := ((An176.keep J178).keep J180)
        have f182 := ((Fn176_user.keep J178 nin0).keep J180 nin0)
        have f183 := ((Fn176_password.keep J178 nin0).keep J180 nin0)
        have cl184_ := fun (Ls : Array Slot) (hLs : Ls.size = c.maxLocals) => X180.specialBack hx (y := (⟨"com/example/net_thirty/netthirty/mail/MailServer$Login", "<init>", "(Ljava/lang/String;Ljava/lang/String;)V"⟩ : MethodName)) rfl hown (mvT hZ (hw _ (List.mem_of_getElem? (i := 238) rfl))) (mvT hZ (hw _ (List.mem_of_getElem? (i := 239) rfl))) (mvT hZ (hw _ (List.mem_of_getElem? (i := 240) rfl))) (by decide) (backOf (W := 1) (rmLI l Z a0 hw [] b176 r_178 r_180 .null .null T180.heap n0 (by omega) f181 f182 f183 (by omega)) hZ (hw _ (List.mem_of_getElem? (i := 240) rfl)) (hw _ (List.mem_of_getElem? (i := 224) rfl)) (by decide) (by decide)) (g := mkF m 139 Ls [(.ref r_180), (.ref r_178), (.ref b176), (.ref b176)]) rfl hLs (Steps.refl _) (a := b176) (argsL := [(.ref r_178), (.ref r_180)]) (rest := [(.ref b176)]) (lenOf pd_32 rfl) rfl (by show 2 * 0 + _ ≤ _; exact Nat.le_of_eq rfl) (hb hby at_139) (fun _ _ => ⟨rfl, rfl, (by decide : 0 + 1 + 1 + 1 + 1 + 2 + 2 + 0 ≤ _), (by decide : 0 + 1 + 4 + 1 + 2 + 5 + 5 + 0 ≤ _)⟩)
        refine Wk.back (n := 142) (rc := 0) (rs := 0) (Q := Q_rmLI Z b176 r_178 r_180 .null .null T180.heap n0) (cl184_ _ (by rw [hml]; rfl)) fun vn184 T184 L184 X184 hQ184 => ?_
        clear cl184_
        obtain ⟨rfl, M184, J184, p184_0⟩ := hQ184
        have N184 := Fr.app N180 M184
        have sz184 := J184.1
        have hs184 : ∀ x ∈ ([b176] : List Addr), Safe Z own_EL s.vm T180.heap x := (sfS (Safe.exa (EL := own_EL) hZ.alike f181 (by decide) (by decide)) sf0)
        have R184 := R180.trans (CHr.keep J184 hs184 R180.1)
        have K184 := K180.trans J184 (allS (Or.inr (by omega)) all0)
        have lt_p184_0 := ny p184_0.lt
        show Wk p e below _ T184 (mkF m 142 _ [(.ref b176)])
        refine Wk.astore X184 hx (hb hby at_142) (n := 144) rfl rfl (L' := #[.val (.int p1), .val (.long j1), .second, .val (.int p2), .val (.int (1 : Int32)), .val (.int tl), .val (.int (1 : Int32)), .val (.int c0), .val (.int c1), .val (.int c2), .val (.ref b165), .val (.ref b170), .val (.ref b176), .unset, .unset, .unset, .unset, .unset, .unset, .unset]) rfl ?_
        have f185 := ((((p171_0.ext Ex176).keep J178).keep J180).keep J184)
        have f186 := ((((p171_2.ext Ex176).keep J178 nin0).keep J180 nin0).keep J184 (ninS (nz (by omega)) nin0))
        have f187 := ((((p171_1.ext Ex176).keep J178 nin0).keep J180 nin0).keep J184 (ninS (nz (by omega)) nin0))
        have f188 := ((((p171_3.ext Ex176).keep J178 nin0).keep J180 nin0).keep J184 (ninS (nz (by omega)) nin0))
        have f189 := ((f179.keep J180 all0).keep J184 (allS (by omega) all0))
        exact jt_c T184 T184.heap _ s _ c0 c1 c2 (1 : Int32) b165 b170 t_171 kb_171 (.ref b176) (X184.mono (by decide) (by decide)) rfl K184 N184 Bs0 (by omega) hZ hown R184 f185 f186 f187 f188 f189 hp174 rfl
    refine Wk.iloadN X0 hx (hb hby at_5) (n := 6) rfl rfl ?_
    refine Wk.iconst X0 hx (hb hby at_6) (n := 7) rfl (z := (4 : Int32)) rfl ?_
    refine Wk.iand X0 hx (hb hby at_7) (n := 8) rfl ?_
    by_cases hc8 : (p1 &&& (4 : Int32)) = (0 : Int32)
    ·
      refine Wk.ifYes X0 hx (hb hby at_8) ((if0 _ _).trans (teq hc8).1) (by decide) (n := 15) (by decide) ?_
      refine Wk.iconst X0 hx (hb hby at_15) (n := 16) rfl (z := (0 : Int32)) rfl ?_
      exact jt_d (0 : Int32)
    ·
      refine Wk.ifNo X0 hx (hb hby at_8) (n := 11) rfl ((if0 _ _).trans (feq hc8).1) ?_
      refine Wk.iconst X0 hx (hb hby at_11) (n := 12) rfl (z := (1 : Int32)) rfl ?_
      refine Wk.goto X0 hx (hb hby at_12) (by decide) (n := 16) (by decide) ?_
      exact jt_d (1 : Int32)
  ·
    rw [q3]
    refine Wk.istore X0 hx (hb hby at_3) (n := 5) rfl (L' := #[.val (.int p1), .val (.long j1), .second, .val (.int p2), .val (.int (2 : Int32)), .unset, .unset, .unset, .unset, .unset, .unset, .unset, .unset, .unset, .unset, .unset, .unset, .unset, .unset, .unset]) rfl ?_
    have jt_d : ∀ (tl : Int32), Wk p e below (EndW Z own_EL s (Q_rm0 Z p1 j1 p2 zc fm dO kO dT kT h0 n0) room_1.cells room_1.slots) s₁ (mkF m 16 #[.val (.int p1), .val (.long j1), .second, .val (.int p2), .val (.int (2 : Int32)), .unset, .unset, .unset, .unset, .unset, .unset, .unset, .unset, .unset, .unset, .unset, .unset, .unset, .unset, .unset] [(.int tl)]) := by
      intro tl
      refine Wk.istore X0 hx (hb hby at_16) (n := 18) rfl (L' := #[.val (.int p1), .val (.long j1), .second, .val (.int p2), .val (.int (2 : Int32)), .val (.int tl), .unset, .unset, .unset, .unset, .unset, .unset, .unset, .unset, .unset, .unset, .unset, .unset, .unset, .unset]) rfl ?_
      have jt_c : ∀ (Tj190 : State) (Hj190 : Heap) (Lcj190 : List Loc) (usj190 : State) (kzj190 : Nat) (c0 : Int32) (c1 : Int32) (c2 : Int32) (fl : Int32) (ah : Addr) (rh : Addr) (th : Addr) (kh : ClassId) (lg : Value), (Stand p l e room_1 usj190 m #[(.int p1), (.long j1), (.int p2)] below meth c Tj190 Lcj190 16 44) → (Tj190.heap = Hj190) → (Keep h0 Hj190 []) → (Fr n0 Lcj190) → (Base s usj190 kzj190) → (kzj190 ≤ Hj190.size) → (Z.Warmed39 usj190.vm) → (usj190.vm.findClass "com/example/net_thirty/netthirty/mail/MailServerAddressPinLaw" = some m.cls) → (CHr Z own_EL s.vm h0 usj190.vm Hj190) → (Exa Z Hj190 rh "java/lang/String") → (Fld Z Hj190 rh "java/lang/String" "value" "[B" (.ref th)) → (Fld Z Hj190 rh "java/lang/String" "coder" "B" (.int (0 : Int32))) → (Arv Z Hj190 th kh .byte (Int32.ofNat [c0, c1].length) (bsV [c0, c1]) (.int (0 : Int32))) → (Old Z n0 Hj190) → (∀ c ∈ [c0, c1], ¬ c < 0 ∧ ¬ (255 : Int32) < c) → (lg.isRef = true) → Wk p e below (EndW Z own_EL s (Q_rm0 Z p1 j1 p2 zc fm dO kO dT kT h0 n0) room_1.cells room_1.slots) Tj190 (mkF m 144 #[.val (.int p1), .val (.long j1), .second, .val (.int p2), .val (.int (2 : Int32)), .val (.int tl), .val (.int fl), .val (.int c0), .val (.int c1), .val (.int c2), .val (.ref ah), .val (.ref rh), .val lg, .unset, .unset, .unset, .unset, .unset, .unset, .unset] []) := by
        intro Tj190 Hj190 Lcj190 usj190 kzj190 c0 c1 c2 fl ah rh th kh lg Xj190 ej190 Kj190 Nj190 Bsj190 hkzj190 hZ hown Rj190 Es9 Fv9 Fc9 As9 Olj190 hpc hlg
        have szj190 := Kj190.1
        have lt_Es9 := ny Es9.lt
        have lt_Fv9 := ny Fv9.lt
        have lt_Fc9 := ny Fc9.lt
        have lt_As9 := ny As9.lt
        refine Wk.newO Xj190 hx hZ hown (hw _ (List.mem_of_getElem? (i := 23) rfl)) (hw _ (List.mem_of_getElem? (i := 24) rfl)) (hw _ (List.mem_of_getElem? (i := 25) rfl)) ej190 (hb hby at_144) (n := 147) rfl (by decide) (by decide) fun T191 H191 b191 gn191 X191 e191 Ex191 An191 Dn191 Yn191 => ?_
        have gn191 := nx gn191
        have sz191 := Ex191.1
        have lt191 := ny An191.lt
        have K191 := Kj190.ext Ex191
        have R191 := Rj190.trans (CHr.ext Ex191 Rj190.1)
        have Fn191_host : Fld Z H191 b191 "com/example/net_thirty/netthirty/mail/MailServer" "host" "Ljava/lang/String;" .null := Dn191 (Or.inr (hw _ (List.mem_of_getElem? (i := 36) rfl))) (ty := (.object "java/lang/String")) (by decide)
        have Fn191_port : Fld Z H191 b191 "com/example/net_thirty/netthirty/mail/MailServer" "port" "I" (.int (0 : Int32)) := Dn191 (Or.inr (hw _ (List.mem_of_getElem? (i := 38) rfl))) (ty := .int) (by decide)
        have Fn191_startTls : Fld Z H191 b191 "com/example/net_thirty/netthirty/mail/MailServer" "startTls" "Z" (.int (0 : Int32)) := Dn191 (Or.inr (hw _ (List.mem_of_getElem? (i := 40) rfl))) (ty := .boolean) (by decide)
        have Fn191_login : Fld Z H191 b191 "com/example/net_thirty/netthirty/mail/MailServer" "login" "Lcom/example/net_thirty/netthirty/mail/MailServer$Login;" .null := Dn191 (Or.inr (hw _ (List.mem_of_getElem? (i := 42) rfl))) (ty := (.object "com/example/net_thirty/netthirty/mail/MailServer$Login")) (by decide)
        refine Wk.dup X191 hx (hb hby at_147) (n := 148) rfl rfl ?_
        refine Wk.aload X191 hx (hb hby at_148) (n := 150) rfl rfl rfl ?_
        refine Wk.iloadN X191 hx (hb hby at_150) (n := 151) rfl rfl ?_
        refine Wk.iload X191 hx (hb hby at_151) (n := 153) rfl rfl ?_
        refine Wk.aload X191 hx (hb hby at_153) (n := 155) rfl rfl hlg ?_
        have cl192_ := fun (Ls : Array Slot) (hLs : Ls.size = c.maxLocals) => X191.specialBack hx (y := (⟨"com/example/net_thirty/netthirty/mail/MailServer", "<init>", "(Ljava/lang/String;IZLcom/example/net_thirty/netthirty/mail/MailServer$Login;)V"⟩ : MethodName)) rfl hown (mvT hZ (hw _ (List.mem_of_getElem? (i := 26) rfl))) (mvT hZ (hw _ (List.mem_of_getElem? (i := 27) rfl))) (mvT hZ (hw _ (List.mem_of_getElem? (i := 28) rfl))) (by decide) (backOf (W := 1) (rmMI l Z a0 hw [] b191 rh p2 tl lg .null (.int (0 : Int32)) (.int (0 : Int32)) .null H191 n0 (by omega) An191 Fn191_host Fn191_port Fn191_startTls Fn191_login (by omega) hlg) hZ (hw _ (List.mem_of_getElem? (i := 28) rfl)) (hw _ (List.mem_of_getElem? (i := 25) rfl)) (by decide) (by decide)) (g := mkF m 155 Ls [lg, (.int tl), (.int p2), (.ref rh), (.ref b191), (.ref b191)]) rfl hLs (Steps.refl _) (a := b191) (argsL := [(.ref rh), (.int p2), (.int tl), lg]) (rest := [(.ref b191)]) (lenOf pd_27 rfl) rfl (by show 2 * 0 + _ ≤ _; exact Nat.le_of_eq rfl) (hb hby at_155) (fun _ _ => ⟨rfl, e191, (by decide : 16 + 1 + 0 ≤ _), (by decide : 44 + 4 + 0 ≤ _)⟩)
        refine Wk.back (n := 158) (rc := 0) (rs := 0) (Q := Q_rmMI Z b191 rh p2 tl lg .null (.int (0 : Int32)) (.int (0 : Int32)) .null H191 n0) (cl192_ _ (by rw [hml]; rfl)) fun vn192 T192 L192 X192 hQ192 => ?_
        clear cl192_
        obtain ⟨rfl, M192, J192, p192_0, p192_1, p192_2⟩ := hQ192
        have N192 := Fr.app Nj190 M192
        have sz192 := J192.1
        have hs192 : ∀ x ∈ ([b191] : List Addr), Safe Z own_EL usj190.vm H191 x := (sfS (Safe.exa (EL := own_EL) hZ.alike An191 (by decide) (by decide)) sf0)
        have R192 := R191.trans (CHr.keep J192 hs192 R191.1)
        have K192 := K191.trans J192 (allS (Or.inr (by omega)) all0)
        have lt_p192_0 := ny p192_0.lt
        show Wk p e below _ T192 (mkF m 158 _ [(.ref b191)])
        refine Wk.astore X192 hx (hb hby at_158) (n := 160) rfl rfl (L' := #[.val (.int p1), .val (.long j1), .second, .val (.int p2), .val (.int (2 : Int32)), .val (.int tl), .val (.int fl), .val (.int c0), .val (.int c1), .val (.int c2), .val (.ref ah), .val (.ref rh), .val lg, .val (.ref b191), .unset, .unset, .unset, .unset, .unset, .unset]) rfl ?_
        refine Wk.aload X192 hx (hb hby at_160) (n := 162) rfl rfl rfl ?_
        have f193 := ((Es9.ext Ex191).keep J192)
        have f194 := ((Fv9.ext Ex191).keep J192 (ninS (nz (by omega)) nin0))
        have f195 := ((Fc9.ext Ex191).keep J192 (ninS (nz (by omega)) nin0))
        have f196 := ((As9.ext Ex191).keep J192 (ninS (nz (by omega)) nin0))
        have f197 := ((Olj190.ext Ex191).keep J192 (allS (by omega) all0))
        obtain ⟨cq198, kq198, qn198a, qn198b, qn198c⟩ := isOf hZ rfl p192_0
        have cl198_ := fun (Ls : Array Slot) (hLs : Ls.size = c.maxLocals) => X192.virtualBackS hx (y := (⟨"com/example/net_thirty/netthirty/mail/MailServer", "address", "()Ljava/lang/String;"⟩ : MethodName)) (z := (⟨"com/example/net_thirty/netthirty/mail/MailServer", "address", "()Ljava/lang/String;"⟩ : MethodName)) hown (mvT hZ (hw _ (List.mem_of_getElem? (i := 43) rfl))) (mvT hZ (hw _ (List.mem_of_getElem? (i := 44) rfl))) (notFace_of_selects (args := #[]) (mvT hZ (hw _ (List.mem_of_getElem? (i := 46) rfl)))) (mvT hZ (hw _ (List.mem_of_getElem? (i := 46) rfl))) (mvT hZ (hw _ (List.mem_of_getElem? (i := 45) rfl))) (by decide) (backWd (W := 0) (EL := own_EL) (rmAdr l Z a0 hw [] b191 p2 rh th kh ([c0, c1]) zc dO kO dT kT T192.heap n0 (by omega) p192_0 p192_1 p192_2 f193 f194 f195 f196 S4 f197 S6 S7 A6 A7 hCS (Nat.le_of_ble_eq_true rfl) hpc) hZ (hw _ (List.mem_of_getElem? (i := 47) rfl)) (hw _ (List.mem_of_getElem? (i := 25) rfl)) (by decide) (by decide) hELw R192.1 (fun _ q => nomatch q) sf0) qn198a qn198c (g := mkF m 162 Ls [(.ref b191)]) rfl hLs (Steps.refl _) (argsL := []) (rest := []) (lenOf pd_24 rfl) rfl (by show 2 * 0 + _ ≤ _; exact Nat.le_of_eq rfl) (hb hby at_162) (fun _ _ => ⟨rfl, rfl, (by decide : 16 + 1 + 0 + 6 ≤ _), (by decide : 44 + 4 + 0 + 48 ≤ _)⟩)
        refine Wk.backW (n := 165) (rc := 6) (rs := 48) (Q := Q_rmAdr Z b191 p2 rh th kh ([c0, c1]) zc dO kO dT kT T192.heap n0) rfl Bsj190 (by omega) hZ hown R192 (cl198_ _ (by rw [hml]; rfl)) fun vn198 us198 T198 L198 X198 Bs198 hZ hown A_198 R198 hQ198 => ?_
        obtain ⟨r_198, t_198, kb_198, rfl, M198, J198, p198_0, p198_1, p198_2, p198_3⟩ := hQ198
        have N198 := Fr.app N192 M198
        have sz198 := J198.1
        have K198 := K192.trans J198 (fun x hx => nomatch hx)
        have lt_p198_0 := ny p198_0.lt
        have lt_p198_3 := ny p198_3.lt
        show Wk p e below _ T198 (mkF m 165 _ [(.ref r_198)])
        have lG1 := sgl_le p2
        have lG2 := dl_le (mg p2) (mg_le p2)
        have lp : ([c0, c1] ++ 58 :: (sgl p2 ++ dl (mg p2))).length = 3 + (sgl p2).length + (dl (mg p2)).length := by simp; omega
        have qp : ∀ c ∈ ([c0, c1] ++ 58 :: (sgl p2 ++ dl (mg p2))), ¬ c < 0 ∧ ¬ (255 : Int32) < c := own_rapp hpc (own_rapp (a := [58]) (by decide) (own_rapp (sgl_rng p2) (dl_rng _)))
        refine Wk.astore X198 hx (hb hby at_165) (n := 167) rfl rfl (L' := #[.val (.int p1), .val (.long j1), .second, .val (.int p2), .val (.int (2 : Int32)), .val (.int tl), .val (.int fl), .val (.int c0), .val (.int c1), .val (.int c2), .val (.ref ah), .val (.ref rh), .val lg, .val (.ref b191), .val (.ref r_198), .unset, .unset, .unset, .unset, .unset]) rfl ?_
        refine Wk.iloadN X198 hx (hb hby at_167) (n := 168) rfl rfl ?_
        refine Wk.i2l X198 hx (hb hby at_168) (n := 169) rfl ?_
        have cl199_ := fun (Ls : Array Slot) (hLs : Ls.size = c.maxLocals) => Jvm.LawKit.callS X198 hx (y := (⟨"java/lang/Math", "abs", "(J)J"⟩ : MethodName)) hown (mvT hZ (hw _ (List.mem_of_getElem? (i := 178) rfl))) (mvT hZ (hw _ (List.mem_of_getElem? (i := 179) rfl))) (mvT hZ (hw _ (List.mem_of_getElem? (i := 175) rfl))) (mvT hZ (hw _ (List.mem_of_getElem? (i := 180) rfl))) (by decide) (backOf (W := 0) (rmAB l Z a0 hw [] (p2.toInt64) p2 T198.heap n0 (by omega) rfl) hZ (hw _ (List.mem_of_getElem? (i := 180) rfl)) (hw _ (List.mem_of_getElem? (i := 175) rfl)) (by decide) (by decide)) (g := mkF m 169 Ls [(.long (p2.toInt64))]) rfl hLs (argsL := [(.long (p2.toInt64))]) (rest := []) (lenOf pd_28 rfl) rfl (by show 2 * 0 + _ ≤ _; exact Nat.le_of_eq rfl) (hb hby at_169) (fun _ _ => ⟨rfl, rfl, (by decide : 16 + 1 + 0 + 6 + 0 ≤ _), (by decide : 44 + 4 + 0 + 48 + 0 ≤ _)⟩)
        refine Wk.backS (n := 172) (rc := 0) (rs := 0) (Q := Q_rmAB Z (p2.toInt64) p2 T198.heap n0) (cl199_ _ (by rw [hml]; rfl)) fun vn199 T199 L199 X199 hQ199 => ?_
        clear cl199_
        obtain ⟨rfl, M199, e199⟩ := hQ199
        have N199 := Fr.app N198 M199
        show Wk p e below _ T199 (mkF m 172 _ [(.long (Int64.ofNat (mg p2)))])
        refine Wk.lstore X199 hx (hb hby at_172) (n := 174) rfl (L' := #[.val (.int p1), .val (.long j1), .second, .val (.int p2), .val (.int (2 : Int32)), .val (.int tl), .val (.int fl), .val (.int c0), .val (.int c1), .val (.int c2), .val (.ref ah), .val (.ref rh), .val lg, .val (.ref b191), .val (.ref r_198), .val (.long (Int64.ofNat (mg p2))), .second, .unset, .unset, .unset]) rfl ?_
        refine Wk.lload X199 hx (hb hby at_174) (n := 176) rfl rfl ?_
        have cl200_ := fun (Ls : Array Slot) (hLs : Ls.size = c.maxLocals) => Jvm.LawKit.callS X199 hx (y := (⟨"com/example/net_thirty/netthirty/mail/MailServerAddressPinLaw", "digits", "(J)I"⟩ : MethodName)) hown (mvT hZ (hw _ (List.mem_of_getElem? (i := 181) rfl))) (mvT hZ (hw _ (List.mem_of_getElem? (i := 182) rfl))) (mvT hZ (hw _ (List.mem_of_getElem? (i := 183) rfl))) (mvT hZ (hw _ (List.mem_of_getElem? (i := 184) rfl))) (by decide) (backOf (W := 0) (rmDI l Z a0 hw [] (Int64.ofNat (mg p2)) (mg p2) T198.heap n0 (by omega) rfl (mg_le p2)) hZ (hw _ (List.mem_of_getElem? (i := 184) rfl)) (hw _ (List.mem_of_getElem? (i := 183) rfl)) (by decide) (by decide)) (g := mkF m 176 Ls [(.long (Int64.ofNat (mg p2)))]) rfl hLs (argsL := [(.long (Int64.ofNat (mg p2)))]) (rest := []) (lenOf pd_29 rfl) rfl (by show 2 * 0 + _ ≤ _; exact Nat.le_of_eq rfl) (hb hby at_176) (fun _ _ => ⟨rfl, e199, (by decide : 16 + 1 + 0 + 6 + 0 + 0 ≤ _), (by decide : 44 + 4 + 0 + 48 + 0 + 0 ≤ _)⟩)
        refine Wk.backS (n := 179) (rc := 0) (rs := 0) (Q := Q_rmDI Z (Int64.ofNat (mg p2)) (mg p2) T198.heap n0) (cl200_ _ (by rw [hml]; rfl)) fun vn200 T200 L200 X200 hQ200 => ?_
        clear cl200_
        obtain ⟨rfl, M200, e200⟩ := hQ200
        have N200 := Fr.app N199 M200
        show Wk p e below _ T200 (mkF m 179 _ [(.int (Int32.ofNat (dl (mg p2)).length))])
        refine Wk.istore X200 hx (hb hby at_179) (n := 181) rfl (L' := #[.val (.int p1), .val (.long j1), .second, .val (.int p2), .val (.int (2 : Int32)), .val (.int tl), .val (.int fl), .val (.int c0), .val (.int c1), .val (.int c2), .val (.ref ah), .val (.ref rh), .val lg, .val (.ref b191), .val (.ref r_198), .val (.long (Int64.ofNat (mg p2))), .second, .val (.int (Int32.ofNat (dl (mg p2)).length)), .unset, .unset]) rfl ?_
        refine Wk.iloadN X200 hx (hb hby at_181) (n := 182) rfl rfl ?_
        by_cases hc182 : p2 < (0 : Int32)
        ·
          refine Wk.ifNo X200 hx (hb hby at_182) (n := 185) rfl ((if0 _ _).trans (tlt hc182).2.1) ?_
          refine Wk.iconst X200 hx (hb hby at_185) (n := 186) rfl (z := (1 : Int32)) rfl ?_
          refine Wk.goto X200 hx (hb hby at_186) (by decide) (n := 190) (by decide) ?_
          have hs : sgl p2 = [45] := if_pos hc182
          have hsl : (sgl p2).length = 1 := by rw [hs]; rfl
          refine Wk.istore X200 hx (hb hby at_190) (n := 192) rfl (L' := #[.val (.int p1), .val (.long j1), .second, .val (.int p2), .val (.int (2 : Int32)), .val (.int tl), .val (.int fl), .val (.int c0), .val (.int c1), .val (.int c2), .val (.ref ah), .val (.ref rh), .val lg, .val (.ref b191), .val (.ref r_198), .val (.long (Int64.ofNat (mg p2))), .second, .val (.int (Int32.ofNat (dl (mg p2)).length)), .val (.int (1 : Int32)), .unset]) rfl ?_
          refine Wk.aload X200 hx (hb hby at_192) (n := 194) rfl rfl rfl ?_
          have f202 := (f197.keep J198 all0)
          obtain ⟨cq201, kq201, qn201a, qn201b, qn201c⟩ := isOf hZ e200 p198_0
          have cl201_ := fun (Ls : Array Slot) (hLs : Ls.size = c.maxLocals) => X200.virtualBack hx (y := (⟨"java/lang/String", "length", "()I"⟩ : MethodName)) (z := (⟨"java/lang/String", "length", "()I"⟩ : MethodName)) hown (mvT hZ (hw _ (List.mem_of_getElem? (i := 186) rfl))) (mvT hZ (hw _ (List.mem_of_getElem? (i := 77) rfl))) (notFace_of_selects (args := #[]) (mvT hZ (hw _ (List.mem_of_getElem? (i := 79) rfl)))) (mvT hZ (hw _ (List.mem_of_getElem? (i := 79) rfl))) (mvT hZ (hw _ (List.mem_of_getElem? (i := 78) rfl))) (by decide) (StrChars.Road.lenW (W := 0) hZ (fun d hd => hw d (own_wl d hd)) (kI := 4) (hw _ (List.mem_of_getElem? (i := 3) rfl)) p198_0 p198_1 p198_2 p198_3 (StrChars.Road.codOf (cs := ([c0, c1] ++ 58 :: (sgl p2 ++ dl (mg p2)))) (n := ([c0, c1] ++ 58 :: (sgl p2 ++ dl (mg p2))).length) rfl (fun c hc => (qp c hc).2)) (own_up qp) (Sta.ext f202.2 S4) hCS (by omega) (by decide) (by decide)) qn201a qn201c (g := mkF m 194 Ls [(.ref r_198)]) rfl hLs (Steps.refl _) (argsL := []) (rest := []) (lenOf pd_7 rfl) rfl (by show 2 * 0 + _ ≤ _; exact Nat.le_of_eq rfl) (hb hby at_194) (fun _ _ => ⟨rfl, e200, (by decide : 16 + 1 + 0 + 6 + 0 + 0 + 0 ≤ _), (by decide : 44 + 4 + 0 + 48 + 0 + 0 + 0 ≤ _)⟩)
          refine Wk.back (n := 197) (rc := 0) (rs := 0) (Q := fun v h' L => (v = some (.int (Int32.ofNat (([c0, c1] ++ 58 :: (sgl p2 ++ dl (mg p2))) : List Int32).length)) ∧ L = [] ∧ h' = T198.heap)) (cl201_ _ (by rw [hml]; rfl)) fun vn201 T201 L201 X201 hQ201 => ?_
          clear cl201_
          obtain ⟨rfl, rfl, e201⟩ := hQ201
          have N201 := Fr.app N200 (Fr.nil n0)
          show Wk p e below _ T201 (mkF m 197 _ [(.int (Int32.ofNat ([c0, c1] ++ 58 :: (sgl p2 ++ dl (mg p2))).length))])
          refine Wk.iload X201 hx (hb hby at_197) (n := 199) rfl rfl ?_
          refine Wk.iconst X201 hx (hb hby at_199) (n := 200) rfl (z := (1 : Int32)) rfl ?_
          refine Wk.iadd X201 hx (hb hby at_200) (n := 201) rfl ?_
          refine Wk.iload X201 hx (hb hby at_201) (n := 203) rfl rfl ?_
          refine Wk.iadd X201 hx (hb hby at_203) (n := 204) rfl ?_
          refine Wk.iload X201 hx (hb hby at_204) (n := 206) rfl rfl ?_
          refine Wk.iadd X201 hx (hb hby at_206) (n := 207) rfl ?_
          have hc207_203 : (Int32.ofNat ([c0, c1] ++ 58 :: (sgl p2 ++ dl (mg p2))).length) = ((((2 : Int32) + (1 : Int32)) + (1 : Int32)) + (Int32.ofNat (dl (mg p2)).length)) := by rw [lp, hsl, ← own_ofadd]; rfl
          refine Wk.icmpYes X201 hx (hb hby at_207) (teq hc207_203).1 (by decide) (n := 212) (by decide) ?_
          refine Wk.iload X201 hx (hb hby at_212) (n := 214) rfl rfl ?_
          have hc214_204 : (0 : Int32) < (2 : Int32) := by decide
          refine Wk.ifNo X201 hx (hb hby at_214) (n := 217) rfl ((if0 _ _).trans (tlt hc214_204).2.2.2) ?_
          refine Wk.aload X201 hx (hb hby at_217) (n := 219) rfl rfl rfl ?_
          refine Wk.iconst X201 hx (hb hby at_219) (n := 220) rfl (z := (0 : Int32)) rfl ?_
          obtain ⟨cq205, kq205, qn205a, qn205b, qn205c⟩ := isOf hZ e201 p198_0
          have cl205_ := fun (Ls : Array Slot) (hLs : Ls.size = c.maxLocals) => X201.virtualBack hx (y := (⟨"java/lang/String", "charAt", "(I)C"⟩ : MethodName)) (z := (⟨"java/lang/String", "charAt", "(I)C"⟩ : MethodName)) hown (mvT hZ (hw _ (List.mem_of_getElem? (i := 187) rfl))) (mvT hZ (hw _ (List.mem_of_getElem? (i := 188) rfl))) (notFace_of_selects (args := #[]) (mvT hZ (hw _ (List.mem_of_getElem? (i := 190) rfl)))) (mvT hZ (hw _ (List.mem_of_getElem? (i := 190) rfl))) (mvT hZ (hw _ (List.mem_of_getElem? (i := 189) rfl))) (by decide) (StrChars.Road.chN (W := 0) hZ (fun d hd => hw d (own_wc d hd)) (kI := 4) (hw _ (List.mem_of_getElem? (i := 3) rfl)) p198_0 p198_1 p198_2 p198_3 (StrChars.Road.codOf (cs := ([c0, c1] ++ 58 :: (sgl p2 ++ dl (mg p2)))) (n := ([c0, c1] ++ 58 :: (sgl p2 ++ dl (mg p2))).length) rfl (fun c hc => (qp c hc).2)) (own_up qp) (Sta.ext f202.2 S4) hCS (Sta.ext f202.2 S5) hFM (by omega) (i := 0) (by rw [lp]; omega) (j := (0 : Int32)) rfl (by decide) (by decide)) qn205a qn205c (g := mkF m 220 Ls [(.int (0 : Int32)), (.ref r_198)]) rfl hLs (Steps.refl _) (argsL := [(.int (0 : Int32))]) (rest := []) (lenOf pd_25 rfl) rfl (by show 2 * 0 + _ ≤ _; exact Nat.le_of_eq rfl) (hb hby at_220) (fun _ _ => ⟨rfl, e201, (by decide : 16 + 1 + 0 + 6 + 0 + 0 + 0 + 0 ≤ _), (by decide : 44 + 4 + 0 + 48 + 0 + 0 + 0 + 0 ≤ _)⟩)
          refine Wk.back (n := 223) (rc := 0) (rs := 0) (Q := fun v h' L => (v = some (.int ((([c0, c1] ++ 58 :: (sgl p2 ++ dl (mg p2))) : List Int32).getD 0 0)) ∧ L = [] ∧ h' = T198.heap)) (cl205_ _ (by rw [hml]; rfl)) fun vn205 T205 L205 X205 hQ205 => ?_
          clear cl205_
          obtain ⟨rfl, rfl, e205⟩ := hQ205
          have N205 := Fr.app N201 (Fr.nil n0)
          show Wk p e below _ T205 (mkF m 223 _ [(.int (([c0, c1] ++ 58 :: (sgl p2 ++ dl (mg p2))).getD 0 0))])
          refine Wk.iload X205 hx (hb hby at_223) (n := 225) rfl rfl ?_
          have hc225_206 : (([c0, c1] ++ 58 :: (sgl p2 ++ dl (mg p2))).getD 0 0) = c0 := rfl
          refine Wk.icmpYes X205 hx (hb hby at_225) (teq hc225_206).1 (by decide) (n := 230) (by decide) ?_
          refine Wk.iload X205 hx (hb hby at_230) (n := 232) rfl rfl ?_
          refine Wk.iconst X205 hx (hb hby at_232) (n := 233) rfl (z := (1 : Int32)) rfl ?_
          have hc233_207 : (1 : Int32) < (2 : Int32) := by decide
          refine Wk.icmpNo X205 hx (hb hby at_233) (n := 236) rfl (tlt hc233_207).2.2.2 ?_
          refine Wk.aload X205 hx (hb hby at_236) (n := 238) rfl rfl rfl ?_
          refine Wk.iconst X205 hx (hb hby at_238) (n := 239) rfl (z := (1 : Int32)) rfl ?_
          obtain ⟨cq208, kq208, qn208a, qn208b, qn208c⟩ := isOf hZ e205 p198_0
          have cl208_ := fun (Ls : Array Slot) (hLs : Ls.size = c.maxLocals) => X205.virtualBack hx (y := (⟨"java/lang/String", "charAt", "(I)C"⟩ : MethodName)) (z := (⟨"java/lang/String", "charAt", "(I)C"⟩ : MethodName)) hown (mvT hZ (hw _ (List.mem_of_getElem? (i := 187) rfl))) (mvT hZ (hw _ (List.mem_of_getElem? (i := 188) rfl))) (notFace_of_selects (args := #[]) (mvT hZ (hw _ (List.mem_of_getElem? (i := 190) rfl)))) (mvT hZ (hw _ (List.mem_of_getElem? (i := 190) rfl))) (mvT hZ (hw _ (List.mem_of_getElem? (i := 189) rfl))) (by decide) (StrChars.Road.chN (W := 0) hZ (fun d hd => hw d (own_wc d hd)) (kI := 4) (hw _ (List.mem_of_getElem? (i := 3) rfl)) p198_0 p198_1 p198_2 p198_3 (StrChars.Road.codOf (cs := ([c0, c1] ++ 58 :: (sgl p2 ++ dl (mg p2)))) (n := ([c0, c1] ++ 58 :: (sgl p2 ++ dl (mg p2))).length) rfl (fun c hc => (qp c hc).2)) (own_up qp) (Sta.ext f202.2 S4) hCS (Sta.ext f202.2 S5) hFM (by omega) (i := 1) (by rw [lp]; omega) (j := (1 : Int32)) rfl (by decide) (by decide)) qn208a qn208c (g := mkF m 239 Ls [(.int (1 : Int32)), (.ref r_198)]) rfl hLs (Steps.refl _) (argsL := [(.int (1 : Int32))]) (rest := []) (lenOf pd_25 rfl) rfl (by show 2 * 0 + _ ≤ _; exact Nat.le_of_eq rfl) (hb hby at_239) (fun _ _ => ⟨rfl, e205, (by decide : 16 + 1 + 0 + 6 + 0 + 0 + 0 + 0 + 0 ≤ _), (by decide : 44 + 4 + 0 + 48 + 0 + 0 + 0 + 0 + 0 ≤ _)⟩)
          refine Wk.back (n := 242) (rc := 0) (rs := 0) (Q := fun v h' L => (v = some (.int ((([c0, c1] ++ 58 :: (sgl p2 ++ dl (mg p2))) : List Int32).getD 1 0)) ∧ L = [] ∧ h' = T198.heap)) (cl208_ _ (by rw [hml]; rfl)) fun vn208 T208 L208 X208 hQ208 => ?_
          clear cl208_
          obtain ⟨rfl, rfl, e208⟩ := hQ208
          have N208 := Fr.app N205 (Fr.nil n0)
          show Wk p e below _ T208 (mkF m 242 _ [(.int (([c0, c1] ++ 58 :: (sgl p2 ++ dl (mg p2))).getD 1 0))])
          refine Wk.iload X208 hx (hb hby at_242) (n := 244) rfl rfl ?_
          have hc244_209 : (([c0, c1] ++ 58 :: (sgl p2 ++ dl (mg p2))).getD 1 0) = c1 := rfl
          refine Wk.icmpYes X208 hx (hb hby at_244) (teq hc244_209).1 (by decide) (n := 249) (by decide) ?_
          refine Wk.iload X208 hx (hb hby at_249) (n := 251) rfl rfl ?_
          refine Wk.iconst X208 hx (hb hby at_251) (n := 252) rfl (z := (2 : Int32)) rfl ?_
          have hc252_210 : ¬ ((2 : Int32) < (2 : Int32)) := by decide
          refine Wk.icmpYes X208 hx (hb hby at_252) (flt hc252_210).2.2.2 (by decide) (n := 268) (by decide) ?_
          exact jt_b T208 T198.heap _ us198 _ (2 : Int32) tl fl c0 c1 c2 ah rh b191 r_198 t_198 kb_198 lg (1 : Int32) ([c0, c1] ++ 58 :: (sgl p2 ++ dl (mg p2))) ([c0, c1] ++ 58 :: sgl p2) ([c0, c1]) (X208.mono (by decide) (by decide)) e208 K198 N208 Bs198 (by omega) hZ hown R198 p198_0 p198_1 p198_2 p198_3 f202 hlg qp (by simp) (by simp; omega) rfl rfl (Nat.le_of_ble_eq_true rfl) (Or.inl ⟨hc182, rfl⟩)
        ·
          refine Wk.ifYes X200 hx (hb hby at_182) ((if0 _ _).trans (flt hc182).2.1) (by decide) (n := 189) (by decide) ?_
          refine Wk.iconst X200 hx (hb hby at_189) (n := 190) rfl (z := (0 : Int32)) rfl ?_
          have hs : sgl p2 = [] := if_neg hc182
          have hsl : (sgl p2).length = 0 := by rw [hs]; rfl
          refine Wk.istore X200 hx (hb hby at_190) (n := 192) rfl (L' := #[.val (.int p1), .val (.long j1), .second, .val (.int p2), .val (.int (2 : Int32)), .val (.int tl), .val (.int fl), .val (.int c0), .val (.int c1), .val (.int c2), .val (.ref ah), .val (.ref rh), .val lg, .val (.ref b191), .val (.ref r_198), .val (.long (Int64.ofNat (mg p2))), .second, .val (.int (Int32.ofNat (dl (mg p2)).length)), .val (.int (0 : Int32)), .unset]) rfl ?_
          refine Wk.aload X200 hx (hb hby at_192) (n := 194) rfl rfl rfl ?_
          have f212 := (f197.keep J198 all0)
          obtain ⟨cq211, kq211, qn211a, qn211b, qn211c⟩ := isOf hZ e200 p198_0
          have cl211_ := fun (Ls : Array Slot) (hLs : Ls.size = c.maxLocals) => X200.virtualBack hx (y := (⟨"java/lang/String", "length", "()I"⟩ : MethodName)) (z := (⟨"java/lang/String", "length", "()I"⟩ : MethodName)) hown (mvT hZ (hw _ (List.mem_of_getElem? (i := 186) rfl))) (mvT hZ (hw _ (List.mem_of_getElem? (i := 77) rfl))) (notFace_of_selects (args := #[]) (mvT hZ (hw _ (List.mem_of_getElem? (i := 79) rfl)))) (mvT hZ (hw _ (List.mem_of_getElem? (i := 79) rfl))) (mvT hZ (hw _ (List.mem_of_getElem? (i := 78) rfl))) (by decide) (StrChars.Road.lenW (W := 0) hZ (fun d hd => hw d (own_wl d hd)) (kI := 4) (hw _ (List.mem_of_getElem? (i := 3) rfl)) p198_0 p198_1 p198_2 p198_3 (StrChars.Road.codOf (cs := ([c0, c1] ++ 58 :: (sgl p2 ++ dl (mg p2)))) (n := ([c0, c1] ++ 58 :: (sgl p2 ++ dl (mg p2))).length) rfl (fun c hc => (qp c hc).2)) (own_up qp) (Sta.ext f212.2 S4) hCS (by omega) (by decide) (by decide)) qn211a qn211c (g := mkF m 194 Ls [(.ref r_198)]) rfl hLs (Steps.refl _) (argsL := []) (rest := []) (lenOf pd_7 rfl) rfl (by show 2 * 0 + _ ≤ _; exact Nat.le_of_eq rfl) (hb hby at_194) (fun _ _ => ⟨rfl, e200, (by decide : 16 + 1 + 0 + 6 + 0 + 0 + 0 ≤ _), (by decide : 44 + 4 + 0 + 48 + 0 + 0 + 0 ≤ _)⟩)
          refine Wk.back (n := 197) (rc := 0) (rs := 0) (Q := fun v h' L => (v = some (.int (Int32.ofNat (([c0, c1] ++ 58 :: (sgl p2 ++ dl (mg p2))) : List Int32).length)) ∧ L = [] ∧ h' = T198.heap)) (cl211_ _ (by rw [hml]; rfl)) fun vn211 T211 L211 X211 hQ211 => ?_
          clear cl211_
          obtain ⟨rfl, rfl, e211⟩ := hQ211
          have N211 := Fr.app N200 (Fr.nil n0)
          show Wk p e below _ T211 (mkF m 197 _ [(.int (Int32.ofNat ([c0, c1] ++ 58 :: (sgl p2 ++ dl (mg p2))).length))])
          refine Wk.iload X211 hx (hb hby at_197) (n := 199) rfl rfl ?_
          refine Wk.iconst X211 hx (hb hby at_199) (n := 200) rfl (z := (1 : Int32)) rfl ?_
          refine Wk.iadd X211 hx (hb hby at_200) (n := 201) rfl ?_
          refine Wk.iload X211 hx (hb hby at_201) (n := 203) rfl rfl ?_
          refine Wk.iadd X211 hx (hb hby at_203) (n := 204) rfl ?_
          refine Wk.iload X211 hx (hb hby at_204) (n := 206) rfl rfl ?_
          refine Wk.iadd X211 hx (hb hby at_206) (n := 207) rfl ?_
          have hc207_213 : (Int32.ofNat ([c0, c1] ++ 58 :: (sgl p2 ++ dl (mg p2))).length) = ((((2 : Int32) + (1 : Int32)) + (0 : Int32)) + (Int32.ofNat (dl (mg p2)).length)) := by rw [lp, hsl, ← own_ofadd]; rfl
          refine Wk.icmpYes X211 hx (hb hby at_207) (teq hc207_213).1 (by decide) (n := 212) (by decide) ?_
          refine Wk.iload X211 hx (hb hby at_212) (n := 214) rfl rfl ?_
          have hc214_214 : (0 : Int32) < (2 : Int32) := by decide
          refine Wk.ifNo X211 hx (hb hby at_214) (n := 217) rfl ((if0 _ _).trans (tlt hc214_214).2.2.2) ?_
          refine Wk.aload X211 hx (hb hby at_217) (n := 219) rfl rfl rfl ?_
          refine Wk.iconst X211 hx (hb hby at_219) (n := 220) rfl (z := (0 : Int32)) rfl ?_
          obtain ⟨cq215, kq215, qn215a, qn215b, qn215c⟩ := isOf hZ e211 p198_0
          have cl215_ := fun (Ls : Array Slot) (hLs : Ls.size = c.maxLocals) => X211.virtualBack hx (y := (⟨"java/lang/String", "charAt", "(I)C"⟩ : MethodName)) (z := (⟨"java/lang/String", "charAt", "(I)C"⟩ : MethodName)) hown (mvT hZ (hw _ (List.mem_of_getElem? (i := 187) rfl))) (mvT hZ (hw _ (List.mem_of_getElem? (i := 188) rfl))) (notFace_of_selects (args := #[]) (mvT hZ (hw _ (List.mem_of_getElem? (i := 190) rfl)))) (mvT hZ (hw _ (List.mem_of_getElem? (i := 190) rfl))) (mvT hZ (hw _ (List.mem_of_getElem? (i := 189) rfl))) (by decide) (StrChars.Road.chN (W := 0) hZ (fun d hd => hw d (own_wc d hd)) (kI := 4) (hw _ (List.mem_of_getElem? (i := 3) rfl)) p198_0 p198_1 p198_2 p198_3 (StrChars.Road.codOf (cs := ([c0, c1] ++ 58 :: (sgl p2 ++ dl (mg p2)))) (n := ([c0, c1] ++ 58 :: (sgl p2 ++ dl (mg p2))).length) rfl (fun c hc => (qp c hc).2)) (own_up qp) (Sta.ext f212.2 S4) hCS (Sta.ext f212.2 S5) hFM (by omega) (i := 0) (by rw [lp]; omega) (j := (0 : Int32)) rfl (by decide) (by decide)) qn215a qn215c (g := mkF m 220 Ls [(.int (0 : Int32)), (.ref r_198)]) rfl hLs (Steps.refl _) (argsL := [(.int (0 : Int32))]) (rest := []) (lenOf pd_25 rfl) rfl (by show 2 * 0 + _ ≤ _; exact Nat.le_of_eq rfl) (hb hby at_220) (fun _ _ => ⟨rfl, e211, (by decide : 16 + 1 + 0 + 6 + 0 + 0 + 0 + 0 ≤ _), (by decide : 44 + 4 + 0 + 48 + 0 + 0 + 0 + 0 ≤ _)⟩)
          refine Wk.back (n := 223) (rc := 0) (rs := 0) (Q := fun v h' L => (v = some (.int ((([c0, c1] ++ 58 :: (sgl p2 ++ dl (mg p2))) : List Int32).getD 0 0)) ∧ L = [] ∧ h' = T198.heap)) (cl215_ _ (by rw [hml]; rfl)) fun vn215 T215 L215 X215 hQ215 => ?_
          clear cl215_
          obtain ⟨rfl, rfl, e215⟩ := hQ215
          have N215 := Fr.app N211 (Fr.nil n0)
          show Wk p e below _ T215 (mkF m 223 _ [(.int (([c0, c1] ++ 58 :: (sgl p2 ++ dl (mg p2))).getD 0 0))])
          refine Wk.iload X215 hx (hb hby at_223) (n := 225) rfl rfl ?_
          have hc225_216 : (([c0, c1] ++ 58 :: (sgl p2 ++ dl (mg p2))).getD 0 0) = c0 := rfl
          refine Wk.icmpYes X215 hx (hb hby at_225) (teq hc225_216).1 (by decide) (n := 230) (by decide) ?_
          refine Wk.iload X215 hx (hb hby at_230) (n := 232) rfl rfl ?_
          refine Wk.iconst X215 hx (hb hby at_232) (n := 233) rfl (z := (1 : Int32)) rfl ?_
          have hc233_217 : (1 : Int32) < (2 : Int32) := by decide
          refine Wk.icmpNo X215 hx (hb hby at_233) (n := 236) rfl (tlt hc233_217).2.2.2 ?_
          refine Wk.aload X215 hx (hb hby at_236) (n := 238) rfl rfl rfl ?_
          refine Wk.iconst X215 hx (hb hby at_238) (n := 239) rfl (z := (1 : Int32)) rfl ?_
          obtain ⟨cq218, kq218, qn218a, qn218b, qn218c⟩ := isOf hZ e215 p198_0
          have cl218_ := fun (Ls : Array Slot) (hLs : Ls.size = c.maxLocals) => X215.virtualBack hx (y := (⟨"java/lang/String", "charAt", "(I)C"⟩ : MethodName)) (z := (⟨"java/lang/String", "charAt", "(I)C"⟩ : MethodName)) hown (mvT hZ (hw _ (List.mem_of_getElem? (i := 187) rfl))) (mvT hZ (hw _ (List.mem_of_getElem? (i := 188) rfl))) (notFace_of_selects (args := #[]) (mvT hZ (hw _ (List.mem_of_getElem? (i := 190) rfl)))) (mvT hZ (hw _ (List.mem_of_getElem? (i := 190) rfl))) (mvT hZ (hw _ (List.mem_of_getElem? (i := 189) rfl))) (by decide) (StrChars.Road.chN (W := 0) hZ (fun d hd => hw d (own_wc d hd)) (kI := 4) (hw _ (List.mem_of_getElem? (i := 3) rfl)) p198_0 p198_1 p198_2 p198_3 (StrChars.Road.codOf (cs := ([c0, c1] ++ 58 :: (sgl p2 ++ dl (mg p2)))) (n := ([c0, c1] ++ 58 :: (sgl p2 ++ dl (mg p2))).length) rfl (fun c hc => (qp c hc).2)) (own_up qp) (Sta.ext f212.2 S4) hCS (Sta.ext f212.2 S5) hFM (by omega) (i := 1) (by rw [lp]; omega) (j := (1 : Int32)) rfl (by decide) (by decide)) qn218a qn218c (g := mkF m 239 Ls [(.int (1 : Int32)), (.ref r_198)]) rfl hLs (Steps.refl _) (argsL := [(.int (1 : Int32))]) (rest := []) (lenOf pd_25 rfl) rfl (by show 2 * 0 + _ ≤ _; exact Nat.le_of_eq rfl) (hb hby at_239) (fun _ _ => ⟨rfl, e215, (by decide : 16 + 1 + 0 + 6 + 0 + 0 + 0 + 0 + 0 ≤ _), (by decide : 44 + 4 + 0 + 48 + 0 + 0 + 0 + 0 + 0 ≤ _)⟩)
          refine Wk.back (n := 242) (rc := 0) (rs := 0) (Q := fun v h' L => (v = some (.int ((([c0, c1] ++ 58 :: (sgl p2 ++ dl (mg p2))) : List Int32).getD 1 0)) ∧ L = [] ∧ h' = T198.heap)) (cl218_ _ (by rw [hml]; rfl)) fun vn218 T218 L218 X218 hQ218 => ?_
          clear cl218_
          obtain ⟨rfl, rfl, e218⟩ := hQ218
          have N218 := Fr.app N215 (Fr.nil n0)
          show Wk p e below _ T218 (mkF m 242 _ [(.int (([c0, c1] ++ 58 :: (sgl p2 ++ dl (mg p2))).getD 1 0))])
          refine Wk.iload X218 hx (hb hby at_242) (n := 244) rfl rfl ?_
          have hc244_219 : (([c0, c1] ++ 58 :: (sgl p2 ++ dl (mg p2))).getD 1 0) = c1 := rfl
          refine Wk.icmpYes X218 hx (hb hby at_244) (teq hc244_219).1 (by decide) (n := 249) (by decide) ?_
          refine Wk.iload X218 hx (hb hby at_249) (n := 251) rfl rfl ?_
          refine Wk.iconst X218 hx (hb hby at_251) (n := 252) rfl (z := (2 : Int32)) rfl ?_
          have hc252_220 : ¬ ((2 : Int32) < (2 : Int32)) := by decide
          refine Wk.icmpYes X218 hx (hb hby at_252) (flt hc252_220).2.2.2 (by decide) (n := 268) (by decide) ?_
          exact jt_b T218 T198.heap _ us198 _ (2 : Int32) tl fl c0 c1 c2 ah rh b191 r_198 t_198 kb_198 lg (0 : Int32) ([c0, c1] ++ 58 :: (sgl p2 ++ dl (mg p2))) ([c0, c1] ++ 58 :: sgl p2) ([c0, c1]) (X218.mono (by decide) (by decide)) e218 K198 N218 Bs198 (by omega) hZ hown R198 p198_0 p198_1 p198_2 p198_3 f212 hlg qp (by simp) (by simp; omega) rfl rfl (Nat.le_of_ble_eq_true rfl) (Or.inr ⟨hc182, rfl⟩)
      refine Wk.iloadN X0 hx (hb hby at_18) (n := 19) rfl rfl ?_
      refine Wk.bipush X0 hx (hb hby at_19) (n := 21) rfl (z := (8 : Int32)) rfl ?_
      refine Wk.iand X0 hx (hb hby at_21) (n := 22) rfl ?_
      by_cases hc22 : (p1 &&& (8 : Int32)) = (0 : Int32)
      ·
        refine Wk.ifYes X0 hx (hb hby at_22) ((if0 _ _).trans (teq hc22).1) (by decide) (n := 29) (by decide) ?_
        refine Wk.iconst X0 hx (hb hby at_29) (n := 30) rfl (z := (0 : Int32)) rfl ?_
        refine Wk.istore X0 hx (hb hby at_30) (n := 32) rfl (L' := #[.val (.int p1), .val (.long j1), .second, .val (.int p2), .val (.int (2 : Int32)), .val (.int tl), .val (.int (0 : Int32)), .unset, .unset, .unset, .unset, .unset, .unset, .unset, .unset, .unset, .unset, .unset, .unset, .unset]) rfl ?_
        refine Wk.lloadN X0 hx (hb hby at_32) (n := 33) rfl rfl ?_
        refine Wk.ldc2Long X0 hx hown (mvT hZ (hw _ (List.mem_of_getElem? (i := 0) rfl))) (hb hby at_33) (n := 36) rfl ?_
        refine Wk.land X0 hx (hb hby at_36) (n := 37) rfl ?_
        refine Wk.l2i X0 hx (hb hby at_37) (n := 38) rfl ?_
        obtain ⟨c0, q_c0⟩ : ∃ z : Int32, z = (((j1 &&& (255 : Int64)).toInt32).toUInt32.toUInt16.toUInt32.toInt32) := ⟨_, rfl⟩
        have n_c0 : nar .char c0 = c0 := by rw [q_c0]; exact own_cL _
        have r_c0 : ¬ c0 < 0 ∧ ¬ (255 : Int32) < c0 := by rw [q_c0]; exact own_rL _
        refine Wk.i2c X0 hx (hb hby at_38) (n := 39) rfl q_c0.symm ?_
        refine Wk.istore X0 hx (hb hby at_39) (n := 41) rfl (L' := #[.val (.int p1), .val (.long j1), .second, .val (.int p2), .val (.int (2 : Int32)), .val (.int tl), .val (.int (0 : Int32)), .val (.int c0), .unset, .unset, .unset, .unset, .unset, .unset, .unset, .unset, .unset, .unset, .unset, .unset]) rfl ?_
        refine Wk.lloadN X0 hx (hb hby at_41) (n := 42) rfl rfl ?_
        refine Wk.bipush X0 hx (hb hby at_42) (n := 44) rfl (z := (8 : Int32)) rfl ?_
        refine Wk.lushr X0 hx (hb hby at_44) (n := 45) rfl (z := ((j1.toUInt64 >>> ((8 : Int32) &&& 63).toInt64.toUInt64).toInt64)) rfl ?_
        refine Wk.ldc2Long X0 hx hown (mvT hZ (hw _ (List.mem_of_getElem? (i := 0) rfl))) (hb hby at_45) (n := 48) rfl ?_
        refine Wk.land X0 hx (hb hby at_48) (n := 49) rfl ?_
        refine Wk.l2i X0 hx (hb hby at_49) (n := 50) rfl ?_
        obtain ⟨c1, q_c1⟩ : ∃ z : Int32, z = (((((j1.toUInt64 >>> ((8 : Int32) &&& 63).toInt64.toUInt64).toInt64) &&& (255 : Int64)).toInt32).toUInt32.toUInt16.toUInt32.toInt32) := ⟨_, rfl⟩
        have n_c1 : nar .char c1 = c1 := by rw [q_c1]; exact own_cL _
        have r_c1 : ¬ c1 < 0 ∧ ¬ (255 : Int32) < c1 := by rw [q_c1]; exact own_rL _
        refine Wk.i2c X0 hx (hb hby at_50) (n := 51) rfl q_c1.symm ?_
        refine Wk.istore X0 hx (hb hby at_51) (n := 53) rfl (L' := #[.val (.int p1), .val (.long j1), .second, .val (.int p2), .val (.int (2 : Int32)), .val (.int tl), .val (.int (0 : Int32)), .val (.int c0), .val (.int c1), .unset, .unset, .unset, .unset, .unset, .unset, .unset, .unset, .unset, .unset, .unset]) rfl ?_
        refine Wk.lloadN X0 hx (hb hby at_53) (n := 54) rfl rfl ?_
        refine Wk.bipush X0 hx (hb hby at_54) (n := 56) rfl (z := (16 : Int32)) rfl ?_
        refine Wk.lushr X0 hx (hb hby at_56) (n := 57) rfl (z := ((j1.toUInt64 >>> ((16 : Int32) &&& 63).toInt64.toUInt64).toInt64)) rfl ?_
        refine Wk.ldc2Long X0 hx hown (mvT hZ (hw _ (List.mem_of_getElem? (i := 0) rfl))) (hb hby at_57) (n := 60) rfl ?_
        refine Wk.land X0 hx (hb hby at_60) (n := 61) rfl ?_
        refine Wk.l2i X0 hx (hb hby at_61) (n := 62) rfl ?_
        obtain ⟨c2, q_c2⟩ : ∃ z : Int32, z = (((((j1.toUInt64 >>> ((16 : Int32) &&& 63).toInt64.toUInt64).toInt64) &&& (255 : Int64)).toInt32).toUInt32.toUInt16.toUInt32.toInt32) := ⟨_, rfl⟩
        have n_c2 : nar .char c2 = c2 := by rw [q_c2]; exact own_cL _
        have r_c2 : ¬ c2 < 0 ∧ ¬ (255 : Int32) < c2 := by rw [q_c2]; exact own_rL _
        refine Wk.i2c X0 hx (hb hby at_62) (n := 63) rfl q_c2.symm ?_
        refine Wk.istore X0 hx (hb hby at_63) (n := 65) rfl (L' := #[.val (.int p1), .val (.long j1), .second, .val (.int p2), .val (.int (2 : Int32)), .val (.int tl), .val (.int (0 : Int32)), .val (.int c0), .val (.int c1), .val (.int c2), .unset, .unset, .unset, .unset, .unset, .unset, .unset, .unset, .unset, .unset]) rfl ?_
        refine Wk.iload X0 hx (hb hby at_65) (n := 67) rfl rfl ?_
        refine Wk.newP X0 hx hZ (hw _ (List.mem_of_getElem? (i := 1) rfl)) e0 (hb hby at_67) (n := 69) rfl (by decide) (cap := 2) (by decide) (by decide) (by decide) (by decide) fun T221 H221 b221 k221 gn221 X221 e221 Ex221 An221 => ?_
        have gn221 := nx gn221
        have sz221 := Ex221.1
        have K221 := K0.ext Ex221
        have R221 := R0.trans (CHr.ext Ex221 R0.1)
        have Vn221 : Arv Z H221 b221 k221 .char (2 : Int32) [(.int (0 : Int32)), (.int (0 : Int32))] (.int (0 : Int32)) := (Arv.new An221 (by decide)).pad (pad_rep [] (.int (0 : Int32)) 2)
        have lt221 := ny Vn221.lt
        refine Wk.astore X221 hx (hb hby at_69) (n := 71) rfl rfl (L' := #[.val (.int p1), .val (.long j1), .second, .val (.int p2), .val (.int (2 : Int32)), .val (.int tl), .val (.int (0 : Int32)), .val (.int c0), .val (.int c1), .val (.int c2), .val (.ref b221), .unset, .unset, .unset, .unset, .unset, .unset, .unset, .unset, .unset]) rfl ?_
        refine Wk.iload X221 hx (hb hby at_71) (n := 73) rfl rfl ?_
        have hc73_222 : (0 : Int32) < (2 : Int32) := by decide
        refine Wk.ifNo X221 hx (hb hby at_73) (n := 76) rfl ((if0 _ _).trans (tlt hc73_222).2.2.2) ?_
        refine Wk.aload X221 hx (hb hby at_76) (n := 78) rfl rfl rfl ?_
        refine Wk.iconst X221 hx (hb hby at_78) (n := 79) rfl (z := (0 : Int32)) rfl ?_
        refine Wk.iload X221 hx (hb hby at_79) (n := 81) rfl rfl ?_
        obtain ⟨cl223, Ar223, qn223, Sz223, N_223, H_223, Gn223⟩ := id Vn221
        have hin223 : ¬ ((0 : Int32) < 0 ∨ cl223.slots.size ≤ ((0 : Int32)).toNatClampNeg) := inb_of Sz223 ⟨by decide, by decide⟩
        refine Wk.stC X221 hx hZ e221 Ar223 hin223 (hb hby at_81) (n := 82) rfl fun T223 H223 X223 e223 Wn223 => ?_
        have Vn223 := Arv.set Ar223 qn223 Sz223 N_223 H_223 Gn223 (fits_nar_char _) Wn223 0 rfl (Nat.le_of_ble_eq_true rfl)
        have Un223 : Arv Z H223 b221 k221 .char (2 : Int32) [(.int c0), (.int (0 : Int32))] (.int (0 : Int32)) := by have q := Vn223; rw [n_c0] at q; exact q
        have sz223 := Wn223.size
        have Sw223 := (Safe.arv (EL := own_EL) hZ.alike Vn221 (by simp))
        have R223 := R221.trans (CHr.wr Wn223 Sw223 R221.1)
        have K223 := K221.wr Wn223 (Or.inr (by omega))
        have N223 := Fr.snoc X223 N0 (by omega)
        refine Wk.iload X223 hx (hb hby at_82) (n := 84) rfl rfl ?_
        refine Wk.iconst X223 hx (hb hby at_84) (n := 85) rfl (z := (1 : Int32)) rfl ?_
        have hc85_224 : (1 : Int32) < (2 : Int32) := by decide
        refine Wk.icmpNo X223 hx (hb hby at_85) (n := 88) rfl (tlt hc85_224).2.2.2 ?_
        refine Wk.aload X223 hx (hb hby at_88) (n := 90) rfl rfl rfl ?_
        refine Wk.iconst X223 hx (hb hby at_90) (n := 91) rfl (z := (1 : Int32)) rfl ?_
        refine Wk.iload X223 hx (hb hby at_91) (n := 93) rfl rfl ?_
        obtain ⟨cl225, Ar225, qn225, Sz225, N_225, H_225, Gn225⟩ := id Un223
        have hin225 : ¬ ((1 : Int32) < 0 ∨ cl225.slots.size ≤ ((1 : Int32)).toNatClampNeg) := inb_of Sz225 ⟨by decide, by decide⟩
        refine Wk.stC X223 hx hZ e223 Ar225 hin225 (hb hby at_93) (n := 94) rfl fun T225 H225 X225 e225 Wn225 => ?_
        have Vn225 := Arv.set Ar225 qn225 Sz225 N_225 H_225 Gn225 (fits_nar_char _) Wn225 1 rfl (Nat.le_of_ble_eq_true rfl)
        have Un225 : Arv Z H225 b221 k221 .char (2 : Int32) [(.int c0), (.int c1)] (.int (0 : Int32)) := by have q := Vn225; rw [n_c1] at q; exact q
        have sz225 := Wn225.size
        have Sw225 := (Safe.arv (EL := own_EL) hZ.alike Un223 (by simp))
        have R225 := R223.trans (CHr.wr Wn225 Sw225 R223.1)
        have K225 := K223.wr Wn225 (Or.inr (by omega))
        have N225 := Fr.snoc X225 N223 (by omega)
        refine Wk.iload X225 hx (hb hby at_94) (n := 96) rfl rfl ?_
        refine Wk.iconst X225 hx (hb hby at_96) (n := 97) rfl (z := (2 : Int32)) rfl ?_
        have hc97_226 : ¬ ((2 : Int32) < (2 : Int32)) := by decide
        refine Wk.icmpYes X225 hx (hb hby at_97) (flt hc97_226).2.2.2 (by decide) (n := 106) (by decide) ?_
        refine Wk.newO X225 hx hZ hown (hw _ (List.mem_of_getElem? (i := 2) rfl)) (hw _ (List.mem_of_getElem? (i := 3) rfl)) (hw _ (List.mem_of_getElem? (i := 4) rfl)) e225 (hb hby at_106) (n := 109) rfl (by decide) (by decide) fun T227 H227 b227 gn227 X227 e227 Ex227 An227 Dn227 Yn227 => ?_
        have gn227 := nx gn227
        have sz227 := Ex227.1
        have lt227 := ny An227.lt
        have K227 := K225.ext Ex227
        have R227 := R225.trans (CHr.ext Ex227 R225.1)
        have Sf227 := Safe.ext (x := b227) Ex227 R225.1 (Safe.new (Nat.le_of_eq gn227.symm))
        have Fn227_value : Fld Z H227 b227 "java/lang/String" "value" "[B" .null := Dn227 (Or.inr (hw _ (List.mem_of_getElem? (i := 17) rfl))) (ty := (.array .byte)) (by decide)
        have Fn227_coder : Fld Z H227 b227 "java/lang/String" "coder" "B" (.int (0 : Int32)) := Dn227 (Or.inr (hw _ (List.mem_of_getElem? (i := 18) rfl))) (ty := .byte) (by decide)
        refine Wk.dup X227 hx (hb hby at_109) (n := 110) rfl rfl ?_
        refine Wk.aload X227 hx (hb hby at_110) (n := 112) rfl rfl rfl ?_
        have f229 := (Un225.ext Ex227)
        have f230 := ((((O1.ext Ex221).wr Wn223 (by omega)).wr Wn225 (by omega)).ext Ex227)
        have hp231 : ∀ c ∈ ([c0, c1] : List Int32), ¬ c < 0 ∧ ¬ (255 : Int32) < c := List.forall_mem_cons.mpr ⟨r_c0, List.forall_mem_cons.mpr ⟨r_c1, (fun _ q => nomatch q)⟩⟩
        have cl228_ := fun (Ls : Array Slot) (hLs : Ls.size = c.maxLocals) => X227.specialBack hx (y := (⟨"java/lang/String", "<init>", "([C)V"⟩ : MethodName)) rfl hown (mvT hZ (hw _ (List.mem_of_getElem? (i := 5) rfl))) (mvT hZ (hw _ (List.mem_of_getElem? (i := 6) rfl))) (mvT hZ (hw _ (List.mem_of_getElem? (i := 7) rfl))) (by decide) (StrChars.Road.backV (n0 := n0) (h := H227) (x := b227) (W := 1) hZ (fun d hd => hw d (own_ws d hd)) (kI := 4) (hw _ (List.mem_of_getElem? (i := 3) rfl)) (cs := [c0, c1]) (bs := (([c0, c1] : List Int32).map (fun c => c.toInt8.toInt32))) (n := 2) (by omega) (by omega) An227 Fn227_value Fn227_coder f229 (Sta.ext f230.2 S4) hCS rfl rfl (by decide) (by decide) hp231 rfl (by decide) (by decide)) (g := mkF m 112 Ls [(.ref b221), (.ref b227), (.ref b227)]) rfl hLs (Steps.refl _) (a := b227) (argsL := [(.ref b221)]) (rest := [(.ref b227)]) (lenOf pd_30 rfl) rfl (by show 2 * 0 + _ ≤ _; exact Nat.le_of_eq rfl) (hb hby at_112) (fun _ _ => ⟨rfl, e227, (by decide : 0 + 1 + 1 + 1 ≤ _), (by decide : 0 + 2 + 4 + 2 ≤ _)⟩)
        refine Wk.back (n := 115) (rc := 1) (rs := 2) (Q := StrChars.Road.QV Z b227 (2 : Int32) (([c0, c1] : List Int32).map (fun c => c.toInt8.toInt32)) H227 n0) (cl228_ _ (by rw [hml]; rfl)) fun vn228 T228 L228 X228 hQ228 => ?_
        clear cl228_
        obtain ⟨rfl, M228, J228, p228_0, p228_1, t_228, kb_228, _, ge_228, nt_228, p228_2, p228_3⟩ := hQ228
        have nt_228 := nw nt_228
        have N228 := Fr.app N225 M228
        have sz228 := J228.1
        have hs228 : ∀ x ∈ ([b227] : List Addr), Safe Z own_EL s.vm H227 x := (sfS Sf227 sf0)
        have R228 := R227.trans (CHr.keep J228 hs228 R227.1)
        have K228 := K227.trans J228 (allS (Or.inr (by omega)) all0)
        have lt_p228 := ny p228_3.lt
        show Wk p e below _ T228 (mkF m 115 _ [(.ref b227)])
        refine Wk.astore X228 hx (hb hby at_115) (n := 117) rfl rfl (L' := #[.val (.int p1), .val (.long j1), .second, .val (.int p2), .val (.int (2 : Int32)), .val (.int tl), .val (.int (0 : Int32)), .val (.int c0), .val (.int c1), .val (.int c2), .val (.ref b221), .val (.ref b227), .unset, .unset, .unset, .unset, .unset, .unset, .unset, .unset]) rfl ?_
        refine Wk.aconstNull X228 hx (hb hby at_117) (n := 118) rfl ?_
        refine Wk.astore X228 hx (hb hby at_118) (n := 120) rfl rfl (L' := #[.val (.int p1), .val (.long j1), .second, .val (.int p2), .val (.int (2 : Int32)), .val (.int tl), .val (.int (0 : Int32)), .val (.int c0), .val (.int c1), .val (.int c2), .val (.ref b221), .val (.ref b227), .val .null, .unset, .unset, .unset, .unset, .unset, .unset, .unset]) rfl ?_
        refine Wk.iload X228 hx (hb hby at_120) (n := 122) rfl rfl ?_
        have hc122_232 : (0 : Int32) = (0 : Int32) := rfl
        refine Wk.ifYes X228 hx (hb hby at_122) ((if0 _ _).trans (teq hc122_232).1) (by decide) (n := 144) (by decide) ?_
        have f233 := (f230.keep J228 (allS (by omega) all0))
        exact jt_c T228 T228.heap _ s _ c0 c1 c2 (0 : Int32) b221 b227 t_228 kb_228 .null (X228.mono (by decide) (by decide)) rfl K228 N228 Bs0 (by omega) hZ hown R228 p228_0 p228_2 p228_1 p228_3 f233 hp231 rfl
      ·
        refine Wk.ifNo X0 hx (hb hby at_22) (n := 25) rfl ((if0 _ _).trans (feq hc22).1) ?_
        refine Wk.iconst X0 hx (hb hby at_25) (n := 26) rfl (z := (1 : Int32)) rfl ?_
        refine Wk.goto X0 hx (hb hby at_26) (by decide) (n := 30) (by decide) ?_
        refine Wk.istore X0 hx (hb hby at_30) (n := 32) rfl (L' := #[.val (.int p1), .val (.long j1), .second, .val (.int p2), .val (.int (2 : Int32)), .val (.int tl), .val (.int (1 : Int32)), .unset, .unset, .unset, .unset, .unset, .unset, .unset, .unset, .unset, .unset, .unset, .unset, .unset]) rfl ?_
        refine Wk.lloadN X0 hx (hb hby at_32) (n := 33) rfl rfl ?_
        refine Wk.ldc2Long X0 hx hown (mvT hZ (hw _ (List.mem_of_getElem? (i := 0) rfl))) (hb hby at_33) (n := 36) rfl ?_
        refine Wk.land X0 hx (hb hby at_36) (n := 37) rfl ?_
        refine Wk.l2i X0 hx (hb hby at_37) (n := 38) rfl ?_
        obtain ⟨c0, q_c0⟩ : ∃ z : Int32, z = (((j1 &&& (255 : Int64)).toInt32).toUInt32.toUInt16.toUInt32.toInt32) := ⟨_, rfl⟩
        have n_c0 : nar .char c0 = c0 := by rw [q_c0]; exact own_cL _
        have r_c0 : ¬ c0 < 0 ∧ ¬ (255 : Int32) < c0 := by rw [q_c0]; exact own_rL _
        refine Wk.i2c X0 hx (hb hby at_38) (n := 39) rfl q_c0.symm ?_
        refine Wk.istore X0 hx (hb hby at_39) (n := 41) rfl (L' := #[.val (.int p1), .val (.long j1), .second, .val (.int p2), .val (.int (2 : Int32)), .val (.int tl), .val (.int (1 : Int32)), .val (.int c0), .unset, .unset, .unset, .unset, .unset, .unset, .unset, .unset, .unset, .unset, .unset, .unset]) rfl ?_
        refine Wk.lloadN X0 hx (hb hby at_41) (n := 42) rfl rfl ?_
        refine Wk.bipush X0 hx (hb hby at_42) (n := 44) rfl (z := (8 : Int32)) rfl ?_
        refine Wk.lushr X0 hx (hb hby at_44) (n := 45) rfl (z := ((j1.toUInt64 >>> ((8 : Int32) &&& 63).toInt64.toUInt64).toInt64)) rfl ?_
        refine Wk.ldc2Long X0 hx hown (mvT hZ (hw _ (List.mem_of_getElem? (i := 0) rfl))) (hb hby at_45) (n := 48) rfl ?_
        refine Wk.land X0 hx (hb hby at_48) (n := 49) rfl ?_
        refine Wk.l2i X0 hx (hb hby at_49) (n := 50) rfl ?_
        obtain ⟨c1, q_c1⟩ : ∃ z : Int32, z = (((((j1.toUInt64 >>> ((8 : Int32) &&& 63).toInt64.toUInt64).toInt64) &&& (255 : Int64)).toInt32).toUInt32.toUInt16.toUInt32.toInt32) := ⟨_, rfl⟩
        have n_c1 : nar .char c1 = c1 := by rw [q_c1]; exact own_cL _
        have r_c1 : ¬ c1 < 0 ∧ ¬ (255 : Int32) < c1 := by rw [q_c1]; exact own_rL _
        refine Wk.i2c X0 hx (hb hby at_50) (n := 51) rfl q_c1.symm ?_
        refine Wk.istore X0 hx (hb hby at_51) (n := 53) rfl (L' := #[.val (.int p1), .val (.long j1), .second, .val (.int p2), .val (.int (2 : Int32)), .val (.int tl), .val (.int (1 : Int32)), .val (.int c0), .val (.int c1), .unset, .unset, .unset, .unset, .unset, .unset, .unset, .unset, .unset, .unset, .unset]) rfl ?_
        refine Wk.lloadN X0 hx (hb hby at_53) (n := 54) rfl rfl ?_
        refine Wk.bipush X0 hx (hb hby at_54) (n := 56) rfl (z := (16 : Int32)) rfl ?_
        refine Wk.lushr X0 hx (hb hby at_56) (n := 57) rfl (z := ((j1.toUInt64 >>> ((16 : Int32) &&& 63).toInt64.toUInt64).toInt64)) rfl ?_
        refine Wk.ldc2Long X0 hx hown (mvT hZ (hw _ (List.mem_of_getElem? (i := 0) rfl))) (hb hby at_57) (n := 60) rfl ?_
        refine Wk.land X0 hx (hb hby at_60) (n := 61) rfl ?_
        refine Wk.l2i X0 hx (hb hby at_61) (n := 62) rfl ?_
        obtain ⟨c2, q_c2⟩ : ∃ z : Int32, z = (((((j1.toUInt64 >>> ((16 : Int32) &&& 63).toInt64.toUInt64).toInt64) &&& (255 : Int64)).toInt32).toUInt32.toUInt16.toUInt32.toInt32) := ⟨_, rfl⟩
        have n_c2 : nar .char c2 = c2 := by rw [q_c2]; exact own_cL _
        have r_c2 : ¬ c2 < 0 ∧ ¬ (255 : Int32) < c2 := by rw [q_c2]; exact own_rL _
        refine Wk.i2c X0 hx (hb hby at_62) (n := 63) rfl q_c2.symm ?_
        refine Wk.istore X0 hx (hb hby at_63) (n := 65) rfl (L' := #[.val (.int p1), .val (.long j1), .second, .val (.int p2), .val (.int (2 : Int32)), .val (.int tl), .val (.int (1 : Int32)), .val (.int c0), .val (.int c1), .val (.int c2), .unset, .unset, .unset, .unset, .unset, .unset, .unset, .unset, .unset, .unset]) rfl ?_
        refine Wk.iload X0 hx (hb hby at_65) (n := 67) rfl rfl ?_
        refine Wk.newP X0 hx hZ (hw _ (List.mem_of_getElem? (i := 1) rfl)) e0 (hb hby at_67) (n := 69) rfl (by decide) (cap := 2) (by decide) (by decide) (by decide) (by decide) fun T234 H234 b234 k234 gn234 X234 e234 Ex234 An234 => ?_
        have gn234 := nx gn234
        have sz234 := Ex234.1
        have K234 := K0.ext Ex234
        have R234 := R0.trans (CHr.ext Ex234 R0.1)
        have Vn234 : Arv Z H234 b234 k234 .char (2 : Int32) [(.int (0 : Int32)), (.int (0 : Int32))] (.int (0 : Int32)) := (Arv.new An234 (by decide)).pad (pad_rep [] (.int (0 : Int32)) 2)
        have lt234 := ny Vn234.lt
        refine Wk.astore X234 hx (hb hby at_69) (n := 71) rfl rfl (L' := #[.val (.int p1), .val (.long j1), .second, .val (.int p2), .val (.int (2 : Int32)), .val (.int tl), .val (.int (1 : Int32)), .val (.int c0), .val (.int c1), .val (.int c2), .val (.ref b234), .unset, .unset, .unset, .unset, .unset, .unset, .unset, .unset, .unset]) rfl ?_
        refine Wk.iload X234 hx (hb hby at_71) (n := 73) rfl rfl ?_
        have hc73_235 : (0 : Int32) < (2 : Int32) := by decide
        refine Wk.ifNo X234 hx (hb hby at_73) (n := 76) rfl ((if0 _ _).trans (tlt hc73_235).2.2.2) ?_
        refine Wk.aload X234 hx (hb hby at_76) (n := 78) rfl rfl rfl ?_
        refine Wk.iconst X234 hx (hb hby at_78) (n := 79) rfl (z := (0 : Int32)) rfl ?_
        refine Wk.iload X234 hx (hb hby at_79) (n := 81) rfl rfl ?_
        obtain ⟨cl236, Ar236, qn236, Sz236, N_236, H_236, Gn236⟩ := id Vn234
        have hin236 : ¬ ((0 : Int32) < 0 ∨ cl236.slots.size ≤ ((0 : Int32)).toNatClampNeg) := inb_of Sz236 ⟨by decide, by decide⟩
        refine Wk.stC X234 hx hZ e234 Ar236 hin236 (hb hby at_81) (n := 82) rfl fun T236 H236 X236 e236 Wn236 => ?_
        have Vn236 := Arv.set Ar236 qn236 Sz236 N_236 H_236 Gn236 (fits_nar_char _) Wn236 0 rfl (Nat.le_of_ble_eq_true rfl)
        have Un236 : Arv Z H236 b234 k234 .char (2 : Int32) [(.int c0), (.int (0 : Int32))] (.int (0 : Int32)) := by have q := Vn236; rw [n_c0] at q; exact q
        have sz236 := Wn236.size
        have Sw236 := (Safe.arv (EL := own_EL) hZ.alike Vn234 (by simp))
        have R236 := R234.trans (CHr.wr Wn236 Sw236 R234.1)
        have K236 := K234.wr Wn236 (Or.inr (by omega))
        have N236 := Fr.snoc X236 N0 (by omega)
        refine Wk.iload X236 hx (hb hby at_82) (n := 84) rfl rfl ?_
        refine Wk.iconst X236 hx (hb hby at_84) (n := 85) rfl (z := (1 : Int32)) rfl ?_
        have hc85_237 : (1 : Int32) < (2 : Int32) := by decide
        refine Wk.icmpNo X236 hx (hb hby at_85) (n := 88) rfl (tlt hc85_237).2.2.2 ?_
        refine Wk.aload X236 hx (hb hby at_88) (n := 90) rfl rfl rfl ?_
        refine Wk.iconst X236 hx (hb hby at_90) (n := 91) rfl (z := (1 : Int32)) rfl ?_
        refine Wk.iload X236 hx (hb hby at_91) (n := 93) rfl rfl ?_
        obtain ⟨cl238, Ar238, qn238, Sz238, N_238, H_238, Gn238⟩ := id Un236
        have hin238 : ¬ ((1 : Int32) < 0 ∨ cl238.slots.size ≤ ((1 : Int32)).toNatClampNeg) := inb_of Sz238 ⟨by decide, by decide⟩
        refine Wk.stC X236 hx hZ e236 Ar238 hin238 (hb hby at_93) (n := 94) rfl fun T238 H238 X238 e238 Wn238 => ?_
        have Vn238 := Arv.set Ar238 qn238 Sz238 N_238 H_238 Gn238 (fits_nar_char _) Wn238 1 rfl (Nat.le_of_ble_eq_true rfl)
        have Un238 : Arv Z H238 b234 k234 .char (2 : Int32) [(.int c0), (.int c1)] (.int (0 : Int32)) := by have q := Vn238; rw [n_c1] at q; exact q
        have sz238 := Wn238.size
        have Sw238 := (Safe.arv (EL := own_EL) hZ.alike Un236 (by simp))
        have R238 := R236.trans (CHr.wr Wn238 Sw238 R236.1)
        have K238 := K236.wr Wn238 (Or.inr (by omega))
        have N238 := Fr.snoc X238 N236 (by omega)
        refine Wk.iload X238 hx (hb hby at_94) (n := 96) rfl rfl ?_
        refine Wk.iconst X238 hx (hb hby at_96) (n := 97) rfl (z := (2 : Int32)) rfl ?_
        have hc97_239 : ¬ ((2 : Int32) < (2 : Int32)) := by decide
        refine Wk.icmpYes X238 hx (hb hby at_97) (flt hc97_239).2.2.2 (by decide) (n := 106) (by decide) ?_
        refine Wk.newO X238 hx hZ hown (hw _ (List.mem_of_getElem? (i := 2) rfl)) (hw _ (List.mem_of_getElem? (i := 3) rfl)) (hw _ (List.mem_of_getElem? (i := 4) rfl)) e238 (hb hby at_106) (n := 109) rfl (by decide) (by decide) fun T240 H240 b240 gn240 X240 e240 Ex240 An240 Dn240 Yn240 => ?_
        have gn240 := nx gn240
        have sz240 := Ex240.1
        have lt240 := ny An240.lt
        have K240 := K238.ext Ex240
        have R240 := R238.trans (CHr.ext Ex240 R238.1)
        have Sf240 := Safe.ext (x := b240) Ex240 R238.1 (Safe.new (Nat.le_of_eq gn240.symm))
        have Fn240_value : Fld Z H240 b240 "java/lang/String" "value" "[B" .null := Dn240 (Or.inr (hw _ (List.mem_of_getElem? (i := 17) rfl))) (ty := (.array .byte)) (by decide)
        have Fn240_coder : Fld Z H240 b240 "java/lang/String" "coder" "B" (.int (0 : Int32)) := Dn240 (Or.inr (hw _ (List.mem_of_getElem? (i := 18) rfl))) (ty := .byte) (by decide)
        refine Wk.dup X240 hx (hb hby at_109) (n := 110) rfl rfl ?_
        refine Wk.aload X240 hx (hb hby at_110) (n := 112) rfl rfl rfl ?_
        have f242 := (Un238.ext Ex240)
        have f243 := ((((O1.ext Ex234).wr Wn236 (by omega)).wr Wn238 (by omega)).ext Ex240)
        have hp244 : ∀ c ∈ ([c0, c1] : List Int32), ¬ c < 0 ∧ ¬ (255 : Int32) < c := List.forall_mem_cons.mpr ⟨r_c0, List.forall_mem_cons.mpr ⟨r_c1, (fun _ q => nomatch q)⟩⟩
        have cl241_ := fun (Ls : Array Slot) (hLs : Ls.size = c.maxLocals) => X240.specialBack hx (y := (⟨"java/lang/String", "<init>", "([C)V"⟩ : MethodName)) rfl hown (mvT hZ (hw _ (List.mem_of_getElem? (i := 5) rfl))) (mvT hZ (hw _ (List.mem_of_getElem? (i := 6) rfl))) (mvT hZ (hw _ (List.mem_of_getElem? (i := 7) rfl))) (by decide) (StrChars.Road.backV (n0 := n0) (h := H240) (x := b240) (W := 1) hZ (fun d hd => hw d (own_ws d hd)) (kI := 4) (hw _ (List.mem_of_getElem? (i := 3) rfl)) (cs := [c0, c1]) (bs := (([c0, c1] : List Int32).map (fun c => c.toInt8.toInt32))) (n := 2) (by omega) (by omega) An240 Fn240_value Fn240_coder f242 (Sta.ext f243.2 S4) hCS rfl rfl (by decide) (by decide) hp244 rfl (by decide) (by decide)) (g := mkF m 112 Ls [(.ref b234), (.ref b240), (.ref b240)]) rfl hLs (Steps.refl _) (a := b240) (argsL := [(.ref b234)]) (rest := [(.ref b240)]) (lenOf pd_30 rfl) rfl (by show 2 * 0 + _ ≤ _; exact Nat.le_of_eq rfl) (hb hby at_112) (fun _ _ => ⟨rfl, e240, (by decide : 0 + 1 + 1 + 1 ≤ _), (by decide : 0 + 2 + 4 + 2 ≤ _)⟩)
        refine Wk.back (n := 115) (rc := 1) (rs := 2) (Q := StrChars.Road.QV Z b240 (2 : Int32) (([c0, c1] : List Int32).map (fun c => c.toInt8.toInt32)) H240 n0) (cl241_ _ (by rw [hml]; rfl)) fun vn241 T241 L241 X241 hQ241 => ?_
        clear cl241_
        obtain ⟨rfl, M241, J241, p241_0, p241_1, t_241, kb_241, _, ge_241, nt_241, p241_2, p241_3⟩ := hQ241
        have nt_241 := nw nt_241
        have N241 := Fr.app N238 M241
        have sz241 := J241.1
        have hs241 : ∀ x ∈ ([b240] : List Addr), Safe Z own_EL s.vm H240 x := (sfS Sf240 sf0)
        have R241 := R240.trans (CHr.keep J241 hs241 R240.1)
        have K241 := K240.trans J241 (allS (Or.inr (by omega)) all0)
        have lt_p241 := ny p241_3.lt
        show Wk p e below _ T241 (mkF m 115 _ [(.ref b240)])
        refine Wk.astore X241 hx (hb hby at_115) (n := 117) rfl rfl (L' := #[.val (.int p1), .val (.long j1), .second, .val (.int p2), .val (.int (2 : Int32)), .val (.int tl), .val (.int (1 : Int32)), .val (.int c0), .val (.int c1), .val (.int c2), .val (.ref b234), .val (.ref b240), .unset, .unset, .unset, .unset, .unset, .unset, .unset, .unset]) rfl ?_
        refine Wk.aconstNull X241 hx (hb hby at_117) (n := 118) rfl ?_
        refine Wk.astore X241 hx (hb hby at_118) (n := 120) rfl rfl (L' := #[.val (.int p1), .val (.long j1), .second, .val (.int p2), .val (.int (2 : Int32)), .val (.int tl), .val (.int (1 : Int32)), .val (.int c0), .val (.int c1), .val (.int c2), .val (.ref b234), .val (.ref b240), .val .null, .unset, .unset, .unset, .unset, .unset, .unset, .unset]) rfl ?_
        refine Wk.iload X241 hx (hb hby at_120) (n := 122) rfl rfl ?_
        have hc122_245 : ¬ ((1 : Int32) = (0 : Int32)) := by decide
        refine Wk.ifNo X241 hx (hb hby at_122) (n := 125) rfl ((if0 _ _).trans (feq hc122_245).1) ?_
        refine Wk.newO X241 hx hZ hown (hw _ (List.mem_of_getElem? (i := 222) rfl)) (hw _ (List.mem_of_getElem? (i := 223) rfl)) (hw _ (List.mem_of_getElem? (i := 224) rfl)) rfl (hb hby at_125) (n := 128) rfl (by decide) (by decide) fun T246 H246 b246 gn246 X246 e246 Ex246 An246 Dn246 Yn246 => ?_
        have gn246 := nx gn246
        have sz246 := Ex246.1
        have lt246 := ny An246.lt
        have K246 := K241.ext Ex246
        have R246 := R241.trans (CHr.ext Ex246 R241.1)
        have Fn246_user : Fld Z H246 b246 "com/example/net_thirty/netthirty/mail/MailServer$Login" "user" "Ljava/lang/String;" .null := Dn246 (Or.inr (hw _ (List.mem_of_getElem? (i := 243) rfl))) (ty := (.object "java/lang/String")) (by decide)
        have Fn246_password : Fld Z H246 b246 "com/example/net_thirty/netthirty/mail/MailServer$Login" "password" "Ljava/lang/String;" .null := Dn246 (Or.inr (hw _ (List.mem_of_getElem? (i := 245) rfl))) (ty := (.object "java/lang/String")) (by decide)
        refine Wk.dup X246 hx (hb hby at_128) (n := 129) rfl rfl ?_
        refine Wk.iload X246 hx (hb hby at_129) (n := 131) rfl rfl ?_
        have f247 := ((f243.keep J241 (allS (by omega) all0)).ext Ex246)
        have cl248_ := fun (Ls : Array Slot) (hLs : Ls.size = c.maxLocals) => Jvm.LawKit.callS X246 hx (y := (⟨"java/lang/String", "valueOf", "(C)Ljava/lang/String;"⟩ : MethodName)) hown (mvT hZ (hw _ (List.mem_of_getElem? (i := 225) rfl))) (mvT hZ (hw _ (List.mem_of_getElem? (i := 226) rfl))) (mvT hZ (hw _ (List.mem_of_getElem? (i := 4) rfl))) (mvT hZ (hw _ (List.mem_of_getElem? (i := 227) rfl))) (by decide) (backOf (W := 2) (rmSVO l Z a0 hw [] c1 zc H246 n0 (by omega) S4 f247 hCS r_c1.2) hZ (hw _ (List.mem_of_getElem? (i := 227) rfl)) (hw _ (List.mem_of_getElem? (i := 4) rfl)) (by decide) (by decide)) (g := mkF m 131 Ls [(.int c1), (.ref b246), (.ref b246)]) rfl hLs (argsL := [(.int c1)]) (rest := [(.ref b246), (.ref b246)]) (lenOf pd_31 rfl) rfl (by show 2 * 0 + _ ≤ _; exact Nat.le_of_eq rfl) (hb hby at_131) (fun _ _ => ⟨rfl, e246, (by decide : 0 + 1 + 1 + 1 + 1 + 2 ≤ _), (by decide : 0 + 2 + 4 + 2 + 2 + 5 ≤ _)⟩)
        refine Wk.backS (n := 134) (rc := 2) (rs := 5) (Q := Q_rmSVO Z c1 zc H246 n0) (cl248_ _ (by rw [hml]; rfl)) fun vn248 T248 L248 X248 hQ248 => ?_
        clear cl248_
        obtain ⟨r_248, t_248, kb_248, rfl, M248, J248, p248_0, p248_1, p248_2, p248_3, gr_248, gt_248⟩ := hQ248
        have N248 := Fr.app N241 M248
        have sz248 := J248.1
        have hs248 : ∀ x ∈ ([] : List Addr), Safe Z own_EL s.vm H246 x := sf0
        have R248 := R246.trans (CHr.keep J248 hs248 R246.1)
        have K248 := K246.trans J248 (fun x hx => nomatch hx)
        have lt_p248_0 := ny p248_0.lt
        have lt_p248_3 := ny p248_3.lt
        show Wk p e below _ T248 (mkF m 134 _ [(.ref r_248), (.ref b246), (.ref b246)])
        refine Wk.iload X248 hx (hb hby at_134) (n := 136) rfl rfl ?_
        have f249 := (f247.keep J248 all0)
        have cl250_ := fun (Ls : Array Slot) (hLs : Ls.size = c.maxLocals) => Jvm.LawKit.callS X248 hx (y := (⟨"java/lang/String", "valueOf", "(C)Ljava/lang/String;"⟩ : MethodName)) hown (mvT hZ (hw _ (List.mem_of_getElem? (i := 225) rfl))) (mvT hZ (hw _ (List.mem_of_getElem? (i := 226) rfl))) (mvT hZ (hw _ (List.mem_of_getElem? (i := 4) rfl))) (mvT hZ (hw _ (List.mem_of_getElem? (i := 227) rfl))) (by decide) (backOf (W := 3) (rmSVO l Z a0 hw [] c2 zc T248.heap n0 (by omega) S4 f249 hCS r_c2.2) hZ (hw _ (List.mem_of_getElem? (i := 227) rfl)) (hw _ (List.mem_of_getElem? (i := 4) rfl)) (by decide) (by decide)) (g := mkF m 136 Ls [(.int c2), (.ref r_248), (.ref b246), (.ref b246)]) rfl hLs (argsL := [(.int c2)]) (rest := [(.ref r_248), (.ref b246), (.ref b246)]) (lenOf pd_31 rfl) rfl (by show 2 * 0 + _ ≤ _; exact Nat.le_of_eq rfl) (hb hby at_136) (fun _ _ => ⟨rfl, rfl, (by decide : 0 + 1 + 1 + 1 + 1 + 2 + 2 ≤ _), (by decide : 0 + 2 + 4 + 2 + 2 + 5 + 5 ≤ _)⟩)
        refine Wk.backS (n := 139) (rc := 2) (rs := 5) (Q := Q_rmSVO Z c2 zc T248.heap n0) (cl250_ _ (by rw [hml]; rfl)) fun vn250 T250 L250 X250 hQ250 => ?_
        clear cl250_
        obtain ⟨r_250, t_250, kb_250, rfl, M250, J250, p250_0, p250_1, p250_2, p250_3, gr_250, gt_250⟩ := hQ250
        have N250 := Fr.app N248 M250
        have sz250 := J250.1
        have hs250 : ∀ x ∈ ([] : List Addr), Safe Z own_EL s.vm T248.heap x := sf0
        have R250 := R248.trans (CHr.keep J250 hs250 R248.1)
        have K250 := K248.trans J250 (fun x hx => nomatch hx)
        have lt_p250_0 := ny p250_0.lt
        have lt_p250_3 := ny p250_3.lt
        show Wk p e below _ T250 (mkF m 139 _ [(.ref r_250), (.ref r_248), (.ref b246), (.ref b246)])
        have f251 := ((An246.keep J248).keep J250)
        have f252 := ((Fn246_user.keep J248 nin0).keep J250 nin0)
        have f253 := ((Fn246_password.keep J248 nin0).keep J250 nin0)
        have cl254_ := fun (Ls : Array Slot) (hLs : Ls.size = c.maxLocals) => X250.specialBack hx (y := (⟨"com/example/net_thirty/netthirty/mail/MailServer$Login", "<init>", "(Ljava/lang/String;Ljava/lang/String;)V"⟩ : MethodName)) rfl hown (mvT hZ (hw _ (List.mem_of_getElem? (i := 238) rfl))) (mvT hZ (hw _ (List.mem_of_getElem? (i := 239) rfl))) (mvT hZ (hw _ (List.mem_of_getElem? (i := 240) rfl))) (by decide) (backOf (W := 1) (rmLI l Z a0 hw [] b246 r_248 r_250 .null .null T250.heap n0 (by omega) f251 f252 f253 (by omega)) hZ (hw _ (List.mem_of_getElem? (i := 240) rfl)) (hw _ (List.mem_of_getElem? (i := 224) rfl)) (by decide) (by decide)) (g := mkF m 139 Ls [(.ref r_250), (.ref r_248), (.ref b246), (.ref b246)]) rfl hLs (Steps.refl _) (a := b246) (argsL := [(.ref r_248), (.ref r_250)]) (rest := [(.ref b246)]) (lenOf pd_32 rfl) rfl (by show 2 * 0 + _ ≤ _; exact Nat.le_of_eq rfl) (hb hby at_139) (fun _ _ => ⟨rfl, rfl, (by decide : 0 + 1 + 1 + 1 + 1 + 2 + 2 + 0 ≤ _), (by decide : 0 + 2 + 4 + 2 + 2 + 5 + 5 + 0 ≤ _)⟩)
        refine Wk.back (n := 142) (rc := 0) (rs := 0) (Q := Q_rmLI Z b246 r_248 r_250 .null .null T250.heap n0) (cl254_ _ (by rw [hml]; rfl)) fun vn254 T254 L254 X254 hQ254 => ?_
        clear cl254_
        obtain ⟨rfl, M254, J254, p254_0⟩ := hQ254
        have N254 := Fr.app N250 M254
        have sz254 := J254.1
        have hs254 : ∀ x ∈ ([b246] : List Addr), Safe Z own_EL s.vm T250.heap x := (sfS (Safe.exa (EL := own_EL) hZ.alike f251 (by decide) (by decide)) sf0)
        have R254 := R250.trans (CHr.keep J254 hs254 R250.1)
        have K254 := K250.trans J254 (allS (Or.inr (by omega)) all0)
        have lt_p254_0 := ny p254_0.lt
        show Wk p e below _ T254 (mkF m 142 _ [(.ref b246)])
        refine Wk.astore X254 hx (hb hby at_142) (n := 144) rfl rfl (L' := #[.val (.int p1), .val (.long j1), .second, .val (.int p2), .val (.int (2 : Int32)), .val (.int tl), .val (.int (1 : Int32)), .val (.int c0), .val (.int c1), .val (.int c2), .val (.ref b234), .val (.ref b240), .val (.ref b246), .unset, .unset, .unset, .unset, .unset, .unset, .unset]) rfl ?_
        have f255 := ((((p241_0.ext Ex246).keep J248).keep J250).keep J254)
        have f256 := ((((p241_2.ext Ex246).keep J248 nin0).keep J250 nin0).keep J254 (ninS (nz (by omega)) nin0))
        have f257 := ((((p241_1.ext Ex246).keep J248 nin0).keep J250 nin0).keep J254 (ninS (nz (by omega)) nin0))
        have f258 := ((((p241_3.ext Ex246).keep J248 nin0).keep J250 nin0).keep J254 (ninS (nz (by omega)) nin0))
        have f259 := ((f249.keep J250 all0).keep J254 (allS (by omega) all0))
        exact jt_c T254 T254.heap _ s _ c0 c1 c2 (1 : Int32) b234 b240 t_241 kb_241 (.ref b246) (X254.mono (by decide) (by decide)) rfl K254 N254 Bs0 (by omega) hZ hown R254 f255 f256 f257 f258 f259 hp244 rfl
    refine Wk.iloadN X0 hx (hb hby at_5) (n := 6) rfl rfl ?_
    refine Wk.iconst X0 hx (hb hby at_6) (n := 7) rfl (z := (4 : Int32)) rfl ?_
    refine Wk.iand X0 hx (hb hby at_7) (n := 8) rfl ?_
    by_cases hc8 : (p1 &&& (4 : Int32)) = (0 : Int32)
    ·
      refine Wk.ifYes X0 hx (hb hby at_8) ((if0 _ _).trans (teq hc8).1) (by decide) (n := 15) (by decide) ?_
      refine Wk.iconst X0 hx (hb hby at_15) (n := 16) rfl (z := (0 : Int32)) rfl ?_
      exact jt_d (0 : Int32)
    ·
      refine Wk.ifNo X0 hx (hb hby at_8) (n := 11) rfl ((if0 _ _).trans (feq hc8).1) ?_
      refine Wk.iconst X0 hx (hb hby at_11) (n := 12) rfl (z := (1 : Int32)) rfl ?_
      refine Wk.goto X0 hx (hb hby at_12) (by decide) (n := 16) (by decide) ?_
      exact jt_d (1 : Int32)
  ·
    rw [q3]
    refine Wk.istore X0 hx (hb hby at_3) (n := 5) rfl (L' := #[.val (.int p1), .val (.long j1), .second, .val (.int p2), .val (.int (3 : Int32)), .unset, .unset, .unset, .unset, .unset, .unset, .unset, .unset, .unset, .unset, .unset, .unset, .unset, .unset, .unset]) rfl ?_
    have jt_d : ∀ (tl : Int32), Wk p e below (EndW Z own_EL s (Q_rm0 Z p1 j1 p2 zc fm dO kO dT kT h0 n0) room_1.cells room_1.slots) s₁ (mkF m 16 #[.val (.int p1), .val (.long j1), .second, .val (.int p2), .val (.int (3 : Int32)), .unset, .unset, .unset, .unset, .unset, .unset, .unset, .unset, .unset, .unset, .unset, .unset, .unset, .unset, .unset] [(.int tl)]) := by
      intro tl
      refine Wk.istore X0 hx (hb hby at_16) (n := 18) rfl (L' := #[.val (.int p1), .val (.long j1), .second, .val (.int p2), .val (.int (3 : Int32)), .val (.int tl), .unset, .unset, .unset, .unset, .unset, .unset, .unset, .unset, .unset, .unset, .unset, .unset, .unset, .unset]) rfl ?_
      have jt_c : ∀ (Tj260 : State) (Hj260 : Heap) (Lcj260 : List Loc) (usj260 : State) (kzj260 : Nat) (c0 : Int32) (c1 : Int32) (c2 : Int32) (fl : Int32) (ah : Addr) (rh : Addr) (th : Addr) (kh : ClassId) (lg : Value), (Stand p l e room_1 usj260 m #[(.int p1), (.long j1), (.int p2)] below meth c Tj260 Lcj260 16 44) → (Tj260.heap = Hj260) → (Keep h0 Hj260 []) → (Fr n0 Lcj260) → (Base s usj260 kzj260) → (kzj260 ≤ Hj260.size) → (Z.Warmed39 usj260.vm) → (usj260.vm.findClass "com/example/net_thirty/netthirty/mail/MailServerAddressPinLaw" = some m.cls) → (CHr Z own_EL s.vm h0 usj260.vm Hj260) → (Exa Z Hj260 rh "java/lang/String") → (Fld Z Hj260 rh "java/lang/String" "value" "[B" (.ref th)) → (Fld Z Hj260 rh "java/lang/String" "coder" "B" (.int (0 : Int32))) → (Arv Z Hj260 th kh .byte (Int32.ofNat [c0, c1, c2].length) (bsV [c0, c1, c2]) (.int (0 : Int32))) → (Old Z n0 Hj260) → (∀ c ∈ [c0, c1, c2], ¬ c < 0 ∧ ¬ (255 : Int32) < c) → (lg.isRef = true) → Wk p e below (EndW Z own_EL s (Q_rm0 Z p1 j1 p2 zc fm dO kO dT kT h0 n0) room_1.cells room_1.slots) Tj260 (mkF m 144 #[.val (.int p1), .val (.long j1), .second, .val (.int p2), .val (.int (3 : Int32)), .val (.int tl), .val (.int fl), .val (.int c0), .val (.int c1), .val (.int c2), .val (.ref ah), .val (.ref rh), .val lg, .unset, .unset, .unset, .unset, .unset, .unset, .unset] []) := by
        intro Tj260 Hj260 Lcj260 usj260 kzj260 c0 c1 c2 fl ah rh th kh lg Xj260 ej260 Kj260 Nj260 Bsj260 hkzj260 hZ hown Rj260 Es9 Fv9 Fc9 As9 Olj260 hpc hlg
        have szj260 := Kj260.1
        have lt_Es9 := ny Es9.lt
        have lt_Fv9 := ny Fv9.lt
        have lt_Fc9 := ny Fc9.lt
        have lt_As9 := ny As9.lt
        refine Wk.newO Xj260 hx hZ hown (hw _ (List.mem_of_getElem? (i := 23) rfl)) (hw _ (List.mem_of_getElem? (i := 24) rfl)) (hw _ (List.mem_of_getElem? (i := 25) rfl)) ej260 (hb hby at_144) (n := 147) rfl (by decide) (by decide) fun T261 H261 b261 gn261 X261 e261 Ex261 An261 Dn261 Yn261 => ?_
        have gn261 := nx gn261
        have sz261 := Ex261.1
        have lt261 := ny An261.lt
        have K261 := Kj260.ext Ex261
        have R261 := Rj260.trans (CHr.ext Ex261 Rj260.1)
        have Fn261_host : Fld Z H261 b261 "com/example/net_thirty/netthirty/mail/MailServer" "host" "Ljava/lang/String;" .null := Dn261 (Or.inr (hw _ (List.mem_of_getElem? (i := 36) rfl))) (ty := (.object "java/lang/String")) (by decide)
        have Fn261_port : Fld Z H261 b261 "com/example/net_thirty/netthirty/mail/MailServer" "port" "I" (.int (0 : Int32)) := Dn261 (Or.inr (hw _ (List.mem_of_getElem? (i := 38) rfl))) (ty := .int) (by decide)
        have Fn261_startTls : Fld Z H261 b261 "com/example/net_thirty/netthirty/mail/MailServer" "startTls" "Z" (.int (0 : Int32)) := Dn261 (Or.inr (hw _ (List.mem_of_getElem? (i := 40) rfl))) (ty := .boolean) (by decide)
        have Fn261_login : Fld Z H261 b261 "com/example/net_thirty/netthirty/mail/MailServer" "login" "Lcom/example/net_thirty/netthirty/mail/MailServer$Login;" .null := Dn261 (Or.inr (hw _ (List.mem_of_getElem? (i := 42) rfl))) (ty := (.object "com/example/net_thirty/netthirty/mail/MailServer$Login")) (by decide)
        refine Wk.dup X261 hx (hb hby at_147) (n := 148) rfl rfl ?_
        refine Wk.aload X261 hx (hb hby at_148) (n := 150) rfl rfl rfl ?_
        refine Wk.iloadN X261 hx (hb hby at_150) (n := 151) rfl rfl ?_
        refine Wk.iload X261 hx (hb hby at_151) (n := 153) rfl rfl ?_
        refine Wk.aload X261 hx (hb hby at_153) (n := 155) rfl rfl hlg ?_
        have cl262_ := fun (Ls : Array Slot) (hLs : Ls.size = c.maxLocals) => X261.specialBack hx (y := (⟨"com/example/net_thirty/netthirty/mail/MailServer", "<init>", "(Ljava/lang/String;IZLcom/example/net_thirty/netthirty/mail/MailServer$Login;)V"⟩ : MethodName)) rfl hown (mvT hZ (hw _ (List.mem_of_getElem? (i := 26) rfl))) (mvT hZ (hw _ (List.mem_of_getElem? (i := 27) rfl))) (mvT hZ (hw _ (List.mem_of_getElem? (i := 28) rfl))) (by decide) (backOf (W := 1) (rmMI l Z a0 hw [] b261 rh p2 tl lg .null (.int (0 : Int32)) (.int (0 : Int32)) .null H261 n0 (by omega) An261 Fn261_host Fn261_port Fn261_startTls Fn261_login (by omega) hlg) hZ (hw _ (List.mem_of_getElem? (i := 28) rfl)) (hw _ (List.mem_of_getElem? (i := 25) rfl)) (by decide) (by decide)) (g := mkF m 155 Ls [lg, (.int tl), (.int p2), (.ref rh), (.ref b261), (.ref b261)]) rfl hLs (Steps.refl _) (a := b261) (argsL := [(.ref rh), (.int p2), (.int tl), lg]) (rest := [(.ref b261)]) (lenOf pd_27 rfl) rfl (by show 2 * 0 + _ ≤ _; exact Nat.le_of_eq rfl) (hb hby at_155) (fun _ _ => ⟨rfl, e261, (by decide : 16 + 1 + 0 ≤ _), (by decide : 44 + 4 + 0 ≤ _)⟩)
        refine Wk.back (n := 158) (rc := 0) (rs := 0) (Q := Q_rmMI Z b261 rh p2 tl lg .null (.int (0 : Int32)) (.int (0 : Int32)) .null H261 n0) (cl262_ _ (by rw [hml]; rfl)) fun vn262 T262 L262 X262 hQ262 => ?_
        clear cl262_
        obtain ⟨rfl, M262, J262, p262_0, p262_1, p262_2⟩ := hQ262
        have N262 := Fr.app Nj260 M262
        have sz262 := J262.1
        have hs262 : ∀ x ∈ ([b261] : List Addr), Safe Z own_EL usj260.vm H261 x := (sfS (Safe.exa (EL := own_EL) hZ.alike An261 (by decide) (by decide)) sf0)
        have R262 := R261.trans (CHr.keep J262 hs262 R261.1)
        have K262 := K261.trans J262 (allS (Or.inr (by omega)) all0)
        have lt_p262_0 := ny p262_0.lt
        show Wk p e below _ T262 (mkF m 158 _ [(.ref b261)])
        refine Wk.astore X262 hx (hb hby at_158) (n := 160) rfl rfl (L' := #[.val (.int p1), .val (.long j1), .second, .val (.int p2), .val (.int (3 : Int32)), .val (.int tl), .val (.int fl), .val (.int c0), .val (.int c1), .val (.int c2), .val (.ref ah), .val (.ref rh), .val lg, .val (.ref b261), .unset, .unset, .unset, .unset, .unset, .unset]) rfl ?_
        refine Wk.aload X262 hx (hb hby at_160) (n := 162) rfl rfl rfl ?_
        have f263 := ((Es9.ext Ex261).keep J262)
        have f264 := ((Fv9.ext Ex261).keep J262 (ninS (nz (by omega)) nin0))
        have f265 := ((Fc9.ext Ex261).keep J262 (ninS (nz (by omega)) nin0))
        have f266 := ((As9.ext Ex261).keep J262 (ninS (nz (by omega)) nin0))
        have f267 := ((Olj260.ext Ex261).keep J262 (allS (by omega) all0))
        obtain ⟨cq268, kq268, qn268a, qn268b, qn268c⟩ := isOf hZ rfl p262_0
        have cl268_ := fun (Ls : Array Slot) (hLs : Ls.size = c.maxLocals) => X262.virtualBackS hx (y := (⟨"com/example/net_thirty/netthirty/mail/MailServer", "address", "()Ljava/lang/String;"⟩ : MethodName)) (z := (⟨"com/example/net_thirty/netthirty/mail/MailServer", "address", "()Ljava/lang/String;"⟩ : MethodName)) hown (mvT hZ (hw _ (List.mem_of_getElem? (i := 43) rfl))) (mvT hZ (hw _ (List.mem_of_getElem? (i := 44) rfl))) (notFace_of_selects (args := #[]) (mvT hZ (hw _ (List.mem_of_getElem? (i := 46) rfl)))) (mvT hZ (hw _ (List.mem_of_getElem? (i := 46) rfl))) (mvT hZ (hw _ (List.mem_of_getElem? (i := 45) rfl))) (by decide) (backWd (W := 0) (EL := own_EL) (rmAdr l Z a0 hw [] b261 p2 rh th kh ([c0, c1, c2]) zc dO kO dT kT T262.heap n0 (by omega) p262_0 p262_1 p262_2 f263 f264 f265 f266 S4 f267 S6 S7 A6 A7 hCS (Nat.le_of_ble_eq_true rfl) hpc) hZ (hw _ (List.mem_of_getElem? (i := 47) rfl)) (hw _ (List.mem_of_getElem? (i := 25) rfl)) (by decide) (by decide) hELw R262.1 (fun _ q => nomatch q) sf0) qn268a qn268c (g := mkF m 162 Ls [(.ref b261)]) rfl hLs (Steps.refl _) (argsL := []) (rest := []) (lenOf pd_24 rfl) rfl (by show 2 * 0 + _ ≤ _; exact Nat.le_of_eq rfl) (hb hby at_162) (fun _ _ => ⟨rfl, rfl, (by decide : 16 + 1 + 0 + 6 ≤ _), (by decide : 44 + 4 + 0 + 48 ≤ _)⟩)
        refine Wk.backW (n := 165) (rc := 6) (rs := 48) (Q := Q_rmAdr Z b261 p2 rh th kh ([c0, c1, c2]) zc dO kO dT kT T262.heap n0) rfl Bsj260 (by omega) hZ hown R262 (cl268_ _ (by rw [hml]; rfl)) fun vn268 us268 T268 L268 X268 Bs268 hZ hown A_268 R268 hQ268 => ?_
        obtain ⟨r_268, t_268, kb_268, rfl, M268, J268, p268_0, p268_1, p268_2, p268_3⟩ := hQ268
        have N268 := Fr.app N262 M268
        have sz268 := J268.1
        have K268 := K262.trans J268 (fun x hx => nomatch hx)
        have lt_p268_0 := ny p268_0.lt
        have lt_p268_3 := ny p268_3.lt
        show Wk p e below _ T268 (mkF m 165 _ [(.ref r_268)])
        have lG1 := sgl_le p2
        have lG2 := dl_le (mg p2) (mg_le p2)
        have lp : ([c0, c1, c2] ++ 58 :: (sgl p2 ++ dl (mg p2))).length = 4 + (sgl p2).length + (dl (mg p2)).length := by simp; omega
        have qp : ∀ c ∈ ([c0, c1, c2] ++ 58 :: (sgl p2 ++ dl (mg p2))), ¬ c < 0 ∧ ¬ (255 : Int32) < c := own_rapp hpc (own_rapp (a := [58]) (by decide) (own_rapp (sgl_rng p2) (dl_rng _)))
        refine Wk.astore X268 hx (hb hby at_165) (n := 167) rfl rfl (L' := #[.val (.int p1), .val (.long j1), .second, .val (.int p2), .val (.int (3 : Int32)), .val (.int tl), .val (.int fl), .val (.int c0), .val (.int c1), .val (.int c2), .val (.ref ah), .val (.ref rh), .val lg, .val (.ref b261), .val (.ref r_268), .unset, .unset, .unset, .unset, .unset]) rfl ?_
        refine Wk.iloadN X268 hx (hb hby at_167) (n := 168) rfl rfl ?_
        refine Wk.i2l X268 hx (hb hby at_168) (n := 169) rfl ?_
        have cl269_ := fun (Ls : Array Slot) (hLs : Ls.size = c.maxLocals) => Jvm.LawKit.callS X268 hx (y := (⟨"java/lang/Math", "abs", "(J)J"⟩ : MethodName)) hown (mvT hZ (hw _ (List.mem_of_getElem? (i := 178) rfl))) (mvT hZ (hw _ (List.mem_of_getElem? (i := 179) rfl))) (mvT hZ (hw _ (List.mem_of_getElem? (i := 175) rfl))) (mvT hZ (hw _ (List.mem_of_getElem? (i := 180) rfl))) (by decide) (backOf (W := 0) (rmAB l Z a0 hw [] (p2.toInt64) p2 T268.heap n0 (by omega) rfl) hZ (hw _ (List.mem_of_getElem? (i := 180) rfl)) (hw _ (List.mem_of_getElem? (i := 175) rfl)) (by decide) (by decide)) (g := mkF m 169 Ls [(.long (p2.toInt64))]) rfl hLs (argsL := [(.long (p2.toInt64))]) (rest := []) (lenOf pd_28 rfl) rfl (by show 2 * 0 + _ ≤ _; exact Nat.le_of_eq rfl) (hb hby at_169) (fun _ _ => ⟨rfl, rfl, (by decide : 16 + 1 + 0 + 6 + 0 ≤ _), (by decide : 44 + 4 + 0 + 48 + 0 ≤ _)⟩)
        refine Wk.backS (n := 172) (rc := 0) (rs := 0) (Q := Q_rmAB Z (p2.toInt64) p2 T268.heap n0) (cl269_ _ (by rw [hml]; rfl)) fun vn269 T269 L269 X269 hQ269 => ?_
        clear cl269_
        obtain ⟨rfl, M269, e269⟩ := hQ269
        have N269 := Fr.app N268 M269
        show Wk p e below _ T269 (mkF m 172 _ [(.long (Int64.ofNat (mg p2)))])
        refine Wk.lstore X269 hx (hb hby at_172) (n := 174) rfl (L' := #[.val (.int p1), .val (.long j1), .second, .val (.int p2), .val (.int (3 : Int32)), .val (.int tl), .val (.int fl), .val (.int c0), .val (.int c1), .val (.int c2), .val (.ref ah), .val (.ref rh), .val lg, .val (.ref b261), .val (.ref r_268), .val (.long (Int64.ofNat (mg p2))), .second, .unset, .unset, .unset]) rfl ?_
        refine Wk.lload X269 hx (hb hby at_174) (n := 176) rfl rfl ?_
        have cl270_ := fun (Ls : Array Slot) (hLs : Ls.size = c.maxLocals) => Jvm.LawKit.callS X269 hx (y := (⟨"com/example/net_thirty/netthirty/mail/MailServerAddressPinLaw", "digits", "(J)I"⟩ : MethodName)) hown (mvT hZ (hw _ (List.mem_of_getElem? (i := 181) rfl))) (mvT hZ (hw _ (List.mem_of_getElem? (i := 182) rfl))) (mvT hZ (hw _ (List.mem_of_getElem? (i := 183) rfl))) (mvT hZ (hw _ (List.mem_of_getElem? (i := 184) rfl))) (by decide) (backOf (W := 0) (rmDI l Z a0 hw [] (Int64.ofNat (mg p2)) (mg p2) T268.heap n0 (by omega) rfl (mg_le p2)) hZ (hw _ (List.mem_of_getElem? (i := 184) rfl)) (hw _ (List.mem_of_getElem? (i := 183) rfl)) (by decide) (by decide)) (g := mkF m 176 Ls [(.long (Int64.ofNat (mg p2)))]) rfl hLs (argsL := [(.long (Int64.ofNat (mg p2)))]) (rest := []) (lenOf pd_29 rfl) rfl (by show 2 * 0 + _ ≤ _; exact Nat.le_of_eq rfl) (hb hby at_176) (fun _ _ => ⟨rfl, e269, (by decide : 16 + 1 + 0 + 6 + 0 + 0 ≤ _), (by decide : 44 + 4 + 0 + 48 + 0 + 0 ≤ _)⟩)
        refine Wk.backS (n := 179) (rc := 0) (rs := 0) (Q := Q_rmDI Z (Int64.ofNat (mg p2)) (mg p2) T268.heap n0) (cl270_ _ (by rw [hml]; rfl)) fun vn270 T270 L270 X270 hQ270 => ?_
        clear cl270_
        obtain ⟨rfl, M270, e270⟩ := hQ270
        have N270 := Fr.app N269 M270
        show Wk p e below _ T270 (mkF m 179 _ [(.int (Int32.ofNat (dl (mg p2)).length))])
        refine Wk.istore X270 hx (hb hby at_179) (n := 181) rfl (L' := #[.val (.int p1), .val (.long j1), .second, .val (.int p2), .val (.int (3 : Int32)), .val (.int tl), .val (.int fl), .val (.int c0), .val (.int c1), .val (.int c2), .val (.ref ah), .val (.ref rh), .val lg, .val (.ref b261), .val (.ref r_268), .val (.long (Int64.ofNat (mg p2))), .second, .val (.int (Int32.ofNat (dl (mg p2)).length)), .unset, .unset]) rfl ?_
        refine Wk.iloadN X270 hx (hb hby at_181) (n := 182) rfl rfl ?_
        by_cases hc182 : p2 < (0 : Int32)
        ·
          refine Wk.ifNo X270 hx (hb hby at_182) (n := 185) rfl ((if0 _ _).trans (tlt hc182).2.1) ?_
          refine Wk.iconst X270 hx (hb hby at_185) (n := 186) rfl (z := (1 : Int32)) rfl ?_
          refine Wk.goto X270 hx (hb hby at_186) (by decide) (n := 190) (by decide) ?_
          have hs : sgl p2 = [45] := if_pos hc182
          have hsl : (sgl p2).length = 1 := by rw [hs]; rfl
          refine Wk.istore X270 hx (hb hby at_190) (n := 192) rfl (L' := #[.val (.int p1), .val (.long j1), .second, .val (.int p2), .val (.int (3 : Int32)), .val (.int tl), .val (.int fl), .val (.int c0), .val (.int c1), .val (.int c2), .val (.ref ah), .val (.ref rh), .val lg, .val (.ref b261), .val (.ref r_268), .val (.long (Int64.ofNat (mg p2))), .second, .val (.int (Int32.ofNat (dl (mg p2)).length)), .val (.int (1 : Int32)), .unset]) rfl ?_
          refine Wk.aload X270 hx (hb hby at_192) (n := 194) rfl rfl rfl ?_
          have f272 := (f267.keep J268 all0)
          obtain ⟨cq271, kq271, qn271a, qn271b, qn271c⟩ := isOf hZ e270 p268_0
          have cl271_ := fun (Ls : Array Slot) (hLs : Ls.size = c.maxLocals) => X270.virtualBack hx (y := (⟨"java/lang/String", "length", "()I"⟩ : MethodName)) (z := (⟨"java/lang/String", "length", "()I"⟩ : MethodName)) hown (mvT hZ (hw _ (List.mem_of_getElem? (i := 186) rfl))) (mvT hZ (hw _ (List.mem_of_getElem? (i := 77) rfl))) (notFace_of_selects (args := #[]) (mvT hZ (hw _ (List.mem_of_getElem? (i := 79) rfl)))) (mvT hZ (hw _ (List.mem_of_getElem? (i := 79) rfl))) (mvT hZ (hw _ (List.mem_of_getElem? (i := 78) rfl))) (by decide) (StrChars.Road.lenW (W := 0) hZ (fun d hd => hw d (own_wl d hd)) (kI := 4) (hw _ (List.mem_of_getElem? (i := 3) rfl)) p268_0 p268_1 p268_2 p268_3 (StrChars.Road.codOf (cs := ([c0, c1, c2] ++ 58 :: (sgl p2 ++ dl (mg p2)))) (n := ([c0, c1, c2] ++ 58 :: (sgl p2 ++ dl (mg p2))).length) rfl (fun c hc => (qp c hc).2)) (own_up qp) (Sta.ext f272.2 S4) hCS (by omega) (by decide) (by decide)) qn271a qn271c (g := mkF m 194 Ls [(.ref r_268)]) rfl hLs (Steps.refl _) (argsL := []) (rest := []) (lenOf pd_7 rfl) rfl (by show 2 * 0 + _ ≤ _; exact Nat.le_of_eq rfl) (hb hby at_194) (fun _ _ => ⟨rfl, e270, (by decide : 16 + 1 + 0 + 6 + 0 + 0 + 0 ≤ _), (by decide : 44 + 4 + 0 + 48 + 0 + 0 + 0 ≤ _)⟩)
          refine Wk.back (n := 197) (rc := 0) (rs := 0) (Q := fun v h' L => (v = some (.int (Int32.ofNat (([c0, c1, c2] ++ 58 :: (sgl p2 ++ dl (mg p2))) : List Int32).length)) ∧ L = [] ∧ h' = T268.heap)) (cl271_ _ (by rw [hml]; rfl)) fun vn271 T271 L271 X271 hQ271 => ?_
          clear cl271_
          obtain ⟨rfl, rfl, e271⟩ := hQ271
          have N271 := Fr.app N270 (Fr.nil n0)
          show Wk p e below _ T271 (mkF m 197 _ [(.int (Int32.ofNat ([c0, c1, c2] ++ 58 :: (sgl p2 ++ dl (mg p2))).length))])
          refine Wk.iload X271 hx (hb hby at_197) (n := 199) rfl rfl ?_
          refine Wk.iconst X271 hx (hb hby at_199) (n := 200) rfl (z := (1 : Int32)) rfl ?_
          refine Wk.iadd X271 hx (hb hby at_200) (n := 201) rfl ?_
          refine Wk.iload X271 hx (hb hby at_201) (n := 203) rfl rfl ?_
          refine Wk.iadd X271 hx (hb hby at_203) (n := 204) rfl ?_
          refine Wk.iload X271 hx (hb hby at_204) (n := 206) rfl rfl ?_
          refine Wk.iadd X271 hx (hb hby at_206) (n := 207) rfl ?_
          have hc207_273 : (Int32.ofNat ([c0, c1, c2] ++ 58 :: (sgl p2 ++ dl (mg p2))).length) = ((((3 : Int32) + (1 : Int32)) + (1 : Int32)) + (Int32.ofNat (dl (mg p2)).length)) := by rw [lp, hsl, ← own_ofadd]; rfl
          refine Wk.icmpYes X271 hx (hb hby at_207) (teq hc207_273).1 (by decide) (n := 212) (by decide) ?_
          refine Wk.iload X271 hx (hb hby at_212) (n := 214) rfl rfl ?_
          have hc214_274 : (0 : Int32) < (3 : Int32) := by decide
          refine Wk.ifNo X271 hx (hb hby at_214) (n := 217) rfl ((if0 _ _).trans (tlt hc214_274).2.2.2) ?_
          refine Wk.aload X271 hx (hb hby at_217) (n := 219) rfl rfl rfl ?_
          refine Wk.iconst X271 hx (hb hby at_219) (n := 220) rfl (z := (0 : Int32)) rfl ?_
          obtain ⟨cq275, kq275, qn275a, qn275b, qn275c⟩ := isOf hZ e271 p268_0
          have cl275_ := fun (Ls : Array Slot) (hLs : Ls.size = c.maxLocals) => X271.virtualBack hx (y := (⟨"java/lang/String", "charAt", "(I)C"⟩ : MethodName)) (z := (⟨"java/lang/String", "charAt", "(I)C"⟩ : MethodName)) hown (mvT hZ (hw _ (List.mem_of_getElem? (i := 187) rfl))) (mvT hZ (hw _ (List.mem_of_getElem? (i := 188) rfl))) (notFace_of_selects (args := #[]) (mvT hZ (hw _ (List.mem_of_getElem? (i := 190) rfl)))) (mvT hZ (hw _ (List.mem_of_getElem? (i := 190) rfl))) (mvT hZ (hw _ (List.mem_of_getElem? (i := 189) rfl))) (by decide) (StrChars.Road.chN (W := 0) hZ (fun d hd => hw d (own_wc d hd)) (kI := 4) (hw _ (List.mem_of_getElem? (i := 3) rfl)) p268_0 p268_1 p268_2 p268_3 (StrChars.Road.codOf (cs := ([c0, c1, c2] ++ 58 :: (sgl p2 ++ dl (mg p2)))) (n := ([c0, c1, c2] ++ 58 :: (sgl p2 ++ dl (mg p2))).length) rfl (fun c hc => (qp c hc).2)) (own_up qp) (Sta.ext f272.2 S4) hCS (Sta.ext f272.2 S5) hFM (by omega) (i := 0) (by rw [lp]; omega) (j := (0 : Int32)) rfl (by decide) (by decide)) qn275a qn275c (g := mkF m 220 Ls [(.int (0 : Int32)), (.ref r_268)]) rfl hLs (Steps.refl _) (argsL := [(.int (0 : Int32))]) (rest := []) (lenOf pd_25 rfl) rfl (by show 2 * 0 + _ ≤ _; exact Nat.le_of_eq rfl) (hb hby at_220) (fun _ _ => ⟨rfl, e271, (by decide : 16 + 1 + 0 + 6 + 0 + 0 + 0 + 0 ≤ _), (by decide : 44 + 4 + 0 + 48 + 0 + 0 + 0 + 0 ≤ _)⟩)
          refine Wk.back (n := 223) (rc := 0) (rs := 0) (Q := fun v h' L => (v = some (.int ((([c0, c1, c2] ++ 58 :: (sgl p2 ++ dl (mg p2))) : List Int32).getD 0 0)) ∧ L = [] ∧ h' = T268.heap)) (cl275_ _ (by rw [hml]; rfl)) fun vn275 T275 L275 X275 hQ275 => ?_
          clear cl275_
          obtain ⟨rfl, rfl, e275⟩ := hQ275
          have N275 := Fr.app N271 (Fr.nil n0)
          show Wk p e below _ T275 (mkF m 223 _ [(.int (([c0, c1, c2] ++ 58 :: (sgl p2 ++ dl (mg p2))).getD 0 0))])
          refine Wk.iload X275 hx (hb hby at_223) (n := 225) rfl rfl ?_
          have hc225_276 : (([c0, c1, c2] ++ 58 :: (sgl p2 ++ dl (mg p2))).getD 0 0) = c0 := rfl
          refine Wk.icmpYes X275 hx (hb hby at_225) (teq hc225_276).1 (by decide) (n := 230) (by decide) ?_
          refine Wk.iload X275 hx (hb hby at_230) (n := 232) rfl rfl ?_
          refine Wk.iconst X275 hx (hb hby at_232) (n := 233) rfl (z := (1 : Int32)) rfl ?_
          have hc233_277 : (1 : Int32) < (3 : Int32) := by decide
          refine Wk.icmpNo X275 hx (hb hby at_233) (n := 236) rfl (tlt hc233_277).2.2.2 ?_
          refine Wk.aload X275 hx (hb hby at_236) (n := 238) rfl rfl rfl ?_
          refine Wk.iconst X275 hx (hb hby at_238) (n := 239) rfl (z := (1 : Int32)) rfl ?_
          obtain ⟨cq278, kq278, qn278a, qn278b, qn278c⟩ := isOf hZ e275 p268_0
          have cl278_ := fun (Ls : Array Slot) (hLs : Ls.size = c.maxLocals) => X275.virtualBack hx (y := (⟨"java/lang/String", "charAt", "(I)C"⟩ : MethodName)) (z := (⟨"java/lang/String", "charAt", "(I)C"⟩ : MethodName)) hown (mvT hZ (hw _ (List.mem_of_getElem? (i := 187) rfl))) (mvT hZ (hw _ (List.mem_of_getElem? (i := 188) rfl))) (notFace_of_selects (args := #[]) (mvT hZ (hw _ (List.mem_of_getElem? (i := 190) rfl)))) (mvT hZ (hw _ (List.mem_of_getElem? (i := 190) rfl))) (mvT hZ (hw _ (List.mem_of_getElem? (i := 189) rfl))) (by decide) (StrChars.Road.chN (W := 0) hZ (fun d hd => hw d (own_wc d hd)) (kI := 4) (hw _ (List.mem_of_getElem? (i := 3) rfl)) p268_0 p268_1 p268_2 p268_3 (StrChars.Road.codOf (cs := ([c0, c1, c2] ++ 58 :: (sgl p2 ++ dl (mg p2)))) (n := ([c0, c1, c2] ++ 58 :: (sgl p2 ++ dl (mg p2))).length) rfl (fun c hc => (qp c hc).2)) (own_up qp) (Sta.ext f272.2 S4) hCS (Sta.ext f272.2 S5) hFM (by omega) (i := 1) (by rw [lp]; omega) (j := (1 : Int32)) rfl (by decide) (by decide)) qn278a qn278c (g := mkF m 239 Ls [(.int (1 : Int32)), (.ref r_268)]) rfl hLs (Steps.refl _) (argsL := [(.int (1 : Int32))]) (rest := []) (lenOf pd_25 rfl) rfl (by show 2 * 0 + _ ≤ _; exact Nat.le_of_eq rfl) (hb hby at_239) (fun _ _ => ⟨rfl, e275, (by decide : 16 + 1 + 0 + 6 + 0 + 0 + 0 + 0 + 0 ≤ _), (by decide : 44 + 4 + 0 + 48 + 0 + 0 + 0 + 0 + 0 ≤ _)⟩)
          refine Wk.back (n := 242) (rc := 0) (rs := 0) (Q := fun v h' L => (v = some (.int ((([c0, c1, c2] ++ 58 :: (sgl p2 ++ dl (mg p2))) : List Int32).getD 1 0)) ∧ L = [] ∧ h' = T268.heap)) (cl278_ _ (by rw [hml]; rfl)) fun vn278 T278 L278 X278 hQ278 => ?_
          clear cl278_
          obtain ⟨rfl, rfl, e278⟩ := hQ278
          have N278 := Fr.app N275 (Fr.nil n0)
          show Wk p e below _ T278 (mkF m 242 _ [(.int (([c0, c1, c2] ++ 58 :: (sgl p2 ++ dl (mg p2))).getD 1 0))])
          refine Wk.iload X278 hx (hb hby at_242) (n := 244) rfl rfl ?_
          have hc244_279 : (([c0, c1, c2] ++ 58 :: (sgl p2 ++ dl (mg p2))).getD 1 0) = c1 := rfl
          refine Wk.icmpYes X278 hx (hb hby at_244) (teq hc244_279).1 (by decide) (n := 249) (by decide) ?_
          refine Wk.iload X278 hx (hb hby at_249) (n := 251) rfl rfl ?_
          refine Wk.iconst X278 hx (hb hby at_251) (n := 252) rfl (z := (2 : Int32)) rfl ?_
          have hc252_280 : (2 : Int32) < (3 : Int32) := by decide
          refine Wk.icmpNo X278 hx (hb hby at_252) (n := 255) rfl (tlt hc252_280).2.2.2 ?_
          refine Wk.aload X278 hx (hb hby at_255) (n := 257) rfl rfl rfl ?_
          refine Wk.iconst X278 hx (hb hby at_257) (n := 258) rfl (z := (2 : Int32)) rfl ?_
          obtain ⟨cq281, kq281, qn281a, qn281b, qn281c⟩ := isOf hZ e278 p268_0
          have cl281_ := fun (Ls : Array Slot) (hLs : Ls.size = c.maxLocals) => X278.virtualBack hx (y := (⟨"java/lang/String", "charAt", "(I)C"⟩ : MethodName)) (z := (⟨"java/lang/String", "charAt", "(I)C"⟩ : MethodName)) hown (mvT hZ (hw _ (List.mem_of_getElem? (i := 187) rfl))) (mvT hZ (hw _ (List.mem_of_getElem? (i := 188) rfl))) (notFace_of_selects (args := #[]) (mvT hZ (hw _ (List.mem_of_getElem? (i := 190) rfl)))) (mvT hZ (hw _ (List.mem_of_getElem? (i := 190) rfl))) (mvT hZ (hw _ (List.mem_of_getElem? (i := 189) rfl))) (by decide) (StrChars.Road.chN (W := 0) hZ (fun d hd => hw d (own_wc d hd)) (kI := 4) (hw _ (List.mem_of_getElem? (i := 3) rfl)) p268_0 p268_1 p268_2 p268_3 (StrChars.Road.codOf (cs := ([c0, c1, c2] ++ 58 :: (sgl p2 ++ dl (mg p2)))) (n := ([c0, c1, c2] ++ 58 :: (sgl p2 ++ dl (mg p2))).length) rfl (fun c hc => (qp c hc).2)) (own_up qp) (Sta.ext f272.2 S4) hCS (Sta.ext f272.2 S5) hFM (by omega) (i := 2) (by rw [lp]; omega) (j := (2 : Int32)) rfl (by decide) (by decide)) qn281a qn281c (g := mkF m 258 Ls [(.int (2 : Int32)), (.ref r_268)]) rfl hLs (Steps.refl _) (argsL := [(.int (2 : Int32))]) (rest := []) (lenOf pd_25 rfl) rfl (by show 2 * 0 + _ ≤ _; exact Nat.le_of_eq rfl) (hb hby at_258) (fun _ _ => ⟨rfl, e278, (by decide : 16 + 1 + 0 + 6 + 0 + 0 + 0 + 0 + 0 + 0 ≤ _), (by decide : 44 + 4 + 0 + 48 + 0 + 0 + 0 + 0 + 0 + 0 ≤ _)⟩)
          refine Wk.back (n := 261) (rc := 0) (rs := 0) (Q := fun v h' L => (v = some (.int ((([c0, c1, c2] ++ 58 :: (sgl p2 ++ dl (mg p2))) : List Int32).getD 2 0)) ∧ L = [] ∧ h' = T268.heap)) (cl281_ _ (by rw [hml]; rfl)) fun vn281 T281 L281 X281 hQ281 => ?_
          clear cl281_
          obtain ⟨rfl, rfl, e281⟩ := hQ281
          have N281 := Fr.app N278 (Fr.nil n0)
          show Wk p e below _ T281 (mkF m 261 _ [(.int (([c0, c1, c2] ++ 58 :: (sgl p2 ++ dl (mg p2))).getD 2 0))])
          refine Wk.iload X281 hx (hb hby at_261) (n := 263) rfl rfl ?_
          have hc263_282 : (([c0, c1, c2] ++ 58 :: (sgl p2 ++ dl (mg p2))).getD 2 0) = c2 := rfl
          refine Wk.icmpYes X281 hx (hb hby at_263) (teq hc263_282).1 (by decide) (n := 268) (by decide) ?_
          exact jt_b T281 T268.heap _ us268 _ (3 : Int32) tl fl c0 c1 c2 ah rh b261 r_268 t_268 kb_268 lg (1 : Int32) ([c0, c1, c2] ++ 58 :: (sgl p2 ++ dl (mg p2))) ([c0, c1, c2] ++ 58 :: sgl p2) ([c0, c1, c2]) (X281.mono (by decide) (by decide)) e281 K268 N281 Bs268 (by omega) hZ hown R268 p268_0 p268_1 p268_2 p268_3 f272 hlg qp (by simp) (by simp; omega) rfl rfl (Nat.le_of_ble_eq_true rfl) (Or.inl ⟨hc182, rfl⟩)
        ·
          refine Wk.ifYes X270 hx (hb hby at_182) ((if0 _ _).trans (flt hc182).2.1) (by decide) (n := 189) (by decide) ?_
          refine Wk.iconst X270 hx (hb hby at_189) (n := 190) rfl (z := (0 : Int32)) rfl ?_
          have hs : sgl p2 = [] := if_neg hc182
          have hsl : (sgl p2).length = 0 := by rw [hs]; rfl
          refine Wk.istore X270 hx (hb hby at_190) (n := 192) rfl (L' := #[.val (.int p1), .val (.long j1), .second, .val (.int p2), .val (.int (3 : Int32)), .val (.int tl), .val (.int fl), .val (.int c0), .val (.int c1), .val (.int c2), .val (.ref ah), .val (.ref rh), .val lg, .val (.ref b261), .val (.ref r_268), .val (.long (Int64.ofNat (mg p2))), .second, .val (.int (Int32.ofNat (dl (mg p2)).length)), .val (.int (0 : Int32)), .unset]) rfl ?_
          refine Wk.aload X270 hx (hb hby at_192) (n := 194) rfl rfl rfl ?_
          have f284 := (f267.keep J268 all0)
          obtain ⟨cq283, kq283, qn283a, qn283b, qn283c⟩ := isOf hZ e270 p268_0
          have cl283_ := fun (Ls : Array Slot) (hLs : Ls.size = c.maxLocals) => X270.virtualBack hx (y := (⟨"java/lang/String", "length", "()I"⟩ : MethodName)) (z := (⟨"java/lang/String", "length", "()I"⟩ : MethodName)) hown (mvT hZ (hw _ (List.mem_of_getElem? (i := 186) rfl))) (mvT hZ (hw _ (List.mem_of_getElem? (i := 77) rfl))) (notFace_of_selects (args := #[]) (mvT hZ (hw _ (List.mem_of_getElem? (i := 79) rfl)))) (mvT hZ (hw _ (List.mem_of_getElem? (i := 79) rfl))) (mvT hZ (hw _ (List.mem_of_getElem? (i := 78) rfl))) (by decide) (StrChars.Road.lenW (W := 0) hZ (fun d hd => hw d (own_wl d hd)) (kI := 4) (hw _ (List.mem_of_getElem? (i := 3) rfl)) p268_0 p268_1 p268_2 p268_3 (StrChars.Road.codOf (cs := ([c0, c1, c2] ++ 58 :: (sgl p2 ++ dl (mg p2)))) (n := ([c0, c1, c2] ++ 58 :: (sgl p2 ++ dl (mg p2))).length) rfl (fun c hc => (qp c hc).2)) (own_up qp) (Sta.ext f284.2 S4) hCS (by omega) (by decide) (by decide)) qn283a qn283c (g := mkF m 194 Ls [(.ref r_268)]) rfl hLs (Steps.refl _) (argsL := []) (rest := []) (lenOf pd_7 rfl) rfl (by show 2 * 0 + _ ≤ _; exact Nat.le_of_eq rfl) (hb hby at_194) (fun _ _ => ⟨rfl, e270, (by decide : 16 + 1 + 0 + 6 + 0 + 0 + 0 ≤ _), (by decide : 44 + 4 + 0 + 48 + 0 + 0 + 0 ≤ _)⟩)
          refine Wk.back (n := 197) (rc := 0) (rs := 0) (Q := fun v h' L => (v = some (.int (Int32.ofNat (([c0, c1, c2] ++ 58 :: (sgl p2 ++ dl (mg p2))) : List Int32).length)) ∧ L = [] ∧ h' = T268.heap)) (cl283_ _ (by rw [hml]; rfl)) fun vn283 T283 L283 X283 hQ283 => ?_
          clear cl283_
          obtain ⟨rfl, rfl, e283⟩ := hQ283
          have N283 := Fr.app N270 (Fr.nil n0)
          show Wk p e below _ T283 (mkF m 197 _ [(.int (Int32.ofNat ([c0, c1, c2] ++ 58 :: (sgl p2 ++ dl (mg p2))).length))])
          refine Wk.iload X283 hx (hb hby at_197) (n := 199) rfl rfl ?_
          refine Wk.iconst X283 hx (hb hby at_199) (n := 200) rfl (z := (1 : Int32)) rfl ?_
          refine Wk.iadd X283 hx (hb hby at_200) (n := 201) rfl ?_
          refine Wk.iload X283 hx (hb hby at_201) (n := 203) rfl rfl ?_
          refine Wk.iadd X283 hx (hb hby at_203) (n := 204) rfl ?_
          refine Wk.iload X283 hx (hb hby at_204) (n := 206) rfl rfl ?_
          refine Wk.iadd X283 hx (hb hby at_206) (n := 207) rfl ?_
          have hc207_285 : (Int32.ofNat ([c0, c1, c2] ++ 58 :: (sgl p2 ++ dl (mg p2))).length) = ((((3 : Int32) + (1 : Int32)) + (0 : Int32)) + (Int32.ofNat (dl (mg p2)).length)) := by rw [lp, hsl, ← own_ofadd]; rfl
          refine Wk.icmpYes X283 hx (hb hby at_207) (teq hc207_285).1 (by decide) (n := 212) (by decide) ?_
          refine Wk.iload X283 hx (hb hby at_212) (n := 214) rfl rfl ?_
          have hc214_286 : (0 : Int32) < (3 : Int32) := by decide
          refine Wk.ifNo X283 hx (hb hby at_214) (n := 217) rfl ((if0 _ _).trans (tlt hc214_286).2.2.2) ?_
          refine Wk.aload X283 hx (hb hby at_217) (n := 219) rfl rfl rfl ?_
          refine Wk.iconst X283 hx (hb hby at_219) (n := 220) rfl (z := (0 : Int32)) rfl ?_
          obtain ⟨cq287, kq287, qn287a, qn287b, qn287c⟩ := isOf hZ e283 p268_0
          have cl287_ := fun (Ls : Array Slot) (hLs : Ls.size = c.maxLocals) => X283.virtualBack hx (y := (⟨"java/lang/String", "charAt", "(I)C"⟩ : MethodName)) (z := (⟨"java/lang/String", "charAt", "(I)C"⟩ : MethodName)) hown (mvT hZ (hw _ (List.mem_of_getElem? (i := 187) rfl))) (mvT hZ (hw _ (List.mem_of_getElem? (i := 188) rfl))) (notFace_of_selects (args := #[]) (mvT hZ (hw _ (List.mem_of_getElem? (i := 190) rfl)))) (mvT hZ (hw _ (List.mem_of_getElem? (i := 190) rfl))) (mvT hZ (hw _ (List.mem_of_getElem? (i := 189) rfl))) (by decide) (StrChars.Road.chN (W := 0) hZ (fun d hd => hw d (own_wc d hd)) (kI := 4) (hw _ (List.mem_of_getElem? (i := 3) rfl)) p268_0 p268_1 p268_2 p268_3 (StrChars.Road.codOf (cs := ([c0, c1, c2] ++ 58 :: (sgl p2 ++ dl (mg p2)))) (n := ([c0, c1, c2] ++ 58 :: (sgl p2 ++ dl (mg p2))).length) rfl (fun c hc => (qp c hc).2)) (own_up qp) (Sta.ext f284.2 S4) hCS (Sta.ext f284.2 S5) hFM (by omega) (i := 0) (by rw [lp]; omega) (j := (0 : Int32)) rfl (by decide) (by decide)) qn287a qn287c (g := mkF m 220 Ls [(.int (0 : Int32)), (.ref r_268)]) rfl hLs (Steps.refl _) (argsL := [(.int (0 : Int32))]) (rest := []) (lenOf pd_25 rfl) rfl (by show 2 * 0 + _ ≤ _; exact Nat.le_of_eq rfl) (hb hby at_220) (fun _ _ => ⟨rfl, e283, (by decide : 16 + 1 + 0 + 6 + 0 + 0 + 0 + 0 ≤ _), (by decide : 44 + 4 + 0 + 48 + 0 + 0 + 0 + 0 ≤ _)⟩)
          refine Wk.back (n := 223) (rc := 0) (rs := 0) (Q := fun v h' L => (v = some (.int ((([c0, c1, c2] ++ 58 :: (sgl p2 ++ dl (mg p2))) : List Int32).getD 0 0)) ∧ L = [] ∧ h' = T268.heap)) (cl287_ _ (by rw [hml]; rfl)) fun vn287 T287 L287 X287 hQ287 => ?_
          clear cl287_
          obtain ⟨rfl, rfl, e287⟩ := hQ287
          have N287 := Fr.app N283 (Fr.nil n0)
          show Wk p e below _ T287 (mkF m 223 _ [(.int (([c0, c1, c2] ++ 58 :: (sgl p2 ++ dl (mg p2))).getD 0 0))])
          refine Wk.iload X287 hx (hb hby at_223) (n := 225) rfl rfl ?_
          have hc225_288 : (([c0, c1, c2] ++ 58 :: (sgl p2 ++ dl (mg p2))).getD 0 0) = c0 := rfl
          refine Wk.icmpYes X287 hx (hb hby at_225) (teq hc225_288).1 (by decide) (n := 230) (by decide) ?_
          refine Wk.iload X287 hx (hb hby at_230) (n := 232) rfl rfl ?_
          refine Wk.iconst X287 hx (hb hby at_232) (n := 233) rfl (z := (1 : Int32)) rfl ?_
          have hc233_289 : (1 : Int32) < (3 : Int32) := by decide
          refine Wk.icmpNo X287 hx (hb hby at_233) (n := 236) rfl (tlt hc233_289).2.2.2 ?_
          refine Wk.aload X287 hx (hb hby at_236) (n := 238) rfl rfl rfl ?_
          refine Wk.iconst X287 hx (hb hby at_238) (n := 239) rfl (z := (1 : Int32)) rfl ?_
          obtain ⟨cq290, kq290, qn290a, qn290b, qn290c⟩ := isOf hZ e287 p268_0
          have cl290_ := fun (Ls : Array Slot) (hLs : Ls.size = c.maxLocals) => X287.virtualBack hx (y := (⟨"java/lang/String", "charAt", "(I)C"⟩ : MethodName)) (z := (⟨"java/lang/String", "charAt", "(I)C"⟩ : MethodName)) hown (mvT hZ (hw _ (List.mem_of_getElem? (i := 187) rfl))) (mvT hZ (hw _ (List.mem_of_getElem? (i := 188) rfl))) (notFace_of_selects (args := #[]) (mvT hZ (hw _ (List.mem_of_getElem? (i := 190) rfl)))) (mvT hZ (hw _ (List.mem_of_getElem? (i := 190) rfl))) (mvT hZ (hw _ (List.mem_of_getElem? (i := 189) rfl))) (by decide) (StrChars.Road.chN (W := 0) hZ (fun d hd => hw d (own_wc d hd)) (kI := 4) (hw _ (List.mem_of_getElem? (i := 3) rfl)) p268_0 p268_1 p268_2 p268_3 (StrChars.Road.codOf (cs := ([c0, c1, c2] ++ 58 :: (sgl p2 ++ dl (mg p2)))) (n := ([c0, c1, c2] ++ 58 :: (sgl p2 ++ dl (mg p2))).length) rfl (fun c hc => (qp c hc).2)) (own_up qp) (Sta.ext f284.2 S4) hCS (Sta.ext f284.2 S5) hFM (by omega) (i := 1) (by rw [lp]; omega) (j := (1 : Int32)) rfl (by decide) (by decide)) qn290a qn290c (g := mkF m 239 Ls [(.int (1 : Int32)), (.ref r_268)]) rfl hLs (Steps.refl _) (argsL := [(.int (1 : Int32))]) (rest := []) (lenOf pd_25 rfl) rfl (by show 2 * 0 + _ ≤ _; exact Nat.le_of_eq rfl) (hb hby at_239) (fun _ _ => ⟨rfl, e287, (by decide : 16 + 1 + 0 + 6 + 0 + 0 + 0 + 0 + 0 ≤ _), (by decide : 44 + 4 + 0 + 48 + 0 + 0 + 0 + 0 + 0 ≤ _)⟩)
          refine Wk.back (n := 242) (rc := 0) (rs := 0) (Q := fun v h' L => (v = some (.int ((([c0, c1, c2] ++ 58 :: (sgl p2 ++ dl (mg p2))) : List Int32).getD 1 0)) ∧ L = [] ∧ h' = T268.heap)) (cl290_ _ (by rw [hml]; rfl)) fun vn290 T290 L290 X290 hQ290 => ?_
          clear cl290_
          obtain ⟨rfl, rfl, e290⟩ := hQ290
          have N290 := Fr.app N287 (Fr.nil n0)
          show Wk p e below _ T290 (mkF m 242 _ [(.int (([c0, c1, c2] ++ 58 :: (sgl p2 ++ dl (mg p2))).getD 1 0))])
          refine Wk.iload X290 hx (hb hby at_242) (n := 244) rfl rfl ?_
          have hc244_291 : (([c0, c1, c2] ++ 58 :: (sgl p2 ++ dl (mg p2))).getD 1 0) = c1 := rfl
          refine Wk.icmpYes X290 hx (hb hby at_244) (teq hc244_291).1 (by decide) (n := 249) (by decide) ?_
          refine Wk.iload X290 hx (hb hby at_249) (n := 251) rfl rfl ?_
          refine Wk.iconst X290 hx (hb hby at_251) (n := 252) rfl (z := (2 : Int32)) rfl ?_
          have hc252_292 : (2 : Int32) < (3 : Int32) := by decide
          refine Wk.icmpNo X290 hx (hb hby at_252) (n := 255) rfl (tlt hc252_292).2.2.2 ?_
          refine Wk.aload X290 hx (hb hby at_255) (n := 257) rfl rfl rfl ?_
          refine Wk.iconst X290 hx (hb hby at_257) (n := 258) rfl (z := (2 : Int32)) rfl ?_
          obtain ⟨cq293, kq293, qn293a, qn293b, qn293c⟩ := isOf hZ e290 p268_0
          have cl293_ := fun (Ls : Array Slot) (hLs : Ls.size = c.maxLocals) => X290.virtualBack hx (y := (⟨"java/lang/String", "charAt", "(I)C"⟩ : MethodName)) (z := (⟨"java/lang/String", "charAt", "(I)C"⟩ : MethodName)) hown (mvT hZ (hw _ (List.mem_of_getElem? (i := 187) rfl))) (mvT hZ (hw _ (List.mem_of_getElem? (i := 188) rfl))) (notFace_of_selects (args := #[]) (mvT hZ (hw _ (List.mem_of_getElem? (i := 190) rfl)))) (mvT hZ (hw _ (List.mem_of_getElem? (i := 190) rfl))) (mvT hZ (hw _ (List.mem_of_getElem? (i := 189) rfl))) (by decide) (StrChars.Road.chN (W := 0) hZ (fun d hd => hw d (own_wc d hd)) (kI := 4) (hw _ (List.mem_of_getElem? (i := 3) rfl)) p268_0 p268_1 p268_2 p268_3 (StrChars.Road.codOf (cs := ([c0, c1, c2] ++ 58 :: (sgl p2 ++ dl (mg p2)))) (n := ([c0, c1, c2] ++ 58 :: (sgl p2 ++ dl (mg p2))).length) rfl (fun c hc => (qp c hc).2)) (own_up qp) (Sta.ext f284.2 S4) hCS (Sta.ext f284.2 S5) hFM (by omega) (i := 2) (by rw [lp]; omega) (j := (2 : Int32)) rfl (by decide) (by decide)) qn293a qn293c (g := mkF m 258 Ls [(.int (2 : Int32)), (.ref r_268)]) rfl hLs (Steps.refl _) (argsL := [(.int (2 : Int32))]) (rest := []) (lenOf pd_25 rfl) rfl (by show 2 * 0 + _ ≤ _; exact Nat.le_of_eq rfl) (hb hby at_258) (fun _ _ => ⟨rfl, e290, (by decide : 16 + 1 + 0 + 6 + 0 + 0 + 0 + 0 + 0 + 0 ≤ _), (by decide : 44 + 4 + 0 + 48 + 0 + 0 + 0 + 0 + 0 + 0 ≤ _)⟩)
          refine Wk.back (n := 261) (rc := 0) (rs := 0) (Q := fun v h' L => (v = some (.int ((([c0, c1, c2] ++ 58 :: (sgl p2 ++ dl (mg p2))) : List Int32).getD 2 0)) ∧ L = [] ∧ h' = T268.heap)) (cl293_ _ (by rw [hml]; rfl)) fun vn293 T293 L293 X293 hQ293 => ?_
          clear cl293_
          obtain ⟨rfl, rfl, e293⟩ := hQ293
          have N293 := Fr.app N290 (Fr.nil n0)
          show Wk p e below _ T293 (mkF m 261 _ [(.int (([c0, c1, c2] ++ 58 :: (sgl p2 ++ dl (mg p2))).getD 2 0))])
          refine Wk.iload X293 hx (hb hby at_261) (n := 263) rfl rfl ?_
          have hc263_294 : (([c0, c1, c2] ++ 58 :: (sgl p2 ++ dl (mg p2))).getD 2 0) = c2 := rfl
          refine Wk.icmpYes X293 hx (hb hby at_263) (teq hc263_294).1 (by decide) (n := 268) (by decide) ?_
          exact jt_b T293 T268.heap _ us268 _ (3 : Int32) tl fl c0 c1 c2 ah rh b261 r_268 t_268 kb_268 lg (0 : Int32) ([c0, c1, c2] ++ 58 :: (sgl p2 ++ dl (mg p2))) ([c0, c1, c2] ++ 58 :: sgl p2) ([c0, c1, c2]) (X293.mono (by decide) (by decide)) e293 K268 N293 Bs268 (by omega) hZ hown R268 p268_0 p268_1 p268_2 p268_3 f284 hlg qp (by simp) (by simp; omega) rfl rfl (Nat.le_of_ble_eq_true rfl) (Or.inr ⟨hc182, rfl⟩)
      refine Wk.iloadN X0 hx (hb hby at_18) (n := 19) rfl rfl ?_
      refine Wk.bipush X0 hx (hb hby at_19) (n := 21) rfl (z := (8 : Int32)) rfl ?_
      refine Wk.iand X0 hx (hb hby at_21) (n := 22) rfl ?_
      by_cases hc22 : (p1 &&& (8 : Int32)) = (0 : Int32)
      ·
        refine Wk.ifYes X0 hx (hb hby at_22) ((if0 _ _).trans (teq hc22).1) (by decide) (n := 29) (by decide) ?_
        refine Wk.iconst X0 hx (hb hby at_29) (n := 30) rfl (z := (0 : Int32)) rfl ?_
        refine Wk.istore X0 hx (hb hby at_30) (n := 32) rfl (L' := #[.val (.int p1), .val (.long j1), .second, .val (.int p2), .val (.int (3 : Int32)), .val (.int tl), .val (.int (0 : Int32)), .unset, .unset, .unset, .unset, .unset, .unset, .unset, .unset, .unset, .unset, .unset, .unset, .unset]) rfl ?_
        refine Wk.lloadN X0 hx (hb hby at_32) (n := 33) rfl rfl ?_
        refine Wk.ldc2Long X0 hx hown (mvT hZ (hw _ (List.mem_of_getElem? (i := 0) rfl))) (hb hby at_33) (n := 36) rfl ?_
        refine Wk.land X0 hx (hb hby at_36) (n := 37) rfl ?_
        refine Wk.l2i X0 hx (hb hby at_37) (n := 38) rfl ?_
        obtain ⟨c0, q_c0⟩ : ∃ z : Int32, z = (((j1 &&& (255 : Int64)).toInt32).toUInt32.toUInt16.toUInt32.toInt32) := ⟨_, rfl⟩
        have n_c0 : nar .char c0 = c0 := by rw [q_c0]; exact own_cL _
        have r_c0 : ¬ c0 < 0 ∧ ¬ (255 : Int32) < c0 := by rw [q_c0]; exact own_rL _
        refine Wk.i2c X0 hx (hb hby at_38) (n := 39) rfl q_c0.symm ?_
        refine Wk.istore X0 hx (hb hby at_39) (n := 41) rfl (L' := #[.val (.int p1), .val (.long j1), .second, .val (.int p2), .val (.int (3 : Int32)), .val (.int tl), .val (.int (0 : Int32)), .val (.int c0), .unset, .unset, .unset, .unset, .unset, .unset, .unset, .unset, .unset, .unset, .unset, .unset]) rfl ?_
        refine Wk.lloadN X0 hx (hb hby at_41) (n := 42) rfl rfl ?_
        refine Wk.bipush X0 hx (hb hby at_42) (n := 44) rfl (z := (8 : Int32)) rfl ?_
        refine Wk.lushr X0 hx (hb hby at_44) (n := 45) rfl (z := ((j1.toUInt64 >>> ((8 : Int32) &&& 63).toInt64.toUInt64).toInt64)) rfl ?_
        refine Wk.ldc2Long X0 hx hown (mvT hZ (hw _ (List.mem_of_getElem? (i := 0) rfl))) (hb hby at_45) (n := 48) rfl ?_
        refine Wk.land X0 hx (hb hby at_48) (n := 49) rfl ?_
        refine Wk.l2i X0 hx (hb hby at_49) (n := 50) rfl ?_
        obtain ⟨c1, q_c1⟩ : ∃ z : Int32, z = (((((j1.toUInt64 >>> ((8 : Int32) &&& 63).toInt64.toUInt64).toInt64) &&& (255 : Int64)).toInt32).toUInt32.toUInt16.toUInt32.toInt32) := ⟨_, rfl⟩
        have n_c1 : nar .char c1 = c1 := by rw [q_c1]; exact own_cL _
        have r_c1 : ¬ c1 < 0 ∧ ¬ (255 : Int32) < c1 := by rw [q_c1]; exact own_rL _
        refine Wk.i2c X0 hx (hb hby at_50) (n := 51) rfl q_c1.symm ?_
        refine Wk.istore X0 hx (hb hby at_51) (n := 53) rfl (L' := #[.val (.int p1), .val (.long j1), .second, .val (.int p2), .val (.int (3 : Int32)), .val (.int tl), .val (.int (0 : Int32)), .val (.int c0), .val (.int c1), .unset, .unset, .unset, .unset, .unset, .unset, .unset, .unset, .unset, .unset, .unset]) rfl ?_
        refine Wk.lloadN X0 hx (hb hby at_53) (n := 54) rfl rfl ?_
        refine Wk.bipush X0 hx (hb hby at_54) (n := 56) rfl (z := (16 : Int32)) rfl ?_
        refine Wk.lushr X0 hx (hb hby at_56) (n := 57) rfl (z := ((j1.toUInt64 >>> ((16 : Int32) &&& 63).toInt64.toUInt64).toInt64)) rfl ?_
        refine Wk.ldc2Long X0 hx hown (mvT hZ (hw _ (List.mem_of_getElem? (i := 0) rfl))) (hb hby at_57) (n := 60) rfl ?_
        refine Wk.land X0 hx (hb hby at_60) (n := 61) rfl ?_
        refine Wk.l2i X0 hx (hb hby at_61) (n := 62) rfl ?_
        obtain ⟨c2, q_c2⟩ : ∃ z : Int32, z = (((((j1.toUInt64 >>> ((16 : Int32) &&& 63).toInt64.toUInt64).toInt64) &&& (255 : Int64)).toInt32).toUInt32.toUInt16.toUInt32.toInt32) := ⟨_, rfl⟩
        have n_c2 : nar .char c2 = c2 := by rw [q_c2]; exact own_cL _
        have r_c2 : ¬ c2 < 0 ∧ ¬ (255 : Int32) < c2 := by rw [q_c2]; exact own_rL _
        refine Wk.i2c X0 hx (hb hby at_62) (n := 63) rfl q_c2.symm ?_
        refine Wk.istore X0 hx (hb hby at_63) (n := 65) rfl (L' := #[.val (.int p1), .val (.long j1), .second, .val (.int p2), .val (.int (3 : Int32)), .val (.int tl), .val (.int (0 : Int32)), .val (.int c0), .val (.int c1), .val (.int c2), .unset, .unset, .unset, .unset, .unset, .unset, .unset, .unset, .unset, .unset]) rfl ?_
        refine Wk.iload X0 hx (hb hby at_65) (n := 67) rfl rfl ?_
        refine Wk.newP X0 hx hZ (hw _ (List.mem_of_getElem? (i := 1) rfl)) e0 (hb hby at_67) (n := 69) rfl (by decide) (cap := 3) (by decide) (by decide) (by decide) (by decide) fun T295 H295 b295 k295 gn295 X295 e295 Ex295 An295 => ?_
        have gn295 := nx gn295
        have sz295 := Ex295.1
        have K295 := K0.ext Ex295
        have R295 := R0.trans (CHr.ext Ex295 R0.1)
        have Vn295 : Arv Z H295 b295 k295 .char (3 : Int32) [(.int (0 : Int32)), (.int (0 : Int32)), (.int (0 : Int32))] (.int (0 : Int32)) := (Arv.new An295 (by decide)).pad (pad_rep [] (.int (0 : Int32)) 3)
        have lt295 := ny Vn295.lt
        refine Wk.astore X295 hx (hb hby at_69) (n := 71) rfl rfl (L' := #[.val (.int p1), .val (.long j1), .second, .val (.int p2), .val (.int (3 : Int32)), .val (.int tl), .val (.int (0 : Int32)), .val (.int c0), .val (.int c1), .val (.int c2), .val (.ref b295), .unset, .unset, .unset, .unset, .unset, .unset, .unset, .unset, .unset]) rfl ?_
        refine Wk.iload X295 hx (hb hby at_71) (n := 73) rfl rfl ?_
        have hc73_296 : (0 : Int32) < (3 : Int32) := by decide
        refine Wk.ifNo X295 hx (hb hby at_73) (n := 76) rfl ((if0 _ _).trans (tlt hc73_296).2.2.2) ?_
        refine Wk.aload X295 hx (hb hby at_76) (n := 78) rfl rfl rfl ?_
        refine Wk.iconst X295 hx (hb hby at_78) (n := 79) rfl (z := (0 : Int32)) rfl ?_
        refine Wk.iload X295 hx (hb hby at_79) (n := 81) rfl rfl ?_
        obtain ⟨cl297, Ar297, qn297, Sz297, N_297, H_297, Gn297⟩ := id Vn295
        have hin297 : ¬ ((0 : Int32) < 0 ∨ cl297.slots.size ≤ ((0 : Int32)).toNatClampNeg) := inb_of Sz297 ⟨by decide, by decide⟩
        refine Wk.stC X295 hx hZ e295 Ar297 hin297 (hb hby at_81) (n := 82) rfl fun T297 H297 X297 e297 Wn297 => ?_
        have Vn297 := Arv.set Ar297 qn297 Sz297 N_297 H_297 Gn297 (fits_nar_char _) Wn297 0 rfl (Nat.le_of_ble_eq_true rfl)
        have Un297 : Arv Z H297 b295 k295 .char (3 : Int32) [(.int c0), (.int (0 : Int32)), (.int (0 : Int32))] (.int (0 : Int32)) := by have q := Vn297; rw [n_c0] at q; exact q
        have sz297 := Wn297.size
        have Sw297 := (Safe.arv (EL := own_EL) hZ.alike Vn295 (by simp))
        have R297 := R295.trans (CHr.wr Wn297 Sw297 R295.1)
        have K297 := K295.wr Wn297 (Or.inr (by omega))
        have N297 := Fr.snoc X297 N0 (by omega)
        refine Wk.iload X297 hx (hb hby at_82) (n := 84) rfl rfl ?_
        refine Wk.iconst X297 hx (hb hby at_84) (n := 85) rfl (z := (1 : Int32)) rfl ?_
        have hc85_298 : (1 : Int32) < (3 : Int32) := by decide
        refine Wk.icmpNo X297 hx (hb hby at_85) (n := 88) rfl (tlt hc85_298).2.2.2 ?_
        refine Wk.aload X297 hx (hb hby at_88) (n := 90) rfl rfl rfl ?_
        refine Wk.iconst X297 hx (hb hby at_90) (n := 91) rfl (z := (1 : Int32)) rfl ?_
        refine Wk.iload X297 hx (hb hby at_91) (n := 93) rfl rfl ?_
        obtain ⟨cl299, Ar299, qn299, Sz299, N_299, H_299, Gn299⟩ := id Un297
        have hin299 : ¬ ((1 : Int32) < 0 ∨ cl299.slots.size ≤ ((1 : Int32)).toNatClampNeg) := inb_of Sz299 ⟨by decide, by decide⟩
        refine Wk.stC X297 hx hZ e297 Ar299 hin299 (hb hby at_93) (n := 94) rfl fun T299 H299 X299 e299 Wn299 => ?_
        have Vn299 := Arv.set Ar299 qn299 Sz299 N_299 H_299 Gn299 (fits_nar_char _) Wn299 1 rfl (Nat.le_of_ble_eq_true rfl)
        have Un299 : Arv Z H299 b295 k295 .char (3 : Int32) [(.int c0), (.int c1), (.int (0 : Int32))] (.int (0 : Int32)) := by have q := Vn299; rw [n_c1] at q; exact q
        have sz299 := Wn299.size
        have Sw299 := (Safe.arv (EL := own_EL) hZ.alike Un297 (by simp))
        have R299 := R297.trans (CHr.wr Wn299 Sw299 R297.1)
        have K299 := K297.wr Wn299 (Or.inr (by omega))
        have N299 := Fr.snoc X299 N297 (by omega)
        refine Wk.iload X299 hx (hb hby at_94) (n := 96) rfl rfl ?_
        refine Wk.iconst X299 hx (hb hby at_96) (n := 97) rfl (z := (2 : Int32)) rfl ?_
        have hc97_300 : (2 : Int32) < (3 : Int32) := by decide
        refine Wk.icmpNo X299 hx (hb hby at_97) (n := 100) rfl (tlt hc97_300).2.2.2 ?_
        refine Wk.aload X299 hx (hb hby at_100) (n := 102) rfl rfl rfl ?_
        refine Wk.iconst X299 hx (hb hby at_102) (n := 103) rfl (z := (2 : Int32)) rfl ?_
        refine Wk.iload X299 hx (hb hby at_103) (n := 105) rfl rfl ?_
        obtain ⟨cl301, Ar301, qn301, Sz301, N_301, H_301, Gn301⟩ := id Un299
        have hin301 : ¬ ((2 : Int32) < 0 ∨ cl301.slots.size ≤ ((2 : Int32)).toNatClampNeg) := inb_of Sz301 ⟨by decide, by decide⟩
        refine Wk.stC X299 hx hZ e299 Ar301 hin301 (hb hby at_105) (n := 106) rfl fun T301 H301 X301 e301 Wn301 => ?_
        have Vn301 := Arv.set Ar301 qn301 Sz301 N_301 H_301 Gn301 (fits_nar_char _) Wn301 2 rfl (Nat.le_of_ble_eq_true rfl)
        have Un301 : Arv Z H301 b295 k295 .char (3 : Int32) [(.int c0), (.int c1), (.int c2)] (.int (0 : Int32)) := by have q := Vn301; rw [n_c2] at q; exact q
        have sz301 := Wn301.size
        have Sw301 := (Safe.arv (EL := own_EL) hZ.alike Un299 (by simp))
        have R301 := R299.trans (CHr.wr Wn301 Sw301 R299.1)
        have K301 := K299.wr Wn301 (Or.inr (by omega))
        have N301 := Fr.snoc X301 N299 (by omega)
        refine Wk.newO X301 hx hZ hown (hw _ (List.mem_of_getElem? (i := 2) rfl)) (hw _ (List.mem_of_getElem? (i := 3) rfl)) (hw _ (List.mem_of_getElem? (i := 4) rfl)) e301 (hb hby at_106) (n := 109) rfl (by decide) (by decide) fun T302 H302 b302 gn302 X302 e302 Ex302 An302 Dn302 Yn302 => ?_
        have gn302 := nx gn302
        have sz302 := Ex302.1
        have lt302 := ny An302.lt
        have K302 := K301.ext Ex302
        have R302 := R301.trans (CHr.ext Ex302 R301.1)
        have Sf302 := Safe.ext (x := b302) Ex302 R301.1 (Safe.new (Nat.le_of_eq gn302.symm))
        have Fn302_value : Fld Z H302 b302 "java/lang/String" "value" "[B" .null := Dn302 (Or.inr (hw _ (List.mem_of_getElem? (i := 17) rfl))) (ty := (.array .byte)) (by decide)
        have Fn302_coder : Fld Z H302 b302 "java/lang/String" "coder" "B" (.int (0 : Int32)) := Dn302 (Or.inr (hw _ (List.mem_of_getElem? (i := 18) rfl))) (ty := .byte) (by decide)
        refine Wk.dup X302 hx (hb hby at_109) (n := 110) rfl rfl ?_
        refine Wk.aload X302 hx (hb hby at_110) (n := 112) rfl rfl rfl ?_
        have f304 := (Un301.ext Ex302)
        have f305 := (((((O1.ext Ex295).wr Wn297 (by omega)).wr Wn299 (by omega)).wr Wn301 (by omega)).ext Ex302)
        have hp306 : ∀ c ∈ ([c0, c1, c2] : List Int32), ¬ c < 0 ∧ ¬ (255 : Int32) < c := List.forall_mem_cons.mpr ⟨r_c0, List.forall_mem_cons.mpr ⟨r_c1, List.forall_mem_cons.mpr ⟨r_c2, (fun _ q => nomatch q)⟩⟩⟩
        have cl303_ := fun (Ls : Array Slot) (hLs : Ls.size = c.maxLocals) => X302.specialBack hx (y := (⟨"java/lang/String", "<init>", "([C)V"⟩ : MethodName)) rfl hown (mvT hZ (hw _ (List.mem_of_getElem? (i := 5) rfl))) (mvT hZ (hw _ (List.mem_of_getElem? (i := 6) rfl))) (mvT hZ (hw _ (List.mem_of_getElem? (i := 7) rfl))) (by decide) (StrChars.Road.backV (n0 := n0) (h := H302) (x := b302) (W := 1) hZ (fun d hd => hw d (own_ws d hd)) (kI := 4) (hw _ (List.mem_of_getElem? (i := 3) rfl)) (cs := [c0, c1, c2]) (bs := (([c0, c1, c2] : List Int32).map (fun c => c.toInt8.toInt32))) (n := 3) (by omega) (by omega) An302 Fn302_value Fn302_coder f304 (Sta.ext f305.2 S4) hCS rfl rfl (by decide) (by decide) hp306 rfl (by decide) (by decide)) (g := mkF m 112 Ls [(.ref b295), (.ref b302), (.ref b302)]) rfl hLs (Steps.refl _) (a := b302) (argsL := [(.ref b295)]) (rest := [(.ref b302)]) (lenOf pd_30 rfl) rfl (by show 2 * 0 + _ ≤ _; exact Nat.le_of_eq rfl) (hb hby at_112) (fun _ _ => ⟨rfl, e302, (by decide : 0 + 1 + 1 + 1 ≤ _), (by decide : 0 + 3 + 4 + 3 ≤ _)⟩)
        refine Wk.back (n := 115) (rc := 1) (rs := 3) (Q := StrChars.Road.QV Z b302 (3 : Int32) (([c0, c1, c2] : List Int32).map (fun c => c.toInt8.toInt32)) H302 n0) (cl303_ _ (by rw [hml]; rfl)) fun vn303 T303 L303 X303 hQ303 => ?_
        clear cl303_
        obtain ⟨rfl, M303, J303, p303_0, p303_1, t_303, kb_303, _, ge_303, nt_303, p303_2, p303_3⟩ := hQ303
        have nt_303 := nw nt_303
        have N303 := Fr.app N301 M303
        have sz303 := J303.1
        have hs303 : ∀ x ∈ ([b302] : List Addr), Safe Z own_EL s.vm H302 x := (sfS Sf302 sf0)
        have R303 := R302.trans (CHr.keep J303 hs303 R302.1)
        have K303 := K302.trans J303 (allS (Or.inr (by omega)) all0)
        have lt_p303 := ny p303_3.lt
        show Wk p e below _ T303 (mkF m 115 _ [(.ref b302)])
        refine Wk.astore X303 hx (hb hby at_115) (n := 117) rfl rfl (L' := #[.val (.int p1), .val (.long j1), .second, .val (.int p2), .val (.int (3 : Int32)), .val (.int tl), .val (.int (0 : Int32)), .val (.int c0), .val (.int c1), .val (.int c2), .val (.ref b295), .val (.ref b302), .unset, .unset, .unset, .unset, .unset, .unset, .unset, .unset]) rfl ?_
        refine Wk.aconstNull X303 hx (hb hby at_117) (n := 118) rfl ?_
        refine Wk.astore X303 hx (hb hby at_118) (n := 120) rfl rfl (L' := #[.val (.int p1), .val (.long j1), .second, .val (.int p2), .val (.int (3 : Int32)), .val (.int tl), .val (.int (0 : Int32)), .val (.int c0), .val (.int c1), .val (.int c2), .val (.ref b295), .val (.ref b302), .val .null, .unset, .unset, .unset, .unset, .unset, .unset, .unset]) rfl ?_
        refine Wk.iload X303 hx (hb hby at_120) (n := 122) rfl rfl ?_
        have hc122_307 : (0 : Int32) = (0 : Int32) := rfl
        refine Wk.ifYes X303 hx (hb hby at_122) ((if0 _ _).trans (teq hc122_307).1) (by decide) (n := 144) (by decide) ?_
        have f308 := (f305.keep J303 (allS (by omega) all0))
        exact jt_c T303 T303.heap _ s _ c0 c1 c2 (0 : Int32) b295 b302 t_303 kb_303 .null (X303.mono (by decide) (by decide)) rfl K303 N303 Bs0 (by omega) hZ hown R303 p303_0 p303_2 p303_1 p303_3 f308 hp306 rfl
      ·
        refine Wk.ifNo X0 hx (hb hby at_22) (n := 25) rfl ((if0 _ _).trans (feq hc22).1) ?_
        refine Wk.iconst X0 hx (hb hby at_25) (n := 26) rfl (z := (1 : Int32)) rfl ?_
        refine Wk.goto X0 hx (hb hby at_26) (by decide) (n := 30) (by decide) ?_
        refine Wk.istore X0 hx (hb hby at_30) (n := 32) rfl (L' := #[.val (.int p1), .val (.long j1), .second, .val (.int p2), .val (.int (3 : Int32)), .val (.int tl), .val (.int (1 : Int32)), .unset, .unset, .unset, .unset, .unset, .unset, .unset, .unset, .unset, .unset, .unset, .unset, .unset]) rfl ?_
        refine Wk.lloadN X0 hx (hb hby at_32) (n := 33) rfl rfl ?_
        refine Wk.ldc2Long X0 hx hown (mvT hZ (hw _ (List.mem_of_getElem? (i := 0) rfl))) (hb hby at_33) (n := 36) rfl ?_
        refine Wk.land X0 hx (hb hby at_36) (n := 37) rfl ?_
        refine Wk.l2i X0 hx (hb hby at_37) (n := 38) rfl ?_
        obtain ⟨c0, q_c0⟩ : ∃ z : Int32, z = (((j1 &&& (255 : Int64)).toInt32).toUInt32.toUInt16.toUInt32.toInt32) := ⟨_, rfl⟩
        have n_c0 : nar .char c0 = c0 := by rw [q_c0]; exact own_cL _
        have r_c0 : ¬ c0 < 0 ∧ ¬ (255 : Int32) < c0 := by rw [q_c0]; exact own_rL _
        refine Wk.i2c X0 hx (hb hby at_38) (n := 39) rfl q_c0.symm ?_
        refine Wk.istore X0 hx (hb hby at_39) (n := 41) rfl (L' := #[.val (.int p1), .val (.long j1), .second, .val (.int p2), .val (.int (3 : Int32)), .val (.int tl), .val (.int (1 : Int32)), .val (.int c0), .unset, .unset, .unset, .unset, .unset, .unset, .unset, .unset, .unset, .unset, .unset, .unset]) rfl ?_
        refine Wk.lloadN X0 hx (hb hby at_41) (n := 42) rfl rfl ?_
        refine Wk.bipush X0 hx (hb hby at_42) (n := 44) rfl (z := (8 : Int32)) rfl ?_
        refine Wk.lushr X0 hx (hb hby at_44) (n := 45) rfl (z := ((j1.toUInt64 >>> ((8 : Int32) &&& 63).toInt64.toUInt64).toInt64)) rfl ?_
        refine Wk.ldc2Long X0 hx hown (mvT hZ (hw _ (List.mem_of_getElem? (i := 0) rfl))) (hb hby at_45) (n := 48) rfl ?_
        refine Wk.land X0 hx (hb hby at_48) (n := 49) rfl ?_
        refine Wk.l2i X0 hx (hb hby at_49) (n := 50) rfl ?_
        obtain ⟨c1, q_c1⟩ : ∃ z : Int32, z = (((((j1.toUInt64 >>> ((8 : Int32) &&& 63).toInt64.toUInt64).toInt64) &&& (255 : Int64)).toInt32).toUInt32.toUInt16.toUInt32.toInt32) := ⟨_, rfl⟩
        have n_c1 : nar .char c1 = c1 := by rw [q_c1]; exact own_cL _
        have r_c1 : ¬ c1 < 0 ∧ ¬ (255 : Int32) < c1 := by rw [q_c1]; exact own_rL _
        refine Wk.i2c X0 hx (hb hby at_50) (n := 51) rfl q_c1.symm ?_
        refine Wk.istore X0 hx (hb hby at_51) (n := 53) rfl (L' := #[.val (.int p1), .val (.long j1), .second, .val (.int p2), .val (.int (3 : Int32)), .val (.int tl), .val (.int (1 : Int32)), .val (.int c0), .val (.int c1), .unset, .unset, .unset, .unset, .unset, .unset, .unset, .unset, .unset, .unset, .unset]) rfl ?_
        refine Wk.lloadN X0 hx (hb hby at_53) (n := 54) rfl rfl ?_
        refine Wk.bipush X0 hx (hb hby at_54) (n := 56) rfl (z := (16 : Int32)) rfl ?_
        refine Wk.lushr X0 hx (hb hby at_56) (n := 57) rfl (z := ((j1.toUInt64 >>> ((16 : Int32) &&& 63).toInt64.toUInt64).toInt64)) rfl ?_
        refine Wk.ldc2Long X0 hx hown (mvT hZ (hw _ (List.mem_of_getElem? (i := 0) rfl))) (hb hby at_57) (n := 60) rfl ?_
        refine Wk.land X0 hx (hb hby at_60) (n := 61) rfl ?_
        refine Wk.l2i X0 hx (hb hby at_61) (n := 62) rfl ?_
        obtain ⟨c2, q_c2⟩ : ∃ z : Int32, z = (((((j1.toUInt64 >>> ((16 : Int32) &&& 63).toInt64.toUInt64).toInt64) &&& (255 : Int64)).toInt32).toUInt32.toUInt16.toUInt32.toInt32) := ⟨_, rfl⟩
        have n_c2 : nar .char c2 = c2 := by rw [q_c2]; exact own_cL _
        have r_c2 : ¬ c2 < 0 ∧ ¬ (255 : Int32) < c2 := by rw [q_c2]; exact own_rL _
        refine Wk.i2c X0 hx (hb hby at_62) (n := 63) rfl q_c2.symm ?_
        refine Wk.istore X0 hx (hb hby at_63) (n := 65) rfl (L' := #[.val (.int p1), .val (.long j1), .second, .val (.int p2), .val (.int (3 : Int32)), .val (.int tl), .val (.int (1 : Int32)), .val (.int c0), .val (.int c1), .val (.int c2), .unset, .unset, .unset, .unset, .unset, .unset, .unset, .unset, .unset, .unset]) rfl ?_
        refine Wk.iload X0 hx (hb hby at_65) (n := 67) rfl rfl ?_
        refine Wk.newP X0 hx hZ (hw _ (List.mem_of_getElem? (i := 1) rfl)) e0 (hb hby at_67) (n := 69) rfl (by decide) (cap := 3) (by decide) (by decide) (by decide) (by decide) fun T309 H309 b309 k309 gn309 X309 e309 Ex309 An309 => ?_
        have gn309 := nx gn309
        have sz309 := Ex309.1
        have K309 := K0.ext Ex309
        have R309 := R0.trans (CHr.ext Ex309 R0.1)
        have Vn309 : Arv Z H309 b309 k309 .char (3 : Int32) [(.int (0 : Int32)), (.int (0 : Int32)), (.int (0 : Int32))] (.int (0 : Int32)) := (Arv.new An309 (by decide)).pad (pad_rep [] (.int (0 : Int32)) 3)
        have lt309 := ny Vn309.lt
        refine Wk.astore X309 hx (hb hby at_69) (n := 71) rfl rfl (L' := #[.val (.int p1), .val (.long j1), .second, .val (.int p2), .val (.int (3 : Int32)), .val (.int tl), .val (.int (1 : Int32)), .val (.int c0), .val (.int c1), .val (.int c2), .val (.ref b309), .unset, .unset, .unset, .unset, .unset, .unset, .unset, .unset, .unset]) rfl ?_
        refine Wk.iload X309 hx (hb hby at_71) (n := 73) rfl rfl ?_
        have hc73_310 : (0 : Int32) < (3 : Int32) := by decide
        refine Wk.ifNo X309 hx (hb hby at_73) (n := 76) rfl ((if0 _ _).trans (tlt hc73_310).2.2.2) ?_
        refine Wk.aload X309 hx (hb hby at_76) (n := 78) rfl rfl rfl ?_
        refine Wk.iconst X309 hx (hb hby at_78) (n := 79) rfl (z := (0 : Int32)) rfl ?_
        refine Wk.iload X309 hx (hb hby at_79) (n := 81) rfl rfl ?_
        obtain ⟨cl311, Ar311, qn311, Sz311, N_311, H_311, Gn311⟩ := id Vn309
        have hin311 : ¬ ((0 : Int32) < 0 ∨ cl311.slots.size ≤ ((0 : Int32)).toNatClampNeg) := inb_of Sz311 ⟨by decide, by decide⟩
        refine Wk.stC X309 hx hZ e309 Ar311 hin311 (hb hby at_81) (n := 82) rfl fun T311 H311 X311 e311 Wn311 => ?_
        have Vn311 := Arv.set Ar311 qn311 Sz311 N_311 H_311 Gn311 (fits_nar_char _) Wn311 0 rfl (Nat.le_of_ble_eq_true rfl)
        have Un311 : Arv Z H311 b309 k309 .char (3 : Int32) [(.int c0), (.int (0 : Int32)), (.int (0 : Int32))] (.int (0 : Int32)) := by have q := Vn311; rw [n_c0] at q; exact q
        have sz311 := Wn311.size
        have Sw311 := (Safe.arv (EL := own_EL) hZ.alike Vn309 (by simp))
        have R311 := R309.trans (CHr.wr Wn311 Sw311 R309.1)
        have K311 := K309.wr Wn311 (Or.inr (by omega))
        have N311 := Fr.snoc X311 N0 (by omega)
        refine Wk.iload X311 hx (hb hby at_82) (n := 84) rfl rfl ?_
        refine Wk.iconst X311 hx (hb hby at_84) (n := 85) rfl (z := (1 : Int32)) rfl ?_
        have hc85_312 : (1 : Int32) < (3 : Int32) := by decide
        refine Wk.icmpNo X311 hx (hb hby at_85) (n := 88) rfl (tlt hc85_312).2.2.2 ?_
        refine Wk.aload X311 hx (hb hby at_88) (n := 90) rfl rfl rfl ?_
        refine Wk.iconst X311 hx (hb hby at_90) (n := 91) rfl (z := (1 : Int32)) rfl ?_
        refine Wk.iload X311 hx (hb hby at_91) (n := 93) rfl rfl ?_
        obtain ⟨cl313, Ar313, qn313, Sz313, N_313, H_313, Gn313⟩ := id Un311
        have hin313 : ¬ ((1 : Int32) < 0 ∨ cl313.slots.size ≤ ((1 : Int32)).toNatClampNeg) := inb_of Sz313 ⟨by decide, by decide⟩
        refine Wk.stC X311 hx hZ e311 Ar313 hin313 (hb hby at_93) (n := 94) rfl fun T313 H313 X313 e313 Wn313 => ?_
        have Vn313 := Arv.set Ar313 qn313 Sz313 N_313 H_313 Gn313 (fits_nar_char _) Wn313 1 rfl (Nat.le_of_ble_eq_true rfl)
        have Un313 : Arv Z H313 b309 k309 .char (3 : Int32) [(.int c0), (.int c1), (.int (0 : Int32))] (.int (0 : Int32)) := by have q := Vn313; rw [n_c1] at q; exact q
        have sz313 := Wn313.size
        have Sw313 := (Safe.arv (EL := own_EL) hZ.alike Un311 (by simp))
        have R313 := R311.trans (CHr.wr Wn313 Sw313 R311.1)
        have K313 := K311.wr Wn313 (Or.inr (by omega))
        have N313 := Fr.snoc X313 N311 (by omega)
        refine Wk.iload X313 hx (hb hby at_94) (n := 96) rfl rfl ?_
        refine Wk.iconst X313 hx (hb hby at_96) (n := 97) rfl (z := (2 : Int32)) rfl ?_
        have hc97_314 : (2 : Int32) < (3 : Int32) := by decide
        refine Wk.icmpNo X313 hx (hb hby at_97) (n := 100) rfl (tlt hc97_314).2.2.2 ?_
        refine Wk.aload X313 hx (hb hby at_100) (n := 102) rfl rfl rfl ?_
        refine Wk.iconst X313 hx (hb hby at_102) (n := 103) rfl (z := (2 : Int32)) rfl ?_
        refine Wk.iload X313 hx (hb hby at_103) (n := 105) rfl rfl ?_
        obtain ⟨cl315, Ar315, qn315, Sz315, N_315, H_315, Gn315⟩ := id Un313
        have hin315 : ¬ ((2 : Int32) < 0 ∨ cl315.slots.size ≤ ((2 : Int32)).toNatClampNeg) := inb_of Sz315 ⟨by decide, by decide⟩
        refine Wk.stC X313 hx hZ e313 Ar315 hin315 (hb hby at_105) (n := 106) rfl fun T315 H315 X315 e315 Wn315 => ?_
        have Vn315 := Arv.set Ar315 qn315 Sz315 N_315 H_315 Gn315 (fits_nar_char _) Wn315 2 rfl (Nat.le_of_ble_eq_true rfl)
        have Un315 : Arv Z H315 b309 k309 .char (3 : Int32) [(.int c0), (.int c1), (.int c2)] (.int (0 : Int32)) := by have q := Vn315; rw [n_c2] at q; exact q
        have sz315 := Wn315.size
        have Sw315 := (Safe.arv (EL := own_EL) hZ.alike Un313 (by simp))
        have R315 := R313.trans (CHr.wr Wn315 Sw315 R313.1)
        have K315 := K313.wr Wn315 (Or.inr (by omega))
        have N315 := Fr.snoc X315 N313 (by omega)
        refine Wk.newO X315 hx hZ hown (hw _ (List.mem_of_getElem? (i := 2) rfl)) (hw _ (List.mem_of_getElem? (i := 3) rfl)) (hw _ (List.mem_of_getElem? (i := 4) rfl)) e315 (hb hby at_106) (n := 109) rfl (by decide) (by decide) fun T316 H316 b316 gn316 X316 e316 Ex316 An316 Dn316 Yn316 => ?_
        have gn316 := nx gn316
        have sz316 := Ex316.1
        have lt316 := ny An316.lt
        have K316 := K315.ext Ex316
        have R316 := R315.trans (CHr.ext Ex316 R315.1)
        have Sf316 := Safe.ext (x := b316) Ex316 R315.1 (Safe.new (Nat.le_of_eq gn316.symm))
        have Fn316_value : Fld Z H316 b316 "java/lang/String" "value" "[B" .null := Dn316 (Or.inr (hw _ (List.mem_of_getElem? (i := 17) rfl))) (ty := (.array .byte)) (by decide)
        have Fn316_coder : Fld Z H316 b316 "java/lang/String" "coder" "B" (.int (0 : Int32)) := Dn316 (Or.inr (hw _ (List.mem_of_getElem? (i := 18) rfl))) (ty := .byte) (by decide)
        refine Wk.dup X316 hx (hb hby at_109) (n := 110) rfl rfl ?_
        refine Wk.aload X316 hx (hb hby at_110) (n := 112) rfl rfl rfl ?_
        have f318 := (Un315.ext Ex316)
        have f319 := (((((O1.ext Ex309).wr Wn311 (by omega)).wr Wn313 (by omega)).wr Wn315 (by omega)).ext Ex316)
        have hp320 : ∀ c ∈ ([c0, c1, c2] : List Int32), ¬ c < 0 ∧ ¬ (255 : Int32) < c := List.forall_mem_cons.mpr ⟨r_c0, List.forall_mem_cons.mpr ⟨r_c1, List.forall_mem_cons.mpr ⟨r_c2, (fun _ q => nomatch q)⟩⟩⟩
        have cl317_ := fun (Ls : Array Slot) (hLs : Ls.size = c.maxLocals) => X316.specialBack hx (y := (⟨"java/lang/String", "<init>", "([C)V"⟩ : MethodName)) rfl hown (mvT hZ (hw _ (List.mem_of_getElem? (i := 5) rfl))) (mvT hZ (hw _ (List.mem_of_getElem? (i := 6) rfl))) (mvT hZ (hw _ (List.mem_of_getElem? (i := 7) rfl))) (by decide) (StrChars.Road.backV (n0 := n0) (h := H316) (x := b316) (W := 1) hZ (fun d hd => hw d (own_ws d hd)) (kI := 4) (hw _ (List.mem_of_getElem? (i := 3) rfl)) (cs := [c0, c1, c2]) (bs := (([c0, c1, c2] : List Int32).map (fun c => c.toInt8.toInt32))) (n := 3) (by omega) (by omega) An316 Fn316_value Fn316_coder f318 (Sta.ext f319.2 S4) hCS rfl rfl (by decide) (by decide) hp320 rfl (by decide) (by decide)) (g := mkF m 112 Ls [(.ref b309), (.ref b316), (.ref b316)]) rfl hLs (Steps.refl _) (a := b316) (argsL := [(.ref b309)]) (rest := [(.ref b316)]) (lenOf pd_30 rfl) rfl (by show 2 * 0 + _ ≤ _; exact Nat.le_of_eq rfl) (hb hby at_112) (fun _ _ => ⟨rfl, e316, (by decide : 0 + 1 + 1 + 1 ≤ _), (by decide : 0 + 3 + 4 + 3 ≤ _)⟩)
        refine Wk.back (n := 115) (rc := 1) (rs := 3) (Q := StrChars.Road.QV Z b316 (3 : Int32) (([c0, c1, c2] : List Int32).map (fun c => c.toInt8.toInt32)) H316 n0) (cl317_ _ (by rw [hml]; rfl)) fun vn317 T317 L317 X317 hQ317 => ?_
        clear cl317_
        obtain ⟨rfl, M317, J317, p317_0, p317_1, t_317, kb_317, _, ge_317, nt_317, p317_2, p317_3⟩ := hQ317
        have nt_317 := nw nt_317
        have N317 := Fr.app N315 M317
        have sz317 := J317.1
        have hs317 : ∀ x ∈ ([b316] : List Addr), Safe Z own_EL s.vm H316 x := (sfS Sf316 sf0)
        have R317 := R316.trans (CHr.keep J317 hs317 R316.1)
        have K317 := K316.trans J317 (allS (Or.inr (by omega)) all0)
        have lt_p317 := ny p317_3.lt
        show Wk p e below _ T317 (mkF m 115 _ [(.ref b316)])
        refine Wk.astore X317 hx (hb hby at_115) (n := 117) rfl rfl (L' := #[.val (.int p1), .val (.long j1), .second, .val (.int p2), .val (.int (3 : Int32)), .val (.int tl), .val (.int (1 : Int32)), .val (.int c0), .val (.int c1), .val (.int c2), .val (.ref b309), .val (.ref b316), .unset, .unset, .unset, .unset, .unset, .unset, .unset, .unset]) rfl ?_
        refine Wk.aconstNull X317 hx (hb hby at_117) (n := 118) rfl ?_
        refine Wk.astore X317 hx (hb hby at_118) (n := 120) rfl rfl (L' := #[.val (.int p1), .val (.long j1), .second, .val (.int p2), .val (.int (3 : Int32)), .val (.int tl), .val (.int (1 : Int32)), .val (.int c0), .val (.int c1), .val (.int c2), .val (.ref b309), .val (.ref b316), .val .null, .unset, .unset, .unset, .unset, .unset, .unset, .unset]) rfl ?_
        refine Wk.iload X317 hx (hb hby at_120) (n := 122) rfl rfl ?_
        have hc122_321 : ¬ ((1 : Int32) = (0 : Int32)) := by decide
        refine Wk.ifNo X317 hx (hb hby at_122) (n := 125) rfl ((if0 _ _).trans (feq hc122_321).1) ?_
        refine Wk.newO X317 hx hZ hown (hw _ (List.mem_of_getElem? (i := 222) rfl)) (hw _ (List.mem_of_getElem? (i := 223) rfl)) (hw _ (List.mem_of_getElem? (i := 224) rfl)) rfl (hb hby at_125) (n := 128) rfl (by decide) (by decide) fun T322 H322 b322 gn322 X322 e322 Ex322 An322 Dn322 Yn322 => ?_
        have gn322 := nx gn322
        have sz322 := Ex322.1
        have lt322 := ny An322.lt
        have K322 := K317.ext Ex322
        have R322 := R317.trans (CHr.ext Ex322 R317.1)
        have Fn322_user : Fld Z H322 b322 "com/example/net_thirty/netthirty/mail/MailServer$Login" "user" "Ljava/lang/String;" .null := Dn322 (Or.inr (hw _ (List.mem_of_getElem? (i := 243) rfl))) (ty := (.object "java/lang/String")) (by decide)
        have Fn322_password : Fld Z H322 b322 "com/example/net_thirty/netthirty/mail/MailServer$Login" "password" "Ljava/lang/String;" .null := Dn322 (Or.inr (hw _ (List.mem_of_getElem? (i := 245) rfl))) (ty := (.object "java/lang/String")) (by decide)
        refine Wk.dup X322 hx (hb hby at_128) (n := 129) rfl rfl ?_
        refine Wk.iload X322 hx (hb hby at_129) (n := 131) rfl rfl ?_
        have f323 := ((f319.keep J317 (allS (by omega) all0)).ext Ex322)
        have cl324_ := fun (Ls : Array Slot) (hLs : Ls.size = c.maxLocals) => Jvm.LawKit.callS X322 hx (y := (⟨"java/lang/String", "valueOf", "(C)Ljava/lang/String;"⟩ : MethodName)) hown (mvT hZ (hw _ (List.mem_of_getElem? (i := 225) rfl))) (mvT hZ (hw _ (List.mem_of_getElem? (i := 226) rfl))) (mvT hZ (hw _ (List.mem_of_getElem? (i := 4) rfl))) (mvT hZ (hw _ (List.mem_of_getElem? (i := 227) rfl))) (by decide) (backOf (W := 2) (rmSVO l Z a0 hw [] c1 zc H322 n0 (by omega) S4 f323 hCS r_c1.2) hZ (hw _ (List.mem_of_getElem? (i := 227) rfl)) (hw _ (List.mem_of_getElem? (i := 4) rfl)) (by decide) (by decide)) (g := mkF m 131 Ls [(.int c1), (.ref b322), (.ref b322)]) rfl hLs (argsL := [(.int c1)]) (rest := [(.ref b322), (.ref b322)]) (lenOf pd_31 rfl) rfl (by show 2 * 0 + _ ≤ _; exact Nat.le_of_eq rfl) (hb hby at_131) (fun _ _ => ⟨rfl, e322, (by decide : 0 + 1 + 1 + 1 + 1 + 2 ≤ _), (by decide : 0 + 3 + 4 + 3 + 2 + 5 ≤ _)⟩)
        refine Wk.backS (n := 134) (rc := 2) (rs := 5) (Q := Q_rmSVO Z c1 zc H322 n0) (cl324_ _ (by rw [hml]; rfl)) fun vn324 T324 L324 X324 hQ324 => ?_
        clear cl324_
        obtain ⟨r_324, t_324, kb_324, rfl, M324, J324, p324_0, p324_1, p324_2, p324_3, gr_324, gt_324⟩ := hQ324
        have N324 := Fr.app N317 M324
        have sz324 := J324.1
        have hs324 : ∀ x ∈ ([] : List Addr), Safe Z own_EL s.vm H322 x := sf0
        have R324 := R322.trans (CHr.keep J324 hs324 R322.1)
        have K324 := K322.trans J324 (fun x hx => nomatch hx)
        have lt_p324_0 := ny p324_0.lt
        have lt_p324_3 := ny p324_3.lt
        show Wk p e below _ T324 (mkF m 134 _ [(.ref r_324), (.ref b322), (.ref b322)])
        refine Wk.iload X324 hx (hb hby at_134) (n := 136) rfl rfl ?_
        have f325 := (f323.keep J324 all0)
        have cl326_ := fun (Ls : Array Slot) (hLs : Ls.size = c.maxLocals) => Jvm.LawKit.callS X324 hx (y := (⟨"java/lang/String", "valueOf", "(C)Ljava/lang/String;"⟩ : MethodName)) hown (mvT hZ (hw _ (List.mem_of_getElem? (i := 225) rfl))) (mvT hZ (hw _ (List.mem_of_getElem? (i := 226) rfl))) (mvT hZ (hw _ (List.mem_of_getElem? (i := 4) rfl))) (mvT hZ (hw _ (List.mem_of_getElem? (i := 227) rfl))) (by decide) (backOf (W := 3) (rmSVO l Z a0 hw [] c2 zc T324.heap n0 (by omega) S4 f325 hCS r_c2.2) hZ (hw _ (List.mem_of_getElem? (i := 227) rfl)) (hw _ (List.mem_of_getElem? (i := 4) rfl)) (by decide) (by decide)) (g := mkF m 136 Ls [(.int c2), (.ref r_324), (.ref b322), (.ref b322)]) rfl hLs (argsL := [(.int c2)]) (rest := [(.ref r_324), (.ref b322), (.ref b322)]) (lenOf pd_31 rfl) rfl (by show 2 * 0 + _ ≤ _; exact Nat.le_of_eq rfl) (hb hby at_136) (fun _ _ => ⟨rfl, rfl, (by decide : 0 + 1 + 1 + 1 + 1 + 2 + 2 ≤ _), (by decide : 0 + 3 + 4 + 3 + 2 + 5 + 5 ≤ _)⟩)
        refine Wk.backS (n := 139) (rc := 2) (rs := 5) (Q := Q_rmSVO Z c2 zc T324.heap n0) (cl326_ _ (by rw [hml]; rfl)) fun vn326 T326 L326 X326 hQ326 => ?_
        clear cl326_
        obtain ⟨r_326, t_326, kb_326, rfl, M326, J326, p326_0, p326_1, p326_2, p326_3, gr_326, gt_326⟩ := hQ326
        have N326 := Fr.app N324 M326
        have sz326 := J326.1
        have hs326 : ∀ x ∈ ([] : List Addr), Safe Z own_EL s.vm T324.heap x := sf0
        have R326 := R324.trans (CHr.keep J326 hs326 R324.1)
        have K326 := K324.trans J326 (fun x hx => nomatch hx)
        have lt_p326_0 := ny p326_0.lt
        have lt_p326_3 := ny p326_3.lt
        show Wk p e below _ T326 (mkF m 139 _ [(.ref r_326), (.ref r_324), (.ref b322), (.ref b322)])
        have f327 := ((An322.keep J324).keep J326)
        have f328 := ((Fn322_user.keep J324 nin0).keep J326 nin0)
        have f329 := ((Fn322_password.keep J324 nin0).keep J326 nin0)
        have cl330_ := fun (Ls : Array Slot) (hLs : Ls.size = c.maxLocals) => X326.specialBack hx (y := (⟨"com/example/net_thirty/netthirty/mail/MailServer$Login", "<init>", "(Ljava/lang/String;Ljava/lang/String;)V"⟩ : MethodName)) rfl hown (mvT hZ (hw _ (List.mem_of_getElem? (i := 238) rfl))) (mvT hZ (hw _ (List.mem_of_getElem? (i := 239) rfl))) (mvT hZ (hw _ (List.mem_of_getElem? (i := 240) rfl))) (by decide) (backOf (W := 1) (rmLI l Z a0 hw [] b322 r_324 r_326 .null .null T326.heap n0 (by omega) f327 f328 f329 (by omega)) hZ (hw _ (List.mem_of_getElem? (i := 240) rfl)) (hw _ (List.mem_of_getElem? (i := 224) rfl)) (by decide) (by decide)) (g := mkF m 139 Ls [(.ref r_326), (.ref r_324), (.ref b322), (.ref b322)]) rfl hLs (Steps.refl _) (a := b322) (argsL := [(.ref r_324), (.ref r_326)]) (rest := [(.ref b322)]) (lenOf pd_32 rfl) rfl (by show 2 * 0 + _ ≤ _; exact Nat.le_of_eq rfl) (hb hby at_139) (fun _ _ => ⟨rfl, rfl, (by decide : 0 + 1 + 1 + 1 + 1 + 2 + 2 + 0 ≤ _), (by decide : 0 + 3 + 4 + 3 + 2 + 5 + 5 + 0 ≤ _)⟩)
        refine Wk.back (n := 142) (rc := 0) (rs := 0) (Q := Q_rmLI Z b322 r_324 r_326 .null .null T326.heap n0) (cl330_ _ (by rw [hml]; rfl)) fun vn330 T330 L330 X330 hQ330 => ?_
        clear cl330_
        obtain ⟨rfl, M330, J330, p330_0⟩ := hQ330
        have N330 := Fr.app N326 M330
        have sz330 := J330.1
        have hs330 : ∀ x ∈ ([b322] : List Addr), Safe Z own_EL s.vm T326.heap x := (sfS (Safe.exa (EL := own_EL) hZ.alike f327 (by decide) (by decide)) sf0)
        have R330 := R326.trans (CHr.keep J330 hs330 R326.1)
        have K330 := K326.trans J330 (allS (Or.inr (by omega)) all0)
        have lt_p330_0 := ny p330_0.lt
        show Wk p e below _ T330 (mkF m 142 _ [(.ref b322)])
        refine Wk.astore X330 hx (hb hby at_142) (n := 144) rfl rfl (L' := #[.val (.int p1), .val (.long j1), .second, .val (.int p2), .val (.int (3 : Int32)), .val (.int tl), .val (.int (1 : Int32)), .val (.int c0), .val (.int c1), .val (.int c2), .val (.ref b309), .val (.ref b316), .val (.ref b322), .unset, .unset, .unset, .unset, .unset, .unset, .unset]) rfl ?_
        have f331 := ((((p317_0.ext Ex322).keep J324).keep J326).keep J330)
        have f332 := ((((p317_2.ext Ex322).keep J324 nin0).keep J326 nin0).keep J330 (ninS (nz (by omega)) nin0))
        have f333 := ((((p317_1.ext Ex322).keep J324 nin0).keep J326 nin0).keep J330 (ninS (nz (by omega)) nin0))
        have f334 := ((((p317_3.ext Ex322).keep J324 nin0).keep J326 nin0).keep J330 (ninS (nz (by omega)) nin0))
        have f335 := ((f325.keep J326 all0).keep J330 (allS (by omega) all0))
        exact jt_c T330 T330.heap _ s _ c0 c1 c2 (1 : Int32) b309 b316 t_317 kb_317 (.ref b322) (X330.mono (by decide) (by decide)) rfl K330 N330 Bs0 (by omega) hZ hown R330 f331 f332 f333 f334 f335 hp320 rfl
    refine Wk.iloadN X0 hx (hb hby at_5) (n := 6) rfl rfl ?_
    refine Wk.iconst X0 hx (hb hby at_6) (n := 7) rfl (z := (4 : Int32)) rfl ?_
    refine Wk.iand X0 hx (hb hby at_7) (n := 8) rfl ?_
    by_cases hc8 : (p1 &&& (4 : Int32)) = (0 : Int32)
    ·
      refine Wk.ifYes X0 hx (hb hby at_8) ((if0 _ _).trans (teq hc8).1) (by decide) (n := 15) (by decide) ?_
      refine Wk.iconst X0 hx (hb hby at_15) (n := 16) rfl (z := (0 : Int32)) rfl ?_
      exact jt_d (0 : Int32)
    ·
      refine Wk.ifNo X0 hx (hb hby at_8) (n := 11) rfl ((if0 _ _).trans (feq hc8).1) ?_
      refine Wk.iconst X0 hx (hb hby at_11) (n := 12) rfl (z := (1 : Int32)) rfl ?_
      refine Wk.goto X0 hx (hb hby at_12) (by decide) (n := 16) (by decide) ?_
      exact jt_d (1 : Int32)
set_option maxRecDepth 65536 in
set_option maxHeartbeats 40000000 in
theorem comes_1 {Post : Tables → Env → Array Value → State → Outcome → State → Prop} (hpost : ∀ tb e args s v u, (limb_1_1.after args s (.returned v) u = true ∧ limb_1_2.after args s (.returned v) u = true ∧ True) → FramedW s (.returned v) u (Jvm.fieldLocs frame_1_writes args s ++ Jvm.arrayLocs frame_1_arrays args s ++ Jvm.staticLocs frame_1_statics s) 64 2496 → Post tb e args s (.returned v) u) :
    ArmFor flags0 classFile x code maxLocals ret World_1 tables_1 room_1 Calls_1 rest_1 Pre_1 Post := by
  intro l hfl _ _ p e ha hc hk s m args below hf hA hF happ hP
  obtain ⟨hcalls, hrest, hpre⟩ := hP
  obtain ⟨-, -, -, hnamed, -, -, -, hat⟩ := (Spec.applies_iff hf).mp happ
  obtain ⟨hg, hn⟩ := and_e (Cond.before_iff.mp (show (Jvm.Cond.and given_1 narrow_1).before args s = true from hpre))
  obtain ⟨gc, gr⟩ := and_e hg
  obtain ⟨w0, w1, w2, rfl⟩ : ∃ w0 w1 w2 : Value, args = #[w0, w1, w2] := by
    have hs : args.size = 3 := by simpa [Cond.value, given_1] using gc
    obtain ⟨L⟩ := args
    match L, hs with
    | [w0, w1, w2], _ => exact ⟨w0, w1, w2, rfl⟩
  have hw := fun d (hd : d ∈ tables_1) => atoms_spec (ws := Jvm.Cond.code x code maxLocals ret :: tables_1) hat d (List.mem_cons_of_mem _ hd)
  have hfit : Fit s := fun {y c} hc i hi => by
    obtain ⟨ha, rfl⟩ := Array.getElem?_eq_some_iff.mp hc
    have q := List.all_eq_true.mp ((Array.all_eq_true_iff_forall_mem.mp hF) _ (Array.getElem_mem ha)) i (List.mem_range.mpr hi)
    simpa [Array.getElem?_eq_getElem hi] using q
  obtain ⟨hsets, hown0⟩ := atoms_of _ (rest_1_c_eq ▸ (show rest_1_c.before _ s = true from hrest))
  have hr0 := Cond.before_iff.mp hown0
  obtain ⟨g0, gr⟩ := and_e gr
  obtain ⟨i0, ei0⟩ := is_v g0
  obtain rfl : w0 = (.int i0) := Option.some.inj ei0
  obtain ⟨g1, gr⟩ := and_e gr
  obtain ⟨i1, ei1⟩ := isL_v g1
  obtain rfl : w1 = (.long i1) := Option.some.inj ei1
  obtain ⟨i2, ei2⟩ := is_v gr
  obtain rfl : w2 = (.int i2) := Option.some.inj ei2
  obtain ⟨zc, ez⟩ := is_v (Cond.before_iff.mp (hsets _ (List.mem_of_getElem? (i := 1) rfl)))
  have S4 := Sta.start ez (Or.inl (hsets _ (List.mem_of_getElem? (i := 0) rfl)))
  have hCS : ¬ zc = 0 := own_ne0 ez (Cond.before_iff.mp (hsets _ (List.mem_of_getElem? (i := 2) rfl)))
  obtain ⟨fm, efm, rfm⟩ := isR_v (Cond.before_iff.mp (hsets _ (List.mem_of_getElem? (i := 8) rfl)))
  have S5 := Sta.start efm (Or.inl (hsets _ (List.mem_of_getElem? (i := 7) rfl)))
  obtain ⟨dO, eO⟩ := exa_v (Cond.before_iff.mp (hsets _ (List.mem_of_getElem? (i := 12) rfl)))
  have S6 := Sta.start eO (Or.inl (hsets _ (List.mem_of_getElem? (i := 11) rfl)))
  obtain ⟨kO, A6⟩ := own_tbl (f := fun i => Int32.ofNat (48 + i % 10)) (fun _ => eO) (Cond.before_iff.mp (hsets _ (List.mem_of_getElem? (i := 12) rfl))) (Cond.before_iff.mp (hsets _ (List.mem_of_getElem? (i := 13) rfl))) (Cond.before_iff.mp (hsets _ (List.mem_of_getElem? (i := 14) rfl))) (hw _ (List.mem_of_getElem? (i := 16) rfl)) (fun i hi => own_e1 i hi) (by decide)
  obtain ⟨dT, eT⟩ := exa_v (Cond.before_iff.mp (hsets _ (List.mem_of_getElem? (i := 17) rfl)))
  have S7 := Sta.start eT (Or.inl (hsets _ (List.mem_of_getElem? (i := 16) rfl)))
  obtain ⟨kT, A7⟩ := own_tbl (f := fun i => Int32.ofNat (48 + i / 10)) (fun _ => eT) (Cond.before_iff.mp (hsets _ (List.mem_of_getElem? (i := 17) rfl))) (Cond.before_iff.mp (hsets _ (List.mem_of_getElem? (i := 18) rfl))) (Cond.before_iff.mp (hsets _ (List.mem_of_getElem? (i := 19) rfl))) (hw _ (List.mem_of_getElem? (i := 16) rfl)) (fun i hi => own_e2 i hi) (by decide)
  have hCHs : CHv s own_EL s.vm s.heap := CHv.start (own_ew hw) (fun q hq => hcalls.1 q hq) (hsets _ (List.mem_of_getElem? (i := 2) rfl)) (hw _ (List.mem_of_getElem? (i := 16) rfl)) (hw _ (List.mem_of_getElem? (i := 3) rfl))
  obtain ⟨n, o, h1, h2, h3, _, L, rfl, ⟨rfl, N, -⟩, -, hq⟩ := rm0 l s _ hw tables_1 i0 i1 i2 zc fm dO kO dT kT s.heap s.heap.size (Nat.le_refl _) S4 (Old.start s) S5 S6 S7 A6 A7 hCS rfm p e ha hc hk s m _ below hf ((Spec.applies_iff_loose hf).mp happ).1 ⟨rfl, State.Warmed39.refl s, rfl, hCHs, fun _ q => nomatch q⟩ trivial
  refine ⟨n, _, h1, h2, h3, hpost _ _ _ _ _ _ ⟨Cond.after_iff.mpr rfl, Cond.after_iff.mpr (eq_i res_at (Term.int_eval (1)) rfl), trivial⟩ ⟨hq.1, hq.2.1, hq.2.2.1, (hq.2.2.2.sift fun y hy => Or.inr (N y hy)).mono (by decide) (by decide)⟩⟩
theorem main_1_1 : Claimed_1_1 := comes_1 fun _ _ _ _ _ _ h hF => ⟨h.1, hF⟩
theorem main_1_2 : Claimed_1_2 := comes_1 fun _ _ _ _ _ _ h hF => ⟨h.2.1, hF⟩
end Jvm.Pilot.@@N@@
namespace Jvm.Pilot.@@N@@
open Jvm Jvm.ClassFile Sem Op Lib Jvm.Free Jvm.Stand Jvm.Pilot.@@N@@.Jvm.D
/-! MADE BY PROGRAM (witnessworld.py) out of the Statement's table words and the real class files: 32 classes; the members and pool entries that the words name. The judged class is class 1, her method 1. -/
namespace start1
open Jvm.ClassFile
def u (s : String) : CpInfo := .utf8 (stringToUtf16 s)
/-- a pool by its gaps: so many unusable entries, then the entry; so many at the end -/
def gap : Nat → List CpInfo → List CpInfo
  | 0, r => r
  | n + 1, r => .unusable :: gap n r
def poolList (es : List (Nat × CpInfo)) (last : Nat) : List CpInfo := es.foldr (fun e r => gap e.1 (e.2 :: r)) (gap last [])
def pool (es : List (Nat × CpInfo)) (last : Nat) : Array CpInfo := ⟨poolList es last⟩
def fileOf (pool : Array CpInfo) (this : Nat) (attrs : Array Attribute := #[]) (ms : Array MethodInfo := #[]) (fl : Nat := 33) (sup : Nat := 0) (ifs : Array Nat := #[]) (fds : Array FieldInfo := #[]) : ClassFile where
  minorVersion := 0
  majorVersion := 65
  constantPool := pool
  accessFlags := fl
  thisClass := this
  superClass := sup
  interfaces := ifs
  fields := fds
  methods := ms
  attributes := attrs
def plain (name : String) (sup : Option ClassId) : Class where
  name := name
  kind := .ordinary
  loader := none
  accessFlags := 33
  super := sup
  interfaces := #[]
  cf := none
  fields := #[]
  methods := #[]
  instanceTypes := #[]
  staticTypes := #[]
  resolved := #[]
  callSites := []
  init := .initialized
  statics := none
  mirror := none

def pool0 : Array CpInfo := pool [(5, u "<init>"), (0, u "()V"), (1, .class_ 10), (1, u "java/lang/Object")] 113

def k0c0 : Code := { maxStack := 0, maxLocals := 1, code := object_method_1_code, exceptionTable := #[], attributes := #[] }
def k0m0 : Method := { name := "<init>", desc := "()V", sig := { parameters := [], returnType := none }, accessFlags := 1, code := some k0c0 }
/-- java/lang/Object -/
def k0 : Class := { plain "java/lang/Object" none with
  accessFlags := 33
  interfaces := #[]
  cf := some (fileOf pool0 8 #[] #[{ accessFlags := 1, nameIndex := 5, descriptorIndex := 6, attributes := #[] }] 33 0 #[] #[])
  fields := #[]
  methods := #[k0m0]
  instanceTypes := #[]
  staticTypes := #[]
  resolved := Array.replicate 124 none
  statics := none }

def pool1 : Array CpInfo := pool [(2, .class_ 4), (1, u "java/lang/Object"), (0, u "<init>"), (0, u "()V"), (0, .long 255), (1, .class_ 10), (0, u "java/lang/String"), (0, .methodref 9 12), (0, .nameAndType 5 13), (0, u "([C)V"), (0, .class_ 15), (0, u "com/example/net_thirty/netthirty/mail/MailServer$Login"), (0, .methodref 9 17), (0, .nameAndType 18 19), (0, u "valueOf"), (0, u "(C)Ljava/lang/String;"), (0, .methodref 14 21), (0, .nameAndType 5 22), (0, u "(Ljava/lang/String;Ljava/lang/String;)V"), (0, .class_ 24), (0, u "com/example/net_thirty/netthirty/mail/MailServer"), (0, .methodref 23 26), (0, .nameAndType 5 27), (0, u "(Ljava/lang/String;IZLcom/example/net_thirty/netthirty/mail/MailServer$Login;)V"), (0, .methodref 23 29), (0, .nameAndType 30 31), (0, u "address"), (0, u "()Ljava/lang/String;"), (0, .methodref 33 34), (0, .class_ 35), (0, .nameAndType 36 37), (0, u "java/lang/Math"), (0, u "abs"), (0, u "(J)J"), (0, .methodref 39 40), (0, .class_ 41), (0, .nameAndType 42 43), (0, u "com/example/net_thirty/netthirty/mail/MailServerAddressPinLaw"), (0, u "digits"), (0, u "(J)I"), (0, .methodref 9 45), (0, .nameAndType 46 47), (0, u "length"), (0, u "()I"), (0, .methodref 9 49), (0, .nameAndType 50 51), (0, u "charAt"), (0, u "(I)C"), (0, .methodref 39 53), (0, .nameAndType 54 55), (0, u "digitOk"), (0, u "(Ljava/lang/String;IIIJ)Z"), (0, .long 10), (1, .long 100), (1, .long 1000), (1, .long 10000), (1, .long 100000), (1, .long 1000000), (1, .long 10000000), (1, .long 100000000), (1, .long 1000000000), (1, .long 48), (3, u "law"), (0, u "(IJI)Z")] 9

def k1m0 : Method := { name := "<init>", desc := "()V", sig := { parameters := [], returnType := none }, accessFlags := 1, code := none }
def k1c1 : Code := { maxStack := 6, maxLocals := 20, code := code, exceptionTable := #[], attributes := #[] }
def k1m1 : Method := { name := "law", desc := "(IJI)Z", sig := { parameters := [.int, .long, .int], returnType := some .boolean }, accessFlags := 9, code := some k1c1 }
def k1c2 : Code := { maxStack := 4, maxLocals := 2, code := method_3_code, exceptionTable := #[], attributes := #[] }
def k1m2 : Method := { name := "digits", desc := "(J)I", sig := { parameters := [.long], returnType := some .int }, accessFlags := 10, code := some k1c2 }
def k1c3 : Code := { maxStack := 5, maxLocals := 9, code := method_4_code, exceptionTable := #[], attributes := #[] }
def k1m3 : Method := { name := "digitOk", desc := "(Ljava/lang/String;IIIJ)Z", sig := { parameters := [(.object "java/lang/String"), .int, .int, .int, .long], returnType := some .boolean }, accessFlags := 10, code := some k1c3 }
/-- com/example/net_thirty/netthirty/mail/MailServerAddressPinLaw -/
def k1 : Class := { plain "com/example/net_thirty/netthirty/mail/MailServerAddressPinLaw" (some 0) with
  accessFlags := 49
  interfaces := #[]
  cf := some (fileOf pool1 39 #[] #[{ accessFlags := 1, nameIndex := 5, descriptorIndex := 6, attributes := #[] }, { accessFlags := 9, nameIndex := 78, descriptorIndex := 79, attributes := #[] }, { accessFlags := 10, nameIndex := 42, descriptorIndex := 43, attributes := #[] }, { accessFlags := 10, nameIndex := 54, descriptorIndex := 55, attributes := #[] }] 49 2 #[] #[])
  fields := #[]
  methods := #[k1m0, k1m1, k1m2, k1m3]
  instanceTypes := #[]
  staticTypes := #[]
  resolved := Array.replicate 89 none
  statics := none }

def pool2 : Array CpInfo := pool [(1, .class_ 2), (0, u "java/io/Serializable"), (0, .class_ 4), (0, u "java/lang/Object")] 2

/-- java/io/Serializable -/
def k2 : Class := { plain "java/io/Serializable" (some 0) with
  accessFlags := 1537
  interfaces := #[]
  cf := some (fileOf pool2 1 #[] #[] 1537 3 #[] #[])
  fields := #[]
  methods := #[]
  instanceTypes := #[]
  staticTypes := #[]
  resolved := Array.replicate 7 none
  statics := none }

def pool3 : Array CpInfo := pool [(1, .class_ 2), (0, u "java/lang/Comparable"), (0, .class_ 4), (0, u "java/lang/Object")] 7

/-- java/lang/Comparable -/
def k3 : Class := { plain "java/lang/Comparable" (some 0) with
  accessFlags := 1537
  interfaces := #[]
  cf := some (fileOf pool3 1 #[] #[] 1537 3 #[] #[])
  fields := #[]
  methods := #[]
  instanceTypes := #[]
  staticTypes := #[]
  resolved := Array.replicate 12 none
  statics := none }

def pool4 : Array CpInfo := pool [(2, .class_ 4), (1, u "java/lang/CharSequence"), (42, .class_ 48), (0, u "java/lang/CharSequence$1CodePointIterator"), (10, .class_ 60), (0, u "java/lang/CharSequence$1CharIterator"), (5, .class_ 67), (0, u "java/lang/Object")] 63

/-- java/lang/CharSequence -/
def k4 : Class := { plain "java/lang/CharSequence" (some 0) with
  accessFlags := 1537
  interfaces := #[]
  cf := some (fileOf pool4 2 #[.nestMembers #[47, 59]] #[] 1537 66 #[] #[])
  fields := #[]
  methods := #[]
  instanceTypes := #[]
  staticTypes := #[]
  resolved := Array.replicate 131 none
  statics := none }

def pool5 : Array CpInfo := pool [(1, .class_ 2), (0, u "java/lang/constant/Constable"), (0, .class_ 4), (0, u "java/lang/Object")] 6

/-- java/lang/constant/Constable -/
def k5 : Class := { plain "java/lang/constant/Constable" (some 0) with
  accessFlags := 1537
  interfaces := #[]
  cf := some (fileOf pool5 1 #[] #[] 1537 3 #[] #[])
  fields := #[]
  methods := #[]
  instanceTypes := #[]
  staticTypes := #[]
  resolved := Array.replicate 11 none
  statics := none }

def pool6 : Array CpInfo := pool [(1, .class_ 2), (0, u "java/lang/constant/ConstantDesc"), (0, .class_ 4), (0, u "java/lang/Object")] 32

/-- java/lang/constant/ConstantDesc -/
def k6 : Class := { plain "java/lang/constant/ConstantDesc" (some 0) with
  accessFlags := 1537
  interfaces := #[]
  cf := some (fileOf pool6 1 #[] #[] 1537 3 #[] #[])
  fields := #[]
  methods := #[]
  instanceTypes := #[]
  staticTypes := #[]
  resolved := Array.replicate 37 none
  statics := none }

def pool7 : Array CpInfo := pool [(1, .methodref 2 3), (0, .class_ 4), (0, .nameAndType 5 6), (0, u "java/lang/Object"), (0, u "<init>"), (0, u "()V"), (0, .string 8), (0, u ""), (0, .fieldref 10 11), (0, .class_ 12), (0, .nameAndType 13 14), (0, u "java/lang/String"), (0, u "value"), (0, u "[B"), (0, .fieldref 10 16), (0, .nameAndType 17 18), (0, u "coder"), (0, u "B"), (2, u "hash"), (0, u "I"), (2, u "hashIsZero"), (0, u "Z"), (0, .methodref 10 28), (0, .nameAndType 5 29), (0, u "([CIILjava/lang/Void;)V"), (8, .fieldref 10 39), (0, .nameAndType 40 26), (0, u "COMPACT_STRINGS"), (1, .class_ 44), (1, u "java/lang/StringUTF16"), (0, u "compress"), (1, .methodref 42 48), (0, .nameAndType 49 50), (0, u "coderFromArrayLen"), (0, u "([BI)B"), (2, u "toBytes"), (0, .methodref 55 56), (0, .class_ 57), (0, .nameAndType 58 59), (0, u "java/util/Arrays"), (0, u "copyOfRange"), (0, u "([BII)[B"), (47, .class_ 109), (1, u "java/lang/StringLatin1"), (32, u "()Z"), (34, .methodref 42 178), (0, .nameAndType 45 179), (0, u "([CII)[B"), (13, .class_ 195), (1, u "java/lang/System"), (13, .methodref 10 210), (0, .nameAndType 5 211), (0, u "([BB)V"), (0, .methodref 193 213), (0, .nameAndType 214 215), (0, u "arraycopy"), (0, u "(Ljava/lang/Object;ILjava/lang/Object;II)V"), (118, u "()I"), (0, .methodref 10 336), (0, .nameAndType 17 337), (0, u "()B"), (2, u "()[B"), (22, u "([BI)C"), (5, u "(C)Z"), (21, u "(II)V"), (35, u "(I)C"), (61, .methodref 10 490), (0, .nameAndType 5 491), (0, u "(Ljava/lang/AbstractStringBuilder;Ljava/lang/Void;)V"), (0, .methodref 10 493), (0, .nameAndType 494 142), (0, u "isLatin1"), (0, .methodref 107 496), (0, .nameAndType 497 363), (0, u "charAt"), (3, u "checkIndex"), (4, .nameAndType 507 334), (0, u "length"), (24, u "getBytes"), (16, .methodref 550 506), (0, .class_ 551), (0, u "java/lang/AbstractStringBuilder"), (0, .methodref 550 553), (0, .nameAndType 554 340), (0, u "getValue"), (20, .class_ 576), (0, u "java/lang/CharSequence"), (22, u "CASE_INSENSITIVE_ORDER"), (0, u "Ljava/util/Comparator;"), (181, u "valueOf"), (0, u "(C)Ljava/lang/String;"), (37, u "([BIB)V"), (188, u "([C)V"), (4, .methodref 107 1016), (0, .nameAndType 1017 369), (0, u "canEncode"), (0, .methodref 107 1019), (0, .nameAndType 53 1020), (0, u "(C)[B"), (26, .methodref 550 493), (5, .fieldref 1054 1055), (0, .class_ 1056), (0, .nameAndType 1057 1058), (0, u "jdk/internal/util/Preconditions"), (0, u "SIOOBE_FORMATTER"), (0, u "Ljava/util/function/BiFunction;"), (0, .methodref 1054 1060), (0, .nameAndType 501 1061), (0, u "(IILjava/util/function/BiFunction;)I"), (39, u "serialPersistentFields"), (0, u "[Ljava/io/ObjectStreamField;"), (0, .class_ 1104), (0, u "java/lang/String$CaseInsensitiveComparator"), (1, .class_ 1107), (0, u "java/io/Serializable"), (0, .class_ 1109), (0, u "java/lang/Comparable"), (0, .class_ 1111), (0, u "java/lang/constant/Constable"), (0, .class_ 1113), (0, u "java/lang/constant/ConstantDesc"), (2, u "serialVersionUID"), (0, u "J"), (3, u "REPL"), (0, u "C"), (2, u "LATIN1"), (1, u "UTF16"), (105, u "(Ljava/lang/StringBuilder;)V")] 217

def k7m0 : Method := { name := "<init>", desc := "()V", sig := { parameters := [], returnType := none }, accessFlags := 1, code := none }
def k7c1 : Code := { maxStack := 5, maxLocals := 2, code := jdk_42_method_3_code, exceptionTable := #[], attributes := #[] }
def k7m1 : Method := { name := "<init>", desc := "([C)V", sig := { parameters := [(.array .char)], returnType := none }, accessFlags := 1, code := some k7c1 }
def k7c2 : Code := { maxStack := 3, maxLocals := 2, code := jdk_42_method_53_code, exceptionTable := #[], attributes := #[] }
def k7m2 : Method := { name := "<init>", desc := "(Ljava/lang/StringBuilder;)V", sig := { parameters := [(.object "java/lang/StringBuilder")], returnType := none }, accessFlags := 1, code := some k7c2 }
def k7c3 : Code := { maxStack := 2, maxLocals := 1, code := jdk_42_method_54_code, exceptionTable := #[], attributes := #[] }
def k7m3 : Method := { name := "length", desc := "()I", sig := { parameters := [], returnType := some .int }, accessFlags := 1, code := some k7c3 }
def k7c4 : Code := { maxStack := 2, maxLocals := 2, code := jdk_42_method_56_code, exceptionTable := #[], attributes := #[] }
def k7m4 : Method := { name := "charAt", desc := "(I)C", sig := { parameters := [.int], returnType := some .char }, accessFlags := 1, code := some k7c4 }
def k7c5 : Code := { maxStack := 4, maxLocals := 1, code := jdk_42_method_139_code, exceptionTable := #[], attributes := #[] }
def k7m5 : Method := { name := "valueOf", desc := "(C)Ljava/lang/String;", sig := { parameters := [.char], returnType := some (.object "java/lang/String") }, accessFlags := 9, code := some k7c5 }
def k7c6 : Code := { maxStack := 5, maxLocals := 4, code := jdk_42_method_147_code, exceptionTable := #[], attributes := #[] }
def k7m6 : Method := { name := "getBytes", desc := "([BIB)V", sig := { parameters := [(.array .byte), .int, .byte], returnType := none }, accessFlags := 0, code := some k7c6 }
def k7c7 : Code := { maxStack := 4, maxLocals := 6, code := jdk_42_method_149_code, exceptionTable := #[], attributes := #[] }
def k7m7 : Method := { name := "<init>", desc := "([CIILjava/lang/Void;)V", sig := { parameters := [(.array .char), .int, .int, (.object "java/lang/Void")], returnType := none }, accessFlags := 2, code := some k7c7 }
def k7c8 : Code := { maxStack := 5, maxLocals := 5, code := jdk_42_method_150_code, exceptionTable := #[], attributes := #[] }
def k7m8 : Method := { name := "<init>", desc := "(Ljava/lang/AbstractStringBuilder;Ljava/lang/Void;)V", sig := { parameters := [(.object "java/lang/AbstractStringBuilder"), (.object "java/lang/Void")], returnType := none }, accessFlags := 0, code := some k7c8 }
def k7c9 : Code := { maxStack := 2, maxLocals := 3, code := jdk_42_method_151_code, exceptionTable := #[], attributes := #[] }
def k7m9 : Method := { name := "<init>", desc := "([BB)V", sig := { parameters := [(.array .byte), .byte], returnType := none }, accessFlags := 0, code := some k7c9 }
def k7c10 : Code := { maxStack := 1, maxLocals := 1, code := jdk_42_method_152_code, exceptionTable := #[], attributes := #[] }
def k7m10 : Method := { name := "coder", desc := "()B", sig := { parameters := [], returnType := some .byte }, accessFlags := 0, code := some k7c10 }
def k7c11 : Code := { maxStack := 1, maxLocals := 1, code := jdk_42_method_154_code, exceptionTable := #[], attributes := #[] }
def k7m11 : Method := { name := "isLatin1", desc := "()Z", sig := { parameters := [], returnType := some .boolean }, accessFlags := 0, code := some k7c11 }
def k7c12 : Code := { maxStack := 3, maxLocals := 2, code := jdk_42_method_155_code, exceptionTable := #[], attributes := #[] }
def k7m12 : Method := { name := "checkIndex", desc := "(II)V", sig := { parameters := [.int, .int], returnType := none }, accessFlags := 8, code := some k7c12 }
/-- java/lang/String -/
def k7 : Class := { plain "java/lang/String" (some 0) with
  accessFlags := 49
  interfaces := #[2, 3, 4, 5, 6]
  cf := some (fileOf pool7 10 #[.nestMembers #[1103]] #[{ accessFlags := 1, nameIndex := 5, descriptorIndex := 6, attributes := #[] }, { accessFlags := 1, nameIndex := 5, descriptorIndex := 1010, attributes := #[] }, { accessFlags := 1, nameIndex := 5, descriptorIndex := 1233, attributes := #[] }, { accessFlags := 1, nameIndex := 507, descriptorIndex := 334, attributes := #[] }, { accessFlags := 1, nameIndex := 497, descriptorIndex := 427, attributes := #[] }, { accessFlags := 9, nameIndex := 782, descriptorIndex := 783, attributes := #[] }, { accessFlags := 0, nameIndex := 532, descriptorIndex := 821, attributes := #[] }, { accessFlags := 2, nameIndex := 5, descriptorIndex := 29, attributes := #[] }, { accessFlags := 0, nameIndex := 5, descriptorIndex := 491, attributes := #[] }, { accessFlags := 0, nameIndex := 5, descriptorIndex := 211, attributes := #[] }, { accessFlags := 0, nameIndex := 17, descriptorIndex := 337, attributes := #[] }, { accessFlags := 0, nameIndex := 494, descriptorIndex := 142, attributes := #[] }, { accessFlags := 8, nameIndex := 501, descriptorIndex := 391, attributes := #[] }] 49 2 #[1106, 1108, 575, 1110, 1112] #[{ accessFlags := 18, nameIndex := 13, descriptorIndex := 14, attributes := #[] }, { accessFlags := 18, nameIndex := 17, descriptorIndex := 18, attributes := #[] }, { accessFlags := 2, nameIndex := 21, descriptorIndex := 22, attributes := #[] }, { accessFlags := 2, nameIndex := 25, descriptorIndex := 26, attributes := #[] }, { accessFlags := 26, nameIndex := 1116, descriptorIndex := 1117, attributes := #[] }, { accessFlags := 24, nameIndex := 40, descriptorIndex := 26, attributes := #[] }, { accessFlags := 26, nameIndex := 1101, descriptorIndex := 1102, attributes := #[] }, { accessFlags := 26, nameIndex := 1121, descriptorIndex := 1122, attributes := #[] }, { accessFlags := 25, nameIndex := 599, descriptorIndex := 600, attributes := #[] }, { accessFlags := 24, nameIndex := 1125, descriptorIndex := 18, attributes := #[] }, { accessFlags := 24, nameIndex := 1127, descriptorIndex := 18, attributes := #[] }])
  fields := #[{ name := "value", type := (.array .byte), accessFlags := 18, slot := 0, constantValue := 0 }, { name := "coder", type := .byte, accessFlags := 18, slot := 1, constantValue := 0 }, { name := "hash", type := .int, accessFlags := 2, slot := 2, constantValue := 0 }, { name := "hashIsZero", type := .boolean, accessFlags := 2, slot := 3, constantValue := 0 }, { name := "serialVersionUID", type := .long, accessFlags := 26, slot := 0, constantValue := 0 }, { name := "COMPACT_STRINGS", type := .boolean, accessFlags := 24, slot := 1, constantValue := 0 }, { name := "serialPersistentFields", type := (.array (.object "java/io/ObjectStreamField")), accessFlags := 26, slot := 2, constantValue := 0 }, { name := "REPL", type := .char, accessFlags := 26, slot := 3, constantValue := 0 }, { name := "CASE_INSENSITIVE_ORDER", type := (.object "java/util/Comparator"), accessFlags := 25, slot := 4, constantValue := 0 }, { name := "LATIN1", type := .byte, accessFlags := 24, slot := 5, constantValue := 0 }, { name := "UTF16", type := .byte, accessFlags := 24, slot := 6, constantValue := 0 }]
  methods := #[k7m0, k7m1, k7m2, k7m3, k7m4, k7m5, k7m6, k7m7, k7m8, k7m9, k7m10, k7m11, k7m12]
  instanceTypes := #[(.array .byte), .byte, .int, .boolean]
  staticTypes := #[.long, .boolean, (.array (.object "java/io/ObjectStreamField")), .char, (.object "java/util/Comparator"), .byte, .byte]
  resolved := Array.replicate 1451 none
  statics := some 0 }

def pool8 : Array CpInfo := pool [(1, .methodref 2 3), (0, .class_ 4), (0, .nameAndType 5 6), (0, u "java/lang/Object"), (0, u "<init>"), (0, u "()V"), (0, .class_ 8), (0, u "java/lang/Record")] 13

def k8c0 : Code := { maxStack := 1, maxLocals := 1, code := jdk_30_method_1_code, exceptionTable := #[], attributes := #[] }
def k8m0 : Method := { name := "<init>", desc := "()V", sig := { parameters := [], returnType := none }, accessFlags := 4, code := some k8c0 }
/-- java/lang/Record -/
def k8 : Class := { plain "java/lang/Record" (some 0) with
  accessFlags := 1057
  interfaces := #[]
  cf := some (fileOf pool8 7 #[] #[{ accessFlags := 4, nameIndex := 5, descriptorIndex := 6, attributes := #[] }] 1057 2 #[] #[])
  fields := #[]
  methods := #[k8m0]
  instanceTypes := #[]
  staticTypes := #[]
  resolved := Array.replicate 22 none
  statics := none }

def pool9 : Array CpInfo := pool [(1, .methodref 2 3), (0, .class_ 4), (0, .nameAndType 5 6), (0, u "java/lang/Record"), (0, u "<init>"), (0, u "()V"), (0, .fieldref 8 9), (0, .class_ 10), (0, .nameAndType 11 12), (0, u "com/example/net_thirty/netthirty/mail/MailServer"), (0, u "host"), (0, u "Ljava/lang/String;"), (0, .fieldref 8 14), (0, .nameAndType 15 16), (0, u "port"), (0, u "I"), (0, .fieldref 8 18), (0, .nameAndType 19 20), (0, u "startTls"), (0, u "Z"), (0, .fieldref 8 22), (0, .nameAndType 23 24), (0, u "login"), (0, u "Lcom/example/net_thirty/netthirty/mail/MailServer$Login;"), (0, .class_ 26), (0, u "java/lang/StringBuilder"), (0, .methodref 25 3), (0, .methodref 25 29), (0, .nameAndType 30 31), (0, u "append"), (0, u "(Ljava/lang/String;)Ljava/lang/StringBuilder;"), (0, .string 33), (0, u ":"), (0, .methodref 25 35), (0, .nameAndType 30 36), (0, u "(I)Ljava/lang/StringBuilder;"), (0, .methodref 25 38), (0, .nameAndType 39 40), (0, u "toString"), (0, u "()Ljava/lang/String;"), (2, u "address"), (8, .class_ 54), (1, u "com/example/net_thirty/netthirty/mail/MailServer$Login"), (9, u "(Ljava/lang/String;IZLcom/example/net_thirty/netthirty/mail/MailServer$Login;)V")] 33

def k9c0 : Code := { maxStack := 2, maxLocals := 5, code := prog_29_method_1_code, exceptionTable := #[], attributes := #[] }
def k9m0 : Method := { name := "<init>", desc := "(Ljava/lang/String;IZLcom/example/net_thirty/netthirty/mail/MailServer$Login;)V", sig := { parameters := [(.object "java/lang/String"), .int, .boolean, (.object "com/example/net_thirty/netthirty/mail/MailServer$Login")], returnType := none }, accessFlags := 1, code := some k9c0 }
def k9c1 : Code := { maxStack := 2, maxLocals := 1, code := prog_29_method_2_code, exceptionTable := #[], attributes := #[] }
def k9m1 : Method := { name := "address", desc := "()Ljava/lang/String;", sig := { parameters := [], returnType := some (.object "java/lang/String") }, accessFlags := 1, code := some k9c1 }
/-- com/example/net_thirty/netthirty/mail/MailServer -/
def k9 : Class := { plain "com/example/net_thirty/netthirty/mail/MailServer" (some 8) with
  accessFlags := 49
  interfaces := #[]
  cf := some (fileOf pool9 8 #[.nestMembers #[52]] #[{ accessFlags := 1, nameIndex := 5, descriptorIndex := 64, attributes := #[] }, { accessFlags := 1, nameIndex := 43, descriptorIndex := 40, attributes := #[] }] 49 2 #[] #[{ accessFlags := 18, nameIndex := 11, descriptorIndex := 12, attributes := #[] }, { accessFlags := 18, nameIndex := 15, descriptorIndex := 16, attributes := #[] }, { accessFlags := 18, nameIndex := 19, descriptorIndex := 20, attributes := #[] }, { accessFlags := 18, nameIndex := 23, descriptorIndex := 24, attributes := #[] }])
  fields := #[{ name := "host", type := (.object "java/lang/String"), accessFlags := 18, slot := 0, constantValue := 0 }, { name := "port", type := .int, accessFlags := 18, slot := 1, constantValue := 0 }, { name := "startTls", type := .boolean, accessFlags := 18, slot := 2, constantValue := 0 }, { name := "login", type := (.object "com/example/net_thirty/netthirty/mail/MailServer$Login"), accessFlags := 18, slot := 3, constantValue := 0 }]
  methods := #[k9m0, k9m1]
  instanceTypes := #[(.object "java/lang/String"), .int, .boolean, (.object "com/example/net_thirty/netthirty/mail/MailServer$Login")]
  staticTypes := #[]
  resolved := Array.replicate 98 none
  statics := none }

def pool10 : Array CpInfo := pool [(1, .class_ 2), (0, u "java/lang/Appendable"), (0, .class_ 4), (0, u "java/lang/Object")] 9

/-- java/lang/Appendable -/
def k10 : Class := { plain "java/lang/Appendable" (some 0) with
  accessFlags := 1537
  interfaces := #[]
  cf := some (fileOf pool10 1 #[] #[] 1537 3 #[] #[])
  fields := #[]
  methods := #[]
  instanceTypes := #[]
  staticTypes := #[]
  resolved := Array.replicate 14 none
  statics := none }

def pool11 : Array CpInfo := pool [(1, .class_ 2), (0, u "java/lang/String"), (0, .methodref 4 5), (0, .class_ 6), (0, .nameAndType 7 8), (0, u "java/lang/Object"), (0, u "<init>"), (0, u "()V"), (1, .class_ 12), (1, u "java/lang/AbstractStringBuilder"), (0, u "EMPTYVALUE"), (0, u "[B"), (0, .fieldref 10 16), (0, .nameAndType 17 14), (0, u "value"), (0, .fieldref 1 19), (0, .nameAndType 20 21), (0, u "COMPACT_STRINGS"), (0, u "Z"), (0, .fieldref 10 23), (0, .nameAndType 24 25), (0, u "coder"), (0, u "B"), (6, .methodref 1 33), (0, .nameAndType 34 35), (0, u "length"), (0, u "()I"), (0, .class_ 37), (0, u "java/lang/Integer"), (2, .methodref 1 41), (0, .nameAndType 24 42), (0, u "()B"), (2, u "append"), (0, u "(Ljava/lang/String;)Ljava/lang/AbstractStringBuilder;"), (1, .class_ 49), (0, u "java/lang/CharSequence"), (19, u "(Ljava/lang/String;)V"), (5, u "maybeLatin1"), (3, .fieldref 10 80), (0, .nameAndType 81 82), (0, u "count"), (0, u "I"), (0, .methodref 10 84), (0, .nameAndType 85 86), (0, u "isLatin1"), (0, u "()Z"), (13, .methodref 10 101), (0, .nameAndType 102 103), (0, u "ensureCapacityInternal"), (0, u "(I)V"), (3, u "(I)I"), (80, u "getChars"), (19, .methodref 10 209), (0, .nameAndType 210 211), (0, u "putStringAt"), (0, u "(ILjava/lang/String;)V"), (5, u "inflateIfNeededFor"), (2, .nameAndType 221 222), (0, u "getBytes"), (0, u "([BIB)V"), (22, .methodref 36 246), (0, .nameAndType 247 107), (0, u "stringSize"), (0, .methodref 36 249), (0, .nameAndType 188 250), (0, u "(II[B)I"), (146, .methodref 10 398), (0, .nameAndType 217 69), (0, .methodref 1 220), (3, u "()[B"), (40, .class_ 445), (0, u "java/lang/Appendable"), (65, u "(I)Ljava/lang/AbstractStringBuilder;"), (40, u "getValue")] 56

def k11m0 : Method := { name := "<init>", desc := "()V", sig := { parameters := [], returnType := none }, accessFlags := 0, code := none }
def k11c1 : Code := { maxStack := 2, maxLocals := 2, code := jdk_68_method_2_code, exceptionTable := #[], attributes := #[] }
def k11m1 : Method := { name := "<init>", desc := "(I)V", sig := { parameters := [.int], returnType := none }, accessFlags := 0, code := some k11c1 }
def k11c2 : Code := { maxStack := 1, maxLocals := 1, code := jdk_68_method_6_code, exceptionTable := #[], attributes := #[] }
def k11m2 : Method := { name := "length", desc := "()I", sig := { parameters := [], returnType := some .int }, accessFlags := 1, code := some k11c2 }
def k11c3 : Code := { maxStack := 4, maxLocals := 3, code := jdk_68_method_9_code, exceptionTable := #[], attributes := #[] }
def k11m3 : Method := { name := "ensureCapacityInternal", desc := "(I)V", sig := { parameters := [.int], returnType := none }, accessFlags := 2, code := some k11c3 }
def k11c4 : Code := { maxStack := 3, maxLocals := 3, code := jdk_68_method_22_code, exceptionTable := #[], attributes := #[] }
def k11m4 : Method := { name := "append", desc := "(Ljava/lang/String;)Ljava/lang/AbstractStringBuilder;", sig := { parameters := [(.object "java/lang/String")], returnType := some (.object "java/lang/AbstractStringBuilder") }, accessFlags := 1, code := some k11c4 }
def k11c5 : Code := { maxStack := 4, maxLocals := 4, code := jdk_68_method_32_code, exceptionTable := #[], attributes := #[] }
def k11m5 : Method := { name := "append", desc := "(I)Ljava/lang/AbstractStringBuilder;", sig := { parameters := [.int], returnType := some (.object "java/lang/AbstractStringBuilder") }, accessFlags := 1, code := some k11c5 }
def k11c6 : Code := { maxStack := 1, maxLocals := 1, code := jdk_68_method_64_code, exceptionTable := #[], attributes := #[] }
def k11m6 : Method := { name := "getValue", desc := "()[B", sig := { parameters := [], returnType := some (.array .byte) }, accessFlags := 16, code := some k11c6 }
def k11c7 : Code := { maxStack := 1, maxLocals := 1, code := jdk_68_method_68_code, exceptionTable := #[], attributes := #[] }
def k11m7 : Method := { name := "isLatin1", desc := "()Z", sig := { parameters := [], returnType := some .boolean }, accessFlags := 16, code := some k11c7 }
def k11c8 : Code := { maxStack := 2, maxLocals := 2, code := jdk_68_method_71_code, exceptionTable := #[], attributes := #[] }
def k11m8 : Method := { name := "inflateIfNeededFor", desc := "(Ljava/lang/String;)V", sig := { parameters := [(.object "java/lang/String")], returnType := none }, accessFlags := 2, code := some k11c8 }
def k11c9 : Code := { maxStack := 4, maxLocals := 3, code := jdk_68_method_73_code, exceptionTable := #[], attributes := #[] }
def k11m9 : Method := { name := "putStringAt", desc := "(ILjava/lang/String;)V", sig := { parameters := [.int, (.object "java/lang/String")], returnType := none }, accessFlags := 2, code := some k11c9 }
/-- java/lang/AbstractStringBuilder -/
def k11 : Class := { plain "java/lang/AbstractStringBuilder" (some 0) with
  accessFlags := 1056
  interfaces := #[10, 4]
  cf := some (fileOf pool11 10 #[] #[{ accessFlags := 0, nameIndex := 7, descriptorIndex := 8, attributes := #[] }, { accessFlags := 0, nameIndex := 7, descriptorIndex := 103, attributes := #[] }, { accessFlags := 1, nameIndex := 34, descriptorIndex := 35, attributes := #[] }, { accessFlags := 2, nameIndex := 102, descriptorIndex := 103, attributes := #[] }, { accessFlags := 1, nameIndex := 45, descriptorIndex := 46, attributes := #[] }, { accessFlags := 1, nameIndex := 45, descriptorIndex := 511, attributes := #[] }, { accessFlags := 16, nameIndex := 552, descriptorIndex := 403, attributes := #[] }, { accessFlags := 16, nameIndex := 85, descriptorIndex := 86, attributes := #[] }, { accessFlags := 2, nameIndex := 217, descriptorIndex := 69, attributes := #[] }, { accessFlags := 2, nameIndex := 210, descriptorIndex := 211, attributes := #[] }] 1056 4 #[444, 48] #[{ accessFlags := 0, nameIndex := 17, descriptorIndex := 14, attributes := #[] }, { accessFlags := 0, nameIndex := 24, descriptorIndex := 25, attributes := #[] }, { accessFlags := 0, nameIndex := 75, descriptorIndex := 21, attributes := #[] }, { accessFlags := 0, nameIndex := 81, descriptorIndex := 82, attributes := #[] }, { accessFlags := 26, nameIndex := 13, descriptorIndex := 14, attributes := #[] }])
  fields := #[{ name := "value", type := (.array .byte), accessFlags := 0, slot := 0, constantValue := 0 }, { name := "coder", type := .byte, accessFlags := 0, slot := 1, constantValue := 0 }, { name := "maybeLatin1", type := .boolean, accessFlags := 0, slot := 2, constantValue := 0 }, { name := "count", type := .int, accessFlags := 0, slot := 3, constantValue := 0 }, { name := "EMPTYVALUE", type := (.array .byte), accessFlags := 26, slot := 0, constantValue := 0 }]
  methods := #[k11m0, k11m1, k11m2, k11m3, k11m4, k11m5, k11m6, k11m7, k11m8, k11m9]
  instanceTypes := #[(.array .byte), .byte, .boolean, .int]
  staticTypes := #[(.array .byte)]
  resolved := Array.replicate 609 none
  statics := none }

def pool12 : Array CpInfo := pool [(1, .methodref 2 3), (0, .class_ 4), (0, .nameAndType 5 6), (0, u "java/lang/AbstractStringBuilder"), (0, u "<init>"), (0, u "(I)V"), (11, .class_ 20), (1, u "java/lang/String"), (3, .class_ 26), (1, u "java/lang/StringBuilder"), (0, u "append"), (0, u "(Ljava/lang/String;)Ljava/lang/StringBuilder;"), (0, .methodref 2 30), (0, .nameAndType 27 31), (0, u "(Ljava/lang/String;)Ljava/lang/AbstractStringBuilder;"), (21, .methodref 2 54), (0, .nameAndType 27 55), (0, u "(I)Ljava/lang/AbstractStringBuilder;"), (81, .methodref 18 138), (0, .nameAndType 5 139), (0, u "(Ljava/lang/StringBuilder;)V"), (5, u "()V"), (10, u "()I"), (111, u "(I)Ljava/lang/StringBuilder;"), (74, .methodref 2 344), (0, .nameAndType 345 156), (0, u "length"), (3, .class_ 350), (0, u "java/lang/Appendable"), (0, .class_ 352), (0, u "java/io/Serializable"), (0, .class_ 354), (0, u "java/lang/Comparable"), (0, .class_ 356), (0, u "java/lang/CharSequence"), (0, u "serialVersionUID"), (0, u "J"), (40, u "toString"), (0, u "()Ljava/lang/String;")] 21

def k12c0 : Code := { maxStack := 2, maxLocals := 1, code := jdk_67_method_1_code, exceptionTable := #[], attributes := #[] }
def k12m0 : Method := { name := "<init>", desc := "()V", sig := { parameters := [], returnType := none }, accessFlags := 1, code := some k12c0 }
def k12c1 : Code := { maxStack := 2, maxLocals := 2, code := jdk_67_method_7_code, exceptionTable := #[], attributes := #[] }
def k12m1 : Method := { name := "append", desc := "(Ljava/lang/String;)Ljava/lang/StringBuilder;", sig := { parameters := [(.object "java/lang/String")], returnType := some (.object "java/lang/StringBuilder") }, accessFlags := 1, code := some k12c1 }
def k12c2 : Code := { maxStack := 2, maxLocals := 2, code := jdk_67_method_15_code, exceptionTable := #[], attributes := #[] }
def k12m2 : Method := { name := "append", desc := "(I)Ljava/lang/StringBuilder;", sig := { parameters := [.int], returnType := some (.object "java/lang/StringBuilder") }, accessFlags := 1, code := some k12c2 }
def k12c3 : Code := { maxStack := 3, maxLocals := 1, code := jdk_67_method_42_code, exceptionTable := #[], attributes := #[] }
def k12m3 : Method := { name := "toString", desc := "()Ljava/lang/String;", sig := { parameters := [], returnType := some (.object "java/lang/String") }, accessFlags := 1, code := some k12c3 }
def k12c4 : Code := { maxStack := 1, maxLocals := 1, code := jdk_67_method_93_code, exceptionTable := #[], attributes := #[] }
def k12m4 : Method := { name := "length", desc := "()I", sig := { parameters := [], returnType := some .int }, accessFlags := 4161, code := some k12c4 }
/-- java/lang/StringBuilder -/
def k12 : Class := { plain "java/lang/StringBuilder" (some 11) with
  accessFlags := 49
  interfaces := #[10, 2, 3, 4]
  cf := some (fileOf pool12 24 #[] #[{ accessFlags := 1, nameIndex := 5, descriptorIndex := 145, attributes := #[] }, { accessFlags := 1, nameIndex := 27, descriptorIndex := 28, attributes := #[] }, { accessFlags := 1, nameIndex := 27, descriptorIndex := 268, attributes := #[] }, { accessFlags := 1, nameIndex := 399, descriptorIndex := 400, attributes := #[] }, { accessFlags := 4161, nameIndex := 345, descriptorIndex := 156, attributes := #[] }] 49 2 #[349, 351, 353, 355] #[{ accessFlags := 24, nameIndex := 357, descriptorIndex := 358, attributes := #[] }])
  fields := #[{ name := "serialVersionUID", type := .long, accessFlags := 24, slot := 0, constantValue := 0 }]
  methods := #[k12m0, k12m1, k12m2, k12m3, k12m4]
  instanceTypes := #[(.array .byte), .byte, .boolean, .int]
  staticTypes := #[.long]
  resolved := Array.replicate 422 none
  statics := none }

def pool13 : Array CpInfo := pool [(2, .class_ 4), (1, u "java/lang/Object"), (0, u "<init>"), (0, u "()V"), (1, .class_ 10), (1, u "java/lang/System"), (0, u "allowSecurityManager"), (0, u "I"), (16, u "cons"), (0, u "Ljava/io/Console;"), (77, .class_ 110), (1, u "java/lang/System$CallersHolder"), (43, u "initialErrStream"), (0, u "Ljava/io/PrintStream;"), (19, u "security"), (0, u "Ljava/lang/SecurityManager;"), (31, .class_ 209), (0, u "java/lang/System$1"), (7, u "props"), (0, u "Ljava/util/Properties;"), (2, u "lineSeparator"), (0, u "Ljava/lang/String;"), (96, .class_ 321), (1, u "java/lang/System$LoggerFinder"), (5, .class_ 328), (0, u "java/lang/System$Logger"), (67, u "err"), (2, u "out"), (91, u "notSupportedJnuEncoding"), (15, u "in"), (17, u "initialIn"), (0, u "Ljava/io/InputStream;"), (35, u "bootLayer"), (0, u "Ljava/lang/ModuleLayer;"), (99, .class_ 664), (0, u "java/lang/System$2"), (9, u "NEVER"), (2, u "MAYBE"), (49, u "arraycopy"), (0, u "(Ljava/lang/Object;ILjava/lang/Object;II)V"), (72, .class_ 802), (0, u "java/lang/System$Logger$Level")] 31

def k13m0 : Method := { name := "<init>", desc := "()V", sig := { parameters := [], returnType := none }, accessFlags := 2, code := none }
def k13m1 : Method := { name := "arraycopy", desc := "(Ljava/lang/Object;ILjava/lang/Object;II)V", sig := { parameters := [(.object "java/lang/Object"), .int, (.object "java/lang/Object"), .int, .int], returnType := none }, accessFlags := 265, code := none }
/-- java/lang/System -/
def k13 : Class := { plain "java/lang/System" (some 0) with
  accessFlags := 49
  interfaces := #[]
  cf := some (fileOf pool13 8 #[.nestMembers #[319, 327, 801, 108, 663, 208]] #[{ accessFlags := 2, nameIndex := 5, descriptorIndex := 6, attributes := #[] }, { accessFlags := 265, nameIndex := 727, descriptorIndex := 728, attributes := #[] }] 49 2 #[] #[{ accessFlags := 25, nameIndex := 507, descriptorIndex := 526, attributes := #[] }, { accessFlags := 25, nameIndex := 399, descriptorIndex := 155, attributes := #[] }, { accessFlags := 25, nameIndex := 396, descriptorIndex := 155, attributes := #[] }, { accessFlags := 10, nameIndex := 525, descriptorIndex := 526, attributes := #[] }, { accessFlags := 26, nameIndex := 674, descriptorIndex := 12, attributes := #[] }, { accessFlags := 26, nameIndex := 677, descriptorIndex := 12, attributes := #[] }, { accessFlags := 10, nameIndex := 11, descriptorIndex := 12, attributes := #[] }, { accessFlags := 74, nameIndex := 175, descriptorIndex := 176, attributes := #[] }, { accessFlags := 10, nameIndex := 491, descriptorIndex := 222, attributes := #[] }, { accessFlags := 74, nameIndex := 29, descriptorIndex := 30, attributes := #[] }, { accessFlags := 74, nameIndex := 154, descriptorIndex := 155, attributes := #[] }, { accessFlags := 10, nameIndex := 217, descriptorIndex := 218, attributes := #[] }, { accessFlags := 10, nameIndex := 221, descriptorIndex := 222, attributes := #[] }, { accessFlags := 8, nameIndex := 562, descriptorIndex := 563, attributes := #[] }])
  fields := #[{ name := "in", type := (.object "java/io/InputStream"), accessFlags := 25, slot := 0, constantValue := 0 }, { name := "out", type := (.object "java/io/PrintStream"), accessFlags := 25, slot := 1, constantValue := 0 }, { name := "err", type := (.object "java/io/PrintStream"), accessFlags := 25, slot := 2, constantValue := 0 }, { name := "initialIn", type := (.object "java/io/InputStream"), accessFlags := 10, slot := 3, constantValue := 0 }, { name := "NEVER", type := .int, accessFlags := 26, slot := 4, constantValue := 0 }, { name := "MAYBE", type := .int, accessFlags := 26, slot := 5, constantValue := 0 }, { name := "allowSecurityManager", type := .int, accessFlags := 10, slot := 6, constantValue := 0 }, { name := "security", type := (.object "java/lang/SecurityManager"), accessFlags := 74, slot := 7, constantValue := 0 }, { name := "notSupportedJnuEncoding", type := (.object "java/lang/String"), accessFlags := 10, slot := 8, constantValue := 0 }, { name := "cons", type := (.object "java/io/Console"), accessFlags := 74, slot := 9, constantValue := 0 }, { name := "initialErrStream", type := (.object "java/io/PrintStream"), accessFlags := 74, slot := 10, constantValue := 0 }, { name := "props", type := (.object "java/util/Properties"), accessFlags := 10, slot := 11, constantValue := 0 }, { name := "lineSeparator", type := (.object "java/lang/String"), accessFlags := 10, slot := 12, constantValue := 0 }, { name := "bootLayer", type := (.object "java/lang/ModuleLayer"), accessFlags := 8, slot := 13, constantValue := 0 }]
  methods := #[k13m0, k13m1]
  instanceTypes := #[]
  staticTypes := #[(.object "java/io/InputStream"), (.object "java/io/PrintStream"), (.object "java/io/PrintStream"), (.object "java/io/InputStream"), .int, .int, .int, (.object "java/lang/SecurityManager"), (.object "java/lang/String"), (.object "java/io/Console"), (.object "java/io/PrintStream"), (.object "java/util/Properties"), (.object "java/lang/String"), (.object "java/lang/ModuleLayer")]
  resolved := Array.replicate 834 none
  statics := none }

def pool14 : Array CpInfo := pool [(2, .class_ 4), (1, u "java/lang/Object"), (0, u "<init>"), (0, u "()V"), (1, .class_ 10), (1, u "java/lang/Number"), (2, .class_ 14), (0, u "java/io/Serializable"), (0, u "serialVersionUID"), (0, u "J")] 20

def k14m0 : Method := { name := "<init>", desc := "()V", sig := { parameters := [], returnType := none }, accessFlags := 1, code := none }
/-- java/lang/Number -/
def k14 : Class := { plain "java/lang/Number" (some 0) with
  accessFlags := 1057
  interfaces := #[2]
  cf := some (fileOf pool14 8 #[] #[{ accessFlags := 1, nameIndex := 5, descriptorIndex := 6, attributes := #[] }] 1057 2 #[13] #[{ accessFlags := 26, nameIndex := 15, descriptorIndex := 16, attributes := #[] }])
  fields := #[{ name := "serialVersionUID", type := .long, accessFlags := 26, slot := 0, constantValue := 0 }]
  methods := #[k14m0]
  instanceTypes := #[]
  staticTypes := #[.long]
  resolved := Array.replicate 37 none
  statics := none }

def pool15 : Array CpInfo := pool [(1, .class_ 2), (0, u "java/lang/Integer"), (16, u "digits"), (0, u "[C"), (33, u "(I)I"), (19, u "stringSize"), (2, u "getChars"), (0, u "(II[B)I"), (4, .fieldref 1 84), (0, .nameAndType 85 86), (0, u "DigitOnes"), (0, u "[B"), (0, .fieldref 1 88), (0, .nameAndType 89 86), (0, u "DigitTens"), (99, .class_ 190), (0, u "java/lang/Integer$IntegerCache"), (3, u "I"), (8, .class_ 204), (0, u "java/lang/Number"), (2, u "value"), (94, u "TYPE"), (0, u "Ljava/lang/Class;"), (0, .class_ 305), (0, u "java/lang/Comparable"), (0, .class_ 307), (0, u "java/lang/constant/Constable"), (0, .class_ 309), (0, u "java/lang/constant/ConstantDesc"), (0, u "MIN_VALUE"), (1, u "MAX_VALUE"), (3, u "SIZE"), (1, u "BYTES"), (1, u "serialVersionUID"), (0, u "J")] 131

def k15c0 : Code := { maxStack := 4, maxLocals := 7, code := jdk_33_method_12_code, exceptionTable := #[], attributes := #[] }
def k15m0 : Method := { name := "getChars", desc := "(II[B)I", sig := { parameters := [.int, .int, (.array .byte)], returnType := some .int }, accessFlags := 8, code := some k15c0 }
def k15c1 : Code := { maxStack := 2, maxLocals := 4, code := jdk_33_method_13_code, exceptionTable := #[], attributes := #[] }
def k15m1 : Method := { name := "stringSize", desc := "(I)I", sig := { parameters := [.int], returnType := some .int }, accessFlags := 8, code := some k15c1 }
/-- java/lang/Integer -/
def k15 : Class := { plain "java/lang/Integer" (some 14) with
  accessFlags := 49
  interfaces := #[3, 5, 6]
  cf := some (fileOf pool15 1 #[.nestMembers #[189]] #[{ accessFlags := 8, nameIndex := 77, descriptorIndex := 78, attributes := #[] }, { accessFlags := 8, nameIndex := 74, descriptorIndex := 54, attributes := #[] }] 49 203 #[304, 306, 308] #[{ accessFlags := 25, nameIndex := 310, descriptorIndex := 194, attributes := #[] }, { accessFlags := 25, nameIndex := 312, descriptorIndex := 194, attributes := #[] }, { accessFlags := 25, nameIndex := 302, descriptorIndex := 303, attributes := #[] }, { accessFlags := 24, nameIndex := 19, descriptorIndex := 20, attributes := #[] }, { accessFlags := 24, nameIndex := 89, descriptorIndex := 86, attributes := #[] }, { accessFlags := 24, nameIndex := 85, descriptorIndex := 86, attributes := #[] }, { accessFlags := 18, nameIndex := 207, descriptorIndex := 194, attributes := #[] }, { accessFlags := 25, nameIndex := 316, descriptorIndex := 194, attributes := #[] }, { accessFlags := 25, nameIndex := 318, descriptorIndex := 194, attributes := #[] }, { accessFlags := 26, nameIndex := 320, descriptorIndex := 321, attributes := #[] }])
  fields := #[{ name := "MIN_VALUE", type := .int, accessFlags := 25, slot := 0, constantValue := 0 }, { name := "MAX_VALUE", type := .int, accessFlags := 25, slot := 1, constantValue := 0 }, { name := "TYPE", type := (.object "java/lang/Class"), accessFlags := 25, slot := 2, constantValue := 0 }, { name := "digits", type := (.array .char), accessFlags := 24, slot := 3, constantValue := 0 }, { name := "DigitTens", type := (.array .byte), accessFlags := 24, slot := 4, constantValue := 0 }, { name := "DigitOnes", type := (.array .byte), accessFlags := 24, slot := 5, constantValue := 0 }, { name := "value", type := .int, accessFlags := 18, slot := 0, constantValue := 0 }, { name := "SIZE", type := .int, accessFlags := 25, slot := 6, constantValue := 0 }, { name := "BYTES", type := .int, accessFlags := 25, slot := 7, constantValue := 0 }, { name := "serialVersionUID", type := .long, accessFlags := 26, slot := 8, constantValue := 0 }]
  methods := #[k15m0, k15m1]
  instanceTypes := #[.int]
  staticTypes := #[.int, .int, (.object "java/lang/Class"), (.array .char), (.array .byte), (.array .byte), .int, .int, .long]
  resolved := Array.replicate 453 none
  statics := some 1 }

def pool16 : Array CpInfo := pool [(2, .class_ 4), (1, u "java/lang/Object"), (0, u "<init>"), (0, u "()V"), (7, .class_ 16), (1, u "java/util/Arrays"), (57, .class_ 76), (1, u "java/util/Arrays$NaturalOrder"), (36, .class_ 115), (1, u "java/util/Arrays$LegacyMergeSort"), (1, u "Z"), (21, u "copyOfRange"), (10, .methodref 151 152), (0, .class_ 153), (0, .nameAndType 154 155), (0, u "java/lang/System"), (0, u "arraycopy"), (0, u "(Ljava/lang/Object;ILjava/lang/Object;II)V"), (148, .methodref 305 306), (0, .class_ 307), (0, .nameAndType 308 309), (0, u "java/lang/Math"), (0, u "min"), (0, u "(II)I"), (29, .methodref 14 340), (0, .nameAndType 341 342), (0, u "copyOfRangeByte"), (0, u "([BII)[B"), (0, .methodref 14 344), (0, .nameAndType 345 346), (0, u "checkLength"), (0, u "(II)V"), (28, .class_ 376), (0, u "java/util/Arrays$ArrayList"), (68, u "$assertionsDisabled"), (269, u "MIN_ARRAY_SORT_GRAN"), (0, u "I"), (2, u "INSERTIONSORT_THRESHOLD"), (255, .class_ 976), (0, u "java/util/Arrays$ArrayItr")] 52

def k16m0 : Method := { name := "<init>", desc := "()V", sig := { parameters := [], returnType := none }, accessFlags := 2, code := none }
def k16c1 : Code := { maxStack := 4, maxLocals := 2, code := jdk_65_method_131_code, exceptionTable := #[], attributes := #[] }
def k16m1 : Method := { name := "checkLength", desc := "(II)V", sig := { parameters := [.int, .int], returnType := none }, accessFlags := 10, code := some k16c1 }
def k16c2 : Code := { maxStack := 3, maxLocals := 3, code := jdk_65_method_132_code, exceptionTable := #[], attributes := #[] }
def k16m2 : Method := { name := "copyOfRange", desc := "([BII)[B", sig := { parameters := [(.array .byte), .int, .int], returnType := some (.array .byte) }, accessFlags := 9, code := some k16c2 }
def k16c3 : Code := { maxStack := 6, maxLocals := 5, code := jdk_65_method_133_code, exceptionTable := #[], attributes := #[] }
def k16m3 : Method := { name := "copyOfRangeByte", desc := "([BII)[B", sig := { parameters := [(.array .byte), .int, .int], returnType := some (.array .byte) }, accessFlags := 10, code := some k16c3 }
/-- java/util/Arrays -/
def k16 : Class := { plain "java/util/Arrays" (some 0) with
  accessFlags := 49
  interfaces := #[]
  cf := some (fileOf pool16 14 #[.nestMembers #[975, 375, 113, 74]] #[{ accessFlags := 2, nameIndex := 5, descriptorIndex := 6, attributes := #[] }, { accessFlags := 10, nameIndex := 345, descriptorIndex := 346, attributes := #[] }, { accessFlags := 9, nameIndex := 139, descriptorIndex := 342, attributes := #[] }, { accessFlags := 10, nameIndex := 341, descriptorIndex := 342, attributes := #[] }] 49 2 #[] #[{ accessFlags := 26, nameIndex := 715, descriptorIndex := 716, attributes := #[] }, { accessFlags := 26, nameIndex := 719, descriptorIndex := 716, attributes := #[] }, { accessFlags := 4120, nameIndex := 445, descriptorIndex := 117, attributes := #[] }])
  fields := #[{ name := "MIN_ARRAY_SORT_GRAN", type := .int, accessFlags := 26, slot := 0, constantValue := 0 }, { name := "INSERTIONSORT_THRESHOLD", type := .int, accessFlags := 26, slot := 1, constantValue := 0 }, { name := "$assertionsDisabled", type := .boolean, accessFlags := 4120, slot := 2, constantValue := 0 }]
  methods := #[k16m0, k16m1, k16m2, k16m3]
  instanceTypes := #[]
  staticTypes := #[.int, .int, .boolean]
  resolved := Array.replicate 1029 none
  statics := none }

def pool17 : Array CpInfo := pool [(1, .class_ 2), (0, u "java/lang/Math"), (1, .class_ 6), (1, u "java/lang/Object"), (0, u "<init>"), (0, u "()V"), (89, .class_ 100), (1, u "java/lang/Math$RandomNumberGeneratorHolder"), (23, u "abs"), (0, u "(J)J"), (46, u "negativeZeroFloatBits"), (0, u "J"), (2, u "negativeZeroDoubleBits"), (24, u "min"), (43, u "$assertionsDisabled"), (0, u "Z"), (88, u "(II)I"), (2, u "twoToTheDoubleScaleDown"), (0, u "D"), (4, u "twoToTheDoubleScaleUp"), (9, u "E"), (3, u "PI"), (2, u "TAU"), (2, u "DEGREES_TO_RADIANS"), (0, u "RADIANS_TO_DEGREES")] 94

def k17m0 : Method := { name := "<init>", desc := "()V", sig := { parameters := [], returnType := none }, accessFlags := 2, code := none }
def k17c1 : Code := { maxStack := 4, maxLocals := 2, code := jdk_29_method_61_code, exceptionTable := #[], attributes := #[] }
def k17m1 : Method := { name := "abs", desc := "(J)J", sig := { parameters := [.long], returnType := some .long }, accessFlags := 9, code := some k17c1 }
def k17c2 : Code := { maxStack := 2, maxLocals := 2, code := jdk_29_method_69_code, exceptionTable := #[], attributes := #[] }
def k17m2 : Method := { name := "min", desc := "(II)I", sig := { parameters := [.int, .int], returnType := some .int }, accessFlags := 9, code := some k17c2 }
/-- java/lang/Math -/
def k17 : Class := { plain "java/lang/Math" (some 0) with
  accessFlags := 49
  interfaces := #[]
  cf := some (fileOf pool17 1 #[.nestMembers #[98]] #[{ accessFlags := 2, nameIndex := 7, descriptorIndex := 8, attributes := #[] }, { accessFlags := 9, nameIndex := 124, descriptorIndex := 125, attributes := #[] }, { accessFlags := 9, nameIndex := 201, descriptorIndex := 335, attributes := #[] }] 49 4 #[] #[{ accessFlags := 25, nameIndex := 354, descriptorIndex := 339, attributes := #[] }, { accessFlags := 25, nameIndex := 358, descriptorIndex := 339, attributes := #[] }, { accessFlags := 25, nameIndex := 361, descriptorIndex := 339, attributes := #[] }, { accessFlags := 26, nameIndex := 364, descriptorIndex := 339, attributes := #[] }, { accessFlags := 26, nameIndex := 365, descriptorIndex := 339, attributes := #[] }, { accessFlags := 26, nameIndex := 172, descriptorIndex := 173, attributes := #[] }, { accessFlags := 26, nameIndex := 176, descriptorIndex := 173, attributes := #[] }, { accessFlags := 8, nameIndex := 344, descriptorIndex := 339, attributes := #[] }, { accessFlags := 8, nameIndex := 338, descriptorIndex := 339, attributes := #[] }, { accessFlags := 4120, nameIndex := 245, descriptorIndex := 246, attributes := #[] }])
  fields := #[{ name := "E", type := .double, accessFlags := 25, slot := 0, constantValue := 0 }, { name := "PI", type := .double, accessFlags := 25, slot := 1, constantValue := 0 }, { name := "TAU", type := .double, accessFlags := 25, slot := 2, constantValue := 0 }, { name := "DEGREES_TO_RADIANS", type := .double, accessFlags := 26, slot := 3, constantValue := 0 }, { name := "RADIANS_TO_DEGREES", type := .double, accessFlags := 26, slot := 4, constantValue := 0 }, { name := "negativeZeroFloatBits", type := .long, accessFlags := 26, slot := 5, constantValue := 0 }, { name := "negativeZeroDoubleBits", type := .long, accessFlags := 26, slot := 6, constantValue := 0 }, { name := "twoToTheDoubleScaleUp", type := .double, accessFlags := 8, slot := 7, constantValue := 0 }, { name := "twoToTheDoubleScaleDown", type := .double, accessFlags := 8, slot := 8, constantValue := 0 }, { name := "$assertionsDisabled", type := .boolean, accessFlags := 4120, slot := 9, constantValue := 0 }]
  methods := #[k17m0, k17m1, k17m2]
  instanceTypes := #[]
  staticTypes := #[.double, .double, .double, .double, .double, .long, .long, .double, .double, .boolean]
  resolved := Array.replicate 460 none
  statics := none }

def pool18 : Array CpInfo := pool [(1, .class_ 2), (0, u "java/lang/String"), (1, .class_ 6), (1, u "java/lang/Object"), (0, u "<init>"), (0, u "()V"), (0, .methodref 1 10), (0, .nameAndType 11 12), (0, u "checkIndex"), (0, u "(II)V"), (1, .class_ 16), (1, u "java/lang/StringLatin1"), (36, u "([BI)C"), (36, u "canEncode"), (14, u "(C)Z"), (15, u "$assertionsDisabled"), (0, u "Z"), (98, .class_ 223), (1, u "java/lang/StringLatin1$LinesSpliterator"), (28, u "charAt"), (127, u "toBytes"), (1, u "(C)[B"), (7, .class_ 391), (0, u "java/lang/StringLatin1$CharsSpliterator")] 3

def k18m0 : Method := { name := "<init>", desc := "()V", sig := { parameters := [], returnType := none }, accessFlags := 0, code := none }
def k18c1 : Code := { maxStack := 2, maxLocals := 2, code := jdk_43_method_2_code, exceptionTable := #[], attributes := #[] }
def k18m1 : Method := { name := "charAt", desc := "([BI)C", sig := { parameters := [(.array .byte), .int], returnType := some .char }, accessFlags := 9, code := some k18c1 }
def k18c2 : Code := { maxStack := 2, maxLocals := 1, code := jdk_43_method_3_code, exceptionTable := #[], attributes := #[] }
def k18m2 : Method := { name := "canEncode", desc := "(C)Z", sig := { parameters := [.char], returnType := some .boolean }, accessFlags := 9, code := some k18c2 }
def k18c3 : Code := { maxStack := 4, maxLocals := 1, code := jdk_43_method_46_code, exceptionTable := #[], attributes := #[] }
def k18m3 : Method := { name := "toBytes", desc := "(C)[B", sig := { parameters := [.char], returnType := some (.array .byte) }, accessFlags := 9, code := some k18c3 }
/-- java/lang/StringLatin1 -/
def k18 : Class := { plain "java/lang/StringLatin1" (some 0) with
  accessFlags := 48
  interfaces := #[]
  cf := some (fileOf pool18 14 #[.nestMembers #[390, 221]] #[{ accessFlags := 0, nameIndex := 7, descriptorIndex := 8, attributes := #[] }, { accessFlags := 9, nameIndex := 252, descriptorIndex := 53, attributes := #[] }, { accessFlags := 9, nameIndex := 90, descriptorIndex := 105, attributes := #[] }, { accessFlags := 9, nameIndex := 380, descriptorIndex := 382, attributes := #[] }] 48 4 #[] #[{ accessFlags := 4120, nameIndex := 121, descriptorIndex := 122, attributes := #[] }])
  fields := #[{ name := "$assertionsDisabled", type := .boolean, accessFlags := 4120, slot := 0, constantValue := 0 }]
  methods := #[k18m0, k18m1, k18m2, k18m3]
  instanceTypes := #[]
  staticTypes := #[.boolean]
  resolved := Array.replicate 395 none
  statics := none }

def pool19 : Array CpInfo := pool [(2, .class_ 4), (1, u "java/lang/Object"), (0, u "<init>"), (0, u "()V"), (17, .class_ 26), (1, u "jdk/internal/util/Preconditions"), (6, u "checkIndex"), (21, .class_ 56), (0, u "jdk/internal/util/Preconditions$4"), (57, .class_ 115), (0, u "jdk/internal/util/Preconditions$1"), (7, u "SIOOBE_FORMATTER"), (0, u "Ljava/util/function/BiFunction;"), (0, .class_ 126), (0, u "jdk/internal/util/Preconditions$2"), (3, u "AIOOBE_FORMATTER"), (0, .class_ 132), (0, u "jdk/internal/util/Preconditions$3"), (3, u "IOOBE_FORMATTER"), (41, u "(IILjava/util/function/BiFunction;)I")] 15

def k19m0 : Method := { name := "<init>", desc := "()V", sig := { parameters := [], returnType := none }, accessFlags := 1, code := none }
def k19c1 : Code := { maxStack := 3, maxLocals := 3, code := jdk_41_method_11_code, exceptionTable := #[], attributes := #[] }
def k19m1 : Method := { name := "checkIndex", desc := "(IILjava/util/function/BiFunction;)I", sig := { parameters := [.int, .int, (.object "java/util/function/BiFunction")], returnType := some .int }, accessFlags := 9, code := some k19c1 }
/-- jdk/internal/util/Preconditions -/
def k19 : Class := { plain "jdk/internal/util/Preconditions" (some 0) with
  accessFlags := 33
  interfaces := #[]
  cf := some (fileOf pool19 24 #[.nestMembers #[55, 131, 125, 114]] #[{ accessFlags := 1, nameIndex := 5, descriptorIndex := 6, attributes := #[] }, { accessFlags := 9, nameIndex := 33, descriptorIndex := 178, attributes := #[] }] 33 2 #[] #[{ accessFlags := 25, nameIndex := 123, descriptorIndex := 124, attributes := #[] }, { accessFlags := 25, nameIndex := 130, descriptorIndex := 124, attributes := #[] }, { accessFlags := 25, nameIndex := 136, descriptorIndex := 124, attributes := #[] }])
  fields := #[{ name := "SIOOBE_FORMATTER", type := (.object "java/util/function/BiFunction"), accessFlags := 25, slot := 0, constantValue := 0 }, { name := "AIOOBE_FORMATTER", type := (.object "java/util/function/BiFunction"), accessFlags := 25, slot := 1, constantValue := 0 }, { name := "IOOBE_FORMATTER", type := (.object "java/util/function/BiFunction"), accessFlags := 25, slot := 2, constantValue := 0 }]
  methods := #[k19m0, k19m1]
  instanceTypes := #[]
  staticTypes := #[(.object "java/util/function/BiFunction"), (.object "java/util/function/BiFunction"), (.object "java/util/function/BiFunction")]
  resolved := Array.replicate 194 none
  statics := some 2 }

def pool20 : Array CpInfo := pool [(1, .methodref 2 3), (0, .class_ 4), (0, .nameAndType 5 6), (0, u "java/lang/Record"), (0, u "<init>"), (0, u "()V"), (0, .fieldref 8 9), (0, .class_ 10), (0, .nameAndType 11 12), (0, u "com/example/net_thirty/netthirty/mail/MailServer$Login"), (0, u "user"), (0, u "Ljava/lang/String;"), (0, .fieldref 8 14), (0, .nameAndType 15 12), (0, u "password"), (23, u "(Ljava/lang/String;Ljava/lang/String;)V"), (8, .class_ 49), (0, u "com/example/net_thirty/netthirty/mail/MailServer")] 20

def k20c0 : Code := { maxStack := 2, maxLocals := 3, code := prog_30_method_1_code, exceptionTable := #[], attributes := #[] }
def k20m0 : Method := { name := "<init>", desc := "(Ljava/lang/String;Ljava/lang/String;)V", sig := { parameters := [(.object "java/lang/String"), (.object "java/lang/String")], returnType := none }, accessFlags := 1, code := some k20c0 }
/-- com/example/net_thirty/netthirty/mail/MailServer$Login -/
def k20 : Class := { plain "com/example/net_thirty/netthirty/mail/MailServer$Login" (some 8) with
  accessFlags := 49
  interfaces := #[]
  cf := some (fileOf pool20 8 #[.nestHost 48] #[{ accessFlags := 1, nameIndex := 5, descriptorIndex := 39, attributes := #[] }] 49 2 #[] #[{ accessFlags := 18, nameIndex := 11, descriptorIndex := 12, attributes := #[] }, { accessFlags := 18, nameIndex := 15, descriptorIndex := 12, attributes := #[] }])
  fields := #[{ name := "user", type := (.object "java/lang/String"), accessFlags := 18, slot := 0, constantValue := 0 }, { name := "password", type := (.object "java/lang/String"), accessFlags := 18, slot := 1, constantValue := 0 }]
  methods := #[k20m0]
  instanceTypes := #[(.object "java/lang/String"), (.object "java/lang/String")]
  staticTypes := #[]
  resolved := Array.replicate 70 none
  statics := none }

def pool21 : Array CpInfo := pool [(6, .class_ 8), (1, u "java/lang/Object"), (0, u "<init>"), (0, u "()V"), (1, .class_ 14), (1, u "java/lang/StringUTF16"), (31, u "$assertionsDisabled"), (0, u "Z"), (13, u "HI_BYTE_SHIFT"), (0, u "I"), (2, u "LO_BYTE_SHIFT"), (49, .methodref 12 116), (0, .nameAndType 117 118), (0, u "compress"), (0, u "([CI[BII)I"), (3, u "([CII)[B"), (138, u "coderFromArrayLen"), (0, u "([BI)B"), (106, .class_ 371), (1, u "java/lang/StringUTF16$LinesSpliterator"), (58, u "MAX_LENGTH"), (196, .class_ 628), (0, u "java/lang/StringUTF16$CodePointsSpliterator"), (0, .class_ 630), (0, u "java/lang/StringUTF16$CharsSpliterator")] 4

def k21m0 : Method := { name := "<init>", desc := "()V", sig := { parameters := [], returnType := none }, accessFlags := 0, code := none }
def k21c1 : Code := { maxStack := 2, maxLocals := 2, code := jdk_52_method_15_code, exceptionTable := #[], attributes := #[] }
def k21m1 : Method := { name := "coderFromArrayLen", desc := "([BI)B", sig := { parameters := [(.array .byte), .int], returnType := some .byte }, accessFlags := 8, code := some k21c1 }
def k21c2 : Code := { maxStack := 5, maxLocals := 6, code := jdk_52_method_16_code, exceptionTable := #[], attributes := #[] }
def k21m2 : Method := { name := "compress", desc := "([CII)[B", sig := { parameters := [(.array .char), .int, .int], returnType := some (.array .byte) }, accessFlags := 9, code := some k21c2 }
def k21c3 : Code := { maxStack := 3, maxLocals := 7, code := jdk_52_method_21_code, exceptionTable := #[], attributes := #[] }
def k21m3 : Method := { name := "compress", desc := "([CI[BII)I", sig := { parameters := [(.array .char), .int, (.array .byte), .int, .int], returnType := some .int }, accessFlags := 9, code := some k21c3 }
/-- java/lang/StringUTF16 -/
def k21 : Class := { plain "java/lang/StringUTF16" (some 0) with
  accessFlags := 48
  interfaces := #[]
  cf := some (fileOf pool21 12 #[.nestMembers #[627, 629, 369]] #[{ accessFlags := 0, nameIndex := 9, descriptorIndex := 10, attributes := #[] }, { accessFlags := 8, nameIndex := 261, descriptorIndex := 262, attributes := #[] }, { accessFlags := 9, nameIndex := 117, descriptorIndex := 122, attributes := #[] }, { accessFlags := 9, nameIndex := 117, descriptorIndex := 118, attributes := #[] }] 48 6 #[] #[{ accessFlags := 26, nameIndex := 61, descriptorIndex := 62, attributes := #[] }, { accessFlags := 26, nameIndex := 65, descriptorIndex := 62, attributes := #[] }, { accessFlags := 24, nameIndex := 430, descriptorIndex := 62, attributes := #[] }, { accessFlags := 4120, nameIndex := 46, descriptorIndex := 47, attributes := #[] }])
  fields := #[{ name := "HI_BYTE_SHIFT", type := .int, accessFlags := 26, slot := 0, constantValue := 0 }, { name := "LO_BYTE_SHIFT", type := .int, accessFlags := 26, slot := 1, constantValue := 0 }, { name := "MAX_LENGTH", type := .int, accessFlags := 24, slot := 2, constantValue := 0 }, { name := "$assertionsDisabled", type := .boolean, accessFlags := 4120, slot := 3, constantValue := 0 }]
  methods := #[k21m0, k21m1, k21m2, k21m3]
  instanceTypes := #[]
  staticTypes := #[.int, .int, .int, .boolean]
  resolved := Array.replicate 635 none
  statics := none }

def pool22 : Array CpInfo := pool [(9, u "<init>"), (6, .class_ 18), (1, u "java/lang/Object"), (0, u "()V"), (1, .class_ 23), (1, u "jdk/internal/util/ArraysSupport"), (0, u "LOG2_ARRAY_LONG_INDEX_SCALE"), (0, u "I"), (2, u "U"), (0, u "Ljdk/internal/misc/Unsafe;"), (8, u "BIG_ENDIAN"), (0, u "Z"), (8, u "LOG2_BYTE_BIT_SIZE"), (4, u "LOG2_ARRAY_INT_INDEX_SCALE"), (54, u "JLA"), (0, u "Ljdk/internal/access/JavaLangAccess;"), (11, u "LOG2_ARRAY_BOOLEAN_INDEX_SCALE"), (9, u "LOG2_ARRAY_BYTE_INDEX_SCALE"), (5, u "LOG2_ARRAY_CHAR_INDEX_SCALE"), (5, u "LOG2_ARRAY_SHORT_INDEX_SCALE"), (18, u "LOG2_ARRAY_FLOAT_INDEX_SCALE"), (24, u "LOG2_ARRAY_DOUBLE_INDEX_SCALE"), (89, u "T_BOOLEAN"), (2, u "T_CHAR"), (1, u "T_FLOAT"), (1, u "T_DOUBLE"), (1, u "T_BYTE"), (1, u "T_SHORT"), (1, u "T_INT"), (1, u "T_LONG"), (1, u "SOFT_MAX_ARRAY_LENGTH")] 83

def k22m0 : Method := { name := "<init>", desc := "()V", sig := { parameters := [], returnType := none }, accessFlags := 2, code := none }
/-- jdk/internal/util/ArraysSupport -/
def k22 : Class := { plain "jdk/internal/util/ArraysSupport" (some 0) with
  accessFlags := 33
  interfaces := #[]
  cf := some (fileOf pool22 21 #[] #[{ accessFlags := 2, nameIndex := 9, descriptorIndex := 19, attributes := #[] }] 33 16 #[] #[{ accessFlags := 24, nameIndex := 28, descriptorIndex := 29, attributes := #[] }, { accessFlags := 26, nameIndex := 38, descriptorIndex := 39, attributes := #[] }, { accessFlags := 25, nameIndex := 121, descriptorIndex := 25, attributes := #[] }, { accessFlags := 25, nameIndex := 131, descriptorIndex := 25, attributes := #[] }, { accessFlags := 25, nameIndex := 137, descriptorIndex := 25, attributes := #[] }, { accessFlags := 25, nameIndex := 143, descriptorIndex := 25, attributes := #[] }, { accessFlags := 25, nameIndex := 53, descriptorIndex := 25, attributes := #[] }, { accessFlags := 25, nameIndex := 24, descriptorIndex := 25, attributes := #[] }, { accessFlags := 25, nameIndex := 162, descriptorIndex := 25, attributes := #[] }, { accessFlags := 25, nameIndex := 187, descriptorIndex := 25, attributes := #[] }, { accessFlags := 26, nameIndex := 48, descriptorIndex := 25, attributes := #[] }, { accessFlags := 25, nameIndex := 277, descriptorIndex := 25, attributes := #[] }, { accessFlags := 25, nameIndex := 280, descriptorIndex := 25, attributes := #[] }, { accessFlags := 25, nameIndex := 282, descriptorIndex := 25, attributes := #[] }, { accessFlags := 25, nameIndex := 284, descriptorIndex := 25, attributes := #[] }, { accessFlags := 25, nameIndex := 286, descriptorIndex := 25, attributes := #[] }, { accessFlags := 25, nameIndex := 288, descriptorIndex := 25, attributes := #[] }, { accessFlags := 25, nameIndex := 290, descriptorIndex := 25, attributes := #[] }, { accessFlags := 25, nameIndex := 292, descriptorIndex := 25, attributes := #[] }, { accessFlags := 26, nameIndex := 108, descriptorIndex := 109, attributes := #[] }, { accessFlags := 25, nameIndex := 294, descriptorIndex := 25, attributes := #[] }])
  fields := #[{ name := "U", type := (.object "jdk/internal/misc/Unsafe"), accessFlags := 24, slot := 0, constantValue := 0 }, { name := "BIG_ENDIAN", type := .boolean, accessFlags := 26, slot := 1, constantValue := 0 }, { name := "LOG2_ARRAY_BOOLEAN_INDEX_SCALE", type := .int, accessFlags := 25, slot := 2, constantValue := 0 }, { name := "LOG2_ARRAY_BYTE_INDEX_SCALE", type := .int, accessFlags := 25, slot := 3, constantValue := 0 }, { name := "LOG2_ARRAY_CHAR_INDEX_SCALE", type := .int, accessFlags := 25, slot := 4, constantValue := 0 }, { name := "LOG2_ARRAY_SHORT_INDEX_SCALE", type := .int, accessFlags := 25, slot := 5, constantValue := 0 }, { name := "LOG2_ARRAY_INT_INDEX_SCALE", type := .int, accessFlags := 25, slot := 6, constantValue := 0 }, { name := "LOG2_ARRAY_LONG_INDEX_SCALE", type := .int, accessFlags := 25, slot := 7, constantValue := 0 }, { name := "LOG2_ARRAY_FLOAT_INDEX_SCALE", type := .int, accessFlags := 25, slot := 8, constantValue := 0 }, { name := "LOG2_ARRAY_DOUBLE_INDEX_SCALE", type := .int, accessFlags := 25, slot := 9, constantValue := 0 }, { name := "LOG2_BYTE_BIT_SIZE", type := .int, accessFlags := 26, slot := 10, constantValue := 0 }, { name := "T_BOOLEAN", type := .int, accessFlags := 25, slot := 11, constantValue := 0 }, { name := "T_CHAR", type := .int, accessFlags := 25, slot := 12, constantValue := 0 }, { name := "T_FLOAT", type := .int, accessFlags := 25, slot := 13, constantValue := 0 }, { name := "T_DOUBLE", type := .int, accessFlags := 25, slot := 14, constantValue := 0 }, { name := "T_BYTE", type := .int, accessFlags := 25, slot := 15, constantValue := 0 }, { name := "T_SHORT", type := .int, accessFlags := 25, slot := 16, constantValue := 0 }, { name := "T_INT", type := .int, accessFlags := 25, slot := 17, constantValue := 0 }, { name := "T_LONG", type := .int, accessFlags := 25, slot := 18, constantValue := 0 }, { name := "JLA", type := (.object "jdk/internal/access/JavaLangAccess"), accessFlags := 26, slot := 19, constantValue := 0 }, { name := "SOFT_MAX_ARRAY_LENGTH", type := .int, accessFlags := 25, slot := 20, constantValue := 0 }]
  methods := #[k22m0]
  instanceTypes := #[]
  staticTypes := #[(.object "jdk/internal/misc/Unsafe"), .boolean, .int, .int, .int, .int, .int, .int, .int, .int, .int, .int, .int, .int, .int, .int, .int, .int, .int, (.object "jdk/internal/access/JavaLangAccess"), .int]
  resolved := Array.replicate 378 none
  statics := none }

def pool23 : Array CpInfo := pool [(1, u "java/lang/Cloneable"), (0, .class_ 1), (0, u "java/lang/Object"), (0, .class_ 3)] 3

/-- java/lang/Cloneable -/
def k23 : Class := { plain "java/lang/Cloneable" (some 0) with
  accessFlags := 1537
  interfaces := #[]
  cf := some (fileOf pool23 2 #[] #[] 1537 4 #[] #[])
  fields := #[]
  methods := #[]
  instanceTypes := #[]
  staticTypes := #[]
  resolved := Array.replicate 8 none
  statics := none }

/-- the primitive byte -/
def k24 : Class := { plain "byte" none with kind := .primitive 'B', accessFlags := 0x411 }
/-- [B -/
def k25 : Class := { plain "[B" (some 0) with kind := .array 24 .byte, interfaces := #[23, 2], accessFlags := 1041 }

/-- the primitive char -/
def k26 : Class := { plain "char" none with kind := .primitive 'C', accessFlags := 0x411 }
/-- [C -/
def k27 : Class := { plain "[C" (some 0) with kind := .array 26 .char, interfaces := #[23, 2], accessFlags := 1041 }

/-- the primitive int -/
def k28 : Class := { plain "int" none with kind := .primitive 'I', accessFlags := 0x411 }
/-- [I -/
def k29 : Class := { plain "[I" (some 0) with kind := .array 28 .int, interfaces := #[23, 2], accessFlags := 1041 }

/-- the primitive long -/
def k30 : Class := { plain "long" none with kind := .primitive 'J', accessFlags := 0x411 }
/-- [J -/
def k31 : Class := { plain "[J" (some 0) with kind := .array 30 .long, interfaces := #[23, 2], accessFlags := 1041 }

def heap : Heap := #[{ cls := 7, slots := #[.long 0, .int 1, .null, .int 0, .null, .int 0, .int 0], vm := .statics 7 },
  { cls := 15, slots := #[.int 0, .int 0, .null, .null, .ref 4, .ref 3, .int 0, .int 0, .long 0], vm := .statics 15 },
  { cls := 19, slots := #[.null, .null, .null], vm := .statics 19 },
  { cls := 25, slots := #[.int 48, .int 49, .int 50, .int 51, .int 52, .int 53, .int 54, .int 55, .int 56, .int 57, .int 48, .int 49, .int 50, .int 51, .int 52, .int 53, .int 54, .int 55, .int 56, .int 57, .int 48, .int 49, .int 50, .int 51, .int 52, .int 53, .int 54, .int 55, .int 56, .int 57, .int 48, .int 49, .int 50, .int 51, .int 52, .int 53, .int 54, .int 55, .int 56, .int 57, .int 48, .int 49, .int 50, .int 51, .int 52, .int 53, .int 54, .int 55, .int 56, .int 57, .int 48, .int 49, .int 50, .int 51, .int 52, .int 53, .int 54, .int 55, .int 56, .int 57, .int 48, .int 49, .int 50, .int 51, .int 52, .int 53, .int 54, .int 55, .int 56, .int 57, .int 48, .int 49, .int 50, .int 51, .int 52, .int 53, .int 54, .int 55, .int 56, .int 57, .int 48, .int 49, .int 50, .int 51, .int 52, .int 53, .int 54, .int 55, .int 56, .int 57, .int 48, .int 49, .int 50, .int 51, .int 52, .int 53, .int 54, .int 55, .int 56, .int 57], vm := .none },
  { cls := 25, slots := #[.int 48, .int 48, .int 48, .int 48, .int 48, .int 48, .int 48, .int 48, .int 48, .int 48, .int 49, .int 49, .int 49, .int 49, .int 49, .int 49, .int 49, .int 49, .int 49, .int 49, .int 50, .int 50, .int 50, .int 50, .int 50, .int 50, .int 50, .int 50, .int 50, .int 50, .int 51, .int 51, .int 51, .int 51, .int 51, .int 51, .int 51, .int 51, .int 51, .int 51, .int 52, .int 52, .int 52, .int 52, .int 52, .int 52, .int 52, .int 52, .int 52, .int 52, .int 53, .int 53, .int 53, .int 53, .int 53, .int 53, .int 53, .int 53, .int 53, .int 53, .int 54, .int 54, .int 54, .int 54, .int 54, .int 54, .int 54, .int 54, .int 54, .int 54, .int 55, .int 55, .int 55, .int 55, .int 55, .int 55, .int 55, .int 55, .int 55, .int 55, .int 56, .int 56, .int 56, .int 56, .int 56, .int 56, .int 56, .int 56, .int 56, .int 56, .int 57, .int 57, .int 57, .int 57, .int 57, .int 57, .int 57, .int 57, .int 57, .int 57], vm := .none }]
def classes : Array Class := #[k0, k1, k2, k3, k4, k5, k6, k7, k8, k9, k10, k11, k12, k13, k14, k15, k16, k17, k18, k19, k20, k21, k22, k23, k24, k25, k26, k27, k28, k29, k30, k31]
def interned : List (Array UInt16 × Addr) := []
def slotsUsed : Nat := 219
def theMethod : MethodId := ⟨1, 1⟩
def args0 : Array Value := #[.int 5, .long 6, .int 7]
def aboutOver (below : List Frame) : State where
  vm := { classes := classes, interned := interned.toArray }
  heap := heap
  slotsUsed := slotsUsed
  threads := #[{ frames := .invoking theMethod args0 :: below }]
def below0 : List Frame := [.native { method := ⟨0, 0⟩, args := #[] }]
def about1 : State := aboutOver below0
def p0 : Program := .bare "" "" ""
def e0 : Env := launch0.env 0 0 0
theorem w_frames : about1.frames = Frame.invoking theMethod args0 :: below0 := rfl
set_option maxRecDepth 65536 in
theorem w_args : argsFit about1.vm theMethod args0 = true := by decide +kernel
set_option maxRecDepth 65536 in
theorem w_heap : heapFits about1 = true := by decide +kernel
set_option maxRecDepth 65536 in
theorem w_runnable : about1.curStatus? = some .runnable := by decide +kernel
set_option maxRecDepth 65536 in
theorem w_alone : about1.alone = true := by decide +kernel
set_option maxRecDepth 65536 in
theorem w_named : about1.methodNamed? x = some theMethod := by decide +kernel
set_option maxRecDepth 65536 in
theorem w_hears : about1.hears theMethod below0 = true := by decide +kernel
set_option maxRecDepth 65536 in
theorem w_ripe : about1.ripe theMethod args0 below0 = true := by decide +kernel
theorem w_running : about1.status = .running := rfl
set_option maxRecDepth 65536 in
theorem w_room : about1.hasRoom e0.platform room_1 = true :=
  launch0.hasRoom_least _ room_1 (by decide +kernel) (by decide +kernel) (by decide +kernel) (by decide +kernel) (by decide +kernel) (by decide +kernel)
theorem allAtoms_all (ts : List Jvm.Cond) (a : Array Jvm.Value) (st : Jvm.State) : (allAtoms ts).before a st = ts.all (fun c => c.before a st) := by
  induction ts with
  | nil => rfl
  | cons c t ih =>
    show (Jvm.Cond.and c (allAtoms t)).before a st = _
    rw [Jvm.Cond.before_and, ih, List.all_cons]
def words1 : List Jvm.Cond := Jvm.Cond.code x code maxLocals ret :: tables_1
/-- a 'code' word, met by the world's own term for the bytes: nothing is compared byte by byte -/
theorem code_word {y : MethodName} {bytes : ByteArray} {mx : Nat} {rt : Option FieldType} {a : Array Value} {s : State} {m : MethodId} {meth : Method} {c : Code} (h1 : s.methodNamed? y = some m) (h2 : s.vm.method? m = some meth) (h3 : meth.code = some c) (h4 : c.code = bytes)
    (h5 : (c.maxLocals == mx && c.exceptionTable.isEmpty && decide (c.maxStack ≤ mostOperands) && decide (meth.sig.returnType = rt) && !meth.locks && decide (parseMethodDescriptor y.desc = some meth.sig)) = true) : (Jvm.Cond.code y bytes mx rt).before a s = true := by
  simp only [Bool.and_eq_true, beq_iff_eq, Bool.not_eq_true', decide_eq_true_eq] at h5
  obtain ⟨⟨⟨⟨⟨g1, g2⟩, g3⟩, g4⟩, g5⟩, g6⟩ := h5
  simp [Cond.before, Cond.holds, Cond.value, h1, h2, h3, h4, g1, g2, g3, g4, g5, g6]
def isCode : Jvm.Cond → Bool
  | .code _ _ _ _ => true
  | _ => false
theorem all_split {L : List Jvm.Cond} {P : Jvm.Cond → Bool} (h1 : L.all (fun c => isCode c || P c) = true) (h2 : ∀ c ∈ L.filter isCode, P c = true) : L.all P = true := by
  refine List.all_eq_true.mpr fun c hc => ?_
  have h := List.all_eq_true.mp h1 c hc
  rcases Bool.eq_false_or_eq_true (isCode c) with hi | hi
  · exact h2 c (List.mem_filter.mpr ⟨hc, hi⟩)
  · simpa [hi] using h
set_option maxRecDepth 65536 in
theorem w_c0 : (Jvm.Cond.code x code maxLocals ret).before args0 about1 = true := code_word (m := ⟨1, 1⟩) (meth := k1m1) (c := k1c1) (by decide +kernel) rfl rfl rfl (by decide +kernel)
set_option maxRecDepth 65536 in
theorem w_c1 : (Jvm.Cond.code ({ cls := "java/lang/String", name := "<init>", desc := "([C)V" } : Jvm.MethodName) jdk_42_method_3_code (2 : Nat) (Option.none : Option Jvm.ClassFile.FieldType)).before args0 about1 = true := code_word (m := ⟨7, 1⟩) (meth := k7m1) (c := k7c1) (by decide +kernel) rfl rfl rfl (by decide +kernel)
set_option maxRecDepth 65536 in
theorem w_c2 : (Jvm.Cond.code ({ cls := "java/lang/String", name := "<init>", desc := "([CIILjava/lang/Void;)V" } : Jvm.MethodName) jdk_42_method_149_code (6 : Nat) (Option.none : Option Jvm.ClassFile.FieldType)).before args0 about1 = true := code_word (m := ⟨7, 7⟩) (meth := k7m7) (c := k7c7) (by decide +kernel) rfl rfl rfl (by decide +kernel)
set_option maxRecDepth 65536 in
theorem w_c3 : (Jvm.Cond.code ({ cls := "java/lang/Object", name := "<init>", desc := "()V" } : Jvm.MethodName) object_method_1_code (1 : Nat) (Option.none : Option Jvm.ClassFile.FieldType)).before args0 about1 = true := code_word (m := ⟨0, 0⟩) (meth := k0m0) (c := k0c0) (by decide +kernel) rfl rfl rfl (by decide +kernel)
set_option maxRecDepth 65536 in
theorem w_c4 : (Jvm.Cond.code ({ cls := "com/example/net_thirty/netthirty/mail/MailServer", name := "<init>", desc := "(Ljava/lang/String;IZLcom/example/net_thirty/netthirty/mail/MailServer$Login;)V" } : Jvm.MethodName) prog_29_method_1_code (5 : Nat) (Option.none : Option Jvm.ClassFile.FieldType)).before args0 about1 = true := code_word (m := ⟨9, 0⟩) (meth := k9m0) (c := k9c0) (by decide +kernel) rfl rfl rfl (by decide +kernel)
set_option maxRecDepth 65536 in
theorem w_c5 : (Jvm.Cond.code ({ cls := "java/lang/Record", name := "<init>", desc := "()V" } : Jvm.MethodName) jdk_30_method_1_code (1 : Nat) (Option.none : Option Jvm.ClassFile.FieldType)).before args0 about1 = true := code_word (m := ⟨8, 0⟩) (meth := k8m0) (c := k8c0) (by decide +kernel) rfl rfl rfl (by decide +kernel)
set_option maxRecDepth 65536 in
theorem w_c6 : (Jvm.Cond.code ({ cls := "com/example/net_thirty/netthirty/mail/MailServer", name := "address", desc := "()Ljava/lang/String;" } : Jvm.MethodName) prog_29_method_2_code (1 : Nat) (Option.some (Jvm.ClassFile.FieldType.object "java/lang/String"))).before args0 about1 = true := code_word (m := ⟨9, 1⟩) (meth := k9m1) (c := k9c1) (by decide +kernel) rfl rfl rfl (by decide +kernel)
set_option maxRecDepth 65536 in
theorem w_c7 : (Jvm.Cond.code ({ cls := "java/lang/StringBuilder", name := "<init>", desc := "()V" } : Jvm.MethodName) jdk_67_method_1_code (1 : Nat) (Option.none : Option Jvm.ClassFile.FieldType)).before args0 about1 = true := code_word (m := ⟨12, 0⟩) (meth := k12m0) (c := k12c0) (by decide +kernel) rfl rfl rfl (by decide +kernel)
set_option maxRecDepth 65536 in
theorem w_c8 : (Jvm.Cond.code ({ cls := "java/lang/AbstractStringBuilder", name := "<init>", desc := "(I)V" } : Jvm.MethodName) jdk_68_method_2_code (2 : Nat) (Option.none : Option Jvm.ClassFile.FieldType)).before args0 about1 = true := code_word (m := ⟨11, 1⟩) (meth := k11m1) (c := k11c1) (by decide +kernel) rfl rfl rfl (by decide +kernel)
set_option maxRecDepth 65536 in
theorem w_c9 : (Jvm.Cond.code ({ cls := "java/lang/StringBuilder", name := "append", desc := "(Ljava/lang/String;)Ljava/lang/StringBuilder;" } : Jvm.MethodName) jdk_67_method_7_code (2 : Nat) (Option.some (Jvm.ClassFile.FieldType.object "java/lang/StringBuilder"))).before args0 about1 = true := code_word (m := ⟨12, 1⟩) (meth := k12m1) (c := k12c1) (by decide +kernel) rfl rfl rfl (by decide +kernel)
set_option maxRecDepth 65536 in
theorem w_c10 : (Jvm.Cond.code ({ cls := "java/lang/AbstractStringBuilder", name := "append", desc := "(Ljava/lang/String;)Ljava/lang/AbstractStringBuilder;" } : Jvm.MethodName) jdk_68_method_22_code (3 : Nat) (Option.some (Jvm.ClassFile.FieldType.object "java/lang/AbstractStringBuilder"))).before args0 about1 = true := code_word (m := ⟨11, 4⟩) (meth := k11m4) (c := k11c4) (by decide +kernel) rfl rfl rfl (by decide +kernel)
set_option maxRecDepth 65536 in
theorem w_c11 : (Jvm.Cond.code ({ cls := "java/lang/String", name := "length", desc := "()I" } : Jvm.MethodName) jdk_42_method_54_code (1 : Nat) (Option.some Jvm.ClassFile.FieldType.int)).before args0 about1 = true := code_word (m := ⟨7, 3⟩) (meth := k7m3) (c := k7c3) (by decide +kernel) rfl rfl rfl (by decide +kernel)
set_option maxRecDepth 65536 in
theorem w_c12 : (Jvm.Cond.code ({ cls := "java/lang/String", name := "coder", desc := "()B" } : Jvm.MethodName) jdk_42_method_152_code (1 : Nat) (Option.some Jvm.ClassFile.FieldType.byte)).before args0 about1 = true := code_word (m := ⟨7, 10⟩) (meth := k7m10) (c := k7c10) (by decide +kernel) rfl rfl rfl (by decide +kernel)
set_option maxRecDepth 65536 in
theorem w_c13 : (Jvm.Cond.code ({ cls := "java/lang/AbstractStringBuilder", name := "ensureCapacityInternal", desc := "(I)V" } : Jvm.MethodName) jdk_68_method_9_code (3 : Nat) (Option.none : Option Jvm.ClassFile.FieldType)).before args0 about1 = true := code_word (m := ⟨11, 3⟩) (meth := k11m3) (c := k11c3) (by decide +kernel) rfl rfl rfl (by decide +kernel)
set_option maxRecDepth 65536 in
theorem w_c14 : (Jvm.Cond.code ({ cls := "java/lang/AbstractStringBuilder", name := "putStringAt", desc := "(ILjava/lang/String;)V" } : Jvm.MethodName) jdk_68_method_73_code (3 : Nat) (Option.none : Option Jvm.ClassFile.FieldType)).before args0 about1 = true := code_word (m := ⟨11, 9⟩) (meth := k11m9) (c := k11c9) (by decide +kernel) rfl rfl rfl (by decide +kernel)
set_option maxRecDepth 65536 in
theorem w_c15 : (Jvm.Cond.code ({ cls := "java/lang/AbstractStringBuilder", name := "inflateIfNeededFor", desc := "(Ljava/lang/String;)V" } : Jvm.MethodName) jdk_68_method_71_code (2 : Nat) (Option.none : Option Jvm.ClassFile.FieldType)).before args0 about1 = true := code_word (m := ⟨11, 8⟩) (meth := k11m8) (c := k11c8) (by decide +kernel) rfl rfl rfl (by decide +kernel)
set_option maxRecDepth 65536 in
theorem w_c16 : (Jvm.Cond.code ({ cls := "java/lang/String", name := "getBytes", desc := "([BIB)V" } : Jvm.MethodName) jdk_42_method_147_code (4 : Nat) (Option.none : Option Jvm.ClassFile.FieldType)).before args0 about1 = true := code_word (m := ⟨7, 6⟩) (meth := k7m6) (c := k7c6) (by decide +kernel) rfl rfl rfl (by decide +kernel)
set_option maxRecDepth 65536 in
theorem w_c17 : (Jvm.Cond.code ({ cls := "java/lang/StringBuilder", name := "append", desc := "(I)Ljava/lang/StringBuilder;" } : Jvm.MethodName) jdk_67_method_15_code (2 : Nat) (Option.some (Jvm.ClassFile.FieldType.object "java/lang/StringBuilder"))).before args0 about1 = true := code_word (m := ⟨12, 2⟩) (meth := k12m2) (c := k12c2) (by decide +kernel) rfl rfl rfl (by decide +kernel)
set_option maxRecDepth 65536 in
theorem w_c18 : (Jvm.Cond.code ({ cls := "java/lang/AbstractStringBuilder", name := "append", desc := "(I)Ljava/lang/AbstractStringBuilder;" } : Jvm.MethodName) jdk_68_method_32_code (4 : Nat) (Option.some (Jvm.ClassFile.FieldType.object "java/lang/AbstractStringBuilder"))).before args0 about1 = true := code_word (m := ⟨11, 5⟩) (meth := k11m5) (c := k11c5) (by decide +kernel) rfl rfl rfl (by decide +kernel)
set_option maxRecDepth 65536 in
theorem w_c19 : (Jvm.Cond.code ({ cls := "java/lang/Integer", name := "stringSize", desc := "(I)I" } : Jvm.MethodName) jdk_33_method_13_code (4 : Nat) (Option.some Jvm.ClassFile.FieldType.int)).before args0 about1 = true := code_word (m := ⟨15, 1⟩) (meth := k15m1) (c := k15c1) (by decide +kernel) rfl rfl rfl (by decide +kernel)
set_option maxRecDepth 65536 in
theorem w_c20 : (Jvm.Cond.code ({ cls := "java/lang/AbstractStringBuilder", name := "isLatin1", desc := "()Z" } : Jvm.MethodName) jdk_68_method_68_code (1 : Nat) (Option.some Jvm.ClassFile.FieldType.boolean)).before args0 about1 = true := code_word (m := ⟨11, 7⟩) (meth := k11m7) (c := k11c7) (by decide +kernel) rfl rfl rfl (by decide +kernel)
set_option maxRecDepth 65536 in
theorem w_c21 : (Jvm.Cond.code ({ cls := "java/lang/Integer", name := "getChars", desc := "(II[B)I" } : Jvm.MethodName) jdk_33_method_12_code (7 : Nat) (Option.some Jvm.ClassFile.FieldType.int)).before args0 about1 = true := code_word (m := ⟨15, 0⟩) (meth := k15m0) (c := k15c0) (by decide +kernel) rfl rfl rfl (by decide +kernel)
set_option maxRecDepth 65536 in
theorem w_c22 : (Jvm.Cond.code ({ cls := "java/lang/StringBuilder", name := "toString", desc := "()Ljava/lang/String;" } : Jvm.MethodName) jdk_67_method_42_code (1 : Nat) (Option.some (Jvm.ClassFile.FieldType.object "java/lang/String"))).before args0 about1 = true := code_word (m := ⟨12, 3⟩) (meth := k12m3) (c := k12c3) (by decide +kernel) rfl rfl rfl (by decide +kernel)
set_option maxRecDepth 65536 in
theorem w_c23 : (Jvm.Cond.code ({ cls := "java/lang/String", name := "<init>", desc := "(Ljava/lang/StringBuilder;)V" } : Jvm.MethodName) jdk_42_method_53_code (2 : Nat) (Option.none : Option Jvm.ClassFile.FieldType)).before args0 about1 = true := code_word (m := ⟨7, 2⟩) (meth := k7m2) (c := k7c2) (by decide +kernel) rfl rfl rfl (by decide +kernel)
set_option maxRecDepth 65536 in
theorem w_c24 : (Jvm.Cond.code ({ cls := "java/lang/String", name := "<init>", desc := "(Ljava/lang/AbstractStringBuilder;Ljava/lang/Void;)V" } : Jvm.MethodName) jdk_42_method_150_code (5 : Nat) (Option.none : Option Jvm.ClassFile.FieldType)).before args0 about1 = true := code_word (m := ⟨7, 8⟩) (meth := k7m8) (c := k7c8) (by decide +kernel) rfl rfl rfl (by decide +kernel)
set_option maxRecDepth 65536 in
theorem w_c25 : (Jvm.Cond.code ({ cls := "java/lang/AbstractStringBuilder", name := "getValue", desc := "()[B" } : Jvm.MethodName) jdk_68_method_64_code (1 : Nat) (Option.some (Jvm.ClassFile.FieldType.array Jvm.ClassFile.FieldType.byte))).before args0 about1 = true := code_word (m := ⟨11, 6⟩) (meth := k11m6) (c := k11c6) (by decide +kernel) rfl rfl rfl (by decide +kernel)
set_option maxRecDepth 65536 in
theorem w_c26 : (Jvm.Cond.code ({ cls := "java/lang/StringBuilder", name := "length", desc := "()I" } : Jvm.MethodName) jdk_67_method_93_code (1 : Nat) (Option.some Jvm.ClassFile.FieldType.int)).before args0 about1 = true := code_word (m := ⟨12, 4⟩) (meth := k12m4) (c := k12c4) (by decide +kernel) rfl rfl rfl (by decide +kernel)
set_option maxRecDepth 65536 in
theorem w_c27 : (Jvm.Cond.code ({ cls := "java/lang/AbstractStringBuilder", name := "length", desc := "()I" } : Jvm.MethodName) jdk_68_method_6_code (1 : Nat) (Option.some Jvm.ClassFile.FieldType.int)).before args0 about1 = true := code_word (m := ⟨11, 2⟩) (meth := k11m2) (c := k11c2) (by decide +kernel) rfl rfl rfl (by decide +kernel)
set_option maxRecDepth 65536 in
theorem w_c28 : (Jvm.Cond.code ({ cls := "java/util/Arrays", name := "copyOfRange", desc := "([BII)[B" } : Jvm.MethodName) jdk_65_method_132_code (3 : Nat) (Option.some (Jvm.ClassFile.FieldType.array Jvm.ClassFile.FieldType.byte))).before args0 about1 = true := code_word (m := ⟨16, 2⟩) (meth := k16m2) (c := k16c2) (by decide +kernel) rfl rfl rfl (by decide +kernel)
set_option maxRecDepth 65536 in
theorem w_c29 : (Jvm.Cond.code ({ cls := "java/util/Arrays", name := "copyOfRangeByte", desc := "([BII)[B" } : Jvm.MethodName) jdk_65_method_133_code (5 : Nat) (Option.some (Jvm.ClassFile.FieldType.array Jvm.ClassFile.FieldType.byte))).before args0 about1 = true := code_word (m := ⟨16, 3⟩) (meth := k16m3) (c := k16c3) (by decide +kernel) rfl rfl rfl (by decide +kernel)
set_option maxRecDepth 65536 in
theorem w_c30 : (Jvm.Cond.code ({ cls := "java/util/Arrays", name := "checkLength", desc := "(II)V" } : Jvm.MethodName) jdk_65_method_131_code (2 : Nat) (Option.none : Option Jvm.ClassFile.FieldType)).before args0 about1 = true := code_word (m := ⟨16, 1⟩) (meth := k16m1) (c := k16c1) (by decide +kernel) rfl rfl rfl (by decide +kernel)
set_option maxRecDepth 65536 in
theorem w_c31 : (Jvm.Cond.code ({ cls := "java/lang/Math", name := "min", desc := "(II)I" } : Jvm.MethodName) jdk_29_method_69_code (2 : Nat) (Option.some Jvm.ClassFile.FieldType.int)).before args0 about1 = true := code_word (m := ⟨17, 2⟩) (meth := k17m2) (c := k17c2) (by decide +kernel) rfl rfl rfl (by decide +kernel)
set_option maxRecDepth 65536 in
theorem w_c32 : (Jvm.Cond.code ({ cls := "java/lang/Math", name := "abs", desc := "(J)J" } : Jvm.MethodName) jdk_29_method_61_code (2 : Nat) (Option.some Jvm.ClassFile.FieldType.long)).before args0 about1 = true := code_word (m := ⟨17, 1⟩) (meth := k17m1) (c := k17c1) (by decide +kernel) rfl rfl rfl (by decide +kernel)
set_option maxRecDepth 65536 in
theorem w_c33 : (Jvm.Cond.code ({ cls := "com/example/net_thirty/netthirty/mail/MailServerAddressPinLaw", name := "digits", desc := "(J)I" } : Jvm.MethodName) method_3_code (2 : Nat) (Option.some Jvm.ClassFile.FieldType.int)).before args0 about1 = true := code_word (m := ⟨1, 2⟩) (meth := k1m2) (c := k1c2) (by decide +kernel) rfl rfl rfl (by decide +kernel)
set_option maxRecDepth 65536 in
theorem w_c34 : (Jvm.Cond.code ({ cls := "java/lang/String", name := "charAt", desc := "(I)C" } : Jvm.MethodName) jdk_42_method_56_code (2 : Nat) (Option.some Jvm.ClassFile.FieldType.char)).before args0 about1 = true := code_word (m := ⟨7, 4⟩) (meth := k7m4) (c := k7c4) (by decide +kernel) rfl rfl rfl (by decide +kernel)
set_option maxRecDepth 65536 in
theorem w_c35 : (Jvm.Cond.code ({ cls := "java/lang/String", name := "isLatin1", desc := "()Z" } : Jvm.MethodName) jdk_42_method_154_code (1 : Nat) (Option.some Jvm.ClassFile.FieldType.boolean)).before args0 about1 = true := code_word (m := ⟨7, 11⟩) (meth := k7m11) (c := k7c11) (by decide +kernel) rfl rfl rfl (by decide +kernel)
set_option maxRecDepth 65536 in
theorem w_c36 : (Jvm.Cond.code ({ cls := "java/lang/StringLatin1", name := "charAt", desc := "([BI)C" } : Jvm.MethodName) jdk_43_method_2_code (2 : Nat) (Option.some Jvm.ClassFile.FieldType.char)).before args0 about1 = true := code_word (m := ⟨18, 1⟩) (meth := k18m1) (c := k18c1) (by decide +kernel) rfl rfl rfl (by decide +kernel)
set_option maxRecDepth 65536 in
theorem w_c37 : (Jvm.Cond.code ({ cls := "java/lang/String", name := "checkIndex", desc := "(II)V" } : Jvm.MethodName) jdk_42_method_155_code (2 : Nat) (Option.none : Option Jvm.ClassFile.FieldType)).before args0 about1 = true := code_word (m := ⟨7, 12⟩) (meth := k7m12) (c := k7c12) (by decide +kernel) rfl rfl rfl (by decide +kernel)
set_option maxRecDepth 65536 in
theorem w_c38 : (Jvm.Cond.code ({ cls := "jdk/internal/util/Preconditions", name := "checkIndex", desc := "(IILjava/util/function/BiFunction;)I" } : Jvm.MethodName) jdk_41_method_11_code (3 : Nat) (Option.some Jvm.ClassFile.FieldType.int)).before args0 about1 = true := code_word (m := ⟨19, 1⟩) (meth := k19m1) (c := k19c1) (by decide +kernel) rfl rfl rfl (by decide +kernel)
set_option maxRecDepth 65536 in
theorem w_c39 : (Jvm.Cond.code ({ cls := "com/example/net_thirty/netthirty/mail/MailServerAddressPinLaw", name := "digitOk", desc := "(Ljava/lang/String;IIIJ)Z" } : Jvm.MethodName) method_4_code (9 : Nat) (Option.some Jvm.ClassFile.FieldType.boolean)).before args0 about1 = true := code_word (m := ⟨1, 3⟩) (meth := k1m3) (c := k1c3) (by decide +kernel) rfl rfl rfl (by decide +kernel)
set_option maxRecDepth 65536 in
theorem w_c40 : (Jvm.Cond.code ({ cls := "java/lang/String", name := "valueOf", desc := "(C)Ljava/lang/String;" } : Jvm.MethodName) jdk_42_method_139_code (1 : Nat) (Option.some (Jvm.ClassFile.FieldType.object "java/lang/String"))).before args0 about1 = true := code_word (m := ⟨7, 5⟩) (meth := k7m5) (c := k7c5) (by decide +kernel) rfl rfl rfl (by decide +kernel)
set_option maxRecDepth 65536 in
theorem w_c41 : (Jvm.Cond.code ({ cls := "java/lang/StringLatin1", name := "canEncode", desc := "(C)Z" } : Jvm.MethodName) jdk_43_method_3_code (1 : Nat) (Option.some Jvm.ClassFile.FieldType.boolean)).before args0 about1 = true := code_word (m := ⟨18, 2⟩) (meth := k18m2) (c := k18c2) (by decide +kernel) rfl rfl rfl (by decide +kernel)
set_option maxRecDepth 65536 in
theorem w_c42 : (Jvm.Cond.code ({ cls := "java/lang/StringLatin1", name := "toBytes", desc := "(C)[B" } : Jvm.MethodName) jdk_43_method_46_code (1 : Nat) (Option.some (Jvm.ClassFile.FieldType.array Jvm.ClassFile.FieldType.byte))).before args0 about1 = true := code_word (m := ⟨18, 3⟩) (meth := k18m3) (c := k18c3) (by decide +kernel) rfl rfl rfl (by decide +kernel)
set_option maxRecDepth 65536 in
theorem w_c43 : (Jvm.Cond.code ({ cls := "java/lang/String", name := "<init>", desc := "([BB)V" } : Jvm.MethodName) jdk_42_method_151_code (3 : Nat) (Option.none : Option Jvm.ClassFile.FieldType)).before args0 about1 = true := code_word (m := ⟨7, 9⟩) (meth := k7m9) (c := k7c9) (by decide +kernel) rfl rfl rfl (by decide +kernel)
set_option maxRecDepth 65536 in
theorem w_c44 : (Jvm.Cond.code ({ cls := "com/example/net_thirty/netthirty/mail/MailServer$Login", name := "<init>", desc := "(Ljava/lang/String;Ljava/lang/String;)V" } : Jvm.MethodName) prog_30_method_1_code (3 : Nat) (Option.none : Option Jvm.ClassFile.FieldType)).before args0 about1 = true := code_word (m := ⟨20, 0⟩) (meth := k20m0) (c := k20c0) (by decide +kernel) rfl rfl rfl (by decide +kernel)
set_option maxRecDepth 65536 in
theorem w_c45 : (Jvm.Cond.code ({ cls := "java/lang/StringUTF16", name := "compress", desc := "([CII)[B" } : Jvm.MethodName) jdk_52_method_16_code (6 : Nat) (Option.some (Jvm.ClassFile.FieldType.array Jvm.ClassFile.FieldType.byte))).before args0 about1 = true := code_word (m := ⟨21, 2⟩) (meth := k21m2) (c := k21c2) (by decide +kernel) rfl rfl rfl (by decide +kernel)
set_option maxRecDepth 65536 in
theorem w_c46 : (Jvm.Cond.code ({ cls := "java/lang/StringUTF16", name := "compress", desc := "([CI[BII)I" } : Jvm.MethodName) jdk_52_method_21_code (7 : Nat) (Option.some Jvm.ClassFile.FieldType.int)).before args0 about1 = true := code_word (m := ⟨21, 3⟩) (meth := k21m3) (c := k21c3) (by decide +kernel) rfl rfl rfl (by decide +kernel)
set_option maxRecDepth 65536 in
theorem w_c47 : (Jvm.Cond.code ({ cls := "java/lang/StringUTF16", name := "coderFromArrayLen", desc := "([BI)B" } : Jvm.MethodName) jdk_52_method_15_code (2 : Nat) (Option.some Jvm.ClassFile.FieldType.byte)).before args0 about1 = true := code_word (m := ⟨21, 1⟩) (meth := k21m1) (c := k21c1) (by decide +kernel) rfl rfl rfl (by decide +kernel)
def codes1 : List Jvm.Cond := [Jvm.Cond.code x code maxLocals ret, Jvm.Cond.code ({ cls := "java/lang/String", name := "<init>", desc := "([C)V" } : Jvm.MethodName) jdk_42_method_3_code (2 : Nat) (Option.none : Option Jvm.ClassFile.FieldType), Jvm.Cond.code ({ cls := "java/lang/String", name := "<init>", desc := "([CIILjava/lang/Void;)V" } : Jvm.MethodName) jdk_42_method_149_code (6 : Nat) (Option.none : Option Jvm.ClassFile.FieldType), Jvm.Cond.code ({ cls := "java/lang/Object", name := "<init>", desc := "()V" } : Jvm.MethodName) object_method_1_code (1 : Nat) (Option.none : Option Jvm.ClassFile.FieldType), Jvm.Cond.code ({ cls := "com/example/net_thirty/netthirty/mail/MailServer", name := "<init>", desc := "(Ljava/lang/String;IZLcom/example/net_thirty/netthirty/mail/MailServer$Login;)V" } : Jvm.MethodName) prog_29_method_1_code (5 : Nat) (Option.none : Option Jvm.ClassFile.FieldType), Jvm.Cond.code ({ cls := "java/lang/Record", name := "<init>", desc := "()V" } : Jvm.MethodName) jdk_30_method_1_code (1 : Nat) (Option.none : Option Jvm.ClassFile.FieldType), Jvm.Cond.code ({ cls := "com/example/net_thirty/netthirty/mail/MailServer", name := "address", desc := "()Ljava/lang/String;" } : Jvm.MethodName) prog_29_method_2_code (1 : Nat) (Option.some (Jvm.ClassFile.FieldType.object "java/lang/String")), Jvm.Cond.code ({ cls := "java/lang/StringBuilder", name := "<init>", desc := "()V" } : Jvm.MethodName) jdk_67_method_1_code (1 : Nat) (Option.none : Option Jvm.ClassFile.FieldType), Jvm.Cond.code ({ cls := "java/lang/AbstractStringBuilder", name := "<init>", desc := "(I)V" } : Jvm.MethodName) jdk_68_method_2_code (2 : Nat) (Option.none : Option Jvm.ClassFile.FieldType), Jvm.Cond.code ({ cls := "java/lang/StringBuilder", name := "append", desc := "(Ljava/lang/String;)Ljava/lang/StringBuilder;" } : Jvm.MethodName) jdk_67_method_7_code (2 : Nat) (Option.some (Jvm.ClassFile.FieldType.object "java/lang/StringBuilder")), Jvm.Cond.code ({ cls := "java/lang/AbstractStringBuilder", name := "append", desc := "(Ljava/lang/String;)Ljava/lang/AbstractStringBuilder;" } : Jvm.MethodName) jdk_68_method_22_code (3 : Nat) (Option.some (Jvm.ClassFile.FieldType.object "java/lang/AbstractStringBuilder")), Jvm.Cond.code ({ cls := "java/lang/String", name := "length", desc := "()I" } : Jvm.MethodName) jdk_42_method_54_code (1 : Nat) (Option.some Jvm.ClassFile.FieldType.int), Jvm.Cond.code ({ cls := "java/lang/String", name := "coder", desc := "()B" } : Jvm.MethodName) jdk_42_method_152_code (1 : Nat) (Option.some Jvm.ClassFile.FieldType.byte), Jvm.Cond.code ({ cls := "java/lang/AbstractStringBuilder", name := "ensureCapacityInternal", desc := "(I)V" } : Jvm.MethodName) jdk_68_method_9_code (3 : Nat) (Option.none : Option Jvm.ClassFile.FieldType), Jvm.Cond.code ({ cls := "java/lang/AbstractStringBuilder", name := "putStringAt", desc := "(ILjava/lang/String;)V" } : Jvm.MethodName) jdk_68_method_73_code (3 : Nat) (Option.none : Option Jvm.ClassFile.FieldType), Jvm.Cond.code ({ cls := "java/lang/AbstractStringBuilder", name := "inflateIfNeededFor", desc := "(Ljava/lang/String;)V" } : Jvm.MethodName) jdk_68_method_71_code (2 : Nat) (Option.none : Option Jvm.ClassFile.FieldType), Jvm.Cond.code ({ cls := "java/lang/String", name := "getBytes", desc := "([BIB)V" } : Jvm.MethodName) jdk_42_method_147_code (4 : Nat) (Option.none : Option Jvm.ClassFile.FieldType), Jvm.Cond.code ({ cls := "java/lang/StringBuilder", name := "append", desc := "(I)Ljava/lang/StringBuilder;" } : Jvm.MethodName) jdk_67_method_15_code (2 : Nat) (Option.some (Jvm.ClassFile.FieldType.object "java/lang/StringBuilder")), Jvm.Cond.code ({ cls := "java/lang/AbstractStringBuilder", name := "append", desc := "(I)Ljava/lang/AbstractStringBuilder;" } : Jvm.MethodName) jdk_68_method_32_code (4 : Nat) (Option.some (Jvm.ClassFile.FieldType.object "java/lang/AbstractStringBuilder")), Jvm.Cond.code ({ cls := "java/lang/Integer", name := "stringSize", desc := "(I)I" } : Jvm.MethodName) jdk_33_method_13_code (4 : Nat) (Option.some Jvm.ClassFile.FieldType.int), Jvm.Cond.code ({ cls := "java/lang/AbstractStringBuilder", name := "isLatin1", desc := "()Z" } : Jvm.MethodName) jdk_68_method_68_code (1 : Nat) (Option.some Jvm.ClassFile.FieldType.boolean), Jvm.Cond.code ({ cls := "java/lang/Integer", name := "getChars", desc := "(II[B)I" } : Jvm.MethodName) jdk_33_method_12_code (7 : Nat) (Option.some Jvm.ClassFile.FieldType.int), Jvm.Cond.code ({ cls := "java/lang/StringBuilder", name := "toString", desc := "()Ljava/lang/String;" } : Jvm.MethodName) jdk_67_method_42_code (1 : Nat) (Option.some (Jvm.ClassFile.FieldType.object "java/lang/String")), Jvm.Cond.code ({ cls := "java/lang/String", name := "<init>", desc := "(Ljava/lang/StringBuilder;)V" } : Jvm.MethodName) jdk_42_method_53_code (2 : Nat) (Option.none : Option Jvm.ClassFile.FieldType), Jvm.Cond.code ({ cls := "java/lang/String", name := "<init>", desc := "(Ljava/lang/AbstractStringBuilder;Ljava/lang/Void;)V" } : Jvm.MethodName) jdk_42_method_150_code (5 : Nat) (Option.none : Option Jvm.ClassFile.FieldType), Jvm.Cond.code ({ cls := "java/lang/AbstractStringBuilder", name := "getValue", desc := "()[B" } : Jvm.MethodName) jdk_68_method_64_code (1 : Nat) (Option.some (Jvm.ClassFile.FieldType.array Jvm.ClassFile.FieldType.byte)), Jvm.Cond.code ({ cls := "java/lang/StringBuilder", name := "length", desc := "()I" } : Jvm.MethodName) jdk_67_method_93_code (1 : Nat) (Option.some Jvm.ClassFile.FieldType.int), Jvm.Cond.code ({ cls := "java/lang/AbstractStringBuilder", name := "length", desc := "()I" } : Jvm.MethodName) jdk_68_method_6_code (1 : Nat) (Option.some Jvm.ClassFile.FieldType.int), Jvm.Cond.code ({ cls := "java/util/Arrays", name := "copyOfRange", desc := "([BII)[B" } : Jvm.MethodName) jdk_65_method_132_code (3 : Nat) (Option.some (Jvm.ClassFile.FieldType.array Jvm.ClassFile.FieldType.byte)), Jvm.Cond.code ({ cls := "java/util/Arrays", name := "copyOfRangeByte", desc := "([BII)[B" } : Jvm.MethodName) jdk_65_method_133_code (5 : Nat) (Option.some (Jvm.ClassFile.FieldType.array Jvm.ClassFile.FieldType.byte)), Jvm.Cond.code ({ cls := "java/util/Arrays", name := "checkLength", desc := "(II)V" } : Jvm.MethodName) jdk_65_method_131_code (2 : Nat) (Option.none : Option Jvm.ClassFile.FieldType), Jvm.Cond.code ({ cls := "java/lang/Math", name := "min", desc := "(II)I" } : Jvm.MethodName) jdk_29_method_69_code (2 : Nat) (Option.some Jvm.ClassFile.FieldType.int), Jvm.Cond.code ({ cls := "java/lang/Math", name := "abs", desc := "(J)J" } : Jvm.MethodName) jdk_29_method_61_code (2 : Nat) (Option.some Jvm.ClassFile.FieldType.long), Jvm.Cond.code ({ cls := "com/example/net_thirty/netthirty/mail/MailServerAddressPinLaw", name := "digits", desc := "(J)I" } : Jvm.MethodName) method_3_code (2 : Nat) (Option.some Jvm.ClassFile.FieldType.int), Jvm.Cond.code ({ cls := "java/lang/String", name := "charAt", desc := "(I)C" } : Jvm.MethodName) jdk_42_method_56_code (2 : Nat) (Option.some Jvm.ClassFile.FieldType.char), Jvm.Cond.code ({ cls := "java/lang/String", name := "isLatin1", desc := "()Z" } : Jvm.MethodName) jdk_42_method_154_code (1 : Nat) (Option.some Jvm.ClassFile.FieldType.boolean), Jvm.Cond.code ({ cls := "java/lang/StringLatin1", name := "charAt", desc := "([BI)C" } : Jvm.MethodName) jdk_43_method_2_code (2 : Nat) (Option.some Jvm.ClassFile.FieldType.char), Jvm.Cond.code ({ cls := "java/lang/String", name := "checkIndex", desc := "(II)V" } : Jvm.MethodName) jdk_42_method_155_code (2 : Nat) (Option.none : Option Jvm.ClassFile.FieldType), Jvm.Cond.code ({ cls := "jdk/internal/util/Preconditions", name := "checkIndex", desc := "(IILjava/util/function/BiFunction;)I" } : Jvm.MethodName) jdk_41_method_11_code (3 : Nat) (Option.some Jvm.ClassFile.FieldType.int), Jvm.Cond.code ({ cls := "com/example/net_thirty/netthirty/mail/MailServerAddressPinLaw", name := "digitOk", desc := "(Ljava/lang/String;IIIJ)Z" } : Jvm.MethodName) method_4_code (9 : Nat) (Option.some Jvm.ClassFile.FieldType.boolean), Jvm.Cond.code ({ cls := "java/lang/String", name := "valueOf", desc := "(C)Ljava/lang/String;" } : Jvm.MethodName) jdk_42_method_139_code (1 : Nat) (Option.some (Jvm.ClassFile.FieldType.object "java/lang/String")), Jvm.Cond.code ({ cls := "java/lang/StringLatin1", name := "canEncode", desc := "(C)Z" } : Jvm.MethodName) jdk_43_method_3_code (1 : Nat) (Option.some Jvm.ClassFile.FieldType.boolean), Jvm.Cond.code ({ cls := "java/lang/StringLatin1", name := "toBytes", desc := "(C)[B" } : Jvm.MethodName) jdk_43_method_46_code (1 : Nat) (Option.some (Jvm.ClassFile.FieldType.array Jvm.ClassFile.FieldType.byte)), Jvm.Cond.code ({ cls := "java/lang/String", name := "<init>", desc := "([BB)V" } : Jvm.MethodName) jdk_42_method_151_code (3 : Nat) (Option.none : Option Jvm.ClassFile.FieldType), Jvm.Cond.code ({ cls := "com/example/net_thirty/netthirty/mail/MailServer$Login", name := "<init>", desc := "(Ljava/lang/String;Ljava/lang/String;)V" } : Jvm.MethodName) prog_30_method_1_code (3 : Nat) (Option.none : Option Jvm.ClassFile.FieldType), Jvm.Cond.code ({ cls := "java/lang/StringUTF16", name := "compress", desc := "([CII)[B" } : Jvm.MethodName) jdk_52_method_16_code (6 : Nat) (Option.some (Jvm.ClassFile.FieldType.array Jvm.ClassFile.FieldType.byte)), Jvm.Cond.code ({ cls := "java/lang/StringUTF16", name := "compress", desc := "([CI[BII)I" } : Jvm.MethodName) jdk_52_method_21_code (7 : Nat) (Option.some Jvm.ClassFile.FieldType.int), Jvm.Cond.code ({ cls := "java/lang/StringUTF16", name := "coderFromArrayLen", desc := "([BI)B" } : Jvm.MethodName) jdk_52_method_15_code (2 : Nat) (Option.some Jvm.ClassFile.FieldType.byte)]
set_option maxRecDepth 65536 in
theorem codes_eq : words1.filter isCode = codes1 := rfl
theorem w_codes : ∀ c ∈ words1.filter isCode, c.before args0 about1 = true := by
  rw [codes_eq]
  intro c hc
  simp only [codes1, List.mem_cons, List.not_mem_nil, or_false] at hc
  rcases hc with rfl | rfl | rfl | rfl | rfl | rfl | rfl | rfl | rfl | rfl | rfl | rfl | rfl | rfl | rfl | rfl | rfl | rfl | rfl | rfl | rfl | rfl | rfl | rfl | rfl | rfl | rfl | rfl | rfl | rfl | rfl | rfl | rfl | rfl | rfl | rfl | rfl | rfl | rfl | rfl | rfl | rfl | rfl | rfl | rfl | rfl | rfl | rfl
  · exact w_c0
  · exact w_c1
  · exact w_c2
  · exact w_c3
  · exact w_c4
  · exact w_c5
  · exact w_c6
  · exact w_c7
  · exact w_c8
  · exact w_c9
  · exact w_c10
  · exact w_c11
  · exact w_c12
  · exact w_c13
  · exact w_c14
  · exact w_c15
  · exact w_c16
  · exact w_c17
  · exact w_c18
  · exact w_c19
  · exact w_c20
  · exact w_c21
  · exact w_c22
  · exact w_c23
  · exact w_c24
  · exact w_c25
  · exact w_c26
  · exact w_c27
  · exact w_c28
  · exact w_c29
  · exact w_c30
  · exact w_c31
  · exact w_c32
  · exact w_c33
  · exact w_c34
  · exact w_c35
  · exact w_c36
  · exact w_c37
  · exact w_c38
  · exact w_c39
  · exact w_c40
  · exact w_c41
  · exact w_c42
  · exact w_c43
  · exact w_c44
  · exact w_c45
  · exact w_c46
  · exact w_c47
set_option maxRecDepth 65536 in
theorem w_t1 : (words1.take 24).all (fun c => isCode c || c.before args0 about1) = true := by decide +kernel
set_option maxRecDepth 65536 in
theorem w_t2 : ((words1.drop 24).take 24).all (fun c => isCode c || c.before args0 about1) = true := by decide +kernel
set_option maxRecDepth 65536 in
theorem w_t3 : (((words1.drop 24).drop 24).take 24).all (fun c => isCode c || c.before args0 about1) = true := by decide +kernel
set_option maxRecDepth 65536 in
theorem w_t4 : ((((words1.drop 24).drop 24).drop 24).take 24).all (fun c => isCode c || c.before args0 about1) = true := by decide +kernel
set_option maxRecDepth 65536 in
theorem w_t5 : (((((words1.drop 24).drop 24).drop 24).drop 24).take 24).all (fun c => isCode c || c.before args0 about1) = true := by decide +kernel
set_option maxRecDepth 65536 in
theorem w_t6 : ((((((words1.drop 24).drop 24).drop 24).drop 24).drop 24).take 24).all (fun c => isCode c || c.before args0 about1) = true := by decide +kernel
set_option maxRecDepth 65536 in
theorem w_t7 : (((((((words1.drop 24).drop 24).drop 24).drop 24).drop 24).drop 24).take 24).all (fun c => isCode c || c.before args0 about1) = true := by decide +kernel
set_option maxRecDepth 65536 in
theorem w_t8 : ((((((((words1.drop 24).drop 24).drop 24).drop 24).drop 24).drop 24).drop 24).take 24).all (fun c => isCode c || c.before args0 about1) = true := by decide +kernel
set_option maxRecDepth 65536 in
theorem w_t9 : (((((((((words1.drop 24).drop 24).drop 24).drop 24).drop 24).drop 24).drop 24).drop 24).take 24).all (fun c => isCode c || c.before args0 about1) = true := by decide +kernel
set_option maxRecDepth 65536 in
theorem w_t10 : ((((((((((words1.drop 24).drop 24).drop 24).drop 24).drop 24).drop 24).drop 24).drop 24).drop 24).take 24).all (fun c => isCode c || c.before args0 about1) = true := by decide +kernel
set_option maxRecDepth 65536 in
theorem w_t11 : ((((((((((words1.drop 24).drop 24).drop 24).drop 24).drop 24).drop 24).drop 24).drop 24).drop 24).drop 24).all (fun c => isCode c || c.before args0 about1) = true := by decide +kernel
theorem w_tables : (allAtoms (Jvm.Cond.code x code maxLocals ret :: tables_1)).before args0 about1 = true := by
  rw [allAtoms_all]
  show words1.all (fun c => c.before args0 about1) = true
  refine all_split ?_ w_codes
  rw [← List.take_append_drop 24 words1, List.all_append, w_t1, ← List.take_append_drop 24 (words1.drop 24), List.all_append, w_t2, ← List.take_append_drop 24 ((words1.drop 24).drop 24), List.all_append, w_t3, ← List.take_append_drop 24 (((words1.drop 24).drop 24).drop 24), List.all_append, w_t4, ← List.take_append_drop 24 ((((words1.drop 24).drop 24).drop 24).drop 24), List.all_append, w_t5, ← List.take_append_drop 24 (((((words1.drop 24).drop 24).drop 24).drop 24).drop 24), List.all_append, w_t6, ← List.take_append_drop 24 ((((((words1.drop 24).drop 24).drop 24).drop 24).drop 24).drop 24), List.all_append, w_t7, ← List.take_append_drop 24 (((((((words1.drop 24).drop 24).drop 24).drop 24).drop 24).drop 24).drop 24), List.all_append, w_t8, ← List.take_append_drop 24 ((((((((words1.drop 24).drop 24).drop 24).drop 24).drop 24).drop 24).drop 24).drop 24), List.all_append, w_t9, ← List.take_append_drop 24 (((((((((words1.drop 24).drop 24).drop 24).drop 24).drop 24).drop 24).drop 24).drop 24).drop 24), List.all_append, w_t10, w_t11]
  rfl
set_option maxRecDepth 65536 in
theorem w_rest : rest_1_c.before args0 about1 = true := by decide +kernel
set_option maxRecDepth 65536 in
theorem w_case : (Jvm.Cond.and given_1 narrow_1).before args0 about1 = true := by decide +kernel
set_option maxRecDepth 65536 in
theorem w_consts : constsHeld consts_1 about1 := Jvm.Lit.constsHeldB_iff.mp (by decide +kernel)
theorem w_applies : (headSpec (Jvm.Cond.code x code maxLocals ret :: tables_1) room_1).applies x e0.platform about1 = true :=
  (Spec.applies_iff w_frames).mpr ⟨w_running, w_runnable, w_alone, w_named, w_hears, w_ripe, w_room, w_tables⟩
theorem atStart : AtStart classFile x code maxLocals ret World_1 tables_1 room_1 Calls_1 rest_1 Pre_1 launch0 p0 e0 about1 theMethod args0 below0 :=
  ⟨lists_1, trivial, launch0.admits_env _ _ _, launch0.least_env, fairChoices_fair.cas, fairChoices_fair.clock, w_frames, w_args, w_heap, w_applies, ⟨w_consts, trivial⟩, w_rest, w_case⟩
end start1
theorem witness_1 : WitnessClaimed_1 := ⟨start1.p0, start1.e0, start1.about1, start1.theMethod, start1.args0, start1.below0, start1.atStart⟩
end Jvm.Pilot.@@N@@
