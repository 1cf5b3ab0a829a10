import JvmDerived
import JvmDerived.Pilot.@@N@@Statement
import JvmDerived.Pilot.@@N@@Code
set_option linter.unusedVariables false
set_option linter.unusedSimpArgs false
namespace Jvm.RoadKit
open Sem ClassFile Op Lib Jvm.Stand Jvm.Free Jvm.LawKit
section Own
variable {p : Program} {l : Launch} {e : Env} {R : Room} {s : State} {m : MethodId} {args : Array Value} {below : List Frame} {meth : Method} {c : Code} {T T' : State} {locs : List Loc} {cells slots : Nat} {g g' : JFrame} {Qf : Option Value → Heap → List Loc → Prop} {E : Outcome → State → Prop} {C S : Nat} {Z : State} {a0 : Array Value} {h : Heap} {pc n : Nat} {Ls : Array Slot} {sk : List Value}
theorem nz {a b : Addr} (h : ¬ @Eq Nat a b) : a ≠ b := h
theorem ny {a b : Nat} (h : a < b) : a < b := h
theorem nx {a b : Nat} (h : a = b) : a = b := h
theorem nw {a b : Nat} (h : ¬ a = b) : ¬ a = b := h
theorem own_nn {z : Int32} {i : Nat} (h : z = Int32.ofNat i) (hi : i < 2 ^ 31) : z.toNatClampNeg = i ∧ ¬ z < 0 := by
  subst h
  have e : (Int32.ofNat i).toInt = i := Int32.toInt_ofNat_of_lt hi
  refine ⟨by rw [Int32.toNatClampNeg, e]; rfl, ?_⟩
  rw [Int32.lt_iff_toInt_lt, e]
  have : (0 : Int32).toInt = 0 := rfl
  omega
theorem retI (X : Stand p l e R s m args below meth c T locs cells slots) (hx : p.tables.exec = Jvm.exec) {z : Int32} {rest : List Value} (hret : meth.sig.returnType = some .int) (hd : decode c.code pc = .ok (.ireturn, 1)) {fs : List Frame}
    (hl : ∀ (f : JFrame) (acts : List Action), f.method = m → f.locked = none → f.entered = [] → (doReturn e (T.setTop f) acts (some (.int z))).1 = T.setFrames fs) : Steps p.tables e below (T.setTop (mkF m pc Ls (.int z :: rest))) (T.setFrames fs) := by
  have hm' : T.vm.method? m = some meth := X.method'
  have hn : narrow .int (.int z) = .int z := rfl
  show Steps p.tables e below (T.setTop { method := m, pc := pc, locals := Ls, stack := _ :: rest, locked := none }) _
  jvm_step X.here [X.here.top, hx, hd, hm', hret, hn]
  first | (intro acts; rw [hl _ acts rfl rfl rfl]) | rw [hl _ _ rfl rfl rfl]
  exact Steps.refl _
theorem retL (X : Stand p l e R s m args below meth c T locs cells slots) (hx : p.tables.exec = Jvm.exec) {z : Int64} {rest : List Value} (hret : meth.sig.returnType = some .long) (hd : decode c.code pc = .ok (.lreturn, 1)) {fs : List Frame}
    (hl : ∀ (f : JFrame) (acts : List Action), f.method = m → f.locked = none → f.entered = [] → (doReturn e (T.setTop f) acts (some (.long z))).1 = T.setFrames fs) : Steps p.tables e below (T.setTop (mkF m pc Ls (.long z :: rest))) (T.setFrames fs) := by
  have hm' : T.vm.method? m = some meth := X.method'
  show Steps p.tables e below (T.setTop { method := m, pc := pc, locals := Ls, stack := _ :: rest, locked := none }) _
  jvm_step X.here [X.here.top, hx, hd, hm', hret, narrow]
  first | (intro acts; rw [hl _ acts rfl rfl rfl]) | rw [hl _ _ rfl rfl rfl]
  exact Steps.refl _
theorem retA (X : Stand p l e R s m args below meth c T locs cells slots) (hx : p.tables.exec = Jvm.exec) {z : Value} {t : FieldType} {rest : List Value} (hz : z.isRef = true) (hret : meth.sig.returnType = some t) (ht : t.isReference = true) (hd : decode c.code pc = .ok (.areturn, 1)) {fs : List Frame}
    (hl : ∀ (f : JFrame) (acts : List Action), f.method = m → f.locked = none → f.entered = [] → (doReturn e (T.setTop f) acts (some z)).1 = T.setFrames fs) : Steps p.tables e below (T.setTop (mkF m pc Ls (z :: rest))) (T.setFrames fs) := by
  have hm' : T.vm.method? m = some meth := X.method'
  show Steps p.tables e below (T.setTop { method := m, pc := pc, locals := Ls, stack := _ :: rest, locked := none }) _
  jvm_step X.here [X.here.top, hx, hd, hm', hret, hz, ht]
  first | (intro acts; rw [hl _ acts rfl rfl rfl]) | rw [hl _ _ rfl rfl rfl]
  exact Steps.refl _
theorem retNz (X : Stand p l e R s m args below meth c T locs cells slots) (hx : p.tables.exec = Jvm.exec) {z z' : Int32} {t : FieldType} {rest : List Value} (hz : nar t z = z') (hret : meth.sig.returnType = some t) (ht : t = .boolean ∨ t = .byte ∨ t = .char ∨ t = .short)
    (hd : decode c.code pc = .ok (.ireturn, 1)) {fs : List Frame} (hl : ∀ (f : JFrame) (acts : List Action), f.method = m → f.locked = none → f.entered = [] → (doReturn e (T.setTop f) acts (some (.int z'))).1 = T.setFrames fs) :
    Steps p.tables e below (T.setTop (mkF m pc Ls (.int z :: rest))) (T.setFrames fs) := by
  subst hz
  exact retN X hx hret ht hd hl
/-- from here the body comes back, with what Qf says of the value, the heap and the places written -/
def Wk (p : Program) (e : Env) (below : List Frame) (E : Outcome → State → Prop) (T : State) (g : JFrame) : Prop :=
  ∃ s₂ o, Steps p.tables e below (T.setTop g) s₂ ∧ s₂.status = .running ∧ Ended s₂ below o ∧ E o s₂
def EndN (s : State) (Qf : Option Value → Heap → List Loc → Prop) (C S : Nat) : Outcome → State → Prop := fun o s₂ => ∃ v L, o = .returned v ∧ Qf v s₂.heap L ∧ FrameEnd s o s₂ L C S
theorem Wk.go (k : ∀ t, Steps p.tables e below (T'.setTop g') t → Steps p.tables e below (T.setTop g) t) (w : Wk p e below E T' g') : Wk p e below E T g := by
  obtain ⟨s₂, o, a, r⟩ := w
  exact ⟨s₂, o, k _ a, r⟩
theorem Wk.leave (X : Stand p l e R s m args below meth c T locs cells slots) {v : Option Value} (hv : meth.sig.returnType = none → v = none) (hlocks : meth.locks = false) (eT : T.heap = h) (hQ : Qf v h locs) (hC : cells ≤ C) (hS : slots ≤ S)
    (k : ∀ fs, (∀ (f : JFrame) (acts : List Action), f.method = m → f.locked = none → f.entered = [] → (doReturn e (T.setTop f) acts v).1 = T.setFrames fs) → Steps p.tables e below (T.setTop g) (T.setFrames fs)) : Wk p e below (EndN s Qf C S) T g := by
  obtain ⟨fs, hr, hrun, hended, hW, hsame⟩ := X.leave hv hlocks
  subst eT
  exact ⟨_, _, k fs hr, hrun, hended, _, _, rfl, hQ, ⟨_, rfl⟩, hW, hsame.mono hC hS⟩
theorem Wk.aloadN (X : Stand p l e R s m args below meth c T locs cells slots) (hx : p.tables.exec = Jvm.exec) {k : Fin 4} {v : Value} (hd : decode c.code pc = .ok (.aload_n k, 1)) (hp : pc + 1 = n) (hl : Ls[k.val]? = some (.val v)) (hv : v.isRef = true) (w : Wk p e below E T (mkF m n Ls (v :: sk))) : Wk p e below E T (mkF m pc Ls sk) := by
  subst hp
  exact Wk.go (fun _ k => XS.aloadN X.here hx rfl hd hl hv k) w
theorem Wk.iloadN (X : Stand p l e R s m args below meth c T locs cells slots) (hx : p.tables.exec = Jvm.exec) {k : Fin 4} {v : Int32} (hd : decode c.code pc = .ok (.iload_n k, 1)) (hp : pc + 1 = n) (hl : Ls[k.val]? = some (.val (.int v))) (w : Wk p e below E T (mkF m n Ls (.int v :: sk))) : Wk p e below E T (mkF m pc Ls sk) := by
  subst hp
  exact Wk.go (fun _ k => XS.iloadN X.here hx rfl hd hl k) w
theorem Wk.lloadN (X : Stand p l e R s m args below meth c T locs cells slots) (hx : p.tables.exec = Jvm.exec) {k : Fin 4} {v : Int64} (hd : decode c.code pc = .ok (.lload_n k, 1)) (hp : pc + 1 = n) (hl : Ls[k.val]? = some (.val (.long v))) (w : Wk p e below E T (mkF m n Ls (.long v :: sk))) : Wk p e below E T (mkF m pc Ls sk) := by
  subst hp
  exact Wk.go (fun _ k => XS.lloadN X.here hx rfl hd hl k) w
theorem Wk.istoreN (X : Stand p l e R s m args below meth c T locs cells slots) (hx : p.tables.exec = Jvm.exec) {k : Fin 4} {v : Int32} {L' : Array Slot} (hd : decode c.code pc = .ok (.istore_n k, 1)) (hp : pc + 1 = n) (hl : storeLocals Ls k.val (.int v) = some L') (w : Wk p e below E T (mkF m n L' sk)) : Wk p e below E T (mkF m pc Ls (.int v :: sk)) := by
  subst hp
  exact Wk.go (fun _ k => XS.istoreN X.here hx rfl hd rfl hl k) w
theorem Wk.lstoreN (X : Stand p l e R s m args below meth c T locs cells slots) (hx : p.tables.exec = Jvm.exec) {k : Fin 4} {v : Int64} {L' : Array Slot} (hd : decode c.code pc = .ok (.lstore_n k, 1)) (hp : pc + 1 = n) (hl : storeLocals Ls k.val (.long v) = some L') (w : Wk p e below E T (mkF m n L' sk)) : Wk p e below E T (mkF m pc Ls (.long v :: sk)) := by
  subst hp
  exact Wk.go (fun _ k => XS.lstoreN X.here hx rfl hd rfl hl k) w
theorem Wk.astoreN (X : Stand p l e R s m args below meth c T locs cells slots) (hx : p.tables.exec = Jvm.exec) {k : Fin 4} {v : Value} {L' : Array Slot} (hd : decode c.code pc = .ok (.astore_n k, 1)) (hp : pc + 1 = n) (hv : v.isRef = true) (hl : storeLocals Ls k.val v = some L') (w : Wk p e below E T (mkF m n L' sk)) : Wk p e below E T (mkF m pc Ls (v :: sk)) := by
  subst hp
  exact Wk.go (fun _ k => XS.astoreN X.here hx rfl hd rfl hv hl k) w
theorem Wk.aload (X : Stand p l e R s m args below meth c T locs cells slots) (hx : p.tables.exec = Jvm.exec) {k : Nat} {v : Value} (hd : decode c.code pc = .ok (.aload k, 2)) (hp : pc + 2 = n) (hl : Ls[k]? = some (.val v)) (hv : v.isRef = true) (w : Wk p e below E T (mkF m n Ls (v :: sk))) : Wk p e below E T (mkF m pc Ls sk) := by
  subst hp
  exact Wk.go (fun _ k => XS.aload X.here hx rfl hd hl hv k) w
theorem Wk.iload (X : Stand p l e R s m args below meth c T locs cells slots) (hx : p.tables.exec = Jvm.exec) {k : Nat} {v : Int32} (hd : decode c.code pc = .ok (.iload k, 2)) (hp : pc + 2 = n) (hl : Ls[k]? = some (.val (.int v))) (w : Wk p e below E T (mkF m n Ls (.int v :: sk))) : Wk p e below E T (mkF m pc Ls sk) := by
  subst hp
  exact Wk.go (fun _ k => XS.iload X.here hx rfl hd hl k) w
theorem Wk.lload (X : Stand p l e R s m args below meth c T locs cells slots) (hx : p.tables.exec = Jvm.exec) {k : Nat} {v : Int64} (hd : decode c.code pc = .ok (.lload k, 2)) (hp : pc + 2 = n) (hl : Ls[k]? = some (.val (.long v))) (w : Wk p e below E T (mkF m n Ls (.long v :: sk))) : Wk p e below E T (mkF m pc Ls sk) := by
  subst hp
  exact Wk.go (fun _ k => XS.lload X.here hx rfl hd hl k) w
theorem Wk.istore (X : Stand p l e R s m args below meth c T locs cells slots) (hx : p.tables.exec = Jvm.exec) {k : Nat} {v : Int32} {L' : Array Slot} (hd : decode c.code pc = .ok (.istore k, 2)) (hp : pc + 2 = n) (hl : storeLocals Ls k (.int v) = some L') (w : Wk p e below E T (mkF m n L' sk)) : Wk p e below E T (mkF m pc Ls (.int v :: sk)) := by
  subst hp
  exact Wk.go (fun _ k => XS.istore X.here hx rfl hd rfl hl k) w
theorem Wk.lstore (X : Stand p l e R s m args below meth c T locs cells slots) (hx : p.tables.exec = Jvm.exec) {k : Nat} {v : Int64} {L' : Array Slot} (hd : decode c.code pc = .ok (.lstore k, 2)) (hp : pc + 2 = n) (hl : storeLocals Ls k (.long v) = some L') (w : Wk p e below E T (mkF m n L' sk)) : Wk p e below E T (mkF m pc Ls (.long v :: sk)) := by
  subst hp
  exact Wk.go (fun _ k => XS.lstore X.here hx rfl hd rfl hl k) w
theorem Wk.astore (X : Stand p l e R s m args below meth c T locs cells slots) (hx : p.tables.exec = Jvm.exec) {k : Nat} {v : Value} {L' : Array Slot} (hd : decode c.code pc = .ok (.astore k, 2)) (hp : pc + 2 = n) (hv : v.isRef = true) (hl : storeLocals Ls k v = some L') (w : Wk p e below E T (mkF m n L' sk)) : Wk p e below E T (mkF m pc Ls (v :: sk)) := by
  subst hp
  exact Wk.go (fun _ k => XS.astore X.here hx rfl hd rfl hv hl k) w
theorem Wk.iconst (X : Stand p l e R s m args below meth c T locs cells slots) (hx : p.tables.exec = Jvm.exec) {i : Int} {z : Int32} (hd : decode c.code pc = .ok (.iconst i, 1)) (hp : pc + 1 = n) (hz : Int32.ofInt i = z) (w : Wk p e below E T (mkF m n Ls (.int z :: sk))) : Wk p e below E T (mkF m pc Ls sk) := by
  subst hp; subst hz
  exact Wk.go (fun _ k => XS.iconst X.here hx rfl hd  k) w
theorem Wk.bipush (X : Stand p l e R s m args below meth c T locs cells slots) (hx : p.tables.exec = Jvm.exec) {i : Int} {z : Int32} (hd : decode c.code pc = .ok (.bipush i, 2)) (hp : pc + 2 = n) (hz : (Int8.ofInt i).toInt32 = z) (w : Wk p e below E T (mkF m n Ls (.int z :: sk))) : Wk p e below E T (mkF m pc Ls sk) := by
  subst hp; subst hz
  exact Wk.go (fun _ k => XS.bipush X.here hx rfl hd  k) w
theorem Wk.sipush (X : Stand p l e R s m args below meth c T locs cells slots) (hx : p.tables.exec = Jvm.exec) {i : Int} {z : Int32} (hd : decode c.code pc = .ok (.sipush i, 3)) (hp : pc + 3 = n) (hz : (Int16.ofInt i).toInt32 = z) (w : Wk p e below E T (mkF m n Ls (.int z :: sk))) : Wk p e below E T (mkF m pc Ls sk) := by
  subst hp; subst hz
  exact Wk.go (fun _ k => XS.sipush X.here hx rfl hd  k) w
theorem Wk.lconst (X : Stand p l e R s m args below meth c T locs cells slots) (hx : p.tables.exec = Jvm.exec) {k : Fin 2} {z : Int64} (hd : decode c.code pc = .ok (.lconst k, 1)) (hp : pc + 1 = n) (hz : Int64.ofNat k = z) (w : Wk p e below E T (mkF m n Ls (.long z :: sk))) : Wk p e below E T (mkF m pc Ls sk) := by
  subst hp; subst hz
  exact Wk.go (fun _ k => XS.lconst X.here hx rfl hd  k) w
theorem Wk.aconstNull (X : Stand p l e R s m args below meth c T locs cells slots) (hx : p.tables.exec = Jvm.exec)  (hd : decode c.code pc = .ok (.aconst_null, 1)) (hp : pc + 1 = n)  (w : Wk p e below E T (mkF m n Ls (.null :: sk))) : Wk p e below E T (mkF m pc Ls sk) := by
  subst hp
  exact Wk.go (fun _ k => XS.aconstNull X.here hx rfl hd  k) w
theorem Wk.iadd (X : Stand p l e R s m args below meth c T locs cells slots) (hx : p.tables.exec = Jvm.exec) {x y : Int32} (hd : decode c.code pc = .ok (.iadd, 1)) (hp : pc + 1 = n)  (w : Wk p e below E T (mkF m n Ls (.int (x + y) :: sk))) : Wk p e below E T (mkF m pc Ls (.int y :: .int x :: sk)) := by
  subst hp
  exact Wk.go (fun _ k => XS.iadd X.here hx rfl hd rfl k) w
theorem Wk.ladd (X : Stand p l e R s m args below meth c T locs cells slots) (hx : p.tables.exec = Jvm.exec) {x y : Int64} (hd : decode c.code pc = .ok (.ladd, 1)) (hp : pc + 1 = n)  (w : Wk p e below E T (mkF m n Ls (.long (x + y) :: sk))) : Wk p e below E T (mkF m pc Ls (.long y :: .long x :: sk)) := by
  subst hp
  exact Wk.go (fun _ k => XS.ladd X.here hx rfl hd rfl k) w
theorem Wk.isub (X : Stand p l e R s m args below meth c T locs cells slots) (hx : p.tables.exec = Jvm.exec) {x y : Int32} (hd : decode c.code pc = .ok (.isub, 1)) (hp : pc + 1 = n)  (w : Wk p e below E T (mkF m n Ls (.int (x - y) :: sk))) : Wk p e below E T (mkF m pc Ls (.int y :: .int x :: sk)) := by
  subst hp
  exact Wk.go (fun _ k => XS.isub X.here hx rfl hd rfl k) w
theorem Wk.lsub (X : Stand p l e R s m args below meth c T locs cells slots) (hx : p.tables.exec = Jvm.exec) {x y : Int64} (hd : decode c.code pc = .ok (.lsub, 1)) (hp : pc + 1 = n)  (w : Wk p e below E T (mkF m n Ls (.long (x - y) :: sk))) : Wk p e below E T (mkF m pc Ls (.long y :: .long x :: sk)) := by
  subst hp
  exact Wk.go (fun _ k => XS.lsub X.here hx rfl hd rfl k) w
theorem Wk.imul (X : Stand p l e R s m args below meth c T locs cells slots) (hx : p.tables.exec = Jvm.exec) {x y : Int32} (hd : decode c.code pc = .ok (.imul, 1)) (hp : pc + 1 = n)  (w : Wk p e below E T (mkF m n Ls (.int (x * y) :: sk))) : Wk p e below E T (mkF m pc Ls (.int y :: .int x :: sk)) := by
  subst hp
  exact Wk.go (fun _ k => XS.imul X.here hx rfl hd rfl k) w
theorem Wk.lmul (X : Stand p l e R s m args below meth c T locs cells slots) (hx : p.tables.exec = Jvm.exec) {x y : Int64} (hd : decode c.code pc = .ok (.lmul, 1)) (hp : pc + 1 = n)  (w : Wk p e below E T (mkF m n Ls (.long (x * y) :: sk))) : Wk p e below E T (mkF m pc Ls (.long y :: .long x :: sk)) := by
  subst hp
  exact Wk.go (fun _ k => XS.lmul X.here hx rfl hd rfl k) w
theorem Wk.iand (X : Stand p l e R s m args below meth c T locs cells slots) (hx : p.tables.exec = Jvm.exec) {x y : Int32} (hd : decode c.code pc = .ok (.iand, 1)) (hp : pc + 1 = n)  (w : Wk p e below E T (mkF m n Ls (.int (x &&& y) :: sk))) : Wk p e below E T (mkF m pc Ls (.int y :: .int x :: sk)) := by
  subst hp
  exact Wk.go (fun _ k => XS.iand X.here hx rfl hd rfl k) w
theorem Wk.land (X : Stand p l e R s m args below meth c T locs cells slots) (hx : p.tables.exec = Jvm.exec) {x y : Int64} (hd : decode c.code pc = .ok (.land, 1)) (hp : pc + 1 = n)  (w : Wk p e below E T (mkF m n Ls (.long (x &&& y) :: sk))) : Wk p e below E T (mkF m pc Ls (.long y :: .long x :: sk)) := by
  subst hp
  exact Wk.go (fun _ k => XS.land X.here hx rfl hd rfl k) w
theorem Wk.ior (X : Stand p l e R s m args below meth c T locs cells slots) (hx : p.tables.exec = Jvm.exec) {x y : Int32} (hd : decode c.code pc = .ok (.ior, 1)) (hp : pc + 1 = n)  (w : Wk p e below E T (mkF m n Ls (.int (x ||| y) :: sk))) : Wk p e below E T (mkF m pc Ls (.int y :: .int x :: sk)) := by
  subst hp
  exact Wk.go (fun _ k => XS.ior X.here hx rfl hd rfl k) w
theorem Wk.lor (X : Stand p l e R s m args below meth c T locs cells slots) (hx : p.tables.exec = Jvm.exec) {x y : Int64} (hd : decode c.code pc = .ok (.lor, 1)) (hp : pc + 1 = n)  (w : Wk p e below E T (mkF m n Ls (.long (x ||| y) :: sk))) : Wk p e below E T (mkF m pc Ls (.long y :: .long x :: sk)) := by
  subst hp
  exact Wk.go (fun _ k => XS.lor X.here hx rfl hd rfl k) w
theorem Wk.ixor (X : Stand p l e R s m args below meth c T locs cells slots) (hx : p.tables.exec = Jvm.exec) {x y : Int32} (hd : decode c.code pc = .ok (.ixor, 1)) (hp : pc + 1 = n)  (w : Wk p e below E T (mkF m n Ls (.int (x ^^^ y) :: sk))) : Wk p e below E T (mkF m pc Ls (.int y :: .int x :: sk)) := by
  subst hp
  exact Wk.go (fun _ k => XS.ixor X.here hx rfl hd rfl k) w
theorem Wk.lxor (X : Stand p l e R s m args below meth c T locs cells slots) (hx : p.tables.exec = Jvm.exec) {x y : Int64} (hd : decode c.code pc = .ok (.lxor, 1)) (hp : pc + 1 = n)  (w : Wk p e below E T (mkF m n Ls (.long (x ^^^ y) :: sk))) : Wk p e below E T (mkF m pc Ls (.long y :: .long x :: sk)) := by
  subst hp
  exact Wk.go (fun _ k => XS.lxor X.here hx rfl hd rfl k) w
theorem Wk.ineg (X : Stand p l e R s m args below meth c T locs cells slots) (hx : p.tables.exec = Jvm.exec) {x : Int32} (hd : decode c.code pc = .ok (.ineg, 1)) (hp : pc + 1 = n)  (w : Wk p e below E T (mkF m n Ls (.int (-x) :: sk))) : Wk p e below E T (mkF m pc Ls (.int x :: sk)) := by
  subst hp
  exact Wk.go (fun _ k => XS.ineg X.here hx rfl hd rfl k) w
theorem Wk.lneg (X : Stand p l e R s m args below meth c T locs cells slots) (hx : p.tables.exec = Jvm.exec) {x : Int64} (hd : decode c.code pc = .ok (.lneg, 1)) (hp : pc + 1 = n)  (w : Wk p e below E T (mkF m n Ls (.long (-x) :: sk))) : Wk p e below E T (mkF m pc Ls (.long x :: sk)) := by
  subst hp
  exact Wk.go (fun _ k => XS.lneg X.here hx rfl hd rfl k) w
theorem Wk.i2l (X : Stand p l e R s m args below meth c T locs cells slots) (hx : p.tables.exec = Jvm.exec) {x : Int32} (hd : decode c.code pc = .ok (.i2l, 1)) (hp : pc + 1 = n)  (w : Wk p e below E T (mkF m n Ls (.long (x.toInt64) :: sk))) : Wk p e below E T (mkF m pc Ls (.int x :: sk)) := by
  subst hp
  exact Wk.go (fun _ k => XS.i2l X.here hx rfl hd rfl k) w
theorem Wk.l2i (X : Stand p l e R s m args below meth c T locs cells slots) (hx : p.tables.exec = Jvm.exec) {x : Int64} (hd : decode c.code pc = .ok (.l2i, 1)) (hp : pc + 1 = n)  (w : Wk p e below E T (mkF m n Ls (.int (x.toInt32) :: sk))) : Wk p e below E T (mkF m pc Ls (.long x :: sk)) := by
  subst hp
  exact Wk.go (fun _ k => XS.l2i X.here hx rfl hd rfl k) w
theorem Wk.i2b (X : Stand p l e R s m args below meth c T locs cells slots) (hx : p.tables.exec = Jvm.exec) {x : Int32} (hd : decode c.code pc = .ok (.i2b, 1)) (hp : pc + 1 = n)  (w : Wk p e below E T (mkF m n Ls (.int (x.toInt8.toInt32) :: sk))) : Wk p e below E T (mkF m pc Ls (.int x :: sk)) := by
  subst hp
  exact Wk.go (fun _ k => XS.i2b X.here hx rfl hd rfl k) w
theorem Wk.i2s (X : Stand p l e R s m args below meth c T locs cells slots) (hx : p.tables.exec = Jvm.exec) {x : Int32} (hd : decode c.code pc = .ok (.i2s, 1)) (hp : pc + 1 = n)  (w : Wk p e below E T (mkF m n Ls (.int (x.toInt16.toInt32) :: sk))) : Wk p e below E T (mkF m pc Ls (.int x :: sk)) := by
  subst hp
  exact Wk.go (fun _ k => XS.i2s X.here hx rfl hd rfl k) w
theorem Wk.i2c (X : Stand p l e R s m args below meth c T locs cells slots) (hx : p.tables.exec = Jvm.exec) {x z : Int32} (hd : decode c.code pc = .ok (.i2c, 1)) (hp : pc + 1 = n) (hz : x.toUInt32.toUInt16.toUInt32.toInt32 = z) (w : Wk p e below E T (mkF m n Ls (.int z :: sk))) : Wk p e below E T (mkF m pc Ls (.int x :: sk)) := by
  subst hp; subst hz
  exact Wk.go (fun _ k => XS.i2c X.here hx rfl hd rfl k) w
theorem Wk.ishl (X : Stand p l e R s m args below meth c T locs cells slots) (hx : p.tables.exec = Jvm.exec) {x y : Int32} (hd : decode c.code pc = .ok (.ishl, 1)) (hp : pc + 1 = n)  (w : Wk p e below E T (mkF m n Ls (.int (x <<< (y &&& 31)) :: sk))) : Wk p e below E T (mkF m pc Ls (.int y :: .int x :: sk)) := by
  subst hp
  exact Wk.go (fun _ k => XS.ishl X.here hx rfl hd rfl k) w
theorem Wk.ishr (X : Stand p l e R s m args below meth c T locs cells slots) (hx : p.tables.exec = Jvm.exec) {x y : Int32} (hd : decode c.code pc = .ok (.ishr, 1)) (hp : pc + 1 = n)  (w : Wk p e below E T (mkF m n Ls (.int (x >>> (y &&& 31)) :: sk))) : Wk p e below E T (mkF m pc Ls (.int y :: .int x :: sk)) := by
  subst hp
  exact Wk.go (fun _ k => XS.ishr X.here hx rfl hd rfl k) w
theorem Wk.iushr (X : Stand p l e R s m args below meth c T locs cells slots) (hx : p.tables.exec = Jvm.exec) {x y : Int32} (hd : decode c.code pc = .ok (.iushr, 1)) (hp : pc + 1 = n)  (w : Wk p e below E T (mkF m n Ls (.int ((x.toUInt32 >>> (y &&& 31).toUInt32).toInt32) :: sk))) : Wk p e below E T (mkF m pc Ls (.int y :: .int x :: sk)) := by
  subst hp
  exact Wk.go (fun _ k => XS.iushr X.here hx rfl hd rfl k) w
theorem Wk.lshl (X : Stand p l e R s m args below meth c T locs cells slots) (hx : p.tables.exec = Jvm.exec) {x z : Int64} {y : Int32} (hd : decode c.code pc = .ok (.lshl, 1)) (hp : pc + 1 = n) (hz : (x <<< (y &&& 63).toInt64) = z) (w : Wk p e below E T (mkF m n Ls (.long z :: sk))) : Wk p e below E T (mkF m pc Ls (.int y :: .long x :: sk)) := by
  subst hp; subst hz
  exact Wk.go (fun _ k => XS.lshl X.here hx rfl hd rfl k) w
theorem Wk.lshr (X : Stand p l e R s m args below meth c T locs cells slots) (hx : p.tables.exec = Jvm.exec) {x z : Int64} {y : Int32} (hd : decode c.code pc = .ok (.lshr, 1)) (hp : pc + 1 = n) (hz : (x >>> (y &&& 63).toInt64) = z) (w : Wk p e below E T (mkF m n Ls (.long z :: sk))) : Wk p e below E T (mkF m pc Ls (.int y :: .long x :: sk)) := by
  subst hp; subst hz
  exact Wk.go (fun _ k => XS.lshr X.here hx rfl hd rfl k) w
theorem Wk.lushr (X : Stand p l e R s m args below meth c T locs cells slots) (hx : p.tables.exec = Jvm.exec) {x z : Int64} {y : Int32} (hd : decode c.code pc = .ok (.lushr, 1)) (hp : pc + 1 = n) (hz : (x.toUInt64 >>> (y &&& 63).toInt64.toUInt64).toInt64 = z) (w : Wk p e below E T (mkF m n Ls (.long z :: sk))) : Wk p e below E T (mkF m pc Ls (.int y :: .long x :: sk)) := by
  subst hp; subst hz
  exact Wk.go (fun _ k => XS.lushr X.here hx rfl hd rfl k) w
theorem Wk.lcmp (X : Stand p l e R s m args below meth c T locs cells slots) (hx : p.tables.exec = Jvm.exec) {x y : Int64} (hd : decode c.code pc = .ok (.lcmp, 1)) (hp : pc + 1 = n)  (w : Wk p e below E T (mkF m n Ls (.int (lcmpW x y) :: sk))) : Wk p e below E T (mkF m pc Ls (.long y :: .long x :: sk)) := by
  subst hp
  exact Wk.go (fun _ k => XS.lcmp X.here hx rfl hd rfl k) w
theorem Wk.idiv (X : Stand p l e R s m args below meth c T locs cells slots) (hx : p.tables.exec = Jvm.exec) {x y : Int32} (hd : decode c.code pc = .ok (.idiv, 1)) (hp : pc + 1 = n) (hy : y ≠ 0) (w : Wk p e below E T (mkF m n Ls (.int (x / y) :: sk))) : Wk p e below E T (mkF m pc Ls (.int y :: .int x :: sk)) := by
  subst hp
  exact Wk.go (fun _ k => XS.idiv X.here hx rfl hd rfl hy k) w
theorem Wk.ldiv (X : Stand p l e R s m args below meth c T locs cells slots) (hx : p.tables.exec = Jvm.exec) {x y : Int64} (hd : decode c.code pc = .ok (.ldiv, 1)) (hp : pc + 1 = n) (hy : y ≠ 0) (w : Wk p e below E T (mkF m n Ls (.long (x / y) :: sk))) : Wk p e below E T (mkF m pc Ls (.long y :: .long x :: sk)) := by
  subst hp
  exact Wk.go (fun _ k => XS.ldiv X.here hx rfl hd rfl hy k) w
theorem Wk.irem (X : Stand p l e R s m args below meth c T locs cells slots) (hx : p.tables.exec = Jvm.exec) {x y : Int32} (hd : decode c.code pc = .ok (.irem, 1)) (hp : pc + 1 = n) (hy : y ≠ 0) (w : Wk p e below E T (mkF m n Ls (.int (x % y) :: sk))) : Wk p e below E T (mkF m pc Ls (.int y :: .int x :: sk)) := by
  subst hp
  exact Wk.go (fun _ k => iremM X hx rfl hd rfl hy k) w
theorem Wk.lrem (X : Stand p l e R s m args below meth c T locs cells slots) (hx : p.tables.exec = Jvm.exec) {x y : Int64} (hd : decode c.code pc = .ok (.lrem, 1)) (hp : pc + 1 = n) (hy : y ≠ 0) (w : Wk p e below E T (mkF m n Ls (.long (x - (x / y) * y) :: sk))) : Wk p e below E T (mkF m pc Ls (.long y :: .long x :: sk)) := by
  subst hp
  exact Wk.go (fun _ k => XS.lrem X.here hx rfl hd rfl hy k) w
theorem Wk.iinc (X : Stand p l e R s m args below meth c T locs cells slots) (hx : p.tables.exec = Jvm.exec) {k : Nat} {cst : Int} {x : Int32} {L' : Array Slot} (hd : decode c.code pc = .ok (.iinc k cst, 3)) (hp : pc + 3 = n) (hl : Ls[k]? = some (.val (.int x))) (hl' : storeLocals Ls k (.int (x + Int32.ofInt cst)) = some L') (w : Wk p e below E T (mkF m n L' sk)) : Wk p e below E T (mkF m pc Ls sk) := by
  subst hp
  exact Wk.go (fun _ k => XS.iinc X.here hx rfl hd hl hl' k) w
theorem Wk.dup (X : Stand p l e R s m args below meth c T locs cells slots) (hx : p.tables.exec = Jvm.exec) {x : Value} (hd : decode c.code pc = .ok (.dup, 1)) (hp : pc + 1 = n) (hc : x.category = 1) (w : Wk p e below E T (mkF m n Ls (x :: x :: sk))) : Wk p e below E T (mkF m pc Ls (x :: sk)) := by
  subst hp
  exact Wk.go (fun _ k => XS.dup X.here hx rfl hd rfl hc k) w
theorem Wk.pop (X : Stand p l e R s m args below meth c T locs cells slots) (hx : p.tables.exec = Jvm.exec) {x : Value} (hd : decode c.code pc = .ok (.pop, 1)) (hp : pc + 1 = n) (hc : x.category = 1) (w : Wk p e below E T (mkF m n Ls sk)) : Wk p e below E T (mkF m pc Ls (x :: sk)) := by
  subst hp
  exact Wk.go (fun _ k => XS.pop X.here hx rfl hd rfl hc k) w
theorem Wk.dupX1 (X : Stand p l e R s m args below meth c T locs cells slots) (hx : p.tables.exec = Jvm.exec) {x y : Value} (hd : decode c.code pc = .ok (.dup_x1, 1)) (hp : pc + 1 = n) (hc : x.category = 1) (hc' : y.category = 1) (w : Wk p e below E T (mkF m n Ls (x :: y :: x :: sk))) : Wk p e below E T (mkF m pc Ls (x :: y :: sk)) := by
  subst hp
  exact Wk.go (fun _ k => XS.dupX1 X.here hx rfl hd rfl hc hc' k) w
theorem Wk.dup2 (X : Stand p l e R s m args below meth c T locs cells slots) (hx : p.tables.exec = Jvm.exec) {x y : Value} (hd : decode c.code pc = .ok (.dup2, 1)) (hp : pc + 1 = n) (hc : x.category = 1) (hc' : y.category = 1) (w : Wk p e below E T (mkF m n Ls (x :: y :: x :: y :: sk))) : Wk p e below E T (mkF m pc Ls (x :: y :: sk)) := by
  subst hp
  exact Wk.go (fun _ k => Jvm.Free.XT.dup2 X.here hx rfl hd rfl hc hc' k) w
theorem Wk.dup2L (X : Stand p l e R s m args below meth c T locs cells slots) (hx : p.tables.exec = Jvm.exec) {x : Int64} (hd : decode c.code pc = .ok (.dup2, 1)) (hp : pc + 1 = n)  (w : Wk p e below E T (mkF m n Ls (.long x :: .long x :: sk))) : Wk p e below E T (mkF m pc Ls (.long x :: sk)) := by
  subst hp
  exact Wk.go (fun _ k => Jvm.Free.XT.dup2L X.here hx rfl hd rfl k) w
theorem Wk.goto (X : Stand p l e R s m args below meth c T locs cells slots) (hx : p.tables.exec = Jvm.exec)  {o : Int} (hd : decode c.code pc = .ok (.goto o, 3))  (ho : 0 ≤ (pc : Int) + o) (hp : ((pc : Int) + o).toNat = n) (w : Wk p e below E T (mkF m n Ls sk)) : Wk p e below E T (mkF m pc Ls sk) := Wk.go (fun _ k => XS.goto X.here hx rfl rfl hd  ho hp k) w
theorem Wk.ifYes (X : Stand p l e R s m args below meth c T locs cells slots) (hx : p.tables.exec = Jvm.exec) {cd : ClassFile.Cond} {x : Int32} {o : Int} (hd : decode c.code pc = .ok (.ifCond cd o, 3)) (hc : ifCond.holds cd x = true) (ho : 0 ≤ (pc : Int) + o) (hp : ((pc : Int) + o).toNat = n) (w : Wk p e below E T (mkF m n Ls sk)) : Wk p e below E T (mkF m pc Ls (.int x :: sk)) := Wk.go (fun _ k => XS.ifYes X.here hx rfl rfl hd rfl hc ho hp k) w
theorem Wk.icmpYes (X : Stand p l e R s m args below meth c T locs cells slots) (hx : p.tables.exec = Jvm.exec) {cd : ClassFile.Cond} {x y : Int32} {o : Int} (hd : decode c.code pc = .ok (.if_icmp cd o, 3)) (hc : if_icmp.holds cd x y = true) (ho : 0 ≤ (pc : Int) + o) (hp : ((pc : Int) + o).toNat = n) (w : Wk p e below E T (mkF m n Ls sk)) : Wk p e below E T (mkF m pc Ls (.int y :: .int x :: sk)) := Wk.go (fun _ k => XS.icmpYes X.here hx rfl rfl hd rfl hc ho hp k) w
theorem Wk.ifnullYes (X : Stand p l e R s m args below meth c T locs cells slots) (hx : p.tables.exec = Jvm.exec)  {o : Int} (hd : decode c.code pc = .ok (.ifnull o, 3))  (ho : 0 ≤ (pc : Int) + o) (hp : ((pc : Int) + o).toNat = n) (w : Wk p e below E T (mkF m n Ls sk)) : Wk p e below E T (mkF m pc Ls (.null :: sk)) := Wk.go (fun _ k => XS.ifnullYes X.here hx rfl rfl hd rfl ho hp k) w
theorem Wk.ifnonnullYes (X : Stand p l e R s m args below meth c T locs cells slots) (hx : p.tables.exec = Jvm.exec) {b : Addr} {o : Int} (hd : decode c.code pc = .ok (.ifnonnull o, 3))  (ho : 0 ≤ (pc : Int) + o) (hp : ((pc : Int) + o).toNat = n) (w : Wk p e below E T (mkF m n Ls sk)) : Wk p e below E T (mkF m pc Ls (.ref b :: sk)) := Wk.go (fun _ k => XS.ifnonnullYes X.here hx rfl rfl hd rfl ho hp k) w
theorem Wk.ifNo (X : Stand p l e R s m args below meth c T locs cells slots) (hx : p.tables.exec = Jvm.exec) {cd : ClassFile.Cond} {o : Int} {x : Int32} (hd : decode c.code pc = .ok (.ifCond cd o, 3)) (hp : pc + 3 = n) (hc : ifCond.holds cd x = false) (w : Wk p e below E T (mkF m n Ls sk)) : Wk p e below E T (mkF m pc Ls (.int x :: sk)) := by
  subst hp
  exact Wk.go (fun _ k => XS.ifNo X.here hx rfl hd rfl hc k) w
theorem Wk.icmpNo (X : Stand p l e R s m args below meth c T locs cells slots) (hx : p.tables.exec = Jvm.exec) {cd : ClassFile.Cond} {o : Int} {x y : Int32} (hd : decode c.code pc = .ok (.if_icmp cd o, 3)) (hp : pc + 3 = n) (hc : if_icmp.holds cd x y = false) (w : Wk p e below E T (mkF m n Ls sk)) : Wk p e below E T (mkF m pc Ls (.int y :: .int x :: sk)) := by
  subst hp
  exact Wk.go (fun _ k => XS.icmpNo X.here hx rfl hd rfl hc k) w
theorem Wk.ifnullNo (X : Stand p l e R s m args below meth c T locs cells slots) (hx : p.tables.exec = Jvm.exec) {o : Int} {b : Addr} (hd : decode c.code pc = .ok (.ifnull o, 3)) (hp : pc + 3 = n)  (w : Wk p e below E T (mkF m n Ls sk)) : Wk p e below E T (mkF m pc Ls (.ref b :: sk)) := by
  subst hp
  exact Wk.go (fun _ k => XS.ifnullNo X.here hx rfl hd rfl k) w
theorem Wk.ifnonnullNo (X : Stand p l e R s m args below meth c T locs cells slots) (hx : p.tables.exec = Jvm.exec) {o : Int} (hd : decode c.code pc = .ok (.ifnonnull o, 3)) (hp : pc + 3 = n)  (w : Wk p e below E T (mkF m n Ls sk)) : Wk p e below E T (mkF m pc Ls (.null :: sk)) := by
  subst hp
  exact Wk.go (fun _ k => XS.ifnonnullNo X.here hx rfl hd rfl k) w
theorem Wk.acmp (X : Stand p l e R s m args below meth c T locs cells slots) (hx : p.tables.exec = Jvm.exec) {cd : ACond} {x y : Value} {same : Bool} {o : Int} (h1 : x.isRef = true) (h2 : y.isRef = true) (hd : decode c.code pc = .ok (.if_acmp cd o, 3)) (hq : decide (x = y) = same) (ho : 0 ≤ (pc : Int) + o) (hp : n = if acV cd same = true then ((pc : Int) + o).toNat else pc + 3) (w : Wk p e below E T (mkF m n Ls sk)) : Wk p e below E T (mkF m pc Ls (y :: x :: sk)) := Wk.go (fun _ k => RoadKit.acmp (g := mkF m pc Ls (y :: x :: sk)) X hx rfl h1 h2 rfl hd rfl hq ho hp k) w
theorem Wk.ldcInt (X : Stand p l e R s m args below meth c T locs cells slots) (hx : p.tables.exec = Jvm.exec) {own : String} {index : Nat} {v : Int32} (hown : s.vm.findClass own = some m.cls) (hc : (Cond.constant own index v).before args s = true) (hd : decode c.code pc = .ok (.ldc index, 2)) (hp : pc + 2 = n) (w : Wk p e below E T (mkF m n Ls (.int v :: sk))) : Wk p e below E T (mkF m pc Ls sk) := by
  subst hp
  exact Wk.go (X.ldcInt hx hown hc (g := mkF m pc Ls sk) rfl hd) w
theorem Wk.ldc2Long (X : Stand p l e R s m args below meth c T locs cells slots) (hx : p.tables.exec = Jvm.exec) {own : String} {index : Nat} {v : Int64} (hown : s.vm.findClass own = some m.cls) (hc : (Cond.constantLong own index v).before args s = true) (hd : decode c.code pc = .ok (.ldc2_w index, 3)) (hp : pc + 3 = n) (w : Wk p e below E T (mkF m n Ls (.long v :: sk))) : Wk p e below E T (mkF m pc Ls sk) := by
  subst hp
  exact Wk.go (X.ldc2Long hx hown hc (g := mkF m pc Ls sk) rfl hd) w
theorem Wk.newO (X : Stand p l e R s m args below meth c T locs cells slots) (hx : p.tables.exec = Jvm.exec) (hZ : Z.Warmed39 s.vm) {own K : String} {index k : Nat} (hown : s.vm.findClass own = some m.cls) (w : (Cond.classLink own index K).before a0 Z = true) (wi : (Cond.instantiable K k).before a0 Z = true) (wz : (Cond.initialized K).before a0 Z = true) (eT : T.heap = h) (hd : decode c.code pc = .ok (.new index, 3)) (hp : pc + 3 = n) (hc : cells + 1 ≤ R.cells) (hl : slots + k ≤ R.slots)
    (kk : ∀ (T' : State) (h' : Heap) (b : Addr), b = h.size → Stand p l e R s m args below meth c T' locs (cells + 1) (slots + k) → T'.heap = h' → Ext h h' → Exa Z h' b K → (∀ {O nm d : String} {ty : FieldType}, Laid Z a0 K O nm d → parseFieldDescriptor d = some ty → Fld Z h' b O nm d (defaultValue ty)) → Unt h' b → Wk p e below E T' (mkF m n Ls (.ref b :: sk))) : Wk p e below E T (mkF m pc Ls sk) := by
  subst hp
  obtain ⟨T', h', X', e', E', A', D', Y', st'⟩ := RoadKit.newO X hx hZ hown w wi wz eT (g := mkF m pc Ls sk) rfl hd hc hl
  exact Wk.go st' (kk T' h' _ rfl X' e' E' A' (fun L q => D' L q) Y')
theorem Wk.getF (X : Stand p l e R s m args below meth c T locs cells slots) (hx : p.tables.exec = Jvm.exec) (hZ : Z.Warmed39 s.vm) {own R0 O f d host : String} {index : Nat} (hown : s.vm.findClass own = some m.cls) (w : (Cond.fieldLink own index R0 f d).before a0 Z = true ∨ (Cond.fieldLinkNest own index R0 f d host).before a0 Z = true) (via : Via Z R0 O f d) (eT : T.heap = h) {a : Addr} {v : Value} (F : Fld Z h a O f d v) (hd : decode c.code pc = .ok (.getfield index, 3)) (hp : pc + 3 = n) (kk : ∀ T' : State, Stand p l e R s m args below meth c T' locs cells slots → T'.heap = h → Wk p e below E T' (mkF m n Ls (v :: sk))) : Wk p e below E T (mkF m pc Ls (.ref a :: sk)) := by
  subst hp
  obtain ⟨T', X', e', st'⟩ := RoadKit.getF X hx hZ hown w via eT F (g := mkF m pc Ls (.ref a :: sk)) rfl rfl hd
  exact Wk.go st' (kk T' X' e')
theorem Wk.getS (X : Stand p l e R s m args below meth c T locs cells slots) (hx : p.tables.exec = Jvm.exec) (hZ : Z.Warmed39 s.vm) {own R0 O f d host : String} {index : Nat} (hown : s.vm.findClass own = some m.cls) (w : (Cond.fieldLink own index R0 f d).before a0 Z = true ∨ (Cond.fieldLinkNest own index R0 f d host).before a0 Z = true) (via : Via Z R0 O f d) (eT : T.heap = h) {v : Value} (F : Sta Z h O f d v) (hd : decode c.code pc = .ok (.getstatic index, 3)) (hp : pc + 3 = n) (kk : ∀ T' : State, Stand p l e R s m args below meth c T' locs cells slots → T'.heap = h → Wk p e below E T' (mkF m n Ls (v :: sk))) : Wk p e below E T (mkF m pc Ls sk) := by
  subst hp
  obtain ⟨T', X', e', st'⟩ := RoadKit.getS2 X hx hZ hown w via eT F (g := mkF m pc Ls sk) rfl hd
  exact Wk.go st' (kk T' X' e')
theorem Wk.putF (X : Stand p l e R s m args below meth c T locs cells slots) (hx : p.tables.exec = Jvm.exec) (hZ : Z.Warmed39 s.vm) {own R0 O f d host : String} {index : Nat} (hown : s.vm.findClass own = some m.cls) (w : (Cond.fieldLink own index R0 f d).before a0 Z = true ∨ (Cond.fieldLinkNest own index R0 f d host).before a0 Z = true) (via : Via Z R0 O f d) (eT : T.heap = h) {K : String} {kk' : Nat} {ty : FieldType} {a : Addr} {v old : Value} (F : Fld Z h a O f d old) (Ea : Exa Z h a K) (L : (Cond.lays K O f d).before a0 Z = true ∨ ((Cond.laysFinal K O f d).before a0 Z = true ∧ own = O ∧ meth.name = "<init>")) (wi : (Cond.instantiable K kk').before a0 Z = true) (hty : parseFieldDescriptor d = some ty) (hn : narrow ty v = v) (hf : fits ty v = true) (hd : decode c.code pc = .ok (.putfield index, 3)) (hp : pc + 3 = n) (kk : ∀ (T' : State) (h' : Heap), Stand p l e R s m args below meth c T' (locs ++ [⟨a, slotOf Z O f d⟩]) cells slots → T'.heap = h' → Wr h h' a (slotOf Z O f d) v → Wk p e below E T' (mkF m n Ls sk)) : Wk p e below E T (mkF m pc Ls (v :: .ref a :: sk)) := by
  subst hp
  obtain ⟨T', h', X', e', W', st'⟩ := RoadKit.putF X hx hZ hown w via eT F Ea L wi hty hn hf (g := mkF m pc Ls (v :: .ref a :: sk)) rfl rfl hd
  exact Wk.go st' (kk T' h' X' e' W')
theorem Wk.putFN (X : Stand p l e R s m args below meth c T locs cells slots) (hx : p.tables.exec = Jvm.exec) (hZ : Z.Warmed39 s.vm) {own R0 O f d : String} {index : Nat} (hown : s.vm.findClass own = some m.cls) (w : (Cond.fieldLink own index R0 f d).before a0 Z = true) (via : Via Z R0 O f d) (eT : T.heap = h) {K : String} {kk' : Nat} {ty : FieldType} {a : Addr} {v old : Value} (F : Fld Z h a O f d old) (Ea : Exa Z h a K) (L : (Cond.lays K O f d).before a0 Z = true ∨ ((Cond.laysFinal K O f d).before a0 Z = true ∧ own = O ∧ meth.name = "<init>")) (wi : (Cond.instantiable K kk').before a0 Z = true) (hty : parseFieldDescriptor d = some ty) {v' : Value} (hn : narrow ty v = v') (hf : fits ty v' = true) (hd : decode c.code pc = .ok (.putfield index, 3)) (hp : pc + 3 = n) (kk : ∀ (T' : State) (h' : Heap), Stand p l e R s m args below meth c T' (locs ++ [⟨a, slotOf Z O f d⟩]) cells slots → T'.heap = h' → Wr h h' a (slotOf Z O f d) v' → Wk p e below E T' (mkF m n Ls sk)) : Wk p e below E T (mkF m pc Ls (v :: .ref a :: sk)) := by
  subst hp
  obtain ⟨T', h', X', e', W', st'⟩ := RoadKit.putFN X hx hZ hown w via eT F Ea L wi hty hn hf (g := mkF m pc Ls (v :: .ref a :: sk)) rfl rfl hd
  exact Wk.go st' (kk T' h' X' e' W')
theorem Wk.initO (X : Stand p l e R s m args below meth c T locs cells slots) (hx : p.tables.exec = Jvm.exec) (hZ : Z.Warmed39 s.vm) {own : String} {idx : Nat} (hown : s.vm.findClass own = some m.cls) (w1 : (Cond.methodLink own idx Lib.objectInit).before a0 Z = true) (w2 : (Cond.instanceMethod Lib.objectInit).before a0 Z = true) (w3 : (Cond.code Lib.objectInit ⟨#[0xb1]⟩ 1 none).before a0 Z = true) (eT : T.heap = h) (hsz : Ls.size = c.maxLocals) {a : Addr} (hd : decode c.code pc = .ok (.invokespecial idx, 3)) (hp : pc + 3 = n) (hf : 1 ≤ R.frames) {w : Nat} (hw : (sk.map fun v => v.category).sum ≤ w) (hl : w + 12 ≤ R.locals) (kk : ∀ T' : State, Stand p l e R s m args below meth c T' locs cells slots → T'.heap = h → Wk p e below E T' (mkF m n Ls sk)) : Wk p e below E T (mkF m pc Ls (.ref a :: sk)) := by
  subst hp
  obtain ⟨T', X', e', st'⟩ := RoadKit.initO X hx hZ hown w1 w2 w3 eT (g := mkF m pc Ls (.ref a :: sk)) rfl hsz rfl hd hf (W := w) (by show 2 * 0 + _ ≤ _; omega) hl
  exact Wk.go st' (kk T' X' e')
theorem Wk.newP (X : Stand p l e R s m args below meth c T locs cells slots) (hx : p.tables.exec = Jvm.exec) (hZ : Z.Warmed39 s.vm) {aty : ArrayType} (w : (Cond.arrayClass (newarray.typeOf aty)).before a0 Z = true) (eT : T.heap = h) (hd : decode c.code pc = .ok (.newarray aty, 2)) (hp : pc + 2 = n) {z : Int32} (hz : ¬ z < 0) {cap : Nat} (hcap : z.toNatClampNeg ≤ cap) (hb : cap * 8 ≤ 536870912) (hc : cells + 1 ≤ R.cells) (hl : slots + cap ≤ R.slots)
    (kk : ∀ (T' : State) (h' : Heap) (b : Addr) (cA : ClassId), b = h.size → Stand p l e R s m args below meth c T' locs (cells + 1) (slots + cap) → T'.heap = h' → Ext h h' → Arr Z h' b (newA cA (newarray.typeOf aty) z) (newarray.typeOf aty) → Wk p e below E T' (mkF m n Ls (.ref b :: sk))) : Wk p e below E T (mkF m pc Ls (.int z :: sk)) := by
  subst hp
  obtain ⟨T', h', cA, X', e', E', A', st'⟩ := RoadKit.newP X hx hZ w eT (g := mkF m pc Ls (.int z :: sk)) rfl hd rfl hz hcap hb hc hl
  exact Wk.go st' (kk T' h' _ cA rfl X' e' E' A')
theorem Wk.newR (X : Stand p l e R s m args below meth c T locs cells slots) (hx : p.tables.exec = Jvm.exec) (hZ : Z.Warmed39 s.vm) {own K : String} {index : Nat} (hown : s.vm.findClass own = some m.cls) (w1 : (Cond.classLink own index K).before a0 Z = true) (w2 : (Cond.arrayOver (.object K)).before a0 Z = true) (eT : T.heap = h) (hd : decode c.code pc = .ok (.anewarray index, 3)) (hp : pc + 3 = n) {z : Int32} (hz : ¬ z < 0) {cap : Nat} (hcap : z.toNatClampNeg ≤ cap) (hb : cap * 8 ≤ 536870912) (hc : cells + 1 ≤ R.cells) (hl : slots + cap ≤ R.slots)
    (kk : ∀ (T' : State) (h' : Heap) (b : Addr) (cA : ClassId), b = h.size → Stand p l e R s m args below meth c T' locs (cells + 1) (slots + cap) → T'.heap = h' → Ext h h' → Arr Z h' b (newA cA (.object K) z) (.object K) → Ovr Z cA K → Wk p e below E T' (mkF m n Ls (.ref b :: sk))) : Wk p e below E T (mkF m pc Ls (.int z :: sk)) := by
  subst hp
  obtain ⟨T', h', cA, X', e', E', A', O', st'⟩ := RoadKit.newR X hx hZ hown w1 w2 eT (g := mkF m pc Ls (.int z :: sk)) rfl hd rfl hz hcap hb hc hl
  exact Wk.go st' (kk T' h' _ cA rfl X' e' E' A' O')
theorem Wk.stI (X : Stand p l e R s m args below meth c T locs cells slots) (hx : p.tables.exec = Jvm.exec) (hZ : Z.Warmed39 s.vm) (eT : T.heap = h) {a : Addr} {cl : Cell} (A : Arr Z h a cl .int) {j : Int32} {x : Int32} (hj : ¬ (j < 0 ∨ cl.slots.size ≤ j.toNatClampNeg)) (hd : decode c.code pc = .ok (.iastore, 1)) (hp : pc + 1 = n) (kk : ∀ (T' : State) (h' : Heap), Stand p l e R s m args below meth c T' (locs ++ [⟨a, j.toNatClampNeg⟩]) cells slots → T'.heap = h' → Wr h h' a j.toNatClampNeg (.int x) → Wk p e below E T' (mkF m n Ls sk)) : Wk p e below E T (mkF m pc Ls ((.int x) :: .int j :: .ref a :: sk)) := by
  subst hp
  obtain ⟨T', h', X', e', W', st'⟩ := RoadKit.stI X hx hZ eT A hj (g := mkF m pc Ls ((.int x) :: .int j :: .ref a :: sk)) rfl rfl hd
  exact Wk.go st' (kk T' h' X' e' W')
theorem Wk.stC (X : Stand p l e R s m args below meth c T locs cells slots) (hx : p.tables.exec = Jvm.exec) (hZ : Z.Warmed39 s.vm) (eT : T.heap = h) {a : Addr} {cl : Cell} (A : Arr Z h a cl .char) {j : Int32} {x : Int32} (hj : ¬ (j < 0 ∨ cl.slots.size ≤ j.toNatClampNeg)) (hd : decode c.code pc = .ok (.castore, 1)) (hp : pc + 1 = n) (kk : ∀ (T' : State) (h' : Heap), Stand p l e R s m args below meth c T' (locs ++ [⟨a, j.toNatClampNeg⟩]) cells slots → T'.heap = h' → Wr h h' a j.toNatClampNeg (.int (nar .char x)) → Wk p e below E T' (mkF m n Ls sk)) : Wk p e below E T (mkF m pc Ls ((.int x) :: .int j :: .ref a :: sk)) := by
  subst hp
  obtain ⟨T', h', X', e', W', st'⟩ := RoadKit.stC X hx hZ eT A hj (g := mkF m pc Ls ((.int x) :: .int j :: .ref a :: sk)) rfl rfl hd
  exact Wk.go st' (kk T' h' X' e' W')
theorem Wk.stS (X : Stand p l e R s m args below meth c T locs cells slots) (hx : p.tables.exec = Jvm.exec) (hZ : Z.Warmed39 s.vm) (eT : T.heap = h) {a : Addr} {cl : Cell} (A : Arr Z h a cl .short) {j : Int32} {x : Int32} (hj : ¬ (j < 0 ∨ cl.slots.size ≤ j.toNatClampNeg)) (hd : decode c.code pc = .ok (.sastore, 1)) (hp : pc + 1 = n) (kk : ∀ (T' : State) (h' : Heap), Stand p l e R s m args below meth c T' (locs ++ [⟨a, j.toNatClampNeg⟩]) cells slots → T'.heap = h' → Wr h h' a j.toNatClampNeg (.int (nar .short x)) → Wk p e below E T' (mkF m n Ls sk)) : Wk p e below E T (mkF m pc Ls ((.int x) :: .int j :: .ref a :: sk)) := by
  subst hp
  obtain ⟨T', h', X', e', W', st'⟩ := RoadKit.stS X hx hZ eT A hj (g := mkF m pc Ls ((.int x) :: .int j :: .ref a :: sk)) rfl rfl hd
  exact Wk.go st' (kk T' h' X' e' W')
theorem Wk.stB (X : Stand p l e R s m args below meth c T locs cells slots) (hx : p.tables.exec = Jvm.exec) (hZ : Z.Warmed39 s.vm) (eT : T.heap = h) {a : Addr} {cl : Cell} (A : Arr Z h a cl .byte) {j : Int32} {x : Int32} (hj : ¬ (j < 0 ∨ cl.slots.size ≤ j.toNatClampNeg)) (hd : decode c.code pc = .ok (.bastore, 1)) (hp : pc + 1 = n) (kk : ∀ (T' : State) (h' : Heap), Stand p l e R s m args below meth c T' (locs ++ [⟨a, j.toNatClampNeg⟩]) cells slots → T'.heap = h' → Wr h h' a j.toNatClampNeg (.int (nar .byte x)) → Wk p e below E T' (mkF m n Ls sk)) : Wk p e below E T (mkF m pc Ls ((.int x) :: .int j :: .ref a :: sk)) := by
  subst hp
  obtain ⟨T', h', X', e', W', st'⟩ := RoadKit.stB X hx hZ eT A hj (g := mkF m pc Ls ((.int x) :: .int j :: .ref a :: sk)) rfl rfl hd
  exact Wk.go st' (kk T' h' X' e' W')
theorem Wk.stZ (X : Stand p l e R s m args below meth c T locs cells slots) (hx : p.tables.exec = Jvm.exec) (hZ : Z.Warmed39 s.vm) (eT : T.heap = h) {a : Addr} {cl : Cell} (A : Arr Z h a cl .boolean) {j : Int32} {x : Int32} (hj : ¬ (j < 0 ∨ cl.slots.size ≤ j.toNatClampNeg)) (hd : decode c.code pc = .ok (.bastore, 1)) (hp : pc + 1 = n) (kk : ∀ (T' : State) (h' : Heap), Stand p l e R s m args below meth c T' (locs ++ [⟨a, j.toNatClampNeg⟩]) cells slots → T'.heap = h' → Wr h h' a j.toNatClampNeg (.int (nar .boolean x)) → Wk p e below E T' (mkF m n Ls sk)) : Wk p e below E T (mkF m pc Ls ((.int x) :: .int j :: .ref a :: sk)) := by
  subst hp
  obtain ⟨T', h', X', e', W', st'⟩ := RoadKit.stZ X hx hZ eT A hj (g := mkF m pc Ls ((.int x) :: .int j :: .ref a :: sk)) rfl rfl hd
  exact Wk.go st' (kk T' h' X' e' W')
theorem Wk.stJ (X : Stand p l e R s m args below meth c T locs cells slots) (hx : p.tables.exec = Jvm.exec) (hZ : Z.Warmed39 s.vm) (eT : T.heap = h) {a : Addr} {cl : Cell} (A : Arr Z h a cl .long) {j : Int32} {x : Int64} (hj : ¬ (j < 0 ∨ cl.slots.size ≤ j.toNatClampNeg)) (hd : decode c.code pc = .ok (.lastore, 1)) (hp : pc + 1 = n) (kk : ∀ (T' : State) (h' : Heap), Stand p l e R s m args below meth c T' (locs ++ [⟨a, j.toNatClampNeg⟩]) cells slots → T'.heap = h' → Wr h h' a j.toNatClampNeg (.long x) → Wk p e below E T' (mkF m n Ls sk)) : Wk p e below E T (mkF m pc Ls ((.long x) :: .int j :: .ref a :: sk)) := by
  subst hp
  obtain ⟨T', h', X', e', W', st'⟩ := RoadKit.stJ X hx hZ eT A hj (g := mkF m pc Ls ((.long x) :: .int j :: .ref a :: sk)) rfl rfl hd
  exact Wk.go st' (kk T' h' X' e' W')
theorem Wk.stR (X : Stand p l e R s m args below meth c T locs cells slots) (hx : p.tables.exec = Jvm.exec) (hZ : Z.Warmed39 s.vm) (eT : T.heap = h) {a : Addr} {cl : Cell} {ty : FieldType} (A : Arr Z h a cl ty) {j : Int32} {v : Value} (hj : ¬ (j < 0 ∨ cl.slots.size ≤ j.toNatClampNeg)) (hty : ty.isReference = true) (F : Sto Z h a v) (hd : decode c.code pc = .ok (.aastore, 1)) (hp : pc + 1 = n) (kk : ∀ (T' : State) (h' : Heap), Stand p l e R s m args below meth c T' (locs ++ [⟨a, j.toNatClampNeg⟩]) cells slots → T'.heap = h' → Wr h h' a j.toNatClampNeg v → Wk p e below E T' (mkF m n Ls sk)) : Wk p e below E T (mkF m pc Ls (v :: .int j :: .ref a :: sk)) := by
  subst hp
  obtain ⟨T', h', X', e', W', st'⟩ := RoadKit.stR X hx hZ eT A hj hty F (g := mkF m pc Ls (v :: .int j :: .ref a :: sk)) rfl rfl hd
  exact Wk.go st' (kk T' h' X' e' W')
theorem Wk.iaload (X : Stand p l e R s m args below meth c T locs cells slots) (hx : p.tables.exec = Jvm.exec) (hZ : Z.Warmed39 s.vm) (eT : T.heap = h) {a : Addr} {cl : Cell} (A : Arr Z h a cl .int) {j : Int32} {v : Value} (hj : ¬ (j < 0 ∨ cl.slots.size ≤ j.toNatClampNeg)) (ha : cl.slots[j.toNatClampNeg]? = some v) (hd : decode c.code pc = .ok (.iaload, 1)) (hp : pc + 1 = n) (w : Wk p e below E T (mkF m n Ls (v :: sk))) : Wk p e below E T (mkF m pc Ls (.int j :: .ref a :: sk)) := by
  subst hp
  exact Wk.go (X.iaload hx (by rw [eT]; exact A.1) (State.isArrayOf_alike hZ.alike A.2.1) A.2.2 hj ha (g := mkF m pc Ls (.int j :: .ref a :: sk)) rfl rfl hd) w
theorem Wk.caload (X : Stand p l e R s m args below meth c T locs cells slots) (hx : p.tables.exec = Jvm.exec) (hZ : Z.Warmed39 s.vm) (eT : T.heap = h) {a : Addr} {cl : Cell} (A : Arr Z h a cl .char) {j : Int32} {v : Value} (hj : ¬ (j < 0 ∨ cl.slots.size ≤ j.toNatClampNeg)) (ha : cl.slots[j.toNatClampNeg]? = some v) (hd : decode c.code pc = .ok (.caload, 1)) (hp : pc + 1 = n) (w : Wk p e below E T (mkF m n Ls (v :: sk))) : Wk p e below E T (mkF m pc Ls (.int j :: .ref a :: sk)) := by
  subst hp
  exact Wk.go (X.caload hx (by rw [eT]; exact A.1) (State.isArrayOf_alike hZ.alike A.2.1) A.2.2 hj ha (g := mkF m pc Ls (.int j :: .ref a :: sk)) rfl rfl hd) w
theorem Wk.saload (X : Stand p l e R s m args below meth c T locs cells slots) (hx : p.tables.exec = Jvm.exec) (hZ : Z.Warmed39 s.vm) (eT : T.heap = h) {a : Addr} {cl : Cell} (A : Arr Z h a cl .short) {j : Int32} {v : Value} (hj : ¬ (j < 0 ∨ cl.slots.size ≤ j.toNatClampNeg)) (ha : cl.slots[j.toNatClampNeg]? = some v) (hd : decode c.code pc = .ok (.saload, 1)) (hp : pc + 1 = n) (w : Wk p e below E T (mkF m n Ls (v :: sk))) : Wk p e below E T (mkF m pc Ls (.int j :: .ref a :: sk)) := by
  subst hp
  exact Wk.go (X.saload hx (by rw [eT]; exact A.1) (State.isArrayOf_alike hZ.alike A.2.1) A.2.2 hj ha (g := mkF m pc Ls (.int j :: .ref a :: sk)) rfl rfl hd) w
theorem Wk.laload (X : Stand p l e R s m args below meth c T locs cells slots) (hx : p.tables.exec = Jvm.exec) (hZ : Z.Warmed39 s.vm) (eT : T.heap = h) {a : Addr} {cl : Cell} (A : Arr Z h a cl .long) {j : Int32} {v : Value} (hj : ¬ (j < 0 ∨ cl.slots.size ≤ j.toNatClampNeg)) (ha : cl.slots[j.toNatClampNeg]? = some v) (hd : decode c.code pc = .ok (.laload, 1)) (hp : pc + 1 = n) (w : Wk p e below E T (mkF m n Ls (v :: sk))) : Wk p e below E T (mkF m pc Ls (.int j :: .ref a :: sk)) := by
  subst hp
  exact Wk.go (X.laload hx (by rw [eT]; exact A.1) (State.isArrayOf_alike hZ.alike A.2.1) A.2.2 hj ha (g := mkF m pc Ls (.int j :: .ref a :: sk)) rfl rfl hd) w
theorem Wk.baloadBytes (X : Stand p l e R s m args below meth c T locs cells slots) (hx : p.tables.exec = Jvm.exec) (hZ : Z.Warmed39 s.vm) (eT : T.heap = h) {a : Addr} {cl : Cell} (A : Arr Z h a cl .byte) {j : Int32} {v : Value} (hj : ¬ (j < 0 ∨ cl.slots.size ≤ j.toNatClampNeg)) (ha : cl.slots[j.toNatClampNeg]? = some v) (hd : decode c.code pc = .ok (.baload, 1)) (hp : pc + 1 = n) (w : Wk p e below E T (mkF m n Ls (v :: sk))) : Wk p e below E T (mkF m pc Ls (.int j :: .ref a :: sk)) := by
  subst hp
  exact Wk.go (X.baloadBytes hx (by rw [eT]; exact A.1) (State.isArrayOf_alike hZ.alike A.2.1) A.2.2 hj ha (g := mkF m pc Ls (.int j :: .ref a :: sk)) rfl rfl hd) w
theorem Wk.aaload (X : Stand p l e R s m args below meth c T locs cells slots) (hx : p.tables.exec = Jvm.exec) (hZ : Z.Warmed39 s.vm) (eT : T.heap = h) {a : Addr} {cl : Cell} {ty : FieldType} (A : Arr Z h a cl ty) {j : Int32} {v : Value} (hty : ty.isReference = true) (hj : ¬ (j < 0 ∨ cl.slots.size ≤ j.toNatClampNeg)) (ha : cl.slots[j.toNatClampNeg]? = some v) (hd : decode c.code pc = .ok (.aaload, 1)) (hp : pc + 1 = n) (w : Wk p e below E T (mkF m n Ls (v :: sk))) : Wk p e below E T (mkF m pc Ls (.int j :: .ref a :: sk)) := by
  subst hp
  exact Wk.go (X.aaload hx (by rw [eT]; exact A.1) (State.isArrayOf_alike hZ.alike A.2.1) hty A.2.2 hj ha (g := mkF m pc Ls (.int j :: .ref a :: sk)) rfl rfl hd) w
theorem Wk.arrlen (X : Stand p l e R s m args below meth c T locs cells slots) (hx : p.tables.exec = Jvm.exec) (hZ : Z.Warmed39 s.vm) (eT : T.heap = h) {a : Addr} {cl : Cell} {ty : FieldType} {z : Int32} (A : Arr Z h a cl ty) (S' : cl.slots.size = z.toNatClampNeg) (hz : ¬ z < 0) (hd : decode c.code pc = .ok (.arraylength, 1)) (hp : pc + 1 = n) (w : Wk p e below E T (mkF m n Ls (.int z :: sk))) : Wk p e below E T (mkF m pc Ls (.ref a :: sk)) := by
  subst hp
  have q := X.arraylength hx (by rw [eT]; exact A.1) (State.isArrayOf_alike hZ.alike A.2.1) (g := mkF m pc Ls (.ref a :: sk)) rfl rfl hd
  rw [len_of S' hz] at q
  exact Wk.go q w
theorem Wk.castY (X : Stand p l e R s m args below meth c T locs cells slots) (hx : p.tables.exec = Jvm.exec) (hZ : Z.Warmed39 s.vm) {own K : String} {index : Nat} (hown : s.vm.findClass own = some m.cls) (w : (Cond.classLink own index K).before a0 Z = true) (eT : T.heap = h) {a : Addr} (F : Ins Z h a K true) (hd : decode c.code pc = .ok (.checkcast index, 3)) (hp : pc + 3 = n) (kk : ∀ T' : State, Stand p l e R s m args below meth c T' locs cells slots → T'.heap = h → Wk p e below E T' (mkF m n Ls (.ref a :: sk))) : Wk p e below E T (mkF m pc Ls (.ref a :: sk)) := by
  subst hp
  obtain ⟨T', X', e', st'⟩ := RoadKit.castY X hx hZ hown w eT F (g := mkF m pc Ls (.ref a :: sk)) rfl rfl hd
  exact Wk.go st' (kk T' X' e')
theorem Wk.instY (X : Stand p l e R s m args below meth c T locs cells slots) (hx : p.tables.exec = Jvm.exec) (hZ : Z.Warmed39 s.vm) {own K : String} {index : Nat} (hown : s.vm.findClass own = some m.cls) (w : (Cond.classLink own index K).before a0 Z = true) (eT : T.heap = h) {a : Addr} (F : Ins Z h a K true) (hd : decode c.code pc = .ok (.instanceof index, 3)) (hp : pc + 3 = n) (kk : ∀ T' : State, Stand p l e R s m args below meth c T' locs cells slots → T'.heap = h → Wk p e below E T' (mkF m n Ls (.int 1 :: sk))) : Wk p e below E T (mkF m pc Ls (.ref a :: sk)) := by
  subst hp
  obtain ⟨T', X', e', st'⟩ := RoadKit.instY X hx hZ hown w eT F (g := mkF m pc Ls (.ref a :: sk)) rfl rfl hd
  exact Wk.go st' (kk T' X' e')
theorem Wk.back {rc rs : Nat} {Q : Option Value → Heap → List Loc → Prop} {rest : List Value} (call : ∃ (v : Option Value) (vm₁ : Vm) (B : Pt), s.WarmedH vm₁ ∧ Stand p l e R s m args below meth c B.U B.locs B.cells B.slots ∧ (∃ L, Q v B.U.heap L ∧ B.locs = locs ++ L ∧ B.cells = cells + rc ∧ B.slots = slots + rs) ∧ Steps p.tables e below (T.setTop (mkF m pc Ls sk)) (B.U.setTop (mkF m n Ls (v.toList ++ rest)))) (kk : ∀ (v : Option Value) (T' : State) (L : List Loc), Stand p l e R s m args below meth c T' (locs ++ L) (cells + rc) (slots + rs) → Q v T'.heap L → Wk p e below E T' (mkF m n Ls (v.toList ++ rest))) : Wk p e below E T (mkF m pc Ls sk) := by
  obtain ⟨v, _, ⟨T', L', c', s'⟩, -, X', ⟨L, hQ, h1, h2, h3⟩, k⟩ := call
  dsimp only [Pt.U, Pt.locs, Pt.cells, Pt.slots] at X' h1 h2 h3 k hQ
  subst h1 h2 h3
  exact Wk.go (fun _ r => k.trans r) (kk v T' L X' hQ)
theorem Wk.backS {rc rs : Nat} {Q : Option Value → Heap → List Loc → Prop} {rest : List Value} (call : ∃ (v : Option Value) (vm₁ : Vm) (B : Pt), s.WarmedH vm₁ ∧ Stand p l e R s m args below meth c B.U B.locs B.cells B.slots ∧ (∃ L, Q v B.U.heap L ∧ B.locs = locs ++ L ∧ B.cells = cells + rc ∧ B.slots = slots + rs) ∧ ∀ target, Steps p.tables e below (B.U.setTop (mkF m n Ls (v.toList ++ rest))) target → Steps p.tables e below (T.setTop (mkF m pc Ls sk)) target) (kk : ∀ (v : Option Value) (T' : State) (L : List Loc), Stand p l e R s m args below meth c T' (locs ++ L) (cells + rc) (slots + rs) → Q v T'.heap L → Wk p e below E T' (mkF m n Ls (v.toList ++ rest))) : Wk p e below E T (mkF m pc Ls sk) := by
  obtain ⟨v, _, ⟨T', L', c', s'⟩, -, X', ⟨L, hQ, h1, h2, h3⟩, k⟩ := call
  dsimp only [Pt.U, Pt.locs, Pt.cells, Pt.slots] at X' h1 h2 h3 k hQ
  subst h1 h2 h3
  exact Wk.go k (kk v T' L X' hQ)
theorem Wk.cpA (X : Stand p l e R s m args below meth c T locs cells slots) (hx : p.tables.exec = Jvm.exec) (hZ : Z.Warmed39 s.vm) {own : String} {index : Nat} (hown : s.vm.findClass own = some m.cls) (w1 : (Cond.methodLink own index Jvm.Stand.acN).before a0 Z = true) (w2 : (Cond.native Jvm.Stand.acN).before a0 Z = true) (w3 : (Cond.static Jvm.Stand.acN).before a0 Z = true) (w4 : (Cond.initialized "java/lang/System").before a0 Z = true) (eT : T.heap = h) {a b : Addr} {k k' : ClassId} {ty ty' : FieldType} {z z' sp dp nn : Int32} {vs vd us vn : List Value} {dv dd : Value} (A : Arv Z h a k ty z vs dv) (B : Arv Z h b k' ty' z' vd dd) (hty : (ty = ty' ∧ refKind ty = false) ∨ (refKind ty = true ∧ refKind ty' = true ∧ StoL Z h b us)) {i j q : Nat} (h1 : sp = Int32.ofNat i) (h2 : dp = Int32.ofNat j) (h3 : nn = Int32.ofNat q) (hi : i < 2 ^ 31) (hj : j < 2 ^ 31) (hq : q < 2 ^ 31) (h4 : i + q ≤ z.toNatClampNeg) (h5 : j + q ≤ z'.toNatClampNeg) (hus : us = (List.range q).map fun y => vs.getD (i + y) dv) (hl : j + q ≤ vd.length) {n0 : Nat} (N : Fr n0 locs) (ge : n0 ≤ b) (hvn : vd.take j ++ us ++ vd.drop (j + q) = vn) (hsz : Ls.size = c.maxLocals) (hd : decode c.code pc = .ok (.invokestatic index, 3)) (hp : pc + 3 = n) (hf : 1 ≤ R.frames) {w : Nat} (hw : (sk.map fun v => v.category).sum ≤ w) (hlo : w + (nativeFrameWords "java/lang/System" "arraycopy" 5 + 11) ≤ R.locals)
    (kk : ∀ (T' : State) (h' : Heap) (L : List Loc), Stand p l e R s m args below meth c T' L cells slots → T'.heap = h' → Fr n0 L → Keep h h' [b] → Arv Z h' b k' ty' z' vn dd → Wk p e below E T' (mkF m n Ls sk)) : Wk p e below E T (mkF m pc Ls (.int nn :: .int dp :: .ref b :: .int sp :: .ref a :: sk)) := by
  subst hp hvn
  obtain ⟨e1, e1'⟩ := own_nn h1 hi
  obtain ⟨e2, e2'⟩ := own_nn h2 hj
  obtain ⟨e3, e3'⟩ := own_nn h3 hq
  obtain ⟨T', h', L, X', e', N', K', A', st'⟩ := RoadKit.cpA X hx hZ hown w1 w2 w3 w4 eT A B hty e1' e2' e3' (by rw [e1, e3]; exact h4) (by rw [e2, e3]; exact h5) (by rw [e1, e3]; exact hus) (by rw [e2, e3]; exact hl) N ge (g := mkF m pc Ls (.int nn :: .int dp :: .ref b :: .int sp :: .ref a :: sk)) rfl hsz rfl hd hf (W := w) (by show 2 * 0 + _ ≤ _; omega) hlo
  rw [e2, e3] at A'
  exact Wk.go st' (kk T' h' L X' e' N' K' A')
end Own
end Jvm.RoadKit
namespace Jvm.RoadKit
open Sem ClassFile Op Lib Bundle Jvm.Stand Jvm.Free Jvm.LawKit Jvm.Free.SB Jvm.Free.SBG
section OwnWide
variable {p : Program} {l : Launch} {e : Env} {R : Room} {s u : State} {m : MethodId} {args : Array Value} {below : List Frame} {meth : Method} {c : Code} {T T' : State} {locs : List Loc} {cells slots : Nat} {g g' : JFrame} {Qf : Option Value → Heap → List Loc → Prop} {E : Outcome → State → Prop} {C S : Nat} {Z : State} {a0 : Array Value} {h h0 : Heap} {pc n : Nat} {Ls : Array Slot} {sk : List Value} {EL : List (String × Nat)} {own text : String} {index k0 : Nat}
/-- the base of the Stand at hand: the true start with the tables at hand -/
def Base (s u : State) (k : Nat) : Prop := u = s.setVm u.vm ∧ s.Since u.vm k
theorem Base.start (s : State) (k : Nat) : Base s s k := ⟨rfl, (State.WarmedH.refl s).since k⟩
def EndW (Z : State) (EL : List (String × Nat)) (s : State) (Qf : Option Value → Heap → List Loc → Prop) (C S : Nat) : Outcome → State → Prop := fun o s₂ => ∃ v L, o = .returned v ∧ Qf v s₂.heap L ∧ CHr Z EL s.vm s.heap s₂.vm s₂.heap ∧ ReturnedEndW s o s₂ L C S
theorem Wk.leaveW (X : Stand p l e R u m args below meth c T locs cells slots) (hB : Base s u k0) (hk : k0 ≤ h.size) {v : Option Value} (hv : meth.sig.returnType = none → v = none) (hlocks : meth.locks = false) (eT : T.heap = h) (hh : s.heap = h0) (hQ : Qf v h locs) (hZ : Z.Warmed39 u.vm) (hEL : EW Z a0 EL) (hR : CHr Z EL s.vm h0 u.vm h) (hC : cells ≤ C) (hS : slots ≤ S)
    (k : ∀ fs, (∀ (f : JFrame) (acts : List Action), f.method = m → f.locked = none → f.entered = [] → (doReturn e (T.setTop f) acts v).1 = T.setFrames fs) → Steps p.tables e below (T.setTop g) (T.setFrames fs)) : Wk p e below (EndW Z EL s Qf C S) T g := by
  subst eT hh
  obtain ⟨hu, hSi⟩ := hB
  have X2 : Stand p l e R (s.setVm u.vm) m args below meth c T locs cells slots := hu ▸ X
  obtain ⟨fs, hr, hrun, hended, h1, h2, h3, h4⟩ := X2.leaveW hSi hk hv hlocks
  have q : CHr Z EL s.vm s.heap T.vm T.heap := hR.trans (CHv.at X2 hZ hEL hR.1)
  exact ⟨_, _, k fs hr, hrun, hended, _, _, rfl, hQ, q, h1, h2, h3, h4.mono hC hS⟩
/-- ldc of a constant of EL, read -/
theorem Wk.ldcL (X : Stand p l e R u m args below meth c T locs cells slots) (hx : p.tables.exec = Jvm.exec) (hZ : Z.Warmed39 u.vm) (hown : u.vm.findClass own = some m.cls) (w : (Cond.stringLink own index text).before a0 Z = true) (wS : ∀ a ∈ Bundle.stringAtoms, a.before a0 Z = true)
    (eT : T.heap = h) (hB : Base s u k0) (hk : k0 ≤ h.size) (hEL : EW Z a0 EL) (hmem : (own, index) ∈ EL) (hR : CHr Z EL s.vm h0 u.vm h)
    {vs : List Value} {z : Int32} (ht : (∀ c ∈ text.toList, c.toNat < 256) ∧ text.toList.map (fun c => Value.int (Jvm.Lit.byteI c.toNat.toUInt16)) = vs) (hz : ¬ z < 0) (hl : z.toNatClampNeg = vs.length)
    (hd : decode c.code pc = .ok (.ldc index, 2)) (hp : pc + 2 = n) {nn : Nat} (hn : 4 * text.toList.length ≤ nn) (hbig : nn ≤ 536870912) (hc : cells + 2 ≤ R.cells) (hl' : slots + (nn + 4) ≤ R.slots)
    (kk : ∀ (u' T' : State) (h' : Heap) (a b : Addr) (k : ClassId), Stand p l e R u' m args below meth c T' locs (cells + 2) (slots + (nn + 4)) → T'.heap = h' → Ext h h' → Base s u' h'.size → Z.Warmed39 u'.vm → u'.vm.findClass own = some m.cls →
      Exa Z h' a "java/lang/String" → Fld Z h' a "java/lang/String" "coder" "B" (.int 0) → Fld Z h' a "java/lang/String" "value" "[B" (.ref b) → Arv Z h' b k .byte z vs (.int 0) → CHr Z EL u.vm h u'.vm h' → CHr Z EL s.vm h0 u'.vm h' → (∀ x, Safe Z EL u'.vm h' x → x ≠ a ∧ x ≠ b) → Wk p e below E T' (mkF m n Ls (.ref a :: sk))) :
    Wk p e below E T (mkF m pc Ls sk) := by
  subst hp
  obtain ⟨hu, hSi⟩ := hB
  have X2 : Stand p l e R (s.setVm u.vm) m args below meth c T locs cells slots := hu ▸ X
  obtain ⟨a, T', h', k1, b, k, X', e', Ex, hS', hk', hZ', hf', A, F1, F2, V, -, -, hC, -, hne, st⟩ := ldcCH X2 hx hZ hown w wS eT hSi hk hEL hmem hR.1 ht hz hl (g := mkF m pc Ls sk) rfl hd hn hbig hc hl'
  exact Wk.go st (kk (s.setVm T'.vm) T' h' a b k X' e' Ex ⟨rfl, hS'.1, fun j q h1 h2 => ⟨(hS'.2 j q h1 h2).1, Nat.lt_of_lt_of_le (hS'.2 j q h1 h2).2 hk'⟩⟩ hZ' hf' A F1 F2 V hC (hR.trans hC) hne)
/-- a callee that may load constants and keeps the invariant; what it may write is safe -/
theorem backWd {y : MethodName} {bytes : ByteArray} {maxL : Nat} {ret : Option FieldType} {rm : Room} {len W : Nat} {as' : Array Value} {Q : Option Value → Heap → List Loc → Prop} {ss : List Addr}
    (hM : MetFree l y (head1 [Cond.code y bytes maxL ret] rm) (fun a U => a = as' ∧ Z.Warmed39 U.vm ∧ U.heap = h ∧ CHv Z EL U.vm h ∧ ∀ x ∈ ss, Safe Z EL U.vm h x) (fun _ _ _ _ _ => True) (fun _ U o U' => ∃ v L, o = .returned v ∧ Q v U'.heap L ∧ CHr Z EL U.vm U.heap U'.vm U'.heap ∧ ReturnedEndW U o U' L rm.cells rm.slots))
    (hZ : Z.Warmed39 u.vm) (wc : (Cond.code y bytes maxL ret).before a0 Z = true) (wz : (Cond.initialized y.cls).before a0 Z = true) (hf : rm.frames + 1 ≤ R.frames) (hl : W + (maxL + 11) + rm.locals ≤ R.locals) (hEL : EW Z a0 EL) (H : CHv Z EL u.vm h) (hlt : ∀ x ∈ ss, x < h.size) (hs : ∀ x ∈ ss, Safe Z EL u.vm h x) :
    BackS l R p e below u args y len W (fun A a => a = as' ∧ A.U.heap = h ∧ A.cells + rm.cells ≤ R.cells ∧ A.slots + rm.slots ≤ R.slots)
      (fun A _ v B => ∃ L, Q v B.U.heap L ∧ B.locs = A.locs ++ L ∧ B.cells = A.cells + rm.cells ∧ B.slots = A.slots + rm.slots ∧ CHr Z EL u.vm h B.U.vm B.U.heap) :=
  BackS.of_freeW (bytes := bytes) (maxL := maxL) (ret := ret) (E := fun _ first o t L k n => k = rm.cells ∧ n = rm.slots ∧ (∃ v, o = .returned v ∧ Q v t.heap L) ∧ CHr Z EL first.vm first.heap t.vm t.heap) hM hf hl
    (fun m meth c A a Y hp => have hU : Z.Warmed39 A.U.vm := wtrans hZ Y.warmed
      ⟨by show (Cond.and _ .tt).before a A.U = true; rw [Cond.before_and, mv hU wc]; rfl, mv hU wc, mv hU wz, hp.2.2.1, hp.2.2.2⟩)
    (fun m meth c A a g mk Y hp => have q := CHv.at (s := u) (vm0 := u.vm) Y hZ hEL H
      ⟨hp.1, wtrans hZ Y.warmed, hp.2.1, q.1, fun x hx => q.safe (hlt x hx) (hs x hx)⟩) (fun _ _ _ _ _ _ _ _ _ => trivial)
    (fun _ _ _ _ ⟨v, L, h1, h2, h3, h4⟩ => ⟨L, _, _, h4, rfl, rfl, ⟨v, h1, h2⟩, h3⟩)
    (fun m meth c A a g mk v t L k n Y hp _ _ ⟨e1, e2, ⟨v', e3, e4⟩, e5⟩ => by
      cases e3; subst e1 e2
      refine ⟨L, e4, rfl, rfl, rfl, (CHv.at (s := u) (vm0 := u.vm) Y hZ hEL H).trans ?_⟩
      rw [← hp.2.1]; exact e5)
theorem Wk.backW {rc rs : Nat} {Q : Option Value → Heap → List Loc → Prop} {rest : List Value} (eT : T.heap = h) (hB : Base s u k0) (hk : k0 ≤ h.size) (hZ : Z.Warmed39 u.vm) (hown : u.vm.findClass own = some m.cls) (hR : CHr Z EL s.vm h0 u.vm h)
    (call : ∃ (v : Option Value) (vm₁ : Vm) (B : Pt), u.WarmedH vm₁ ∧ Stand p l e R (u.setVm B.U.vm) m args below meth c B.U B.locs B.cells B.slots ∧ u.Since B.U.vm B.U.heap.size ∧ T.heap.size ≤ B.U.heap.size ∧ (∃ L, Q v B.U.heap L ∧ B.locs = locs ++ L ∧ B.cells = cells + rc ∧ B.slots = slots + rs ∧ CHr Z EL u.vm h B.U.vm B.U.heap) ∧ Steps p.tables e below (T.setTop (mkF m pc Ls sk)) (B.U.setTop (mkF m n Ls (v.toList ++ rest))))
    (kk : ∀ (v : Option Value) (u' T' : State) (L : List Loc), Stand p l e R u' m args below meth c T' (locs ++ L) (cells + rc) (slots + rs) → Base s u' T'.heap.size → Z.Warmed39 u'.vm → u'.vm.findClass own = some m.cls → CHr Z EL u.vm h u'.vm T'.heap → CHr Z EL s.vm h0 u'.vm T'.heap → Q v T'.heap L → Wk p e below E T' (mkF m n Ls (v.toList ++ rest))) :
    Wk p e below E T (mkF m pc Ls sk) := by
  obtain ⟨v, _, ⟨T', L', c', s'⟩, -, X', h2, hg, ⟨L, hQ, q1, q2, q3, hA⟩, k⟩ := call
  dsimp only [Pt.U, Pt.locs, Pt.cells, Pt.slots] at X' h2 hg q1 q2 q3 k hQ hA
  subst q1 q2 q3 eT
  obtain ⟨hu, hSi⟩ := hB
  have X2 : Stand p l e R ((s.setVm u.vm).setVm T'.vm) m args below meth c T' (locs ++ L) (cells + rc) (slots + rs) := hu ▸ X'
  have h3 : (s.setVm u.vm).Since T'.vm T'.heap.size := hu ▸ h2
  obtain ⟨X3, hS3, hZ3, ho3⟩ := rebS hSi hk X2 h3 hg (Z := Z) (own := own) hZ hown
  exact Wk.go (fun _ r => k.trans r) (kk v (s.setVm T'.vm) T' L X3 ⟨rfl, hS3⟩ hZ3 ho3 hA (hR.trans hA) hQ)
end OwnWide
end Jvm.RoadKit
/- laws to paste: Road.backV, Road.lenW, Road.chN, Road.codOf (cut by pick.py; bodies as the Statement names them) -/
namespace Jvm.Pilot.@@N@@
namespace StrChars
open Jvm Sem ClassFile Op Lib Jvm.Stand Jvm.Free.XT Jvm.Free.ALB Jvm.Free.JM Jvm.Free
open Jvm.Lib.Cold (StaticIs)
/-- a char array whose places are chars -/
def Ch (a : Addr) (A : Cell) (U : State) : Prop := Arr .char a A U ∧ Typed .char A
theorem Ch.mv {a : Addr} {A : Cell} {U U' : State} (h : Ch a A U) (hal : U.vm.Alike U'.vm) (hh : U'.heap = U.heap) : Ch a A U' := ⟨h.1.mv hal hh, h.2⟩
theorem Ch.keep {a : Addr} {A : Cell} {U U' : State} (h : Ch a A U) (hal : U.vm.Alike U'.vm) (hk : U'.heap[a]? = some A) : Ch a A U' := ⟨h.1.keep hal hk, h.2⟩
/-- what place i of a char[]'s cell holds -/
def cv (A : Cell) (i : Nat) : Int32 := match A.slots[i]? with | some (.int x) => x | _ => 0
theorem Ch.get {a : Addr} {A : Cell} {U : State} (h : Ch a A U) {i : Nat} (hi : i < A.slots.size) : A.slots[i]? = some (.int (cv A i)) := by
  have e := Array.getElem?_eq_getElem hi
  have f := h.2 i _ e
  unfold cv; rw [e]
  generalize A.slots[i] = v at f
  cases v <;> simp [fits] at f ⊢
/-- the byte that i2b leaves of a char -/
def lo8 (x : Int32) : Int32 := x.toInt8.toInt32
theorem fits_lo8 (y : Int32) : fits .byte (.int (lo8 y)) = true := by
  have h1 := y.toInt8.le_toInt
  have h2 := y.toInt8.toInt_lt
  simp only [lo8, fits, Bool.and_eq_true, decide_eq_true_eq, Int32.le_iff_toInt_le, Int8.toInt_toInt32, show (-128 : Int32).toInt = -128 from by decide, show (127 : Int32).toInt = 127 from by decide]
  omega
/-- A' is A but that each place j of lo .. hi - 1 holds f j -/
def Laid (A A' : Cell) (lo hi : Nat) (f : Nat → Value) : Prop := A'.cls = A.cls ∧ A'.vm = A.vm ∧ A'.slots.size = A.slots.size ∧ ∀ i, A'.slots[i]? = if lo ≤ i ∧ i < hi then some (f i) else A.slots[i]?
theorem Laid.zero (A : Cell) (lo : Nat) (f : Nat → Value) : Laid A A lo (lo + 0) f := ⟨rfl, rfl, rfl, fun i => by rw [if_neg (by omega)]⟩
theorem Laid.step {A Ak : Cell} {lo k : Nat} {f : Nat → Value} {v : Value} (h : Laid A Ak lo k f) (hlo : lo ≤ k) (hk : k < Ak.slots.size) (hv : v = f k) : Laid A (Ak.setSlot k v) lo (k + 1) f := by
  refine ⟨h.1, h.2.1, by simpa [Cell.setSlot] using h.2.2.1, fun i => ?_⟩
  by_cases e : k = i
  · subst e; rw [Cell.slots_setSlot_self v hk, if_pos (by omega), hv]
  · rw [Cell.slots_setSlot_ne v e, h.2.2.2 i]
    by_cases q : lo ≤ i ∧ i < k
    · rw [if_pos q, if_pos (by omega)]
    · rw [if_neg q, if_neg (by omega)]
def U16 : String := "java/lang/StringUTF16"
namespace Cmp5
def yN : MethodName := ⟨"java/lang/StringUTF16", "compress", "([CI[BII)I"⟩
abbrev yB : ByteArray := jdk_52_method_21_code
theorem d0 : decode yB 0 = .ok (.iconst 0, 1) := by decide +kernel
theorem d1 : decode yB 1 = .ok (.istore 5, 2) := by decide +kernel
theorem d3 : decode yB 3 = .ok (.iload 5, 2) := by decide +kernel
theorem d5 : decode yB 5 = .ok (.iload 4, 2) := by decide +kernel
theorem d7 : decode yB 7 = .ok (.if_icmp (.ge) 37, 3) := by decide +kernel
theorem d10 : decode yB 10 = .ok (.aload_n 0, 1) := by decide +kernel
theorem d11 : decode yB 11 = .ok (.iload_n 1, 1) := by decide +kernel
theorem d12 : decode yB 12 = .ok (.caload, 1) := by decide +kernel
theorem d13 : decode yB 13 = .ok (.istore 6, 2) := by decide +kernel
theorem d15 : decode yB 15 = .ok (.iload 6, 2) := by decide +kernel
theorem d17 : decode yB 17 = .ok (.sipush 255, 3) := by decide +kernel
theorem d20 : decode yB 20 = .ok (.if_icmp (.le) 6, 3) := by decide +kernel
theorem d26 : decode yB 26 = .ok (.aload_n 2, 1) := by decide +kernel
theorem d27 : decode yB 27 = .ok (.iload_n 3, 1) := by decide +kernel
theorem d28 : decode yB 28 = .ok (.iload 6, 2) := by decide +kernel
theorem d30 : decode yB 30 = .ok (.i2b, 1) := by decide +kernel
theorem d31 : decode yB 31 = .ok (.bastore, 1) := by decide +kernel
theorem d32 : decode yB 32 = .ok (.iinc 1 1, 3) := by decide +kernel
theorem d35 : decode yB 35 = .ok (.iinc 3 1, 3) := by decide +kernel
theorem d38 : decode yB 38 = .ok (.iinc 5 1, 3) := by decide +kernel
theorem d41 : decode yB 41 = .ok (.goto (-38), 3) := by decide +kernel
theorem d44 : decode yB 44 = .ok (.iload 4, 2) := by decide +kernel
theorem d46 : decode yB 46 = .ok (.ireturn, 1) := by decide +kernel
def site : List Cond := []
def tab : Cond := tabOf yN yB 7 (some .int) site
def P (b : Addr) (A : Cell) (d : Addr) (B : Cell) (o q len : Nat) (args : Array Value) (s : State) : Prop := args = #[.ref b, .int (Int32.ofNat o), .ref d, .int (Int32.ofNat q), .int (Int32.ofNat len)] ∧ Ch b A s ∧ Arr .byte d B s ∧ b ≠ d ∧ o + len ≤ A.slots.size ∧ q + len ≤ B.slots.size ∧ ∀ i, i < len → ¬ 255 < cv A (o + i)
def E (b : Addr) (A : Cell) (d : Addr) (B : Cell) (o q len : Nat) (r : Option Value) (s u : State) : Prop := r = some (.int (Int32.ofNat len)) ∧ ∃ B', Put d B' s u ∧ Laid B B' q (q + len) (fun j => Value.int (lo8 (cv A (o + (j - q)))))
/-- no char of the range above 255: len; the places written hold each char's low byte -/
theorem law (l : Launch) (b : Addr) (A : Cell) (d : Addr) (B : Cell) (o q len : Nat) : Law l yN 5 5 0 0 yB 7 (some .int) site (P b A d B o q len) (E b A d B o q len) (copyLocs d q len) 0 0 := by
  refine Law.of_walk (plainFor_of_name (by decide +kernel)) (by decide +kernel) (by decide +kernel) (by decide) (fun _ _ h => by rw [h.1]; rfl) (fun _ U U' hal hh h => ⟨h.1, h.2.1.mv hal hh, h.2.2.1.mv hal hh, h.2.2.2⟩) (fun r U U' V V' h1 hal h2 h => ⟨h.1, h.2.elim fun B' q => ⟨B', q.1.mv h1 h2, q.2⟩⟩) ?_
  intro p e s m args below meth c s₁ X0 hexec hbytes hml hret hlk hnm hown hh0 W hP
  obtain ⟨rfl, hA, hB, hne, l1, l2, hp⟩ := hP
  have c1 : Steps p.tables e below (s₁.setTop (entryFrame m #[.ref b, .int (Int32.ofNat o), .ref d, .int (Int32.ofNat q), .int (Int32.ofNat len)] 7)) (s₁.setTop (mkF m 0 #[.val (.ref b), .val (.int (Int32.ofNat o)), .val (.ref d), .val (.int (Int32.ofNat q)), .val (.int (Int32.ofNat len)), .unset, .unset] [])) := entry rfl
  have hA0 := hA.1.mv X0.warmed.alike hh0
  have hB0 := hB.mv X0.warmed.alike hh0
  have a31 := hA.1.2.2.2
  have c2 : Steps p.tables e below (s₁.setTop (entryFrame m #[.ref b, .int (Int32.ofNat o), .ref d, .int (Int32.ofNat q), .int (Int32.ofNat len)] 7)) (s₁.setTop (mkF m 3 #[.val (.ref b), .val (.int (Int32.ofNat o)), .val (.ref d), .val (.int (Int32.ofNat q)), .val (.int (Int32.ofNat len)), .val (.int 0), .unset] [])) := c1.trans (by
    refine iconstV X0.here hexec rfl 0 (hb hbytes d0) (by decide) ?_
    refine XS.istore X0.here hexec rfl (hb hbytes d1) rfl rfl ?_
    exact Steps.refl _)
  have loop : ∀ (r i : Nat), i + r = len → ∀ (z : Slot), (z = .unset ∨ ∃ w, z = .val w ∧ w.category = 1) → ∀ (Tl : State) (Bk : Cell), Stand p l e { frames := 0, locals := 0, cells := 0, slots := 0 } s m #[.ref b, .int (Int32.ofNat o), .ref d, .int (Int32.ofNat q), .int (Int32.ofNat len)] below meth c Tl ([] ++ copyLocs d q i) 0 0 → Put d Bk s₁ Tl → Laid B Bk q (q + i) (fun j => Value.int (lo8 (cv A (o + (j - q))))) →
      Steps p.tables e below (s₁.setTop (entryFrame m #[.ref b, .int (Int32.ofNat o), .ref d, .int (Int32.ofNat q), .int (Int32.ofNat len)] 7)) (Tl.setTop (mkF m 3 #[.val (.ref b), .val (.int (Int32.ofNat (o + i))), .val (.ref d), .val (.int (Int32.ofNat (q + i))), .val (.int (Int32.ofNat len)), .val (.int (Int32.ofNat i)), z] [])) → ∃ (T' : State) (B' : Cell) (z' : Slot), Stand p l e { frames := 0, locals := 0, cells := 0, slots := 0 } s m #[.ref b, .int (Int32.ofNat o), .ref d, .int (Int32.ofNat q), .int (Int32.ofNat len)] below meth c T' ([] ++ copyLocs d q len) 0 0 ∧ Put d B' s₁ T' ∧ Laid B B' q (q + len) (fun j => Value.int (lo8 (cv A (o + (j - q))))) ∧
      Steps p.tables e below (s₁.setTop (entryFrame m #[.ref b, .int (Int32.ofNat o), .ref d, .int (Int32.ofNat q), .int (Int32.ofNat len)] 7)) (T'.setTop (mkF m 3 #[.val (.ref b), .val (.int (Int32.ofNat (o + len))), .val (.ref d), .val (.int (Int32.ofNat (q + len))), .val (.int (Int32.ofNat len)), .val (.int (Int32.ofNat len)), z'] [])) := by
    intro r
    induction r with
    | zero =>
      intro i hi z hz Tl Bk Xl pl fl cl
      have hil : i = len := by omega
      rw [hil] at Xl fl cl
      exact ⟨Tl, Bk, z, Xl, pl, fl, cl⟩
    | succ r ih =>
      intro i hi z hz Tl Bk Xl pl fl cl
      have all := X0.warmed.alike.symm.trans Xl.warmed.alike
      have hAl := hA0.keep all (pl.other hne hA0.1)
      have hBk := hB0.like all pl.1 fl.1 fl.2.1 fl.2.2.1
      have hlt : q + i < Bk.slots.size := by rw [fl.2.2.1]; omega
      have c3 : Steps p.tables e below (s₁.setTop (entryFrame m #[.ref b, .int (Int32.ofNat o), .ref d, .int (Int32.ofNat q), .int (Int32.ofNat len)] 7)) (Tl.setTop (mkF m 12 #[.val (.ref b), .val (.int (Int32.ofNat (o + i))), .val (.ref d), .val (.int (Int32.ofNat (q + i))), .val (.int (Int32.ofNat len)), .val (.int (Int32.ofNat i)), z] [.int (Int32.ofNat (o + i)), .ref b])) := cl.trans (by
        refine XS.iload Xl.here hexec rfl (hb hbytes d3) rfl ?_
        refine XS.iload Xl.here hexec rfl (hb hbytes d5) rfl ?_
        refine XS.icmpNo Xl.here hexec rfl (hb hbytes d7) rfl (ii_ge_f (lt32 (by omega) (by omega))) ?_
        refine XS.aloadN Xl.here hexec rfl (hb hbytes d10) rfl rfl ?_
        refine XS.iloadN Xl.here hexec rfl (hb hbytes d11) rfl ?_
        exact Steps.refl _)
      have c4 : Steps p.tables e below (s₁.setTop (entryFrame m #[.ref b, .int (Int32.ofNat o), .ref d, .int (Int32.ofNat q), .int (Int32.ofNat len)] 7)) (Tl.setTop (mkF m 13 #[.val (.ref b), .val (.int (Int32.ofNat (o + i))), .val (.ref d), .val (.int (Int32.ofNat (q + i))), .val (.int (Int32.ofNat len)), .val (.int (Int32.ofNat i)), z] [.int (cv A (o + i))])) := c3.trans (by
        refine Xl.aget hexec hAl rfl (hA.get (i := o + i) (by omega)) rfl rfl (hb hbytes d12) ?_
        exact Steps.refl _)
      have c5 : Steps p.tables e below (s₁.setTop (entryFrame m #[.ref b, .int (Int32.ofNat o), .ref d, .int (Int32.ofNat q), .int (Int32.ofNat len)] 7)) (Tl.setTop (mkF m 15 #[.val (.ref b), .val (.int (Int32.ofNat (o + i))), .val (.ref d), .val (.int (Int32.ofNat (q + i))), .val (.int (Int32.ofNat len)), .val (.int (Int32.ofNat i)), .val (.int (cv A (o + i)))] [])) := c4.trans (by
        refine XS.istoreS Xl.here hexec rfl (hb hbytes d13) rfl rfl hz ?_
        exact Steps.refl _)
      have c6 : Steps p.tables e below (s₁.setTop (entryFrame m #[.ref b, .int (Int32.ofNat o), .ref d, .int (Int32.ofNat q), .int (Int32.ofNat len)] 7)) (Tl.setTop (mkF m 31 #[.val (.ref b), .val (.int (Int32.ofNat (o + i))), .val (.ref d), .val (.int (Int32.ofNat (q + i))), .val (.int (Int32.ofNat len)), .val (.int (Int32.ofNat i)), .val (.int (cv A (o + i)))] [.int (lo8 (cv A (o + i))), .int (Int32.ofNat (q + i)), .ref d])) := c5.trans (by
        refine XS.iload Xl.here hexec rfl (hb hbytes d15) rfl ?_
        refine sipushV Xl.here hexec rfl 255 (hb hbytes d17) (by decide) ?_
        refine XS.icmpYes Xl.here hexec rfl (pc0 := 20) rfl (hb hbytes d20) rfl (ii_le_t (hp i (by omega))) (by decide) rfl ?_
        refine XS.aloadN Xl.here hexec rfl (hb hbytes d26) rfl rfl ?_
        refine XS.iloadN Xl.here hexec rfl (hb hbytes d27) rfl ?_
        refine XS.iload Xl.here hexec rfl (hb hbytes d28) rfl ?_
        refine i2b Xl.here hexec rfl (hb hbytes d30) rfl ?_
        exact Steps.refl _)
      obtain ⟨T7, X7, p7, st7⟩ := Xl.aput hexec hBk rfl hlt rfl (fits_lo8 (cv A (o + i))) (g := (mkF m 31 #[.val (.ref b), .val (.int (Int32.ofNat (o + i))), .val (.ref d), .val (.int (Int32.ofNat (q + i))), .val (.int (Int32.ofNat len)), .val (.int (Int32.ofNat i)), .val (.int (cv A (o + i)))] [.int (lo8 (cv A (o + i))), .int (Int32.ofNat (q + i)), .ref d])) rfl (rest := []) rfl (hb hbytes d31)
      have c8 : Steps p.tables e below (s₁.setTop (entryFrame m #[.ref b, .int (Int32.ofNat o), .ref d, .int (Int32.ofNat q), .int (Int32.ofNat len)] 7)) (T7.setTop (mkF m 32 #[.val (.ref b), .val (.int (Int32.ofNat (o + i))), .val (.ref d), .val (.int (Int32.ofNat (q + i))), .val (.int (Int32.ofNat len)), .val (.int (Int32.ofNat i)), .val (.int (cv A (o + i)))] [])) := c6.trans (st7 _ (Steps.refl _))
      have c9 : Steps p.tables e below (s₁.setTop (entryFrame m #[.ref b, .int (Int32.ofNat o), .ref d, .int (Int32.ofNat q), .int (Int32.ofNat len)] 7)) (T7.setTop (mkF m 3 #[.val (.ref b), .val (.int (Int32.ofNat (o + i) + 1)), .val (.ref d), .val (.int (Int32.ofNat (q + i) + 1)), .val (.int (Int32.ofNat len)), .val (.int (Int32.ofNat i + 1)), .val (.int (cv A (o + i)))] [])) := c8.trans (by
        refine iincV X7.here hexec rfl 1 (hb hbytes d32) (by decide) rfl rfl ?_
        refine iincV X7.here hexec rfl 1 (hb hbytes d35) (by decide) rfl rfl ?_
        refine iincV X7.here hexec rfl 1 (hb hbytes d38) (by decide) rfl rfl ?_
        refine XS.goto X7.here hexec rfl (pc0 := 41) rfl (hb hbytes d41) (by decide) rfl ?_
        exact Steps.refl _)
      have c10 : Steps p.tables e below (s₁.setTop (entryFrame m #[.ref b, .int (Int32.ofNat o), .ref d, .int (Int32.ofNat q), .int (Int32.ofNat len)] 7)) (T7.setTop (mkF m 3 #[.val (.ref b), .val (.int (Int32.ofNat (o + (i + 1)))), .val (.ref d), .val (.int (Int32.ofNat (q + (i + 1)))), .val (.int (Int32.ofNat len)), .val (.int (Int32.ofNat (i + 1))), .val (.int (cv A (o + i)))] [])) := by
        have := c9
        rw [succ32, succ32, succ32] at this
        exact this
      exact ih (i + 1) (by omega) _ (Or.inr ⟨_, rfl, rfl⟩) T7 _ (by rw [copyLocs_step, ← List.append_assoc]; exact X7) (pl.trans p7) (fl.step (by omega) hlt (by simp)) c10
  obtain ⟨T9, B9, z9, X9, p9, f9, g9⟩ := loop len 0 (by omega) .unset (Or.inl rfl) s₁ B (by simpa [copyLocs] using X0) ⟨hB0.1, fun _ _ => rfl, rfl⟩ (Laid.zero _ _ _) c2
  have c11 : Steps p.tables e below (s₁.setTop (entryFrame m #[.ref b, .int (Int32.ofNat o), .ref d, .int (Int32.ofNat q), .int (Int32.ofNat len)] 7)) (T9.setTop (mkF m 46 #[.val (.ref b), .val (.int (Int32.ofNat (o + len))), .val (.ref d), .val (.int (Int32.ofNat (q + len))), .val (.int (Int32.ofNat len)), .val (.int (Int32.ofNat len)), z9] [.int (Int32.ofNat len)])) := g9.trans (by
    refine XS.iload X9.here hexec rfl (hb hbytes d3) rfl ?_
    refine XS.iload X9.here hexec rfl (hb hbytes d5) rfl ?_
    refine XS.icmpYes X9.here hexec rfl (pc0 := 7) rfl (hb hbytes d7) rfl (ii_ge_t (nlt32 (by omega) (Nat.le_refl _))) (by decide) rfl ?_
    refine XS.iload X9.here hexec rfl (hb hbytes d44) rfl ?_
    exact Steps.refl _)
  exact ⟨T9, some (.int (Int32.ofNat len)), _, _, _, X9, by simp, rfl, rfl, (fun h => by cases h), ⟨rfl, B9, p9.from hh0, f9⟩, fun fs hl => c11.trans (X9.ireturnOut hexec hret rfl (Or.inl rfl) (hb hbytes d46) hl)⟩
end Cmp5
namespace Cmp3
def yN : MethodName := ⟨"java/lang/StringUTF16", "compress", "([CII)[B"⟩
abbrev yB : ByteArray := jdk_52_method_16_code
theorem d0 : decode yB 0 = .ok (.iload_n 2, 1) := by decide +kernel
theorem d1 : decode yB 1 = .ok (.newarray .byte, 2) := by decide +kernel
theorem d3 : decode yB 3 = .ok (.astore_n 3, 1) := by decide +kernel
theorem d4 : decode yB 4 = .ok (.aload_n 0, 1) := by decide +kernel
theorem d5 : decode yB 5 = .ok (.iload_n 1, 1) := by decide +kernel
theorem d6 : decode yB 6 = .ok (.aload_n 3, 1) := by decide +kernel
theorem d7 : decode yB 7 = .ok (.iconst 0, 1) := by decide +kernel
theorem d8 : decode yB 8 = .ok (.iload_n 2, 1) := by decide +kernel
theorem d9 : decode yB 9 = .ok (.invokestatic 115, 3) := by decide +kernel
theorem d12 : decode yB 12 = .ok (.istore 4, 2) := by decide +kernel
theorem d14 : decode yB 14 = .ok (.iload 4, 2) := by decide +kernel
theorem d16 : decode yB 16 = .ok (.iload_n 2, 1) := by decide +kernel
theorem d17 : decode yB 17 = .ok (.if_icmp (.eq) 40, 3) := by decide +kernel
theorem d57 : decode yB 57 = .ok (.aload_n 3, 1) := by decide +kernel
theorem d58 : decode yB 58 = .ok (.areturn, 1) := by decide +kernel
def site : List Cond := [.arrayClass .byte, Cmp5.tab] ++ staticW U16 115 Cmp5.yN
def tab : Cond := tabOf yN yB 6 (some (.array .byte)) site
def P (b : Addr) (A : Cell) (o len : Nat) (args : Array Value) (s : State) : Prop := args = #[.ref b, .int (Int32.ofNat o), .int (Int32.ofNat len)] ∧ Ch b A s ∧ o + len ≤ A.slots.size ∧ len ≤ 536870912 ∧ ∀ i, i < len → ¬ 255 < cv A (o + i)
def E (b : Addr) (A : Cell) (o len : Nat) (r : Option Value) (s u : State) : Prop := NewArr .byte "[B" len (fun j => .int (lo8 (cv A (o + j)))) r s u ∧ u.heap.size = s.heap.size + 1
/-- no char of the range above 255: a new byte[] of their low bytes -/
theorem law (l : Launch) (b : Addr) (A : Cell) (o len : Nat) : Law l yN 3 3 1 18 yB 6 (some (.array .byte)) site (P b A o len) (E b A o len) [] 1 len := by
  refine Law.of_walk (plainFor_of_name (by decide +kernel)) (by decide +kernel) (by decide +kernel) (by decide) (fun _ _ h => by rw [h.1]; rfl) (fun _ U U' hal hh h => ⟨h.1, h.2.1.mv hal hh, h.2.2⟩) (fun r U U' V V' h1 hal h2 h => ⟨NewArr.mv r U U' V V' h1 hal h2 h.1, by rw [h1, h2]; exact h.2⟩) ?_
  intro p e s m args below meth c s₁ X0 hexec hbytes hml hret hlk hnm hown hh0 W hP
  obtain ⟨rfl, hA, l1, l2, hp⟩ := hP
  have a31 := hA.1.2.2.2
  have c1 : Steps p.tables e below (s₁.setTop (entryFrame m #[.ref b, .int (Int32.ofNat o), .int (Int32.ofNat len)] 6)) (s₁.setTop (mkF m 0 #[.val (.ref b), .val (.int (Int32.ofNat o)), .val (.int (Int32.ofNat len)), .unset, .unset, .unset] [])) := entry rfl
  have c2 : Steps p.tables e below (s₁.setTop (entryFrame m #[.ref b, .int (Int32.ofNat o), .int (Int32.ofNat len)] 6)) (s₁.setTop (mkF m 1 #[.val (.ref b), .val (.int (Int32.ofNat o)), .val (.int (Int32.ofNat len)), .unset, .unset, .unset] [.int (Int32.ofNat len)])) := c1.trans (by
    refine XS.iloadN X0.here hexec rfl (hb hbytes d0) rfl ?_
    exact Steps.refl _)
  obtain ⟨T3, B3, X3, ba3, bs3, bv3, bh3, bf3, st3⟩ := X0.anew hexec (atype := .byte) (wk W (.arrayClass .byte)) rfl (by show len * 1 ≤ _; omega) (by omega) (g := (mkF m 1 #[.val (.ref b), .val (.int (Int32.ofNat o)), .val (.int (Int32.ofNat len)), .unset, .unset, .unset] [.int (Int32.ofNat len)])) rfl (hb hbytes d1) (rest := []) rfl (Nat.le_refl _) (by show 0 + len ≤ len; omega)
  rw [hh0] at ba3 st3
  have kp3 : XT.Kept s T3 := (XT.Kept.of_eq hh0).push bh3
  have hA3 := hA.keep X3.warmed.alike (kp3 _ _ hA.1.1)
  have hne : b ≠ s.heap.size := hA.1.ne
  have c4 : Steps p.tables e below (s₁.setTop (entryFrame m #[.ref b, .int (Int32.ofNat o), .int (Int32.ofNat len)] 6)) (T3.setTop (mkF m 3 #[.val (.ref b), .val (.int (Int32.ofNat o)), .val (.int (Int32.ofNat len)), .unset, .unset, .unset] [.ref s.heap.size])) := c2.trans (st3 _ (Steps.refl _))
  have c5 : Steps p.tables e below (s₁.setTop (entryFrame m #[.ref b, .int (Int32.ofNat o), .int (Int32.ofNat len)] 6)) (T3.setTop (mkF m 9 #[.val (.ref b), .val (.int (Int32.ofNat o)), .val (.int (Int32.ofNat len)), .val (.ref s.heap.size), .unset, .unset] [.int (Int32.ofNat len), .int 0, .ref s.heap.size, .int (Int32.ofNat o), .ref b])) := c4.trans (by
    refine XS.astoreN X3.here hexec rfl (hb hbytes d3) rfl rfl rfl ?_
    refine XS.aloadN X3.here hexec rfl (hb hbytes d4) rfl rfl ?_
    refine XS.iloadN X3.here hexec rfl (hb hbytes d5) rfl ?_
    refine XS.aloadN X3.here hexec rfl (hb hbytes d6) rfl rfl ?_
    refine iconstV X3.here hexec rfl 0 (hb hbytes d7) (by decide) ?_
    refine XS.iloadN X3.here hexec rfl (hb hbytes d8) rfl ?_
    exact Steps.refl _)
  obtain ⟨v6, T6, X6, E6, g6⟩ := X3.callS hexec (Cmp5.law l b A s.heap.size B3 o 0 len) hown (wks W (staticW U16 115 Cmp5.yN)) (wk W Cmp5.tab) (W := 0) (Nat.le_of_ble_eq_true rfl) (Nat.le_of_ble_eq_true rfl) (Nat.le_refl _) (by show 0 + len + 0 ≤ len; omega) (g := (mkF m 9 #[.val (.ref b), .val (.int (Int32.ofNat o)), .val (.int (Int32.ofNat len)), .val (.ref s.heap.size), .unset, .unset] [.int (Int32.ofNat len), .int (Int32.ofNat 0), .ref s.heap.size, .int (Int32.ofNat o), .ref b])) rfl (by rw [hml]; rfl) c5 (argsL := [.ref b, .int (Int32.ofNat o), .ref s.heap.size, .int (Int32.ofNat 0), .int (Int32.ofNat len)]) (rest := []) rfl rfl (by show 2 * 0 + 0 ≤ _; decide) (hb hbytes d9) (⟨rfl, hA3, ba3, hne, l1, by rw [bs3]; simp, hp⟩)
  obtain ⟨rfl, B6, p6, f6⟩ := E6
  have c7 : Steps p.tables e below (s₁.setTop (entryFrame m #[.ref b, .int (Int32.ofNat o), .int (Int32.ofNat len)] 6)) (T6.setTop (mkF m 12 #[.val (.ref b), .val (.int (Int32.ofNat o)), .val (.int (Int32.ofNat len)), .val (.ref s.heap.size), .unset, .unset] [.int (Int32.ofNat len)])) := g6
  have c8 : Steps p.tables e below (s₁.setTop (entryFrame m #[.ref b, .int (Int32.ofNat o), .int (Int32.ofNat len)] 6)) (T6.setTop (mkF m 58 #[.val (.ref b), .val (.int (Int32.ofNat o)), .val (.int (Int32.ofNat len)), .val (.ref s.heap.size), .val (.int (Int32.ofNat len)), .unset] [.ref s.heap.size])) := c7.trans (by
    refine XS.istore X6.here hexec rfl (hb hbytes d12) rfl rfl ?_
    refine XS.iload X6.here hexec rfl (hb hbytes d14) rfl ?_
    refine XS.iloadN X6.here hexec rfl (hb hbytes d16) rfl ?_
    refine XS.icmpYes X6.here hexec rfl (pc0 := 17) rfl (hb hbytes d17) rfl (ii_eq_t rfl) (by decide) rfl ?_
    refine XS.aloadN X6.here hexec rfl (hb hbytes d57) rfl rfl ?_
    exact Steps.refl _)
  have X8 := X6.wide (L' := []) (cells' := 1) (slots' := len) (fun x hx hlt => by
    simp only [List.nil_append, copyLocs, List.mem_map, List.mem_range] at hx
    obtain ⟨i, -, rfl⟩ := hx
    exact absurd hlt (Nat.lt_irrefl _)) (Nat.le_refl _) (by omega)
  exact ⟨T6, some (.ref s.heap.size), _, _, _, X8, rfl, rfl, rfl, (fun h => by cases h), ⟨⟨rfl, B6, ba3.like (X3.warmed.alike.symm.trans X6.warmed.alike) p6.1 f6.1 f6.2.1 f6.2.2.1, f6.2.1.trans bv3, by rw [X6.warmed.alike.findClass, f6.1]; exact bf3, by rw [f6.2.2.1, bs3]; simp, fun j hj => by rw [f6.2.2.2 j, if_pos (by omega)]; rfl, kp3.put p6 (Nat.le_refl _)⟩, by rw [p6.2.2, bh3, hh0]; simp⟩, fun fs hl => c8.trans (X8.areturnOut hexec rfl hret rfl (hb hbytes d58) hl)⟩
end Cmp3
namespace CodL
def yN : MethodName := ⟨"java/lang/StringUTF16", "coderFromArrayLen", "([BI)B"⟩
abbrev yB : ByteArray := jdk_52_method_15_code
theorem d0 : decode yB 0 = .ok (.iload_n 1, 1) := by decide +kernel
theorem d1 : decode yB 1 = .ok (.aload_n 0, 1) := by decide +kernel
theorem d2 : decode yB 2 = .ok (.arraylength, 1) := by decide +kernel
theorem d3 : decode yB 3 = .ok (.isub, 1) := by decide +kernel
theorem d4 : decode yB 4 = .ok (.bipush 31, 2) := by decide +kernel
theorem d6 : decode yB 6 = .ok (.iushr, 1) := by decide +kernel
theorem d7 : decode yB 7 = .ok (.i2b, 1) := by decide +kernel
theorem d8 : decode yB 8 = .ok (.ireturn, 1) := by decide +kernel
def site : List Cond := []
def tab : Cond := tabOf yN yB 2 (some .byte) site
def P (d : Addr) (B : Cell) (args : Array Value) (s : State) : Prop := args = #[.ref d, .int (Int32.ofNat B.slots.size)] ∧ Arr .byte d B s
def E (r : Option Value) (s u : State) : Prop := XT.PureE (some (.int 0)) r s u
/-- an array as long as the number of chars: LATIN1 -/
theorem law (l : Launch) (d : Addr) (B : Cell) : Law l yN 2 2 0 0 yB 2 (some .byte) site (P d B) E [] 0 0 := by
  refine Law.of_walk (plainFor_of_name (by decide +kernel)) (by decide +kernel) (by decide +kernel) (by decide) (fun _ _ h => by rw [h.1]; rfl) (fun _ U U' hal hh h => ⟨h.1, h.2.mv hal hh⟩) (fun r U U' V V' h1 hal h2 h => XT.PureE.mv r U U' V V' h1 hal h2 h) ?_
  intro p e s m args below meth c s₁ X0 hexec hbytes hml hret hlk hnm hown hh0 W hP
  obtain ⟨rfl, hB⟩ := hP
  have hB0 := hB.mv X0.warmed.alike hh0
  have c1 : Steps p.tables e below (s₁.setTop (entryFrame m #[.ref d, .int (Int32.ofNat B.slots.size)] 2)) (s₁.setTop (mkF m 0 #[.val (.ref d), .val (.int (Int32.ofNat B.slots.size))] [])) := entry rfl
  have c2 : Steps p.tables e below (s₁.setTop (entryFrame m #[.ref d, .int (Int32.ofNat B.slots.size)] 2)) (s₁.setTop (mkF m 2 #[.val (.ref d), .val (.int (Int32.ofNat B.slots.size))] [.ref d, .int (Int32.ofNat B.slots.size)])) := c1.trans (by
    refine XS.iloadN X0.here hexec rfl (hb hbytes d0) rfl ?_
    refine XS.aloadN X0.here hexec rfl (hb hbytes d1) rfl rfl ?_
    exact Steps.refl _)
  have c3 : Steps p.tables e below (s₁.setTop (entryFrame m #[.ref d, .int (Int32.ofNat B.slots.size)] 2)) (s₁.setTop (mkF m 8 #[.val (.ref d), .val (.int (Int32.ofNat B.slots.size))] [.int (lo8 (ushr (Int32.ofNat B.slots.size - Int32.ofNat B.slots.size) 31))])) := c2.trans (by
    refine X0.alen hexec hB0 rfl rfl (hb hbytes d2) ?_
    refine XS.isub X0.here hexec rfl (hb hbytes d3) rfl ?_
    refine bipushV X0.here hexec rfl 31 (hb hbytes d4) (by decide) ?_
    refine iushr X0.here hexec rfl (hb hbytes d6) rfl ?_
    refine i2b X0.here hexec rfl (hb hbytes d7) rfl ?_
    exact Steps.refl _)
  have e0 : lo8 (ushr (Int32.ofNat B.slots.size - Int32.ofNat B.slots.size) 31) = 0 := by rw [Int32.sub_self]; decide
  rw [e0] at c3
  exact ⟨s₁, some (.int 0), _, _, _, X0, rfl, rfl, rfl, (fun h => by cases h), ⟨rfl, hh0⟩, fun fs hl => c3.trans (X0.ireturnOut hexec hret rfl (Or.inr (Or.inr (Or.inl rfl))) (hb hbytes d8) hl)⟩
end CodL
/-- the String at a is Latin-1 over a new byte[] (the heap's one new cell): the low bytes of the len chars of A from o on; every cell but a is kept -/
def Got (a : Addr) (D : Cell) (fV fC : Field) (A : Cell) (o len : Nat) (r : Option Value) (s u : State) : Prop := r = none ∧ ∃ D' V : Cell, Blank "java/lang/String" a D' u ∧ Same D D' [fV.slot, fC.slot] ∧ D'.slots[fV.slot]? = some (.ref s.heap.size) ∧ D'.slots[fC.slot]? = some (.int 0) ∧ Arr .byte s.heap.size V u ∧ V.vm = .none ∧ u.vm.findClass "[B" = some V.cls ∧ V.slots.size = len ∧ (∀ j, j < len → V.slots[j]? = some (.int (lo8 (cv A (o + j))))) ∧ (∀ (y : Addr) (c : Cell), y ≠ a → s.heap[y]? = some c → u.heap[y]? = some c) ∧ u.heap.size = s.heap.size + 1
theorem Got.mv {a : Addr} {D A : Cell} {fV fC : Field} {o len : Nat} : ∀ r (U U' V V' : State), U'.heap = U.heap → V.vm.Alike V'.vm → V'.heap = V.heap → Got a D fV fC A o len r U V → Got a D fV fC A o len r U' V' :=
  fun r U U' V V' h1 hal h2 ⟨e0, D', X, a1, a2, a3, a4, a5, a6, a7, a8, a9, a10, a11⟩ => ⟨e0, D', X, a1.mv hal h2, a2, by rw [h1]; exact a3, a4, by rw [h1]; exact a5.mv hal h2, a6, by rw [hal.findClass]; exact a7, a8, a9, by rw [h1, h2]; exact a10, by rw [h1, h2]; exact a11⟩
namespace New4
def yN : MethodName := ⟨"java/lang/String", "<init>", "([CIILjava/lang/Void;)V"⟩
abbrev yB : ByteArray := jdk_42_method_149_code
theorem d0 : decode yB 0 = .ok (.aload_n 0, 1) := by decide +kernel
theorem d1 : decode yB 1 = .ok (.invokespecial 1, 3) := by decide +kernel
theorem d4 : decode yB 4 = .ok (.iload_n 3, 1) := by decide +kernel
theorem d5 : decode yB 5 = .ok (.ifCond (.ne) 22, 3) := by decide +kernel
theorem d27 : decode yB 27 = .ok (.getstatic 38, 3) := by decide +kernel
theorem d30 : decode yB 30 = .ok (.ifCond (.eq) 28, 3) := by decide +kernel
theorem d33 : decode yB 33 = .ok (.aload_n 1, 1) := by decide +kernel
theorem d34 : decode yB 34 = .ok (.iload_n 2, 1) := by decide +kernel
theorem d35 : decode yB 35 = .ok (.iload_n 3, 1) := by decide +kernel
theorem d36 : decode yB 36 = .ok (.invokestatic 177, 3) := by decide +kernel
theorem d39 : decode yB 39 = .ok (.astore 5, 2) := by decide +kernel
theorem d41 : decode yB 41 = .ok (.aload_n 0, 1) := by decide +kernel
theorem d42 : decode yB 42 = .ok (.aload 5, 2) := by decide +kernel
theorem d44 : decode yB 44 = .ok (.iload_n 3, 1) := by decide +kernel
theorem d45 : decode yB 45 = .ok (.invokestatic 47, 3) := by decide +kernel
theorem d48 : decode yB 48 = .ok (.putfield 15, 3) := by decide +kernel
theorem d51 : decode yB 51 = .ok (.aload_n 0, 1) := by decide +kernel
theorem d52 : decode yB 52 = .ok (.aload 5, 2) := by decide +kernel
theorem d54 : decode yB 54 = .ok (.putfield 9, 3) := by decide +kernel
theorem d57 : decode yB 57 = .ok (.return_, 1) := by decide +kernel
def site : List Cond := [.fieldLink "java/lang/String" 38 "java/lang/String" "COMPACT_STRINGS" "Z", Cmp3.tab, CodL.tab, .laysFinal "java/lang/String" "java/lang/String" "value" "[B", .fieldLink "java/lang/String" 9 "java/lang/String" "value" "[B", .laysFinal "java/lang/String" "java/lang/String" "coder" "B", .fieldLink "java/lang/String" 15 "java/lang/String" "coder" "B"] ++ objW "java/lang/String" 1 ++ staticW "java/lang/String" 177 Cmp3.yN ++ staticW "java/lang/String" 47 CodL.yN
def tab : Cond := tabOf yN yB 6 none site
def P (a : Addr) (D : Cell) (fV fC : Field) (b : Addr) (A : Cell) (z : Int32) (o len : Nat) (args : Array Value) (s : State) : Prop := args = #[.ref a, .ref b, .int (Int32.ofNat o), .int (Int32.ofNat len), .null] ∧ Blank "java/lang/String" a D s ∧ Found "java/lang/String" "value" "[B" fV s ∧ Found "java/lang/String" "coder" "B" fC s ∧ Ch b A s ∧ StaticIs s "java/lang/String" "COMPACT_STRINGS" "Z" (.int z) ∧ ¬ z = 0 ∧ 0 < len ∧ o + len ≤ A.slots.size ∧ len ≤ 536870912 ∧ ∀ i, i < len → ¬ 255 < cv A (o + i)
def E (a : Addr) (D : Cell) (fV fC : Field) (A : Cell) (o len : Nat) (r : Option Value) (s u : State) : Prop := Got a D fV fC A o len r s u
/-- len > 0, no char of the range above 255: a Latin-1 String of their low bytes -/
theorem law (l : Launch) (a : Addr) (D : Cell) (fV fC : Field) (b : Addr) (A : Cell) (z : Int32) (o len : Nat) : Law l yN 5 4 2 35 yB 6 none site (P a D fV fC b A z o len) (E a D fV fC A o len) [⟨a, fC.slot⟩, ⟨a, fV.slot⟩] 1 len := by
  refine Law.of_walk (plainFor_of_name (by decide +kernel)) (by decide +kernel) (by decide +kernel) (by decide) (fun _ _ h => by rw [h.1]; rfl) (fun _ U U' hal hh h => ⟨h.1, h.2.1.mv hal hh, h.2.2.1.al hal, h.2.2.2.1.al hal, h.2.2.2.2.1.mv hal hh, h.2.2.2.2.2.1.there hal hh, h.2.2.2.2.2.2⟩) (fun r U U' V V' h1 hal h2 h => Got.mv r U U' V V' h1 hal h2 h) ?_
  intro p e s m args below meth c s₁ X0 hexec hbytes hml hret hlk hnm hown hh0 W hP
  obtain ⟨rfl, hB, f1, f2, hA, s1, hz, l0, l1, l2, hp⟩ := hP
  have a31 := hA.1.2.2.2
  have c1 : Steps p.tables e below (s₁.setTop (entryFrame m #[.ref a, .ref b, .int (Int32.ofNat o), .int (Int32.ofNat len), .null] 6)) (s₁.setTop (mkF m 0 #[.val (.ref a), .val (.ref b), .val (.int (Int32.ofNat o)), .val (.int (Int32.ofNat len)), .val .null, .unset] [])) := entry rfl
  have c2 : Steps p.tables e below (s₁.setTop (entryFrame m #[.ref a, .ref b, .int (Int32.ofNat o), .int (Int32.ofNat len), .null] 6)) (s₁.setTop (mkF m 1 #[.val (.ref a), .val (.ref b), .val (.int (Int32.ofNat o)), .val (.int (Int32.ofNat len)), .val .null, .unset] [.ref a])) := c1.trans (by
    refine XS.aloadN X0.here hexec rfl (hb hbytes d0) rfl rfl ?_
    exact Steps.refl _)
  obtain ⟨T3, X3, q3, st3⟩ := X0.oinit hexec hown (wks W (objW "java/lang/String" 1)) (g := (mkF m 1 #[.val (.ref a), .val (.ref b), .val (.int (Int32.ofNat o)), .val (.int (Int32.ofNat len)), .val .null, .unset] [.ref a])) rfl (by rw [hml]; rfl) (rest := []) rfl (hb hbytes d1) (W := 0) (by show 2 * 0 + 0 ≤ _; decide) (Nat.le_of_ble_eq_true rfl) (Nat.le_of_ble_eq_true rfl)
  have hh3 := q3.trans hh0
  have c4 : Steps p.tables e below (s₁.setTop (entryFrame m #[.ref a, .ref b, .int (Int32.ofNat o), .int (Int32.ofNat len), .null] 6)) (T3.setTop (mkF m 27 #[.val (.ref a), .val (.ref b), .val (.int (Int32.ofNat o)), .val (.int (Int32.ofNat len)), .val .null, .unset] [])) := (c2.trans (st3 _ (Steps.refl _))).trans (by
    refine XS.iloadN X3.here hexec rfl (hb hbytes d4) rfl ?_
    refine XS.ifYes X3.here hexec rfl (pc0 := 5) rfl (hb hbytes d5) rfl (i0_ne_t (nz32 (by omega) l0)) (by decide) rfl ?_
    exact Steps.refl _)
  obtain ⟨T5, X5, q5, st5⟩ := X3.sget hexec hown (wk W (.fieldLink "java/lang/String" 38 "java/lang/String" "COMPACT_STRINGS" "Z")) s1 (fun _ _ h => by rw [hh3]; exact h) (g := (mkF m 27 #[.val (.ref a), .val (.ref b), .val (.int (Int32.ofNat o)), .val (.int (Int32.ofNat len)), .val .null, .unset] [])) rfl (hb hbytes d27)
  have hh5 := q5.trans hh3
  have c6 : Steps p.tables e below (s₁.setTop (entryFrame m #[.ref a, .ref b, .int (Int32.ofNat o), .int (Int32.ofNat len), .null] 6)) (T5.setTop (mkF m 30 #[.val (.ref a), .val (.ref b), .val (.int (Int32.ofNat o)), .val (.int (Int32.ofNat len)), .val .null, .unset] [.int z])) := c4.trans (st5 _ (Steps.refl _))
  have c7 : Steps p.tables e below (s₁.setTop (entryFrame m #[.ref a, .ref b, .int (Int32.ofNat o), .int (Int32.ofNat len), .null] 6)) (T5.setTop (mkF m 36 #[.val (.ref a), .val (.ref b), .val (.int (Int32.ofNat o)), .val (.int (Int32.ofNat len)), .val .null, .unset] [.int (Int32.ofNat len), .int (Int32.ofNat o), .ref b])) := c6.trans (by
    refine XS.ifNo X5.here hexec rfl (hb hbytes d30) rfl (i0_eq_f hz) ?_
    refine XS.aloadN X5.here hexec rfl (hb hbytes d33) rfl rfl ?_
    refine XS.iloadN X5.here hexec rfl (hb hbytes d34) rfl ?_
    refine XS.iloadN X5.here hexec rfl (hb hbytes d35) rfl ?_
    exact Steps.refl _)
  obtain ⟨v8, T8, X8, E8, g8⟩ := X5.callS hexec (Cmp3.law l b A o len) hown (wks W (staticW "java/lang/String" 177 Cmp3.yN)) (wk W Cmp3.tab) (W := 0) (Nat.le_of_ble_eq_true rfl) (Nat.le_of_ble_eq_true rfl) (Nat.le_refl _) (by show 0 + len ≤ len; omega) (g := (mkF m 36 #[.val (.ref a), .val (.ref b), .val (.int (Int32.ofNat o)), .val (.int (Int32.ofNat len)), .val .null, .unset] [.int (Int32.ofNat len), .int (Int32.ofNat o), .ref b])) rfl (by rw [hml]; rfl) c7 (argsL := [.ref b, .int (Int32.ofNat o), .int (Int32.ofNat len)]) (rest := []) rfl rfl (by show 2 * 0 + 0 ≤ _; decide) (hb hbytes d36) (⟨rfl, hA.mv X5.warmed.alike hh5, l1, l2, hp⟩)
  obtain ⟨e8, z8⟩ := E8
  obtain ⟨rfl, N, n1, n2, n3, n4, n5, n6⟩ := NewArr.mv _ T5 s _ _ hh5.symm (Vm.Alike.refl _) rfl e8
  rw [hh5] at z8
  have hB1 := hB.keep X8.warmed.alike (n6 _ _ hB.1)
  have hne : s.heap.size ≠ a := (Nat.ne_of_lt (Array.getElem?_eq_some_iff.mp hB.1).1).symm
  have c9 : Steps p.tables e below (s₁.setTop (entryFrame m #[.ref a, .ref b, .int (Int32.ofNat o), .int (Int32.ofNat len), .null] 6)) (T8.setTop (mkF m 39 #[.val (.ref a), .val (.ref b), .val (.int (Int32.ofNat o)), .val (.int (Int32.ofNat len)), .val .null, .unset] [.ref s.heap.size])) := g8
  have c10 : Steps p.tables e below (s₁.setTop (entryFrame m #[.ref a, .ref b, .int (Int32.ofNat o), .int (Int32.ofNat len), .null] 6)) (T8.setTop (mkF m 45 #[.val (.ref a), .val (.ref b), .val (.int (Int32.ofNat o)), .val (.int (Int32.ofNat len)), .val .null, .val (.ref s.heap.size)] [.int (Int32.ofNat N.slots.size), .ref s.heap.size, .ref a])) := by
    have hc : Steps p.tables e below (s₁.setTop (entryFrame m #[.ref a, .ref b, .int (Int32.ofNat o), .int (Int32.ofNat len), .null] 6)) (T8.setTop (mkF m 45 #[.val (.ref a), .val (.ref b), .val (.int (Int32.ofNat o)), .val (.int (Int32.ofNat len)), .val .null, .val (.ref s.heap.size)] [.int (Int32.ofNat len), .ref s.heap.size, .ref a])) := c9.trans (by
      refine XS.astore X8.here hexec rfl (hb hbytes d39) rfl rfl rfl ?_
      refine XS.aloadN X8.here hexec rfl (hb hbytes d41) rfl rfl ?_
      refine XS.aload X8.here hexec rfl (hb hbytes d42) rfl rfl ?_
      refine XS.iloadN X8.here hexec rfl (hb hbytes d44) rfl ?_
      exact Steps.refl _)
    rw [n4]; exact hc
  obtain ⟨v11, T11, X11, E11, g11⟩ := X8.callS hexec (CodL.law l s.heap.size N) hown (wks W (staticW "java/lang/String" 47 CodL.yN)) (wk W CodL.tab) (W := 1) (Nat.le_of_ble_eq_true rfl) (Nat.le_of_ble_eq_true rfl) (Nat.le_refl _) (by show 0 + len + 0 ≤ len; omega) (g := (mkF m 45 #[.val (.ref a), .val (.ref b), .val (.int (Int32.ofNat o)), .val (.int (Int32.ofNat len)), .val .null, .val (.ref s.heap.size)] [.int (Int32.ofNat N.slots.size), .ref s.heap.size, .ref a])) rfl (by rw [hml]; rfl) c10 (argsL := [.ref s.heap.size, .int (Int32.ofNat N.slots.size)]) (rest := [.ref a]) rfl rfl (by show 2 * 0 + (1 + 0) ≤ _; decide) (hb hbytes d45) (⟨rfl, n1⟩)
  obtain ⟨rfl, q11⟩ := E11
  have hB11 := hB1.mv (X8.warmed.alike.symm.trans X11.warmed.alike) q11
  have c12 : Steps p.tables e below (s₁.setTop (entryFrame m #[.ref a, .ref b, .int (Int32.ofNat o), .int (Int32.ofNat len), .null] 6)) (T11.setTop (mkF m 48 #[.val (.ref a), .val (.ref b), .val (.int (Int32.ofNat o)), .val (.int (Int32.ofNat len)), .val .null, .val (.ref s.heap.size)] [.int 0, .ref a])) := g11
  obtain ⟨T13, X13, p13, bl13, sl13, st13⟩ := X11.finit hexec hown (wk W (.fieldLink "java/lang/String" 15 "java/lang/String" "coder" "B")) (Or.inr ⟨_, (wk W (.laysFinal "java/lang/String" "java/lang/String" "coder" "B"))⟩) (Or.inl ⟨rfl, hnm⟩) f2 (Or.inl rfl) hB11 (t := .byte) (by decide +kernel) rfl (g := (mkF m 48 #[.val (.ref a), .val (.ref b), .val (.int (Int32.ofNat o)), .val (.int (Int32.ofNat len)), .val .null, .val (.ref s.heap.size)] [.int 0, .ref a])) rfl (rest := []) rfl (hb hbytes d48)
  have c14 : Steps p.tables e below (s₁.setTop (entryFrame m #[.ref a, .ref b, .int (Int32.ofNat o), .int (Int32.ofNat len), .null] 6)) (T13.setTop (mkF m 54 #[.val (.ref a), .val (.ref b), .val (.int (Int32.ofNat o)), .val (.int (Int32.ofNat len)), .val .null, .val (.ref s.heap.size)] [.ref s.heap.size, .ref a])) := (c12.trans (st13 _ (Steps.refl _))).trans (by
    refine XS.aloadN X13.here hexec rfl (hb hbytes d51) rfl rfl ?_
    refine XS.aload X13.here hexec rfl (hb hbytes d52) rfl rfl ?_
    exact Steps.refl _)
  obtain ⟨T15, X15, p15, bl15, sl15, st15⟩ := X13.finit hexec hown (wk W (.fieldLink "java/lang/String" 9 "java/lang/String" "value" "[B")) (Or.inr ⟨_, (wk W (.laysFinal "java/lang/String" "java/lang/String" "value" "[B"))⟩) (Or.inl ⟨rfl, hnm⟩) f1 (Or.inl rfl) bl13 (t := (.array .byte)) (by decide +kernel) rfl (g := (mkF m 54 #[.val (.ref a), .val (.ref b), .val (.int (Int32.ofNat o)), .val (.int (Int32.ofNat len)), .val .null, .val (.ref s.heap.size)] [.ref s.heap.size, .ref a])) rfl (rest := []) rfl (hb hbytes d54)
  have c16 : Steps p.tables e below (s₁.setTop (entryFrame m #[.ref a, .ref b, .int (Int32.ofNat o), .int (Int32.ofNat len), .null] 6)) (T15.setTop (mkF m 57 #[.val (.ref a), .val (.ref b), .val (.int (Int32.ofNat o)), .val (.int (Int32.ofNat len)), .val .null, .val (.ref s.heap.size)] [])) := c14.trans (st15 _ (Steps.refl _))
  have ap := apart (Or.inr ⟨_, (wk W (.laysFinal "java/lang/String" "java/lang/String" "value" "[B"))⟩) (Or.inr ⟨_, (wk W (.laysFinal "java/lang/String" "java/lang/String" "coder" "B"))⟩) f1 f2 (t₁ := .array .byte) (t₂ := .byte) (by decide +kernel) (by decide +kernel) (by decide)
  have al := X8.warmed.alike.symm.trans X15.warmed.alike
  have n7 : T11.heap[s.heap.size]? = some N := by rw [q11]; exact n1.1
  exact ⟨T15, none, _, _, _, X15, by simp, rfl, by omega, (fun _ => rfl), ⟨rfl, _, N, bl15, ((Same.refl D _).set _ (by simp)).set _ (by simp), sl15, (Cell.slots_setSlot_ne _ ap).trans sl13, n1.keep al (p15.other hne (p13.other hne n7)), n2, by rw [al.findClass]; exact n3, n4, n5, fun y c h1 h2 => p15.other h1 (p13.other h1 (by rw [q11]; exact n6 y c h2)), by rw [p15.2.2, p13.2.2, q11]; exact z8⟩, fun fs hl => c16.trans (X15.returnOut hexec hret (hb hbytes d57) hl)⟩
end New4
namespace New1
def yN : MethodName := ⟨"java/lang/String", "<init>", "([C)V"⟩
abbrev yB : ByteArray := jdk_42_method_3_code
theorem d0 : decode yB 0 = .ok (.aload_n 0, 1) := by decide +kernel
theorem d1 : decode yB 1 = .ok (.aload_n 1, 1) := by decide +kernel
theorem d2 : decode yB 2 = .ok (.iconst 0, 1) := by decide +kernel
theorem d3 : decode yB 3 = .ok (.aload_n 1, 1) := by decide +kernel
theorem d4 : decode yB 4 = .ok (.arraylength, 1) := by decide +kernel
theorem d5 : decode yB 5 = .ok (.aconst_null, 1) := by decide +kernel
theorem d6 : decode yB 6 = .ok (.invokespecial 27, 3) := by decide +kernel
theorem d9 : decode yB 9 = .ok (.return_, 1) := by decide +kernel
def site : List Cond := [New4.tab] ++ initW "java/lang/String" 27 New4.yN
def tab : Cond := tabOf yN yB 2 none site
def P (a : Addr) (D : Cell) (fV fC : Field) (b : Addr) (A : Cell) (z : Int32) (args : Array Value) (s : State) : Prop := args = #[.ref a, .ref b] ∧ Blank "java/lang/String" a D s ∧ Found "java/lang/String" "value" "[B" fV s ∧ Found "java/lang/String" "coder" "B" fC s ∧ Ch b A s ∧ StaticIs s "java/lang/String" "COMPACT_STRINGS" "Z" (.int z) ∧ ¬ z = 0 ∧ 0 < A.slots.size ∧ A.slots.size ≤ 536870912 ∧ ∀ i, i < A.slots.size → ¬ 255 < cv A i
def E (a : Addr) (D : Cell) (fV fC : Field) (A : Cell) (r : Option Value) (s u : State) : Prop := Got a D fV fC A 0 A.slots.size r s u
/-- new String(chars), not empty, no char above 255: a Latin-1 String of their low bytes -/
theorem law (l : Launch) (a : Addr) (D : Cell) (fV fC : Field) (b : Addr) (A : Cell) (z : Int32) : Law l yN 2 1 3 52 yB 2 none site (P a D fV fC b A z) (E a D fV fC A) [⟨a, fC.slot⟩, ⟨a, fV.slot⟩] 1 A.slots.size := by
  refine Law.of_walk (plainFor_of_name (by decide +kernel)) (by decide +kernel) (by decide +kernel) (by decide) (fun _ _ h => by rw [h.1]; rfl) (fun _ U U' hal hh h => ⟨h.1, h.2.1.mv hal hh, h.2.2.1.al hal, h.2.2.2.1.al hal, h.2.2.2.2.1.mv hal hh, h.2.2.2.2.2.1.there hal hh, h.2.2.2.2.2.2⟩) (fun r U U' V V' h1 hal h2 h => Got.mv r U U' V V' h1 hal h2 h) ?_
  intro p e s m args below meth c s₁ X0 hexec hbytes hml hret hlk hnm hown hh0 W hP
  obtain ⟨rfl, hB, f1, f2, hA, s1, hz, l0, l2, hp⟩ := hP
  have c1 : Steps p.tables e below (s₁.setTop (entryFrame m #[.ref a, .ref b] 2)) (s₁.setTop (mkF m 0 #[.val (.ref a), .val (.ref b)] [])) := entry rfl
  have c2 : Steps p.tables e below (s₁.setTop (entryFrame m #[.ref a, .ref b] 2)) (s₁.setTop (mkF m 6 #[.val (.ref a), .val (.ref b)] [.null, .int (Int32.ofNat A.slots.size), .int 0, .ref b, .ref a])) := c1.trans (by
    refine XS.aloadN X0.here hexec rfl (hb hbytes d0) rfl rfl ?_
    refine XS.aloadN X0.here hexec rfl (hb hbytes d1) rfl rfl ?_
    refine iconstV X0.here hexec rfl 0 (hb hbytes d2) (by decide) ?_
    refine XS.aloadN X0.here hexec rfl (hb hbytes d3) rfl rfl ?_
    refine X0.alen hexec (hA.1.mv X0.warmed.alike hh0) rfl rfl (hb hbytes d4) ?_
    refine XS.aconstNull X0.here hexec rfl (hb hbytes d5) ?_
    exact Steps.refl _)
  obtain ⟨v3, T3, X3, E3, g3⟩ := X0.callN hexec (New4.law l a D fV fC b A z 0 A.slots.size) rfl hown (wks W (initW "java/lang/String" 27 New4.yN)) (W New4.tab (by simp only [site, List.mem_cons, List.mem_append, true_or, or_true])) (W := 0) (Nat.le_of_ble_eq_true rfl) (Nat.le_of_ble_eq_true rfl) (Nat.le_refl _) (by show 0 + A.slots.size ≤ A.slots.size; omega) (g := (mkF m 6 #[.val (.ref a), .val (.ref b)] [.null, .int (Int32.ofNat A.slots.size), .int (Int32.ofNat 0), .ref b, .ref a])) rfl (by rw [hml]; rfl) c2 (argsL := [.ref b, .int (Int32.ofNat 0), .int (Int32.ofNat A.slots.size), .null]) (rest := []) rfl rfl (by show 2 * 0 + 0 ≤ _; decide) (hb hbytes d6) (⟨rfl, hB.mv X0.warmed.alike hh0, f1.al X0.warmed.alike, f2.al X0.warmed.alike, hA.mv X0.warmed.alike hh0, s1.there X0.warmed.alike hh0, hz, l0, by omega, l2, fun i hi => by rw [Nat.zero_add]; exact hp i hi⟩)
  have e0 := Got.mv _ s₁ s _ _ hh0.symm (Vm.Alike.refl _) rfl E3
  obtain rfl := e0.1
  have c4 : Steps p.tables e below (s₁.setTop (entryFrame m #[.ref a, .ref b] 2)) (T3.setTop (mkF m 9 #[.val (.ref a), .val (.ref b)] [])) := g3
  exact ⟨T3, none, _, _, _, X3, by simp, rfl, by omega, (fun _ => rfl), e0, fun fs hl => c4.trans (X3.returnOut hexec hret (hb hbytes d9) hl)⟩
theorem pays {l : Launch} {R : Room} {p : Program} {e : Env} {below : List Frame} {s : State} {sargs : Array Value} {len W : Nat} (a : Addr) (D : Cell) (fV fC : Field) (b : Addr) (A : Cell) (z : Int32) (htab : tab.before sargs s = true) (hfr : 4 ≤ R.frames) (hlo : W + 65 ≤ R.locals) :
    Back l R p e below s sargs yN len W (fun A₁ a₁ => A₁.cells + 1 ≤ R.cells ∧ A₁.slots + A.slots.size ≤ R.slots ∧ P a D fV fC b A z a₁ A₁.U) (fun A₁ _ v₁ B₁ => E a D fV fC A v₁ A₁.U B₁.U ∧ B₁.locs = A₁.locs ++ [⟨a, fC.slot⟩, ⟨a, fV.slot⟩] ∧ B₁.cells = A₁.cells + 1 ∧ B₁.slots = A₁.slots + A.slots.size) :=
  (law l a D fV fC b A z).pays htab hfr (by omega)
end New1
/-- the byte, read back as charAt reads it, is the char -/
theorem lo8_mask {x : Int32} (h0 : ¬ x < 0) (h1 : ¬ 255 < x) : lo8 x &&& 255 = x := by
  have t : ∀ k : Fin 256, lo8 (Int32.ofNat k.val) &&& 255 = Int32.ofNat k.val := by decide +kernel
  rw [Int32.lt_iff_toInt_lt] at h0 h1
  have e0 : (0 : Int32).toInt = 0 := rfl
  have e1 : (255 : Int32).toInt = 255 := rfl
  obtain ⟨k, hk⟩ : ∃ k : Nat, x.toInt = k := ⟨x.toInt.toNat, by omega⟩
  have hx : x = Int32.ofNat k := Int32.toInt_inj.mp (by rw [hk, Int32.toInt_ofNat_small (by omega)])
  rw [hx]
  exact t ⟨k, by omega⟩
end StrChars
namespace StrChars.Road
open Jvm Sem ClassFile Op Lib Jvm.Stand Jvm.Free Jvm.Free.XT
open Jvm.Lib.Cold (StaticIs)
abbrev ST : String := "java/lang/String"
/-- every table word that New1's law asks, flat -/
abbrev words : List Jvm.Cond := [.code New1.yN New1.yB 2 none, .initialized ST, .methodLink ST 27 New4.yN, .instanceMethod New4.yN,
  .code New4.yN New4.yB 6 none, .fieldLink ST 38 ST "COMPACT_STRINGS" "Z", .laysFinal ST ST "value" "[B", .fieldLink ST 9 ST "value" "[B", .laysFinal ST ST "coder" "B", .fieldLink ST 15 ST "coder" "B",
  .methodLink ST 1 Lib.objectInit, .instanceMethod Lib.objectInit, .code Lib.objectInit ⟨#[0xb1]⟩ 1 none, .methodLink ST 177 Cmp3.yN, .static Cmp3.yN, .methodLink ST 47 CodL.yN, .static CodL.yN,
  .code Cmp3.yN Cmp3.yB 6 (some (.array .byte)), .initialized U16, .arrayClass .byte, .methodLink U16 115 Cmp5.yN, .static Cmp5.yN, .code Cmp5.yN Cmp5.yB 7 (some .int), .code CodL.yN CodL.yB 2 (some .byte)]
theorem tab_of {a : Array Value} {s : State} (h : ∀ w ∈ words, w.before a s = true) : New1.tab.before a s = true := by
  have h5 : Cmp5.tab.before a s = true := unparts (wk h (.code Cmp5.yN Cmp5.yB 7 (some .int))) (wks h (.initialized Cmp5.yN.cls :: Cmp5.site))
  have hc : CodL.tab.before a s = true := unparts (wk h (.code CodL.yN CodL.yB 2 (some .byte))) (wks h (.initialized CodL.yN.cls :: CodL.site))
  have q5 : ∀ w ∈ Cmp5.tab :: words, w.before a s = true := fun w hw => (List.mem_cons.mp hw).elim (fun e => e ▸ h5) (h w)
  have h3 : Cmp3.tab.before a s = true := unparts (wk q5 (.code Cmp3.yN Cmp3.yB 6 (some (.array .byte)))) (wks q5 (.initialized Cmp3.yN.cls :: Cmp3.site))
  have q3 : ∀ w ∈ Cmp3.tab :: CodL.tab :: words, w.before a s = true := fun w hw => (List.mem_cons.mp hw).elim (fun e => e ▸ h3) fun hw => (List.mem_cons.mp hw).elim (fun e => e ▸ hc) (h w)
  have h4 : New4.tab.before a s = true := unparts (wk q3 (.code New4.yN New4.yB 6 none)) (wks q3 (.initialized New4.yN.cls :: New4.site))
  have q4 : ∀ w ∈ New4.tab :: words, w.before a s = true := fun w hw => (List.mem_cons.mp hw).elim (fun e => e ▸ h4) (h w)
  exact unparts (wk q4 (.code New1.yN New1.yB 2 none)) (wks q4 (.initialized New1.yN.cls :: New1.site))
/-- the words ride from the start Z to the walk's own state -/
theorem moved {Z s : State} {a0 args : Array Value} (hZ : Z.Warmed39 s.vm) (hw : ∀ d ∈ words, d.before a0 Z = true) : ∀ d ∈ words, d.before args s = true := fun d hd => by
  have q := hw d hd
  have t : ∀ d ∈ words, d = .arrayClass .byte ∨ (d.onTables && d.keepsFace) = true := by decide +kernel
  rcases t d hd with rfl | t
  · exact RoadKit.mvA hZ q
  · exact RoadKit.mv hZ q t
/-- WHAT COMES BACK, over the tables of the start Z: h the heap at the call, h' behind it -/
def Q (Z : State) (x : Addr) (A : Cell) (h : Heap) (v : Option Value) (h' : Heap) (L : List Loc) : Prop := v = none ∧ (∀ y ∈ L, y.base = x) ∧ RoadKit.Keep h h' [x] ∧ h'.size = h.size + 1 ∧ RoadKit.Exa Z h' x ST ∧ RoadKit.Fld Z h' x ST "value" "[B" (.ref h.size) ∧ RoadKit.Fld Z h' x ST "coder" "B" (.int 0) ∧
  (∃ V : Cell, RoadKit.Arr Z h' h.size V .byte ∧ V.vm = .none ∧ Z.vm.findClass "[B" = some V.cls ∧ V.slots.size = A.slots.size ∧ ∀ j, j < A.slots.size → V.slots[j]? = some (.int (lo8 (cv A j)))) ∧
  ∀ (O n d : String) (w : Value), RoadKit.Fld Z h x O n d w → RoadKit.slotOf Z O n d ≠ RoadKit.slotOf Z ST "value" "[B" → RoadKit.slotOf Z O n d ≠ RoadKit.slotOf Z ST "coder" "B" → RoadKit.Fld Z h' x O n d w
/-- **new String(chars) AT A CALL, IN THE ROAD'S FORM**: for specialBack behind newO: x the fresh String, b the char[] with the cell A -/
theorem back {p : Program} {l : Launch} {e : Env} {R : Room} {s : State} {args : Array Value} {below : List Frame} {len W : Nat} {Z : State} {a0 : Array Value} {h : Heap} (hZ : Z.Warmed39 s.vm) (hw : ∀ d ∈ words, d.before a0 Z = true) {kI : Nat} (wi : (Jvm.Cond.instantiable ST kI).before a0 Z = true)
    {x b : Addr} {A : Cell} {z : Int32} {v0 c0 : Value} (E : RoadKit.Exa Z h x ST) (V : RoadKit.Fld Z h x ST "value" "[B" v0) (C : RoadKit.Fld Z h x ST "coder" "B" c0) (K : RoadKit.Arr Z h b A .char) (hty : Typed .char A) (S : RoadKit.Sta Z h ST "COMPACT_STRINGS" "Z" (.int z)) (hz : ¬ z = 0)
    (l0 : 0 < A.slots.size) (l2 : A.slots.size ≤ 536870912) (hp : ∀ i, i < A.slots.size → ¬ 255 < cv A i) (hfr : 4 ≤ R.frames) (hlo : W + 65 ≤ R.locals) :
    Back l R p e below s args New1.yN len W (fun P a => a = #[.ref x, .ref b] ∧ P.U.heap = h ∧ P.cells + 1 ≤ R.cells ∧ P.slots + A.slots.size ≤ R.slots)
      (fun P _ v B => ∃ L, Q Z x A h v B.U.heap L ∧ B.locs = P.locs ++ L ∧ B.cells = P.cells + 1 ∧ B.slots = P.slots + A.slots.size) := by
  intro m meth c P g ig mk a X hg hsize hdg hW hn hp'
  obtain ⟨rfl, rfl, r1, r2⟩ := hp'
  have al : Z.vm.Alike P.U.vm := hZ.alike.trans X.warmed.alike
  obtain ⟨D, cfV, kV, iV, fV, hD, gV, stV, knV, obV, asV, slV⟩ := id V
  obtain ⟨D', cfC, kC, iC, fC, hD', gC, stC, -, -, asC, slC⟩ := id C
  cases hD.symm.trans hD'
  obtain ⟨D2, kD, e1, e2, e3, e4, e5⟩ := id E
  cases hD.symm.trans e1
  obtain ⟨c2, k2, i1, i2, i3, -⟩ := Cond.instantiable_spec wi
  cases e2.symm.trans i1
  cases e3.symm.trans i2
  obtain ⟨kU, u1, u2⟩ := al.2.2 _ _ e3
  have hB : Blank ST x D P.U := ⟨hD, ⟨knV, fun q hq => by rw [hq] at obV; cases obV⟩, by rw [al.findClass]; exact e2, kU, u1, by rw [u2]; exact i3, by rw [u2]; exact e5 i3⟩
  have F1 : Found ST "value" "[B" fV P.U := ⟨SBG.found_only al ⟨cfV, kV, iV, gV⟩, stV⟩
  have F2 : Found ST "coder" "B" fC P.U := ⟨SBG.found_only al ⟨cfC, kC, iC, gC⟩, stC⟩
  have hA : Ch b A P.U := ⟨⟨K.1, State.isArrayOf_alike al K.2.1, K.2.2, by omega⟩, hty⟩
  have hS : StaticIs P.U ST "COMPACT_STRINGS" "Z" (.int z) := by
    obtain ⟨cfS, iS, kS, fS, st, cS, t1, t2, t3, t4, t5, t6, t7⟩ := S
    exact StaticIs.there (s := { Z with heap := P.U.heap }) ⟨cfS, iS, kS, fS, st, cS, t1, t2, t3, t4, t5, (fun q => by rw [q] at t6; cases t6), t7⟩ al rfl
  obtain ⟨v, B, X', ⟨⟨hv, E', V', q1, q2, q3, q4, q5, q6, q7, q8, q9, q10, q11⟩, hl, hc, hs⟩, st⟩ := New1.pays x D fV fC b A z (tab_of (moved hZ hw)) hfr hlo m meth c P g ig mk _ X hg hsize hdg hW hn ⟨r1, r2, rfl, hB, F1, F2, hA, hS, hz, l0, l2, hp⟩
  have al' : Z.vm.Alike B.U.vm := hZ.alike.trans X'.warmed.alike
  have hsz : E'.slots.size = D.slots.size := by
    obtain ⟨-, -, -, kB, w1, w2, w3⟩ := q1
    obtain ⟨kB', y1, y2⟩ := al'.2.2 _ _ e3
    rw [q2.2.1] at w1
    cases w1.symm.trans y1
    rw [w3, e5 i3, y2]
  refine ⟨v, B, X', ⟨_, ⟨hv, ?_, ⟨by omega, fun y cy hy hn' => q10 y cy (by simpa using hn') hy, fun y cy hy => ?_⟩, q11, ⟨E', _, q1.1, by rw [q2.2.1]; exact e2, by rw [q2.2.1]; exact e3, by rw [q2.1]; exact obV, fun _ => by rw [hsz]; exact e5 i3⟩,
    ⟨E', cfV, kV, iV, fV, q1.1, gV, stV, by rw [q2.1]; exact knV, by rw [q2.1]; exact obV, by rw [q2.2.1]; exact asV, q3⟩, ⟨E', cfC, kC, iC, fC, q1.1, gC, stC, by rw [q2.1]; exact knV, by rw [q2.1]; exact obV, by rw [q2.2.1]; exact asC, q4⟩,
    ⟨V', ⟨q5.1, State.isArrayOf_alike al'.symm q5.2.1, q5.2.2.1⟩, q6, by rw [← al'.findClass]; exact q7, q8, fun j hj => by have := q9 j hj; rwa [Nat.zero_add] at this⟩, fun O n d w F n1 n2 => ?_⟩, hl, hc, hs⟩, st⟩
  · intro y hy
    simp only [List.mem_cons, List.not_mem_nil, or_false] at hy
    rcases hy with rfl | rfl <;> rfl
  · by_cases q : y = x
    · subst q
      cases hD.symm.trans hy
      exact ⟨E', q1.1, q2.2.1, q2.1, hsz⟩
    · exact ⟨cy, q10 y cy q hy, rfl, rfl, rfl⟩
  · obtain ⟨D3, cf, k, i, f, g1, g2, g3, g4, g5, g6, g7⟩ := F
    cases hD.symm.trans g1
    simp only [RoadKit.slotOf, g2, gV, gC, Option.map_some, Option.getD_some] at n1 n2
    exact ⟨E', cf, k, i, f, q1.1, g2, g3, by rw [q2.1]; exact g4, by rw [q2.1]; exact g5, by rw [q2.2.1]; exact g6, by rw [q2.2.2 f.slot (by simp [n1, n2])]; exact g7⟩
end StrChars.Road
namespace StrChars.Road
open Jvm Sem ClassFile Op Lib Jvm.Stand Jvm.Free Jvm.Free.XT
/-- WHAT COMES BACK, the byte[] as a list of values -/
def QA (Z : State) (x : Addr) (zn : Int32) (cs : List Int32) (h : Heap) (v : Option Value) (h' : Heap) (L : List Loc) : Prop := v = none ∧ (∀ y ∈ L, y.base = x) ∧ RoadKit.Keep h h' [x] ∧ h'.size = h.size + 1 ∧ RoadKit.Exa Z h' x ST ∧ RoadKit.Fld Z h' x ST "value" "[B" (.ref h.size) ∧ RoadKit.Fld Z h' x ST "coder" "B" (.int 0) ∧
  (∃ kb, Z.vm.findClass "[B" = some kb ∧ RoadKit.Arv Z h' h.size kb .byte zn (cs.map fun c => .int (lo8 c)) (.int 0)) ∧
  ∀ (O n d : String) (w : Value), RoadKit.Fld Z h x O n d w → RoadKit.slotOf Z O n d ≠ RoadKit.slotOf Z ST "value" "[B" → RoadKit.slotOf Z O n d ≠ RoadKit.slotOf Z ST "coder" "B" → RoadKit.Fld Z h' x O n d w
/-- **new String(chars) AT A CALL, THE ARRAYS AS LISTS**: the char[] at b holds cs, not empty, no char above 255 -/
theorem backArv {p : Program} {l : Launch} {e : Env} {R : Room} {s : State} {args : Array Value} {below : List Frame} {len W : Nat} {Z : State} {a0 : Array Value} {h : Heap} (hZ : Z.Warmed39 s.vm) (hw : ∀ d ∈ words, d.before a0 Z = true) {kI : Nat} (wi : (Jvm.Cond.instantiable ST kI).before a0 Z = true)
    {x b : Addr} {k : ClassId} {zn z : Int32} {cs : List Int32} {dv v0 c0 : Value} (E : RoadKit.Exa Z h x ST) (V : RoadKit.Fld Z h x ST "value" "[B" v0) (C : RoadKit.Fld Z h x ST "coder" "B" c0) (K : RoadKit.Arv Z h b k .char zn (cs.map Value.int) dv) (S : RoadKit.Sta Z h ST "COMPACT_STRINGS" "Z" (.int z)) (hz : ¬ z = 0)
    (hlen : zn.toNatClampNeg = cs.length) (h0 : 0 < cs.length) (hbig : cs.length ≤ 536870912) (hall : ∀ c ∈ cs, ¬ 255 < c) (hfr : 4 ≤ R.frames) (hlo : W + 65 ≤ R.locals) :
    Back l R p e below s args New1.yN len W (fun P a => a = #[.ref x, .ref b] ∧ P.U.heap = h ∧ P.cells + 1 ≤ R.cells ∧ P.slots + cs.length ≤ R.slots)
      (fun P _ v B => ∃ L, QA Z x zn cs h v B.U.heap L ∧ B.locs = P.locs ++ L ∧ B.cells = P.cells + 1 ∧ B.slots = P.slots + cs.length) := by
  obtain ⟨A, K1, K2, K3, K4, K5, K6⟩ := K
  have e : A.slots.size = cs.length := K3.trans hlen
  have hat : ∀ (i : Nat) (hi : i < cs.length), A.slots[i]? = some (.int cs[i]) := fun i hi => by rw [K5 i (by omega)]; simp [List.getD_eq_getElem?_getD, hi]
  have hcv : ∀ (i : Nat) (hi : i < cs.length), cv A i = cs[i] := fun i hi => by unfold cv; rw [hat i hi]
  have hty : Typed .char A := fun i v hv => by
    have hi : i < A.slots.size := (Array.getElem?_eq_some_iff.mp hv).1
    have q := K5 i hi
    rw [hv] at q
    rw [Option.some.inj q]
    exact K6 i hi
  refine Back.mono (back hZ hw wi E V C K1 hty S hz (by omega) (by omega) (fun i hi => by rw [hcv i (by omega)]; exact hall _ (List.getElem_mem _)) hfr hlo) (fun P a hp => ⟨hp.1, hp.2.1, hp.2.2.1, by rw [e]; exact hp.2.2.2⟩) (fun P a v B hp hq => ?_)
  obtain ⟨L, ⟨q1, q2, q3, q4, q5, q6, q7, ⟨V', v1, v2, v3, v4, v5⟩, q9⟩, hl, hc, hs⟩ := hq
  refine ⟨L, ⟨q1, q2, q3, q4, q5, q6, q7, ⟨V'.cls, v3, V', v1, rfl, by rw [v4, e, hlen], K4, fun i hi => ?_, fun i hi => ?_⟩, q9⟩, hl, hc, by rw [hs, e]⟩
  · have hi' : i < cs.length := by omega
    rw [v5 i (by omega), hcv i hi']; simp [List.getD_eq_getElem?_getD, hi']
  · have hi' : i < cs.length := by omega
    simp only [List.getD_eq_getElem?_getD, List.getElem?_map, List.getElem?_eq_getElem hi', Option.map_some, Option.getD_some]
    exact fits_lo8 _
end StrChars.Road
namespace StrChars.Road
open Jvm Sem ClassFile Op Lib Jvm.Stand Jvm.Free Jvm.Free.XT
/-- WHAT COMES BACK, in the writer's own shape -/
def QV (Z : State) (x : Addr) (N : Int32) (bs : List Int32) (h : Heap) (n0 : Nat) (v : Option Value) (h' : Heap) (L : List Loc) : Prop := v = none ∧ RoadKit.Fr n0 L ∧ RoadKit.Keep h h' [x] ∧ RoadKit.Exa Z h' x ST ∧ RoadKit.Fld Z h' x ST "coder" "B" (.int 0) ∧
  ∃ (t : Addr) (kb : ClassId), n0 ≤ t ∧ h.size ≤ t ∧ ¬ t = x ∧ RoadKit.Fld Z h' x ST "value" "[B" (.ref t) ∧ RoadKit.Arv Z h' t kb .byte N (bs.map Value.int) (.int 0)
/-- **new String(chars) AT A CALL, FOR THE WRITER**: a char[] of n known ints, each 0 to 255 -/
theorem backV {p : Program} {l : Launch} {e : Env} {R : Room} {s : State} {args : Array Value} {below : List Frame} {len W : Nat} {Z : State} {a0 : Array Value} {h : Heap} (hZ : Z.Warmed39 s.vm) (hw : ∀ d ∈ words, d.before a0 Z = true) {kI : Nat} (wi : (Jvm.Cond.instantiable ST kI).before a0 Z = true)
    {x b : Addr} {kC : ClassId} {cs bs : List Int32} {d v0 c0 : Value} {z N : Int32} {n n0 : Nat} (hx0 : n0 ≤ x) (hh0 : n0 ≤ h.size) (E : RoadKit.Exa Z h x ST) (V : RoadKit.Fld Z h x ST "value" "[B" v0) (C : RoadKit.Fld Z h x ST "coder" "B" c0) (K : RoadKit.Arv Z h b kC .char N (cs.map Value.int) d) (S : RoadKit.Sta Z h ST "COMPACT_STRINGS" "Z" (.int z)) (hz : ¬ z = 0)
    (hn : cs.length = n) (hN : N = Int32.ofNat n) (l0 : 0 < n) (l2 : n ≤ 4000) (hp : ∀ c ∈ cs, ¬ c < 0 ∧ ¬ (255 : Int32) < c) (hb : bs = cs.map (fun c => c.toInt8.toInt32)) (hfr : 4 ≤ R.frames) (hlo : W + 65 ≤ R.locals) :
    Back l R p e below s args (⟨"java/lang/String", "<init>", "([C)V"⟩ : MethodName) len W (fun P a => a = #[.ref x, .ref b] ∧ P.U.heap = h ∧ P.cells + 1 ≤ R.cells ∧ P.slots + n ≤ R.slots)
      (fun P _ v B => ∃ L, QV Z x N bs h n0 v B.U.heap L ∧ B.locs = P.locs ++ L ∧ B.cells = P.cells + 1 ∧ B.slots = P.slots + n) := by
  subst hn hN hb
  refine Back.mono (backArv hZ hw wi E V C K S hz (n32 (by omega)) l0 (by omega) (fun c hc => (hp c hc).2) hfr hlo) (fun P a hp => hp) (fun P a v B hp hq => ?_)
  obtain ⟨L, ⟨q1, q2, q3, q4, q5, q6, q7, ⟨kb, v1, v2⟩, q9⟩, hl, hc, hs⟩ := hq
  exact ⟨L, ⟨q1, fun y hy => by rw [q2 y hy]; exact hx0, q3, q5, q7, h.size, kb, hh0, Nat.le_refl _, Nat.ne_of_gt E.lt, q6, by rw [List.map_map]; exact v2⟩, hl, hc, hs⟩
end StrChars.Road
namespace StrChars
open Jvm Sem ClassFile Op Lib Jvm.Stand Jvm.Free.XT Jvm.Free.ALB Jvm.Free.JM Jvm.Free
open Jvm.Lib.Cold (StaticIs)
def hi8 (x : Int32) : Int32 := lo8 (x >>> ((8 : Int32) &&& 31))
/-- what StringUTF16.getChar makes of two bytes -/
def pairCh (u v : Int32) : Int32 := (((u &&& 255) <<< ((0 : Int32) &&& 31)) ||| ((v &&& 255) <<< ((8 : Int32) &&& 31))).toUInt32.toUInt16.toUInt32.toInt32
theorem shr0 (c : Int32) : c >>> ((0 : Int32) &&& 31) = c := by
  have e : ((0 : Int32) &&& 31) = 0 := by decide
  rw [e]
  apply Int32.toBitVec_inj.mp
  rw [Int32.toBitVec_shiftRight]
  have e1 : ((0 : Int32).toBitVec.smod 32) = 0#32 := by decide
  rw [e1, BitVec.sshiftRight_eq']
  exact BitVec.sshiftRight_zero
theorem lo8_and (x : Int32) : (lo8 x &&& 255).toBitVec.toNat = x.toBitVec.toNat % 256 := by
  have h : (lo8 x).toBitVec = (x.toBitVec.signExtend 8).signExtend 32 := by rw [lo8, Int8.toBitVec_toInt32, Int32.toBitVec_toInt8]
  rw [Int32.toBitVec_and, BitVec.toNat_and, h]
  have e : ((x.toBitVec.signExtend 8).signExtend 32).toNat % 256 = x.toBitVec.toNat % 256 := by
    rw [BitVec.toNat_signExtend]
    have hlt := x.toBitVec.isLt
    simp only [BitVec.toNat_setWidth, BitVec.toNat_signExtend]
    split <;> split <;> omega
  rw [← e]
  exact Nat.and_two_pow_sub_one_eq_mod _ 8
theorem pair_says {c : Int32} (h0 : ¬ c < 0) (h1 : ¬ 65535 < c) : pairCh (lo8 c) (hi8 c) = c := by
  rw [Int32.lt_iff_toInt_lt] at h0 h1
  have e0 : (0 : Int32).toInt = 0 := rfl
  have e1 : (65535 : Int32).toInt = 65535 := rfl
  have hc : c.toInt = c.toBitVec.toNat := by
    have := c.toBitVec.isLt
    have e : c.toInt = c.toBitVec.toInt := rfl
    rw [e] at h0 h1
    rw [e]
    rw [BitVec.toInt_eq_toNat_cond] at h0 h1 ⊢
    split at h0 <;> split <;> omega
  have hn : c.toBitVec.toNat < 65536 := by omega
  have a1 := lo8_and c
  have a2 : (hi8 c &&& 255).toBitVec.toNat = c.toBitVec.toNat / 256 := by
    rw [hi8, lo8_and]
    have e : ((8 : Int32) &&& 31) = 8 := by decide
    rw [e, Int32.toBitVec_shiftRight]
    have e2 : ((8 : Int32).toBitVec.smod 32) = 8#32 := by decide
    rw [e2, BitVec.sshiftRight_eq', BitVec.toNat_sshiftRight_of_msb_false (by rw [BitVec.msb_eq_false_iff_two_mul_lt]; omega)]
    show c.toBitVec.toNat >>> 8 % 256 = _
    rw [Nat.shiftRight_eq_div_pow]
    omega
  unfold pairCh
  apply Int32.toBitVec_inj.mp
  apply BitVec.eq_of_toNat_eq
  have f0 : ((0 : Int32) &&& 31) = 0 := by decide
  have f8 : ((8 : Int32) &&& 31) = 8 := by decide
  rw [f0, f8]
  have g : (((lo8 c &&& 255) <<< (0 : Int32)) ||| ((hi8 c &&& 255) <<< (8 : Int32))).toBitVec.toNat = c.toBitVec.toNat := by
    rw [Int32.toBitVec_or, Int32.toBitVec_shiftLeft, Int32.toBitVec_shiftLeft]
    have s0 : ((0 : Int32).toBitVec.smod 32) = 0#32 := by decide
    have s8 : ((8 : Int32).toBitVec.smod 32) = 8#32 := by decide
    rw [s0, s8, BitVec.toNat_or]
    simp only [BitVec.shiftLeft_eq', BitVec.toNat_shiftLeft, a1, a2]
    show (c.toBitVec.toNat % 256) <<< 0 % 2 ^ 32 ||| (c.toBitVec.toNat / 256) <<< 8 % 2 ^ 32 = _
    rw [Nat.shiftLeft_zero, Nat.mod_eq_of_lt (show c.toBitVec.toNat % 256 < 2 ^ 32 by omega), Nat.mod_eq_of_lt (show (c.toBitVec.toNat / 256) <<< 8 < 2 ^ 32 by rw [Nat.shiftLeft_eq]; omega), Nat.or_comm, ← Nat.shiftLeft_add_eq_or_of_lt (by omega), Nat.shiftLeft_eq]
    omega
  show BitVec.toNat (((((lo8 c &&& 255) <<< (0 : Int32)) ||| ((hi8 c &&& 255) <<< (8 : Int32))).toBitVec.setWidth 16).setWidth 32) = _
  rw [BitVec.toNat_setWidth, BitVec.toNat_setWidth, g]
  omega
end StrChars
namespace StrChars
open Jvm Sem ClassFile Op Lib Jvm.Stand Jvm.Free.XT Jvm.Free.ALB Jvm.Free.JM Jvm.Free
open Jvm.Lib.Cold (StaticIs)
theorem shr1 {n : Nat} (h : 2 * n < 2 ^ 31) : Int32.ofNat (2 * n) >>> ((1 : Int32) &&& 31) = Int32.ofNat n := by
  have e : ((1 : Int32) &&& 31) = 1 := by decide
  rw [e]
  apply Int32.toBitVec_inj.mp
  rw [Int32.toBitVec_shiftRight]
  have e1 : ((1 : Int32).toBitVec.smod 32) = 1#32 := by decide
  have hm : (BitVec.ofNat 32 (2 * n)).toNat = 2 * n := by rw [BitVec.toNat_ofNat, Nat.mod_eq_of_lt (by omega)]
  rw [e1, BitVec.sshiftRight_eq']
  apply BitVec.eq_of_toNat_eq
  show ((BitVec.ofNat 32 (2 * n)).sshiftRight 1).toNat = (BitVec.ofNat 32 n).toNat
  rw [BitVec.toNat_sshiftRight_of_msb_false (by rw [BitVec.msb_eq_false_iff_two_mul_lt, hm]; omega), hm, BitVec.toNat_ofNat, Nat.shiftRight_eq_div_pow]
  omega
/-- charAt's cast of a byte read back -/
def chr8 (u : Int32) : Int32 := (u &&& 255).toUInt32.toUInt16.toUInt32.toInt32
theorem chr8_lo8 {c : Int32} (h0 : ¬ c < 0) (h1 : ¬ 255 < c) : chr8 (lo8 c) = c := by
  have t : ∀ k : Fin 256, (Int32.ofNat k.val).toUInt32.toUInt16.toUInt32.toInt32 = Int32.ofNat k.val := by decide +kernel
  unfold chr8
  rw [lo8_mask h0 h1]
  rw [Int32.lt_iff_toInt_lt] at h0 h1
  have e0 : (0 : Int32).toInt = 0 := rfl
  have e1 : (255 : Int32).toInt = 255 := rfl
  obtain ⟨k, hk⟩ : ∃ k : Nat, c.toInt = k := ⟨c.toInt.toNat, by omega⟩
  have hx : c = Int32.ofNat k := Int32.toInt_inj.mp (by rw [hk, Int32.toInt_ofNat_small (by omega)])
  rw [hx]
  exact t ⟨k, by omega⟩
theorem narrow_ch {c : Int32} (h0 : ¬ c < 0) (h1 : ¬ 65535 < c) : narrow .char (.int c) = .int c := by
  have q : narrow .char (.int (pairCh (lo8 c) (hi8 c))) = .int (pairCh (lo8 c) (hi8 c)) := narrow_c _
  rwa [pair_says h0 h1] at q
/-- the array's cell V codes the n chars f 0 .. f (n - 1) by the coder cd, as the JDK does: coder 1 just where some char is above 255 -/
def Cod (cd : Int32) (n : Nat) (f : Nat → Int32) (V : Cell) : Prop := (cd = 0 ∧ V.slots.size = n ∧ ∀ j, j < n → V.slots[j]? = some (.int (lo8 (f j))) ∧ ¬ 255 < f j) ∨ (cd = 1 ∧ V.slots.size = 2 * n ∧ (∀ j, j < n → V.slots[2 * j]? = some (.int (lo8 (f j))) ∧ V.slots[2 * j + 1]? = some (.int (hi8 (f j)))) ∧ ∃ j, j < n ∧ 255 < f j)
theorem Cod.cd {cd : Int32} {n : Nat} {f : Nat → Int32} {V : Cell} (h : Cod cd n f V) : cd = 0 ∨ cd = 1 := h.imp (fun q => q.1) fun q => q.1
theorem Cod.len {cd : Int32} {n : Nat} {f : Nat → Int32} {V : Cell} (h : Cod cd n f V) (hs : V.slots.size < 2 ^ 31) : Int32.ofNat V.slots.size >>> (cd &&& 31) = Int32.ofNat n := by
  rcases h with ⟨rfl, h, -⟩ | ⟨rfl, h, -⟩
  · rw [shr0, h]
  · rw [h, shr1 (by omega)]
/-- **x is a String of the n chars f 0 .. f (n - 1)**, Latin-1 or UTF-16; its array at t has the cell V -/
def Txt (x t : Addr) (V : Cell) (cd : Int32) (n : Nat) (f : Nat → Int32) (U : State) : Prop := Exact "java/lang/String" x U ∧ Has x "java/lang/String" "value" "[B" (.ref t) U ∧ Has x "java/lang/String" "coder" "B" (.int cd) U ∧ XT.Arr .byte t V U ∧ Cod cd n f V ∧ ∀ j, j < n → ¬ f j < 0 ∧ ¬ 65535 < f j
theorem Txt.mv {x t : Addr} {V : Cell} {cd : Int32} {n : Nat} {f : Nat → Int32} {U U' : State} (h : Txt x t V cd n f U) (hal : U.vm.Alike U'.vm) (hh : U'.heap = U.heap) : Txt x t V cd n f U' := ⟨h.1.mv hal hh, h.2.1.mv hal hh, h.2.2.1.mv hal hh, h.2.2.2.1.mv hal hh, h.2.2.2.2⟩
namespace Cdr
def yN : MethodName := ⟨"java/lang/String", "coder", "()B"⟩
abbrev yB : ByteArray := jdk_42_method_152_code
theorem d0 : decode yB 0 = .ok (.getstatic 38, 3) := by decide +kernel
theorem d3 : decode yB 3 = .ok (.ifCond (.eq) 10, 3) := by decide +kernel
theorem d6 : decode yB 6 = .ok (.aload_n 0, 1) := by decide +kernel
theorem d7 : decode yB 7 = .ok (.getfield 15, 3) := by decide +kernel
theorem d10 : decode yB 10 = .ok (.goto 4, 3) := by decide +kernel
theorem d14 : decode yB 14 = .ok (.ireturn, 1) := by decide +kernel
def site : List Cond := [.fieldLink "java/lang/String" 38 "java/lang/String" "COMPACT_STRINGS" "Z", .fieldLink "java/lang/String" 15 "java/lang/String" "coder" "B"]
def tab : Cond := tabOf yN yB 1 (some .byte) site
def P (x : Addr) (cd z : Int32) (args : Array Value) (s : State) : Prop := args = #[.ref x] ∧ Has x "java/lang/String" "coder" "B" (.int cd) s ∧ (cd = 0 ∨ cd = 1) ∧ StaticIs s "java/lang/String" "COMPACT_STRINGS" "Z" (.int z) ∧ ¬ z = 0
def E (cd : Int32) (r : Option Value) (s u : State) : Prop := XT.PureE (some (.int cd)) r s u
theorem law (l : Launch) (x : Addr) (cd z : Int32) : Law l yN 1 0 0 0 yB 1 (some .byte) site (P x cd z) (E cd) [] 0 0 := by
  refine Law.of_walk (plainFor_of_name (by decide +kernel)) (by decide +kernel) (by decide +kernel) (by decide) (fun _ _ h => by rw [h.1]; rfl) (fun _ U U' hal hh h => ⟨h.1, h.2.1.mv hal hh, h.2.2.1, h.2.2.2.1.there hal hh, h.2.2.2.2⟩) (fun r U U' V V' h1 hal h2 h => XT.PureE.mv r U U' V V' h1 hal h2 h) ?_
  intro p e s m args below meth c s₁ X0 hexec hbytes hml hret hlk hnm hown hh0 W hP
  obtain ⟨rfl, hx, hc, s1, hz⟩ := hP
  have c1 : Steps p.tables e below (s₁.setTop (entryFrame m #[.ref x] 1)) (s₁.setTop (mkF m 0 #[.val (.ref x)] [])) := entry rfl
  obtain ⟨T2, X2, q2, st2⟩ := X0.sget hexec hown (wk W (.fieldLink "java/lang/String" 38 "java/lang/String" "COMPACT_STRINGS" "Z")) s1 (fun _ _ h => by rw [hh0]; exact h) (g := (mkF m 0 #[.val (.ref x)] [])) rfl (hb hbytes d0)
  have hh2 := q2.trans hh0
  have c3 : Steps p.tables e below (s₁.setTop (entryFrame m #[.ref x] 1)) (T2.setTop (mkF m 7 #[.val (.ref x)] [.ref x])) := (c1.trans (st2 _ (Steps.refl _))).trans (by
    refine XS.ifNo X2.here hexec rfl (hb hbytes d3) rfl (i0_eq_f hz) ?_
    refine XS.aloadN X2.here hexec rfl (hb hbytes d6) rfl rfl ?_
    exact Steps.refl _)
  obtain ⟨T4, X4, q4, st4⟩ := X2.hget hexec hown (wk W (.fieldLink "java/lang/String" 15 "java/lang/String" "coder" "B")) (hx.mv X2.warmed.alike hh2) (g := (mkF m 7 #[.val (.ref x)] [.ref x])) rfl (rest := []) rfl (hb hbytes d7)
  have c5 : Steps p.tables e below (s₁.setTop (entryFrame m #[.ref x] 1)) (T4.setTop (mkF m 14 #[.val (.ref x)] [.int cd])) := (c3.trans (st4 _ (Steps.refl _))).trans (by
    refine XS.goto X4.here hexec rfl (pc0 := 10) rfl (hb hbytes d10) (by decide) rfl ?_
    exact Steps.refl _)
  exact ⟨T4, some (.int cd), _, _, _, X4, rfl, rfl, rfl, (fun h => by cases h), ⟨rfl, q4.trans hh2⟩, fun fs hl => c5.trans (X4.ireturnOut hexec hret (by rcases hc with rfl | rfl <;> rfl) (Or.inr (Or.inr (Or.inl rfl))) (hb hbytes d14) hl)⟩
end Cdr
namespace Len
def yN : MethodName := ⟨"java/lang/String", "length", "()I"⟩
abbrev yB : ByteArray := jdk_42_method_54_code
theorem d0 : decode yB 0 = .ok (.aload_n 0, 1) := by decide +kernel
theorem d1 : decode yB 1 = .ok (.getfield 9, 3) := by decide +kernel
theorem d4 : decode yB 4 = .ok (.arraylength, 1) := by decide +kernel
theorem d5 : decode yB 5 = .ok (.aload_n 0, 1) := by decide +kernel
theorem d6 : decode yB 6 = .ok (.invokevirtual 335, 3) := by decide +kernel
theorem d9 : decode yB 9 = .ok (.ishr, 1) := by decide +kernel
theorem d10 : decode yB 10 = .ok (.ireturn, 1) := by decide +kernel
def site : List Cond := [.fieldLink "java/lang/String" 9 "java/lang/String" "value" "[B", Cdr.tab] ++ virtW "java/lang/String" 335 "java/lang/String" Cdr.yN Cdr.yN
def tab : Cond := tabOf yN yB 1 (some .int) site
def P (x t : Addr) (V : Cell) (cd : Int32) (n : Nat) (f : Nat → Int32) (z : Int32) (args : Array Value) (s : State) : Prop := args = #[.ref x] ∧ Txt x t V cd n f s ∧ StaticIs s "java/lang/String" "COMPACT_STRINGS" "Z" (.int z) ∧ ¬ z = 0
def E (n : Nat) (r : Option Value) (s u : State) : Prop := XT.PureE (some (.int (Int32.ofNat n))) r s u
/-- length() of a String of n chars, in either coding -/
theorem law (l : Launch) (x t : Addr) (V : Cell) (cd : Int32) (n : Nat) (f : Nat → Int32) (z : Int32) : Law l yN 1 0 1 13 yB 1 (some .int) site (P x t V cd n f z) (E n) [] 0 0 := by
  refine Law.of_walk (plainFor_of_name (by decide +kernel)) (by decide +kernel) (by decide +kernel) (by decide) (fun _ _ h => by rw [h.1]; rfl) (fun _ U U' hal hh h => ⟨h.1, h.2.1.mv hal hh, h.2.2.1.there hal hh, h.2.2.2⟩) (fun r U U' V V' h1 hal h2 h => XT.PureE.mv r U U' V V' h1 hal h2 h) ?_
  intro p e s m args below meth c s₁ X0 hexec hbytes hml hret hlk hnm hown hh0 W hP
  obtain ⟨rfl, hx, s1, hz⟩ := hP
  have v31 := hx.2.2.2.1.2.2.2
  have c1 : Steps p.tables e below (s₁.setTop (entryFrame m #[.ref x] 1)) (s₁.setTop (mkF m 1 #[.val (.ref x)] [.ref x])) := Steps.trans (entry rfl) (by
    show Steps p.tables e below (s₁.setTop (mkF m 0 #[.val (.ref x)] [])) _
    refine XS.aloadN X0.here hexec rfl (hb hbytes d0) rfl rfl ?_
    exact Steps.refl _)
  obtain ⟨T2, X2, q2, st2⟩ := X0.hget hexec hown (wk W (.fieldLink "java/lang/String" 9 "java/lang/String" "value" "[B")) (hx.mv X0.warmed.alike hh0).2.1 (g := (mkF m 1 #[.val (.ref x)] [.ref x])) rfl (rest := []) rfl (hb hbytes d1)
  have hh2 := q2.trans hh0
  have hx2 := hx.mv X2.warmed.alike hh2
  have c3 : Steps p.tables e below (s₁.setTop (entryFrame m #[.ref x] 1)) (T2.setTop (mkF m 6 #[.val (.ref x)] [.ref x, .int (Int32.ofNat V.slots.size)])) := (c1.trans (st2 _ (Steps.refl _))).trans (by
    refine X2.alen hexec hx2.2.2.2.1 rfl rfl (hb hbytes d4) ?_
    refine XS.aloadN X2.here hexec rfl (hb hbytes d5) rfl rfl ?_
    exact Steps.refl _)
  obtain ⟨v4, T4, X4, E4, g4⟩ := X2.callV hexec (Cdr.law l x cd z) hown (wks W (virtW "java/lang/String" 335 "java/lang/String" Cdr.yN Cdr.yN)) rfl (by decide) (wk W Cdr.tab) (W := 1) (Nat.le_of_ble_eq_true rfl) (Nat.le_of_ble_eq_true rfl) (Nat.le_refl _) (Nat.le_refl _) (hx2.1.fc X2.warmed.alike) hx2.1.is (g := (mkF m 6 #[.val (.ref x)] [.ref x, .int (Int32.ofNat V.slots.size)])) rfl (by rw [hml]; rfl) c3 (argsL := []) (rest := [.int (Int32.ofNat V.slots.size)]) rfl rfl (by show 2 * 0 + (1 + 0) ≤ _; decide) (hb hbytes d6) (⟨rfl, hx2.2.2.1, hx.2.2.2.2.1.cd, s1.there X2.warmed.alike hh2, hz⟩)
  obtain ⟨rfl, q4⟩ := E4
  have c5 : Steps p.tables e below (s₁.setTop (entryFrame m #[.ref x] 1)) (T4.setTop (mkF m 10 #[.val (.ref x)] [.int (Int32.ofNat V.slots.size >>> (cd &&& 31))])) := Steps.trans g4 (by
    refine ishr X4.here hexec rfl (hb hbytes d9) rfl ?_
    exact Steps.refl _)
  rw [hx.2.2.2.2.1.len v31] at c5
  exact ⟨T4, some (.int (Int32.ofNat n)), _, _, _, X4, rfl, rfl, rfl, (fun h => by cases h), ⟨rfl, q4.trans hh2⟩, fun fs hl => c5.trans (X4.ireturnOut hexec hret rfl (Or.inl rfl) (hb hbytes d10) hl)⟩
theorem pays {l : Launch} {R : Room} {p : Program} {e : Env} {below : List Frame} {s : State} {sargs : Array Value} {len W : Nat} (x t : Addr) (V : Cell) (cd : Int32) (n : Nat) (f : Nat → Int32) (z : Int32) (htab : tab.before sargs s = true) (hfr : 2 ≤ R.frames) (hlo : W + 25 ≤ R.locals) :
    Back l R p e below s sargs yN len W (fun A₁ a₁ => A₁.cells + 0 ≤ R.cells ∧ A₁.slots + 0 ≤ R.slots ∧ P x t V cd n f z a₁ A₁.U) (fun A₁ _ v₁ B₁ => E n v₁ A₁.U B₁.U ∧ B₁.locs = A₁.locs ++ [] ∧ B₁.cells = A₁.cells + 0 ∧ B₁.slots = A₁.slots + 0) :=
  (law l x t V cd n f z).pays htab hfr (by omega)
end Len
namespace IsL
def yN : MethodName := ⟨"java/lang/String", "isLatin1", "()Z"⟩
abbrev yB : ByteArray := jdk_42_method_154_code
theorem d0 : decode yB 0 = .ok (.getstatic 38, 3) := by decide +kernel
theorem d3 : decode yB 3 = .ok (.ifCond (.eq) 14, 3) := by decide +kernel
theorem d6 : decode yB 6 = .ok (.aload_n 0, 1) := by decide +kernel
theorem d7 : decode yB 7 = .ok (.getfield 15, 3) := by decide +kernel
theorem d10 : decode yB 10 = .ok (.ifCond (.ne) 7, 3) := by decide +kernel
theorem d13 : decode yB 13 = .ok (.iconst 1, 1) := by decide +kernel
theorem d14 : decode yB 14 = .ok (.goto 4, 3) := by decide +kernel
theorem d17 : decode yB 17 = .ok (.iconst 0, 1) := by decide +kernel
theorem d18 : decode yB 18 = .ok (.ireturn, 1) := by decide +kernel
def site : List Cond := [.fieldLink "java/lang/String" 38 "java/lang/String" "COMPACT_STRINGS" "Z", .fieldLink "java/lang/String" 15 "java/lang/String" "coder" "B"]
def tab : Cond := tabOf yN yB 1 (some .boolean) site
def P (x : Addr) (cd z : Int32) (args : Array Value) (s : State) : Prop := args = #[.ref x] ∧ Has x "java/lang/String" "coder" "B" (.int cd) s ∧ (cd = 0 ∨ cd = 1) ∧ StaticIs s "java/lang/String" "COMPACT_STRINGS" "Z" (.int z) ∧ ¬ z = 0
def E (cd : Int32) (r : Option Value) (s u : State) : Prop := XT.PureE (some (.int (1 - cd))) r s u
theorem law (l : Launch) (x : Addr) (cd z : Int32) : Law l yN 1 0 0 0 yB 1 (some .boolean) site (P x cd z) (E cd) [] 0 0 := by
  refine Law.of_walk (plainFor_of_name (by decide +kernel)) (by decide +kernel) (by decide +kernel) (by decide) (fun _ _ h => by rw [h.1]; rfl) (fun _ U U' hal hh h => ⟨h.1, h.2.1.mv hal hh, h.2.2.1, h.2.2.2.1.there hal hh, h.2.2.2.2⟩) (fun r U U' V V' h1 hal h2 h => XT.PureE.mv r U U' V V' h1 hal h2 h) ?_
  intro p e s m args below meth c s₁ X0 hexec hbytes hml hret hlk hnm hown hh0 W hP
  obtain ⟨rfl, hx, hc, s1, hz⟩ := hP
  have c1 : Steps p.tables e below (s₁.setTop (entryFrame m #[.ref x] 1)) (s₁.setTop (mkF m 0 #[.val (.ref x)] [])) := entry rfl
  obtain ⟨T2, X2, q2, st2⟩ := X0.sget hexec hown (wk W (.fieldLink "java/lang/String" 38 "java/lang/String" "COMPACT_STRINGS" "Z")) s1 (fun _ _ h => by rw [hh0]; exact h) (g := (mkF m 0 #[.val (.ref x)] [])) rfl (hb hbytes d0)
  have hh2 := q2.trans hh0
  have c3 : Steps p.tables e below (s₁.setTop (entryFrame m #[.ref x] 1)) (T2.setTop (mkF m 7 #[.val (.ref x)] [.ref x])) := (c1.trans (st2 _ (Steps.refl _))).trans (by
    refine XS.ifNo X2.here hexec rfl (hb hbytes d3) rfl (i0_eq_f hz) ?_
    refine XS.aloadN X2.here hexec rfl (hb hbytes d6) rfl rfl ?_
    exact Steps.refl _)
  obtain ⟨T4, X4, q4, st4⟩ := X2.hget hexec hown (wk W (.fieldLink "java/lang/String" 15 "java/lang/String" "coder" "B")) (hx.mv X2.warmed.alike hh2) (g := (mkF m 7 #[.val (.ref x)] [.ref x])) rfl (rest := []) rfl (hb hbytes d7)
  have c5 : Steps p.tables e below (s₁.setTop (entryFrame m #[.ref x] 1)) (T4.setTop (mkF m 10 #[.val (.ref x)] [.int cd])) := c3.trans (st4 _ (Steps.refl _))
  have c6 : Steps p.tables e below (s₁.setTop (entryFrame m #[.ref x] 1)) (T4.setTop (mkF m 18 #[.val (.ref x)] [.int (1 - cd)])) := by
    rcases hc with rfl | rfl
    · exact c5.trans (by
        refine XS.ifNo X4.here hexec rfl (hb hbytes d10) rfl (i0_ne_f rfl) ?_
        refine iconstV X4.here hexec rfl 1 (hb hbytes d13) (by decide) ?_
        refine XS.goto X4.here hexec rfl (pc0 := 14) rfl (hb hbytes d14) (by decide) rfl ?_
        exact Steps.refl _)
    · exact c5.trans (by
        refine XS.ifYes X4.here hexec rfl (pc0 := 10) rfl (hb hbytes d10) rfl (i0_ne_t (by decide)) (by decide) rfl ?_
        refine iconstV X4.here hexec rfl 0 (hb hbytes d17) (by decide) ?_
        exact Steps.refl _)
  exact ⟨T4, some (.int (1 - cd)), _, _, _, X4, rfl, rfl, rfl, (fun h => by cases h), ⟨rfl, q4.trans hh2⟩, fun fs hl => c6.trans (X4.ireturnOut hexec hret (by rcases hc with rfl | rfl <;> rfl) (Or.inr (Or.inl rfl)) (hb hbytes d18) hl)⟩
end IsL
namespace LChA
def yN : MethodName := ⟨"java/lang/StringLatin1", "charAt", "([BI)C"⟩
abbrev yB : ByteArray := jdk_43_method_2_code
theorem d0 : decode yB 0 = .ok (.iload_n 1, 1) := by decide +kernel
theorem d1 : decode yB 1 = .ok (.aload_n 0, 1) := by decide +kernel
theorem d2 : decode yB 2 = .ok (.arraylength, 1) := by decide +kernel
theorem d3 : decode yB 3 = .ok (.invokestatic 9, 3) := by decide +kernel
theorem d6 : decode yB 6 = .ok (.aload_n 0, 1) := by decide +kernel
theorem d7 : decode yB 7 = .ok (.iload_n 1, 1) := by decide +kernel
theorem d8 : decode yB 8 = .ok (.baload, 1) := by decide +kernel
theorem d9 : decode yB 9 = .ok (.sipush 255, 3) := by decide +kernel
theorem d12 : decode yB 12 = .ok (.iand, 1) := by decide +kernel
theorem d13 : decode yB 13 = .ok (.i2c, 1) := by decide +kernel
theorem d14 : decode yB 14 = .ok (.ireturn, 1) := by decide +kernel
def site : List Cond := [JO.Str_checkIndex.tab] ++ staticW "java/lang/StringLatin1" 9 JO.Str_checkIndex.yN
def tab : Cond := tabOf yN yB 2 (some .char) site
def P (t : Addr) (V : Cell) (i : Nat) (u : Int32) (fm : Value) (args : Array Value) (s : State) : Prop := args = #[.ref t, .int (Int32.ofNat i)] ∧ XT.Arr .byte t V s ∧ V.slots[i]? = some (.int u) ∧ (StaticIs s "jdk/internal/util/Preconditions" "SIOOBE_FORMATTER" "Ljava/util/function/BiFunction;" fm ∧ fm.isRef = true)
def E (u : Int32) (r : Option Value) (s w : State) : Prop := XT.PureE (some (.int (chr8 u))) r s w
theorem law (l : Launch) (t : Addr) (V : Cell) (i : Nat) (u : Int32) (fm : Value) : Law l yN 2 2 2 27 yB 2 (some .char) site (P t V i u fm) (E u) [] 0 0 := by
  refine Law.of_walk (plainFor_of_name (by decide +kernel)) (by decide +kernel) (by decide +kernel) (by decide) (fun _ _ h => by rw [h.1]; rfl) (fun _ U U' hal hh h => ⟨h.1, h.2.1.mv hal hh, h.2.2.1, h.2.2.2.1.there hal hh, h.2.2.2.2⟩) (fun r U U' V V' h1 hal h2 h => XT.PureE.mv r U U' V V' h1 hal h2 h) ?_
  intro p e s m args below meth c s₁ X0 hexec hbytes hml hret hlk hnm hown hh0 W hP
  obtain ⟨rfl, hV, hu, s1, rf⟩ := hP
  have v31 := hV.2.2.2
  have hi : i < V.slots.size := (Array.getElem?_eq_some_iff.mp hu).1
  have c1 : Steps p.tables e below (s₁.setTop (entryFrame m #[.ref t, .int (Int32.ofNat i)] 2)) (s₁.setTop (mkF m 0 #[.val (.ref t), .val (.int (Int32.ofNat i))] [])) := entry rfl
  have c2 : Steps p.tables e below (s₁.setTop (entryFrame m #[.ref t, .int (Int32.ofNat i)] 2)) (s₁.setTop (mkF m 3 #[.val (.ref t), .val (.int (Int32.ofNat i))] [.int (Int32.ofNat V.slots.size), .int (Int32.ofNat i)])) := c1.trans (by
    refine XS.iloadN X0.here hexec rfl (hb hbytes d0) rfl ?_
    refine XS.aloadN X0.here hexec rfl (hb hbytes d1) rfl rfl ?_
    refine X0.alen hexec (hV.mv X0.warmed.alike hh0) rfl rfl (hb hbytes d2) ?_
    exact Steps.refl _)
  obtain ⟨v3, T3, X3, E3, g3⟩ := X0.callS hexec (JO.Str_checkIndex.law l (Int32.ofNat i) (Int32.ofNat V.slots.size) fm) hown (wks W (staticW "java/lang/StringLatin1" 9 JO.Str_checkIndex.yN)) (wk W JO.Str_checkIndex.tab) (W := 0) (Nat.le_of_ble_eq_true rfl) (Nat.le_of_ble_eq_true rfl) (Nat.le_refl _) (Nat.le_refl _) (g := (mkF m 3 #[.val (.ref t), .val (.int (Int32.ofNat i))] [.int (Int32.ofNat V.slots.size), .int (Int32.ofNat i)])) rfl (by rw [hml]; rfl) c2 (argsL := [.int (Int32.ofNat i), .int (Int32.ofNat V.slots.size)]) (rest := []) rfl rfl (by show 2 * 0 + 0 ≤ _; decide) (hb hbytes d3) (⟨rfl, rf, s1.there X0.warmed.alike hh0, Int32.ofNat_not_neg (by omega), lt32 v31 hi⟩)
  obtain ⟨rfl, q3⟩ := E3
  have hh3 := q3.trans hh0
  have c4 : Steps p.tables e below (s₁.setTop (entryFrame m #[.ref t, .int (Int32.ofNat i)] 2)) (T3.setTop (mkF m 14 #[.val (.ref t), .val (.int (Int32.ofNat i))] [.int (chr8 u)])) := Steps.trans g3 (by
    refine XS.aloadN X3.here hexec rfl (hb hbytes d6) rfl rfl ?_
    refine XS.iloadN X3.here hexec rfl (hb hbytes d7) rfl ?_
    refine X3.aget hexec (hV.mv X3.warmed.alike hh3) rfl hu rfl rfl (hb hbytes d8) ?_
    refine sipushV X3.here hexec rfl 255 (hb hbytes d9) (by decide) ?_
    refine XS.iand X3.here hexec rfl (hb hbytes d12) rfl ?_
    refine i2c X3.here hexec rfl (hb hbytes d13) rfl ?_
    exact Steps.refl _)
  exact ⟨T3, some (.int (chr8 u)), _, _, _, X3, rfl, rfl, rfl, (fun h => by cases h), ⟨rfl, hh3⟩, fun fs hl => c4.trans (X3.ireturnOut hexec hret (narrow_c _) (Or.inr (Or.inr (Or.inr (Or.inl rfl)))) (hb hbytes d14) hl)⟩
end LChA
end StrChars
namespace StrChars.Road
open Jvm Sem ClassFile Op Lib Jvm.Stand Jvm.Free Jvm.Free.XT
open Jvm.Lib.Cold (StaticIs)
theorem consq {a : Array Value} {s : State} {c : Jvm.Cond} {L : List Jvm.Cond} (h0 : c.before a s = true) (h : ∀ w ∈ L, w.before a s = true) : ∀ w ∈ c :: L, w.before a s = true := fun w hw => (List.mem_cons.mp hw).elim (fun e => e ▸ h0) (h w)
/-- the words of String.length(), either coding -/
abbrev wordsLen : List Jvm.Cond := [.code Len.yN Len.yB 1 (some .int), .initialized ST, .fieldLink ST 9 ST "value" "[B", .fieldLink ST 38 ST "COMPACT_STRINGS" "Z", .fieldLink ST 15 ST "coder" "B", .code Cdr.yN Cdr.yB 1 (some .byte), .methodLink ST 335 Cdr.yN, .declares Cdr.yN, .selects ST Cdr.yN Cdr.yN, .instanceMethod Cdr.yN]
theorem tabLen_of {a : Array Value} {s : State} (h : ∀ w ∈ wordsLen, w.before a s = true) : Len.tab.before a s = true := by
  have hc : Cdr.tab.before a s = true := unparts (wk h (.code Cdr.yN Cdr.yB 1 (some .byte))) (wks h (.initialized Cdr.yN.cls :: Cdr.site))
  have q := consq hc h
  exact unparts (wk q (.code Len.yN Len.yB 1 (some .int))) (wks q (.initialized Len.yN.cls :: Len.site))
theorem movedLen {Z s : State} {a0 args : Array Value} (hZ : Z.Warmed39 s.vm) (hw : ∀ d ∈ wordsLen, d.before a0 Z = true) : ∀ d ∈ wordsLen, d.before args s = true := fun d hd => by
  have q := hw d hd
  have t : ∀ d ∈ wordsLen, d = .arrayClass .byte ∨ (d.onTables && d.keepsFace) = true := by decide +kernel
  rcases t d hd with rfl | t
  · exact RoadKit.mvA hZ q
  · exact RoadKit.mv hZ q t
/-- the bytes of the chars cs, low before high -/
def wideBytes : List Int32 → List Value
  | [] => []
  | c :: cs => .int (lo8 c) :: .int (hi8 c) :: wideBytes cs
theorem wide_lo (d : Value) : ∀ (cs : List Int32) (j : Nat), j < cs.length → (wideBytes cs).getD (2 * j) d = .int (lo8 (cs.getD j 0))
  | [], j, h => absurd h (Nat.not_lt_zero j)
  | c :: cs, 0, _ => rfl
  | c :: cs, j + 1, h => by
    have q := wide_lo d cs j (by simpa using h)
    rw [show 2 * (j + 1) = 2 * j + 1 + 1 from by omega]
    simpa [wideBytes] using q
theorem wide_hi (d : Value) : ∀ (cs : List Int32) (j : Nat), j < cs.length → (wideBytes cs).getD (2 * j + 1) d = .int (hi8 (cs.getD j 0))
  | [], j, h => absurd h (Nat.not_lt_zero j)
  | c :: cs, 0, _ => rfl
  | c :: cs, j + 1, h => by
    have q := wide_hi d cs j (by simpa using h)
    rw [show 2 * (j + 1) + 1 = 2 * j + 1 + 1 + 1 from by omega]
    simpa [wideBytes] using q
theorem low_at (d : Value) (cs : List Int32) (j : Nat) (h : j < cs.length) : (cs.map fun c => Value.int (lo8 c)).getD j d = .int (lo8 (cs.getD j 0)) := by
  simp [List.getD_eq_getElem?_getD, h]
/-- an array of N2 bytes vs codes the chars cs by the coder cd -/
def CodA (cs : List Int32) (cd N2 : Int32) (vs : List Value) : Prop := (cd = 0 ∧ N2 = Int32.ofNat cs.length ∧ vs = (cs.map fun c => Value.int (lo8 c)) ∧ ∀ c ∈ cs, ¬ 255 < c) ∨ (cd = 1 ∧ N2 = Int32.ofNat (2 * cs.length) ∧ vs = wideBytes cs ∧ ∃ c ∈ cs, 255 < c)
theorem CodA.cod {cs : List Int32} {cd N2 : Int32} {vs : List Value} {V : Cell} (h : CodA cs cd N2 vs) (hn : 2 * cs.length < 2 ^ 31) (hs : V.slots.size = N2.toNatClampNeg) (hv : RoadKit.Has V vs (.int 0)) : Cod cd cs.length (fun j => cs.getD j 0) V := by
  rcases h with ⟨rfl, rfl, rfl, h⟩ | ⟨rfl, rfl, rfl, c, hc, hw⟩
  · rw [n32 (by omega)] at hs
    exact Or.inl ⟨rfl, hs, fun j hj => ⟨by rw [hv j (by omega), low_at _ _ _ hj], by
      have e : cs.getD j 0 = cs[j] := by simp [List.getD_eq_getElem?_getD, hj]
      show ¬ 255 < cs.getD j 0
      rw [e]; exact h _ (List.getElem_mem _)⟩⟩
  · rw [n32 (by omega)] at hs
    obtain ⟨j, hj, rfl⟩ := List.getElem_of_mem hc
    exact Or.inr ⟨rfl, hs, fun j hj => ⟨by rw [hv _ (by omega), wide_lo _ _ _ hj], by rw [hv _ (by omega), wide_hi _ _ _ hj]⟩, j, hj, by
      have e : cs.getD j 0 = cs[j] := by simp [List.getD_eq_getElem?_getD, hj]
      show 255 < cs.getD j 0
      rw [e]; exact hw⟩
/-- an object of exactly java/lang/String, its two fields found: as the laws ask it -/
theorem strObj {Z U : State} {a0 : Array Value} {kI : Nat} (wi : (Jvm.Cond.instantiable ST kI).before a0 Z = true) (al : Z.vm.Alike U.vm) {x : Addr} {v0 c0 : Value} (E : RoadKit.Exa Z U.heap x ST) (V : RoadKit.Fld Z U.heap x ST "value" "[B" v0) (C : RoadKit.Fld Z U.heap x ST "coder" "B" c0) :
    ∃ (D : Cell) (fV fC : Field), Blank ST x D U ∧ Found ST "value" "[B" fV U ∧ Found ST "coder" "B" fC U ∧ D.slots[fV.slot]? = some v0 ∧ D.slots[fC.slot]? = some c0 ∧ RoadKit.slotOf Z ST "value" "[B" = fV.slot ∧ RoadKit.slotOf Z ST "coder" "B" = fC.slot := by
  obtain ⟨D, cfV, kV, iV, fV, hD, gV, stV, knV, obV, asV, slV⟩ := V
  obtain ⟨D', cfC, kC, iC, fC, hD', gC, stC, -, -, asC, slC⟩ := C
  cases hD.symm.trans hD'
  obtain ⟨D2, kD, e1, e2, e3, e4, e5⟩ := E
  cases hD.symm.trans e1
  obtain ⟨c2, k2, i1, i2, i3, -⟩ := Cond.instantiable_spec wi
  cases e2.symm.trans i1
  cases e3.symm.trans i2
  obtain ⟨kU, u1, u2⟩ := al.2.2 _ _ e3
  exact ⟨D, fV, fC, ⟨hD, ⟨knV, fun q hq => by rw [hq] at obV; cases obV⟩, by rw [al.findClass]; exact e2, kU, u1, by rw [u2]; exact i3, by rw [u2]; exact e5 i3⟩, ⟨SBG.found_only al ⟨cfV, kV, iV, gV⟩, stV⟩, ⟨SBG.found_only al ⟨cfC, kC, iC, gC⟩, stC⟩, slV, slC, by simp [RoadKit.slotOf, gV], by simp [RoadKit.slotOf, gC]⟩
theorem sta_is {Z U : State} (al : Z.vm.Alike U.vm) {C n d : String} {v : Value} (S : RoadKit.Sta Z U.heap C n d v) : StaticIs U C n d v := by
  obtain ⟨cfS, iS, kS, fS, st, cS, t1, t2, t3, t4, t5, t6, t7⟩ := S
  exact StaticIs.there (s := { Z with heap := U.heap }) ⟨cfS, iS, kS, fS, st, cS, t1, t2, t3, t4, t5, (fun q => by rw [q] at t6; cases t6), t7⟩ al rfl
/-- **length() OF SUCH A STRING** -/
theorem lenW {p : Program} {l : Launch} {e : Env} {R : Room} {s : State} {args : Array Value} {below : List Frame} {len W : Nat} {Z : State} {a0 : Array Value} {h : Heap} (hZ : Z.Warmed39 s.vm) (hw : ∀ d ∈ wordsLen, d.before a0 Z = true) {kI : Nat} (wi : (Jvm.Cond.instantiable ST kI).before a0 Z = true)
    {x t : Addr} {kb : ClassId} {cs : List Int32} {cd N2 z : Int32} {vs : List Value} (E : RoadKit.Exa Z h x ST) (V : RoadKit.Fld Z h x ST "value" "[B" (.ref t)) (C : RoadKit.Fld Z h x ST "coder" "B" (.int cd)) (K : RoadKit.Arv Z h t kb .byte N2 vs (.int 0)) (hc : CodA cs cd N2 vs) (hb : ∀ c ∈ cs, ¬ c < 0 ∧ ¬ (65535 : Int32) < c)
    (S : RoadKit.Sta Z h ST "COMPACT_STRINGS" "Z" (.int z)) (hz : ¬ z = 0) (l2 : cs.length ≤ 4000) (hfr : 2 ≤ R.frames) (hlo : W + 25 ≤ R.locals) :
    Back l R p e below s args (⟨"java/lang/String", "length", "()I"⟩ : MethodName) len W (fun P a => a = #[.ref x] ∧ P.U.heap = h ∧ P.cells + 0 ≤ R.cells ∧ P.slots + 0 ≤ R.slots)
      (fun P _ v B => ∃ L, (v = some (.int (Int32.ofNat cs.length)) ∧ L = [] ∧ B.U.heap = h) ∧ B.locs = P.locs ++ L ∧ B.cells = P.cells + 0 ∧ B.slots = P.slots + 0) := by
  obtain ⟨A, K1, K2, K3, K4, K5, K6⟩ := K
  have hcod := hc.cod (by omega) K3 K5
  intro m meth c P g ig mk a X hg hsize hdg hW hn hp'
  obtain ⟨rfl, rfl, r1, r2⟩ := hp'
  have al : Z.vm.Alike P.U.vm := hZ.alike.trans X.warmed.alike
  obtain ⟨D, fV, fC, hB, F1, F2, g1, g2, -, -⟩ := strObj wi al E V C
  have hx : Txt x t A cd cs.length (fun j => cs.getD j 0) P.U := ⟨⟨_, hB.2.2.1, D, hB.1, rfl, by cases q : D.vm <;> first | rfl | exact absurd q (hB.2.1.2 _)⟩, Has.of hB F1 g1, Has.of hB F2 g2, ⟨K1.1, State.isArrayOf_alike al K1.2.1, K1.2.2, by rcases hcod with ⟨-, q, -⟩ | ⟨-, q, -⟩ <;> omega⟩, hcod, fun j hj => by
    have e : cs.getD j 0 = cs[j] := by simp [List.getD_eq_getElem?_getD, hj]
    show ¬ cs.getD j 0 < 0 ∧ ¬ 65535 < cs.getD j 0
    rw [e]; exact hb _ (List.getElem_mem _)⟩
  obtain ⟨v, B, X', ⟨⟨hv, hh⟩, hl, hk, hs⟩, st⟩ := Len.pays x t A cd cs.length (fun j => cs.getD j 0) z (tabLen_of (movedLen hZ hw)) hfr hlo m meth c P g ig mk _ X hg hsize hdg hW hn ⟨r1, r2, rfl, hx, sta_is al S, hz⟩
  exact ⟨v, B, X', ⟨[], ⟨hv, rfl, hh⟩, hl, hk, hs⟩, st⟩
end StrChars.Road
namespace StrChars.Road
open Jvm Sem ClassFile Op Lib Jvm.Stand Jvm.Free Jvm.Free.XT
open Jvm.Lib.Cold (StaticIs)
/-- the road's facts of a String, as the laws ask it -/
theorem txt_of {Z U : State} {a0 : Array Value} {kI : Nat} (wi : (Jvm.Cond.instantiable ST kI).before a0 Z = true) (al : Z.vm.Alike U.vm) {x t : Addr} {kb : ClassId} {cs : List Int32} {cd N2 : Int32} {vs : List Value} (E : RoadKit.Exa Z U.heap x ST) (V : RoadKit.Fld Z U.heap x ST "value" "[B" (.ref t)) (C : RoadKit.Fld Z U.heap x ST "coder" "B" (.int cd)) (K : RoadKit.Arv Z U.heap t kb .byte N2 vs (.int 0)) (hc : CodA cs cd N2 vs) (hb : ∀ c ∈ cs, ¬ c < 0 ∧ ¬ (65535 : Int32) < c) (l2 : cs.length ≤ 4000) :
    ∃ A, Txt x t A cd cs.length (fun j => cs.getD j 0) U := by
  obtain ⟨A, K1, K2, K3, K4, K5, K6⟩ := K
  have hcod := hc.cod (by omega) K3 K5
  obtain ⟨D, fV, fC, hB, F1, F2, g1, g2, -, -⟩ := strObj wi al E V C
  exact ⟨A, ⟨_, hB.2.2.1, D, hB.1, rfl, by cases q : D.vm <;> first | rfl | exact absurd q (hB.2.1.2 _)⟩, Has.of hB F1 g1, Has.of hB F2 g2, ⟨K1.1, State.isArrayOf_alike al K1.2.1, K1.2.2, by rcases hcod with ⟨-, q, -⟩ | ⟨-, q, -⟩ <;> omega⟩, hcod, fun j hj => by
    have e : cs.getD j 0 = cs[j] := by simp [List.getD_eq_getElem?_getD, hj]
    show ¬ cs.getD j 0 < 0 ∧ ¬ 65535 < cs.getD j 0
    rw [e]; exact hb _ (List.getElem_mem _)⟩
end StrChars.Road
namespace StrChars
open Jvm Sem ClassFile Op Lib Jvm.Stand Jvm.Free.XT Jvm.Free.ALB Jvm.Free.JM Jvm.Free
open Jvm.Lib.Cold (StaticIs)
namespace ChN
def yN : MethodName := ⟨"java/lang/String", "charAt", "(I)C"⟩
abbrev yB : ByteArray := jdk_42_method_56_code
theorem d0 : decode yB 0 = .ok (.aload_n 0, 1) := by decide +kernel
theorem d1 : decode yB 1 = .ok (.invokevirtual 492, 3) := by decide +kernel
theorem d4 : decode yB 4 = .ok (.ifCond (.eq) 12, 3) := by decide +kernel
theorem d7 : decode yB 7 = .ok (.aload_n 0, 1) := by decide +kernel
theorem d8 : decode yB 8 = .ok (.getfield 9, 3) := by decide +kernel
theorem d11 : decode yB 11 = .ok (.iload_n 1, 1) := by decide +kernel
theorem d12 : decode yB 12 = .ok (.invokestatic 495, 3) := by decide +kernel
theorem d15 : decode yB 15 = .ok (.ireturn, 1) := by decide +kernel
def site : List Cond := [.fieldLink "java/lang/String" 9 "java/lang/String" "value" "[B", IsL.tab, LChA.tab] ++ virtW "java/lang/String" 492 "java/lang/String" IsL.yN IsL.yN ++ staticW "java/lang/String" 495 LChA.yN
def tab : Cond := tabOf yN yB 2 (some .char) site
def P (x t : Addr) (V : Cell) (n : Nat) (f : Nat → Int32) (z : Int32) (fm : Value) (i : Nat) (args : Array Value) (s : State) : Prop := args = #[.ref x, .int (Int32.ofNat i)] ∧ Txt x t V 0 n f s ∧ i < n ∧ StaticIs s "java/lang/String" "COMPACT_STRINGS" "Z" (.int z) ∧ ¬ z = 0 ∧ StaticIs s "jdk/internal/util/Preconditions" "SIOOBE_FORMATTER" "Ljava/util/function/BiFunction;" fm ∧ fm.isRef = true
def E (f : Nat → Int32) (i : Nat) (r : Option Value) (s u : State) : Prop := XT.PureE (some (.int (f i))) r s u
/-- charAt(i) of a Latin-1 String of n chars, i < n: f i -/
theorem law (l : Launch) (x t : Addr) (V : Cell) (n : Nat) (f : Nat → Int32) (z : Int32) (fm : Value) (i : Nat) : Law l yN 2 1 3 40 yB 2 (some .char) site (P x t V n f z fm i) (E f i) [] 0 0 := by
  refine Law.of_walk (plainFor_of_name (by decide +kernel)) (by decide +kernel) (by decide +kernel) (by decide) (fun _ _ h => by rw [h.1]; rfl) (fun _ U U' hal hh h => ⟨h.1, h.2.1.mv hal hh, h.2.2.1, h.2.2.2.1.there hal hh, h.2.2.2.2.1, h.2.2.2.2.2.1.there hal hh, h.2.2.2.2.2.2⟩) (fun r U U' V V' h1 hal h2 h => XT.PureE.mv r U U' V V' h1 hal h2 h) ?_
  intro p e s m args below meth c s₁ X0 hexec hbytes hml hret hlk hnm hown hh0 W hP
  obtain ⟨rfl, hx, hi, s1, hz, s3, rf⟩ := hP
  have v31 := hx.2.2.2.1.2.2.2
  have hr := hx.2.2.2.2.2 i hi
  have hx0 := hx.mv X0.warmed.alike hh0
  have c1 : Steps p.tables e below (s₁.setTop (entryFrame m #[.ref x, .int (Int32.ofNat i)] 2)) (s₁.setTop (mkF m 1 #[.val (.ref x), .val (.int (Int32.ofNat i))] [.ref x])) := Steps.trans (entry rfl) (by
    show Steps p.tables e below (s₁.setTop (mkF m 0 #[.val (.ref x), .val (.int (Int32.ofNat i))] [])) _
    refine XS.aloadN X0.here hexec rfl (hb hbytes d0) rfl rfl ?_
    exact Steps.refl _)
  obtain ⟨v2, T2, X2, E2, g2⟩ := X0.callV hexec (IsL.law l x 0 z) hown (wks W (virtW "java/lang/String" 492 "java/lang/String" IsL.yN IsL.yN)) rfl (by decide) (wk W IsL.tab) (W := 0) (Nat.le_of_ble_eq_true rfl) (Nat.le_of_ble_eq_true rfl) (Nat.le_refl _) (Nat.le_refl _) (hx0.1.fc X0.warmed.alike) hx0.1.is (g := (mkF m 1 #[.val (.ref x), .val (.int (Int32.ofNat i))] [.ref x])) rfl (by rw [hml]; rfl) c1 (argsL := []) (rest := []) rfl rfl (by show 2 * 0 + 0 ≤ _; decide) (hb hbytes d1) (⟨rfl, hx0.2.2.1, hx.2.2.2.2.1.cd, s1.there X0.warmed.alike hh0, hz⟩)
  obtain ⟨rfl, q2⟩ := E2
  have hh2 := q2.trans hh0
  have hx2 := hx.mv X2.warmed.alike hh2
  obtain ⟨-, k1, k2⟩ | ⟨k0, -⟩ := hx.2.2.2.2.1
  · have c3 : Steps p.tables e below (s₁.setTop (entryFrame m #[.ref x, .int (Int32.ofNat i)] 2)) (T2.setTop (mkF m 8 #[.val (.ref x), .val (.int (Int32.ofNat i))] [.ref x])) := Steps.trans g2 (by
      refine XS.ifNo X2.here hexec rfl (hb hbytes d4) rfl (i0_eq_f (by decide)) ?_
      refine XS.aloadN X2.here hexec rfl (hb hbytes d7) rfl rfl ?_
      exact Steps.refl _)
    obtain ⟨T4, X4, q4, st4⟩ := X2.hget hexec hown (wk W (.fieldLink "java/lang/String" 9 "java/lang/String" "value" "[B")) hx2.2.1 (g := (mkF m 8 #[.val (.ref x), .val (.int (Int32.ofNat i))] [.ref x])) rfl (rest := []) rfl (hb hbytes d8)
    have hh4 := q4.trans hh2
    have c5 : Steps p.tables e below (s₁.setTop (entryFrame m #[.ref x, .int (Int32.ofNat i)] 2)) (T4.setTop (mkF m 12 #[.val (.ref x), .val (.int (Int32.ofNat i))] [.int (Int32.ofNat i), .ref t])) := (c3.trans (st4 _ (Steps.refl _))).trans (by
      refine XS.iloadN X4.here hexec rfl (hb hbytes d11) rfl ?_
      exact Steps.refl _)
    obtain ⟨v6, T6, X6, E6, g6⟩ := X4.callS hexec (LChA.law l t V i (lo8 (f i)) fm) hown (wks W (staticW "java/lang/String" 495 LChA.yN)) (wk W LChA.tab) (W := 0) (Nat.le_of_ble_eq_true rfl) (Nat.le_of_ble_eq_true rfl) (Nat.le_refl _) (Nat.le_refl _) (g := (mkF m 12 #[.val (.ref x), .val (.int (Int32.ofNat i))] [.int (Int32.ofNat i), .ref t])) rfl (by rw [hml]; rfl) c5 (argsL := [.ref t, .int (Int32.ofNat i)]) (rest := []) rfl rfl (by show 2 * 0 + 0 ≤ _; decide) (hb hbytes d12) (⟨rfl, hx.2.2.2.1.mv X4.warmed.alike hh4, (k2 i hi).1, s3.there X4.warmed.alike hh4, rf⟩)
    obtain ⟨rfl, q6⟩ := E6
    rw [chr8_lo8 hr.1 (k2 i hi).2] at g6
    exact ⟨T6, some (.int (f i)), _, _, _, X6, rfl, rfl, rfl, (fun h => by cases h), ⟨rfl, q6.trans hh4⟩, fun fs hl => Steps.trans g6 (X6.ireturnOut hexec hret (narrow_ch hr.1 hr.2) (Or.inr (Or.inr (Or.inr (Or.inl rfl)))) (hb hbytes d15) hl)⟩
  · exact absurd k0 (by decide)
theorem pays {l : Launch} {R : Room} {p : Program} {e : Env} {below : List Frame} {s : State} {sargs : Array Value} {len W : Nat} (x t : Addr) (V : Cell) (n : Nat) (f : Nat → Int32) (z : Int32) (fm : Value) (i : Nat) (htab : tab.before sargs s = true) (hfr : 4 ≤ R.frames) (hlo : W + 53 ≤ R.locals) :
    Back l R p e below s sargs yN len W (fun A₁ a₁ => A₁.cells + 0 ≤ R.cells ∧ A₁.slots + 0 ≤ R.slots ∧ P x t V n f z fm i a₁ A₁.U) (fun A₁ _ v₁ B₁ => E f i v₁ A₁.U B₁.U ∧ B₁.locs = A₁.locs ++ [] ∧ B₁.cells = A₁.cells + 0 ∧ B₁.slots = A₁.slots + 0) :=
  (law l x t V n f z fm i).pays htab hfr (by omega)
end ChN
end StrChars
namespace StrChars.Road
open Jvm Sem ClassFile Op Lib Jvm.Stand Jvm.Free Jvm.Free.XT
open Jvm.Lib.Cold (StaticIs)
/-- the words of String.charAt(int), the Latin-1 road alone -/
abbrev wordsChN : List Jvm.Cond := [.code ChN.yN ChN.yB 2 (some .char), .initialized ST, .fieldLink ST 9 ST "value" "[B", .fieldLink ST 38 ST "COMPACT_STRINGS" "Z", .fieldLink ST 15 ST "coder" "B", .code IsL.yN IsL.yB 1 (some .boolean), .methodLink ST 492 IsL.yN, .declares IsL.yN, .selects ST IsL.yN IsL.yN, .instanceMethod IsL.yN,
  .methodLink ST 495 LChA.yN, .static LChA.yN, .code LChA.yN LChA.yB 2 (some .char), .initialized "java/lang/StringLatin1", .methodLink "java/lang/StringLatin1" 9 JO.Str_checkIndex.yN, .static JO.Str_checkIndex.yN, .code JO.Str_checkIndex.yN JO.Str_checkIndex.yB 2 none,
  .fieldLink ST 1053 "jdk/internal/util/Preconditions" "SIOOBE_FORMATTER" "Ljava/util/function/BiFunction;", .methodLink ST 1059 JC.PreCheck.yN, .static JC.PreCheck.yN, .code JC.PreCheck.yN JC.PreCheck.yB 3 (some .int), .initialized "jdk/internal/util/Preconditions"]
theorem tabChN_of {a : Array Value} {s : State} (h : ∀ w ∈ wordsChN, w.before a s = true) : ChN.tab.before a s = true := by
  have hp : JC.PreCheck.tab.before a s = true := unparts (wk h (.code JC.PreCheck.yN JC.PreCheck.yB 3 (some .int))) (wks h (.initialized JC.PreCheck.yN.cls :: JC.PreCheck.site))
  have qk := consq hp h
  have hk : JO.Str_checkIndex.tab.before a s = true := unparts (wk qk (.code JO.Str_checkIndex.yN JO.Str_checkIndex.yB 2 none)) (wks qk (.initialized JO.Str_checkIndex.yN.cls :: JO.Str_checkIndex.site))
  have ql := consq hk h
  have hl : LChA.tab.before a s = true := unparts (wk ql (.code LChA.yN LChA.yB 2 (some .char))) (wks ql (.initialized LChA.yN.cls :: LChA.site))
  have hi : IsL.tab.before a s = true := unparts (wk h (.code IsL.yN IsL.yB 1 (some .boolean))) (wks h (.initialized IsL.yN.cls :: IsL.site))
  have q := consq hi (consq hl h)
  exact unparts (wk q (.code ChN.yN ChN.yB 2 (some .char))) (wks q (.initialized ChN.yN.cls :: ChN.site))
theorem movedChN {Z s : State} {a0 args : Array Value} (hZ : Z.Warmed39 s.vm) (hw : ∀ d ∈ wordsChN, d.before a0 Z = true) : ∀ d ∈ wordsChN, d.before args s = true := fun d hd => by
  have t : ∀ d ∈ wordsChN, (d.onTables && d.keepsFace) = true := by decide +kernel
  exact RoadKit.mv hZ (hw d hd) (t d hd)
/-- **charAt(i) OF A LATIN-1 STRING**, i < n: the char -/
theorem chN {p : Program} {l : Launch} {e : Env} {R : Room} {s : State} {args : Array Value} {below : List Frame} {len W : Nat} {Z : State} {a0 : Array Value} {h : Heap} (hZ : Z.Warmed39 s.vm) (hw : ∀ d ∈ wordsChN, d.before a0 Z = true) {kI : Nat} (wi : (Jvm.Cond.instantiable ST kI).before a0 Z = true)
    {x t : Addr} {kb : ClassId} {cs : List Int32} {N2 z : Int32} {vs : List Value} {fm : Value} {i : Nat} {j : Int32} (E : RoadKit.Exa Z h x ST) (V : RoadKit.Fld Z h x ST "value" "[B" (.ref t)) (C : RoadKit.Fld Z h x ST "coder" "B" (.int 0)) (K : RoadKit.Arv Z h t kb .byte N2 vs (.int 0)) (hc : CodA cs 0 N2 vs) (hb : ∀ c ∈ cs, ¬ c < 0 ∧ ¬ (65535 : Int32) < c)
    (S : RoadKit.Sta Z h ST "COMPACT_STRINGS" "Z" (.int z)) (hz : ¬ z = 0) (F : RoadKit.Sta Z h "jdk/internal/util/Preconditions" "SIOOBE_FORMATTER" "Ljava/util/function/BiFunction;" fm) (rf : fm.isRef = true) (l2 : cs.length ≤ 4000) (hi : i < cs.length) (hj : j = Int32.ofNat i) (hfr : 4 ≤ R.frames) (hlo : W + 53 ≤ R.locals) :
    Back l R p e below s args (⟨"java/lang/String", "charAt", "(I)C"⟩ : MethodName) len W (fun P a => a = #[.ref x, .int j] ∧ P.U.heap = h ∧ P.cells + 0 ≤ R.cells ∧ P.slots + 0 ≤ R.slots)
      (fun P _ v B => ∃ L, (v = some (.int (cs.getD i 0)) ∧ L = [] ∧ B.U.heap = h) ∧ B.locs = P.locs ++ L ∧ B.cells = P.cells + 0 ∧ B.slots = P.slots + 0) := by
  subst hj
  intro m meth c P g ig mk a X hg hsize hdg hW hn hp'
  obtain ⟨rfl, rfl, r1, r2⟩ := hp'
  have al : Z.vm.Alike P.U.vm := hZ.alike.trans X.warmed.alike
  obtain ⟨A, hx⟩ := txt_of wi al E V C K hc hb l2
  obtain ⟨v, B, X', ⟨⟨hv, hh⟩, hl, hk, hs⟩, st⟩ := ChN.pays x t A cs.length (fun j => cs.getD j 0) z fm i (tabChN_of (movedChN hZ hw)) hfr hlo m meth c P g ig mk _ X hg hsize hdg hW hn ⟨r1, r2, rfl, hx, hi, sta_is al S, hz, sta_is al F, rf⟩
  exact ⟨v, B, X', ⟨[], ⟨hv, rfl, hh⟩, hl, hk, hs⟩, st⟩
/-- what backV says of its String, as the contracts of this text ask it: cs's low bytes, coder 0 -/
theorem codOf {cs : List Int32} {n : Nat} (hn : cs.length = n) (hb : ∀ c ∈ cs, ¬ 255 < c) : CodA cs 0 (Int32.ofNat n) ((cs.map lo8).map Value.int) := Or.inl ⟨rfl, by rw [hn], by simp [List.map_map, Function.comp_def], hb⟩
end StrChars.Road
end Jvm.Pilot.@@N@@
namespace Jvm.Pilot.@@N@@
open Jvm Jvm.ClassFile Sem Op Lib Jvm.Free Jvm.Stand Jvm.LawKit Jvm.RoadKit Bundle Jvm.Pilot.@@N@@.Jvm.D
theorem own_fld {args : Array Value} {s : State} {t u : Term} {C n d : String} {a : Addr} {z : Int32} (ev : t.eval args s none [] s = some (.ref a)) (hu : u.eval args s none [] s = some (.int z)) (h : (Jvm.Cond.eq (Term.field t C n d) u).value args s none s [] = some true) : Fld s s.heap a C n d (.int z) := by
  obtain ⟨x, y, h1, h2, -, k2⟩ := cmp_v (Or.inl h)
  rw [hu] at h2
  cases h2
  obtain ⟨x', rfl⟩ := k2
  have e2 : x' = z := gotT (P := x' = z) (by simp [Cond.value, h1, hu]) h
  subst e2
  rw [fld_at ev] at h1
  exact Fld.start h1
theorem own_fldL {args : Array Value} {s : State} {t : Term} {C n d : String} {a : Addr} {z : Int64} (ev : t.eval args s none [] s = some (.ref a)) (h : (Jvm.Cond.eq (Term.field t C n d) (Term.long z)).value args s none s [] = some true) : Fld s s.heap a C n d (.long z) := by
  obtain ⟨x, y, h1, h2, -, k2⟩ := cmp_v (Or.inl h)
  rw [long_at] at h2
  cases h2
  obtain ⟨x', rfl⟩ := k2
  have e2 : x' = z := gotT (eq_L h1 (long_at z)) h
  subst e2
  rw [fld_at ev] at h1
  exact Fld.start h1
theorem own_c255 (x : Int32) : nar .char ((x &&& (255 : Int32)).toUInt32.toUInt16.toUInt32.toInt32) = (x &&& (255 : Int32)).toUInt32.toUInt16.toUInt32.toInt32 := by
  show ((x &&& (255 : Int32)).toUInt32.toUInt16.toUInt32.toInt32).toUInt32.toUInt16.toUInt32.toInt32 = _
  rw [i2c_mask, i2c_mask]
theorem own_r255 (x : Int32) : ¬ ((x &&& (255 : Int32)).toUInt32.toUInt16.toUInt32.toInt32) < 0 ∧ ¬ (255 : Int32) < ((x &&& (255 : Int32)).toUInt32.toUInt16.toUInt32.toInt32) := by
  rw [i2c_mask]
  have h := c_and x 255 (by decide)
  have e : (255 : Int32).toInt = 255 := rfl
  have e0 : (0 : Int32).toInt = 0 := rfl
  constructor <;> rw [Int32.lt_iff_toInt_lt] <;> omega
theorem own_ne0 {args : Array Value} {s : State} {t : Term} {z : Int32} (ev : t.eval args s none [] s = some (.int z)) (h : (Jvm.Cond.not (Jvm.Cond.eq t (Term.int (0 : Int32)))).value args s none s [] = some true) : ¬ z = 0 := by
  have h2 := not_v h
  exact gotF (P := z = 0) (by simp [Cond.value, ev, Term.eval]) h2
theorem own_len {args : Array Value} {s : State} {t : Term} {a : Addr} {c : Cell} {ty : FieldType} {z : Int32} (ev : t.eval args s none [] s = some (.ref a)) (A : Arr s s.heap a c ty) (h : (Jvm.Cond.eq (Term.length t) (Term.int z)).value args s none s [] = some true) : c.slots.size < 2 ^ 31 ∧ c.slots.size.toInt32 = z := by
  have hA := A.fin (Vm.Alike.refl _)
  by_cases q : c.slots.size < 2 ^ 31
  · exact ⟨q, gotT (Cond.eq_ints (len_f ev hA q) (Term.int_eval z)) h⟩
  · obtain ⟨x, y, h1, -⟩ := cmp_v (Or.inl h)
    simp [Term.eval, ev, hA, q] at h1
theorem own_narb (x : Int32) : nar .byte (x.toInt8.toInt32) = x.toInt8.toInt32 := by simp [nar]
theorem own_fitb {z : Int32} (h : nar .byte z = z) : fits .byte (.int z) = true := by
  rw [← h]
  exact fits_nar_byte _
abbrev bsV (cs : List Int32) : List Value := (cs.map (fun c => c.toInt8.toInt32)).map Value.int
theorem bsV_len (cs : List Int32) : (bsV cs).length = cs.length := by simp [bsV]
theorem own_usb (cx : List Int32) : (List.range cx.length).map (fun y => (bsV cx).getD (0 + y) (.int (0 : Int32))) = bsV cx := by
  apply List.ext_getElem
  · simp [bsV]
  · intro i h1 h2
    have h3 : i < cx.length := by simpa using h1
    simp [bsV, h3]
theorem own_vn (cs cx : List Int32) : (bsV cs ++ List.replicate cx.length (Value.int (0 : Int32))).take cs.length ++ (List.range cx.length).map (fun y => (bsV cx).getD (0 + y) (Value.int (0 : Int32))) ++ (bsV cs ++ List.replicate cx.length (Value.int (0 : Int32))).drop (cs.length + cx.length) = bsV (cs ++ cx) := by
  rw [own_usb, List.take_left' (bsV_len cs), List.drop_of_length_le (by simp [bsV]), List.append_nil]
  simp [bsV]
theorem own_vr (cs : List Int32) : (List.replicate cs.length (Value.int (0 : Int32))).take 0 ++ (List.range cs.length).map (fun y => (bsV cs).getD (0 + y) (.int (0 : Int32))) ++ (List.replicate cs.length (Value.int (0 : Int32))).drop (0 + cs.length) = bsV cs := by
  rw [own_usb, List.drop_of_length_le (by simp)]
  simp
theorem own_padr (N n : Nat) (d : Value) : ∀ i, (List.replicate n d).getD i d = (List.replicate N d).getD i d := fun i => (pad_rep [] d n i).trans (pad_rep [] d N i).symm
theorem own_shl0 (x : Int32) : (x <<< ((0 : Int32) &&& 31)) = x := by
  apply Int32.toBitVec_inj.mp
  simp
theorem own_shr0 (x : Int32) : (x >>> ((0 : Int32) &&& 31)) = x := by
  apply Int32.toBitVec_inj.mp
  simp
theorem own_ofadd (a b : Nat) : Int32.ofNat a + Int32.ofNat b = Int32.ofNat (a + b) := (Int32.ofNat_add a b).symm
theorem own_toi {a : Nat} (h : a < 2 ^ 31) : (Int32.ofNat a).toInt = a := Int32.toInt_ofNat_of_lt h
theorem own_lt {a b : Nat} (ha : a < 2 ^ 31) (hb : b < 2 ^ 31) : (Int32.ofNat a < Int32.ofNat b) ↔ a < b := by
  rw [Int32.lt_iff_toInt_lt, own_toi ha, own_toi hb]; omega
theorem own_eqi {a b : Nat} (ha : a < 2 ^ 31) (hb : b < 2 ^ 31) : (Int32.ofNat a = Int32.ofNat b) ↔ a = b := by
  refine ⟨fun q => ?_, fun q => by rw [q]⟩
  have := congrArg Int32.toInt q
  rw [own_toi ha, own_toi hb] at this
  omega
theorem own_ofsub {a b : Nat} (h : b ≤ a) : Int32.ofNat a - Int32.ofNat b = Int32.ofNat (a - b) := by
  have q := own_ofadd (a - b) b
  rw [Nat.sub_add_cancel h] at q
  rw [← q]
  exact Int32.add_sub_cancel _ _
theorem own_ec {q N : Nat} (h : q ≤ N) (hN : N ≤ 4000) : ¬ (0 : Int32) < Int32.ofNat q - (Int32.ofNat N >>> ((0 : Int32) &&& 31)) := by
  rw [own_shr0, Int32.lt_iff_toInt_lt, Int32.toInt_sub, own_toi (by omega), own_toi (by omega)]
  have e0 : (0 : Int32).toInt = 0 := rfl
  rw [e0, Int.bmod_def]
  split <;> omega
theorem own_nonneg {a : Nat} (h : a < 2 ^ 31) : ¬ Int32.ofNat a < 0 := (own_nn rfl h).2
theorem own_cl {a : Nat} (h : a < 2 ^ 31) : (Int32.ofNat a).toNatClampNeg = a := (own_nn rfl h).1
theorem own_up {cs : List Int32} (h : ∀ c ∈ cs, ¬ c < 0 ∧ ¬ (255 : Int32) < c) : ∀ c ∈ cs, ¬ c < 0 ∧ ¬ (65535 : Int32) < c := fun c hc => ⟨(h c hc).1, fun q => (h c hc).2 (Int32.lt_trans (by decide) q)⟩
theorem own_same {Z : State} {a0 : Array Value} {y y' : MethodName} (w1 : (Jvm.Cond.instanceMethod y).before a0 Z = true) (w2 : (Jvm.Cond.instanceMethod y').before a0 Z = true) {C : String} (w3 : (Jvm.Cond.selects C y' y').before a0 Z = true) (hy : y.cls = y'.cls ∧ y.cls ≠ "java/lang/invoke/MethodHandle" ∧ y.cls ≠ "java/lang/invoke/VarHandle") : (Jvm.Cond.sameMethod y.cls y.cls y.name y.desc).before a0 Z = true := by
  obtain ⟨mk, methM, hnamed, -, -, -⟩ := Cond.instanceMethod_spec w1
  obtain ⟨mk', methM', hnamed', -, -, -⟩ := Cond.instanceMethod_spec w2
  have hf := State.methodFound?_of_named hnamed hy.2
  have hc := findClass_of_methodNamed hnamed
  have hc' := findClass_of_methodNamed hnamed'
  rw [← hy.1] at hc'
  have e : mk'.cls = mk.cls := Option.some.inj (hc'.symm.trans hc)
  obtain ⟨kr, hkr, hni⟩ := (notFace_of_selects w3) mk' hnamed'
  rw [e] at hkr
  have hnn : Z.methodNamed? ⟨y.cls, y.name, y.desc⟩ = some mk := hnamed
  simp [Cond.before, Cond.holds, Cond.value, hc, hf, hnn, hkr, hni]
theorem own_decl {Z : State} {a0 : Array Value} {y : MethodName} {b : ByteArray} {ml : Nat} {rt : Option FieldType} (w1 : (Jvm.Cond.instanceMethod y).before a0 Z = true) (w2 : (Jvm.Cond.code y b ml rt).before a0 Z = true) : (Jvm.Cond.declares y).before a0 Z = true := by
  obtain ⟨mk, methM, hn, hm, hs, -⟩ := Cond.instanceMethod_spec w1
  obtain ⟨m2, cM, q1, -, -, -, -, -, -, hsig⟩ := Cond.code_spec hn w2
  cases hm.symm.trans q1
  simp [Cond.before, Cond.holds, Cond.value, hn, hm, hs, hsig]
theorem own_sub0 (x : Int32) : x - (0 : Int32) = x := Int32.sub_zero x
theorem own_nf {Z : State} {args : Array Value} {y y' : MethodName} (w1 : (Jvm.Cond.declares y).before args Z = true) (w2 : (Jvm.Cond.instanceMethod y').before args Z = true) {C : String} (w3 : (Jvm.Cond.selects C y' y').before args Z = true) (hy : y.cls = y'.cls := by rfl) : NotFace Z y := fun r0 hr => by
  obtain ⟨mk', methM', hnamed', -, -, -⟩ := Cond.instanceMethod_spec w2
  have hc := findClass_of_methodNamed hr
  have hc' := findClass_of_methodNamed hnamed'
  rw [← hy] at hc'
  have e : mk'.cls = r0.cls := Option.some.inj (hc'.symm.trans hc)
  rw [← e]
  exact (notFace_of_selects (args := args) w3) mk' hnamed'
theorem own_g1 {c1 : List Int32} (c2 : List Int32) {i : Nat} (h : i < c1.length) : (c1 ++ 47 :: c2).getD i 0 = c1.getD i 0 := by simp [List.getD_eq_getElem?_getD, List.getElem?_append_left h]
theorem own_g2 (c1 c2 : List Int32) {i : Nat} (h : i = c1.length) : (c1 ++ 47 :: c2).getD i 0 = 47 := by subst h; simp [List.getD_eq_getElem?_getD]
theorem own_g3 (c1 c2 : List Int32) {i : Nat} (h : c1.length < i) : (c1 ++ 47 :: c2).getD i 0 = c2.getD (i - c1.length - 1) 0 := by
  obtain ⟨k, rfl⟩ : ∃ k, i = c1.length + 1 + k := ⟨i - c1.length - 1, by omega⟩
  have e : c1.length + 1 + k - c1.length - 1 = k := by omega
  rw [e, List.getD_eq_getElem?_getD, List.getD_eq_getElem?_getD, List.getElem?_append_right (by omega), show c1.length + 1 + k - c1.length = k + 1 by omega, List.getElem?_cons_succ]
theorem own_r3 {c1 c2 : List Int32} (h1 : ∀ c ∈ c1, ¬ c < 0 ∧ ¬ (255 : Int32) < c) (h2 : ∀ c ∈ c2, ¬ c < 0 ∧ ¬ (255 : Int32) < c) : ∀ c ∈ (c1 ++ 47 :: c2), ¬ c < 0 ∧ ¬ (255 : Int32) < c := fun c hc => by
  rcases List.mem_append.mp hc with q | q
  · exact h1 c q
  · rcases List.mem_cons.mp q with rfl | q
    · decide
    · exact h2 c q
theorem own_l3 (c1 c2 : List Int32) : (c1 ++ 47 :: c2).length = c1.length + 1 + c2.length := by simp; omega
theorem own_s3 (a b : Nat) : Int32.ofNat (a + 1 + b) = Int32.ofNat a + (1 : Int32) + Int32.ofNat b := by rw [← own_ofadd, ← own_ofadd]; rfl
abbrev own_EL : List (String × Nat) := [("com/example/mulock/mulock/zookeeper/Contender", 33), ("java/lang/String", 7)]
theorem own_wS : ∀ d ∈ Bundle.stringAtoms, d ∈ tables_1 := by decide +kernel
theorem own_ew {Z : State} {a0 : Array Value} (hw : ∀ d ∈ tables_1, d.before a0 Z = true) : EW Z a0 own_EL := EW.cons (hw _ (List.mem_of_getElem? (i := 133) rfl)) (by decide) (EW.cons (hw _ (List.mem_of_getElem? (i := 18) rfl)) (by decide) (EW.nil))
theorem own_ws : ∀ d ∈ StrChars.Road.words, d ∈ tables_1 := by decide +kernel
theorem own_wl : ∀ d ∈ StrChars.Road.wordsLen, d ∈ tables_1 := by decide +kernel
theorem own_wc : ∀ d ∈ StrChars.Road.wordsChN, d ∈ tables_1 := by decide +kernel
def Q_rmCE (Z : State) (p1 : Int32) (h0 : Heap) (n0 : Nat) (v : Option Value) (h : Heap) (L : List Loc) : Prop := v = some (.int (1 : Int32)) ∧ Fr n0 L ∧ h = h0
theorem ef_rmCE (m : MethodId) (x0 : Int32) : entryFrame m #[(.int x0)] 1 = mkF m 0 #[.val (.int x0)] [] := by first | (simp [entryFrame, mkF, argsToLocals, Value.category]; done) | rfl
theorem pn_java_lang_StringLatin1 : plainName "java/lang/StringLatin1" = true := by first | (simp [plainName, overriddenIn]; done) | decide +kernel
theorem d_jdk_43_m3_0 : decode jdk_43_method_3_code 0 = .ok (.iload_n 0, 1) := by decide +kernel
theorem d_jdk_43_m3_1 : decode jdk_43_method_3_code 1 = .ok (.sipush 255, 3) := by decide +kernel
theorem d_jdk_43_m3_4 : decode jdk_43_method_3_code 4 = .ok (.if_icmp .gt 7, 3) := by decide +kernel
theorem d_jdk_43_m3_7 : decode jdk_43_method_3_code 7 = .ok (.iconst 1, 1) := by decide +kernel
theorem d_jdk_43_m3_8 : decode jdk_43_method_3_code 8 = .ok (.goto 4, 3) := by decide +kernel
theorem d_jdk_43_m3_12 : decode jdk_43_method_3_code 12 = .ok (.ireturn, 1) := by decide +kernel
set_option maxRecDepth 65536 in
set_option maxHeartbeats 40000000 in
theorem rmCE (l : Launch) (Z : State) (a0 : Array Value) (hw : ∀ d ∈ tables_1, d.before a0 Z = true) (ws : List Jvm.Cond) (p1 : Int32) (h0 : Heap) (n0 : Nat) (Z0 : n0 ≤ h0.size) (h1 : ¬ (255 : Int32) < p1) :
    MetFree l (⟨"java/lang/StringLatin1", "canEncode", "(C)Z"⟩ : MethodName) (head1 (Jvm.Cond.code (⟨"java/lang/StringLatin1", "canEncode", "(C)Z"⟩ : MethodName) jdk_43_method_3_code 1 (some .boolean) :: ws) ({ frames := 0, cells := 0, slots := 0, locals := 0 } : Room)) (fun a U => a = #[(.int p1)] ∧ Z.Warmed39 U.vm ∧ U.heap = h0) (fun _ _ _ _ _ => True) (fun _ U o U' => ∃ v L, o = .returned v ∧ Q_rmCE Z p1 h0 n0 v U'.heap L ∧ FrameEnd U o U' L ({ frames := 0, cells := 0, slots := 0, locals := 0 } : Room).cells ({ frames := 0, cells := 0, slots := 0, locals := 0 } : Room).slots) := by
  refine MetFree.of_bodySF (plainFor_of_name pn_java_lang_StringLatin1) hisR ?_
  intro p e s m args below meth c s₁ Bd hml0 hP hK
  obtain ⟨rfl, hZ, hh⟩ := hP
  have hx := Bd.exec
  have hby := Bd.bytes
  have hlk := BodyLoose.notSynchronized Bd
  have hml : c.maxLocals = 1 := hml0
  have hown : s.vm.findClass "java/lang/StringLatin1" = some m.cls := findClass_of_methodNamed Bd.named
  have hnm := (name_of_methodNamed Bd.named Bd.method).1
  have X0 : Stand p l e ({ frames := 0, cells := 0, slots := 0, locals := 0 } : Room) s m #[(.int p1)] below meth c s₁ [] 0 0 := Stand.of_body Bd
  have e0 : s₁.heap = h0 := by rw [← hh, Bd.state]; rfl
  have N0 := Fr.nil n0
  have K0 := Keep.refl h0 []
  clear hh
  show Wk p e below (EndN s (Q_rmCE Z p1 h0 n0) ({ frames := 0, cells := 0, slots := 0, locals := 0 } : Room).cells ({ frames := 0, cells := 0, slots := 0, locals := 0 } : Room).slots) s₁ (entryFrame m #[(.int p1)] 1)
  rw [ef_rmCE]
  refine Wk.iloadN X0 hx (hb hby d_jdk_43_m3_0) (n := 1) rfl rfl ?_
  refine Wk.sipush X0 hx (hb hby d_jdk_43_m3_1) (n := 4) rfl (z := (255 : Int32)) rfl ?_
  have hc4_1 : ¬ ((255 : Int32) < p1) := h1
  refine Wk.icmpNo X0 hx (hb hby d_jdk_43_m3_4) (n := 7) rfl (flt hc4_1).2.2.1 ?_
  refine Wk.iconst X0 hx (hb hby d_jdk_43_m3_7) (n := 8) rfl (z := (1 : Int32)) rfl ?_
  refine Wk.goto X0 hx (hb hby d_jdk_43_m3_8) (by decide) (n := 12) (by decide) ?_
  exact Wk.leave X0 (v := some (.int (1 : Int32))) (fun h => by rw [Bd.returns] at h; cases h) hlk e0 ⟨rfl, N0, rfl⟩ (by decide) (by decide) (fun fs hr => retNz X0 hx (t := .boolean) rfl Bd.returns (by simp) (hb hby d_jdk_43_m3_12) hr)
def Q_rmTB (Z : State) (p1 : Int32) (h0 : Heap) (n0 : Nat) (v : Option Value) (h : Heap) (L : List Loc) : Prop := ∃ (t : Addr) (kb : ClassId), v = some (.ref t) ∧ Fr n0 L ∧ Keep h0 h [] ∧ Arv Z h t kb .byte (1 : Int32) [(.int p1.toInt8.toInt32)] (.int (0 : Int32)) ∧ (h0.size ≤ t)
theorem ef_rmTB (m : MethodId) (x0 : Int32) : entryFrame m #[(.int x0)] 1 = mkF m 0 #[.val (.int x0)] [] := by first | (simp [entryFrame, mkF, argsToLocals, Value.category]; done) | rfl
theorem d_jdk_43_m46_0 : decode jdk_43_method_46_code 0 = .ok (.iconst 1, 1) := by decide +kernel
theorem d_jdk_43_m46_1 : decode jdk_43_method_46_code 1 = .ok (.newarray .byte, 2) := by decide +kernel
theorem d_jdk_43_m46_3 : decode jdk_43_method_46_code 3 = .ok (.dup, 1) := by decide +kernel
theorem d_jdk_43_m46_4 : decode jdk_43_method_46_code 4 = .ok (.iconst 0, 1) := by decide +kernel
theorem d_jdk_43_m46_5 : decode jdk_43_method_46_code 5 = .ok (.iload_n 0, 1) := by decide +kernel
theorem d_jdk_43_m46_6 : decode jdk_43_method_46_code 6 = .ok (.i2b, 1) := by decide +kernel
theorem d_jdk_43_m46_7 : decode jdk_43_method_46_code 7 = .ok (.bastore, 1) := by decide +kernel
theorem d_jdk_43_m46_8 : decode jdk_43_method_46_code 8 = .ok (.areturn, 1) := by decide +kernel
set_option maxRecDepth 65536 in
set_option maxHeartbeats 40000000 in
theorem rmTB (l : Launch) (Z : State) (a0 : Array Value) (hw : ∀ d ∈ tables_1, d.before a0 Z = true) (ws : List Jvm.Cond) (p1 : Int32) (h0 : Heap) (n0 : Nat) (Z0 : n0 ≤ h0.size) :
    MetFree l (⟨"java/lang/StringLatin1", "toBytes", "(C)[B"⟩ : MethodName) (head1 (Jvm.Cond.code (⟨"java/lang/StringLatin1", "toBytes", "(C)[B"⟩ : MethodName) jdk_43_method_46_code 1 (some (.array .byte)) :: ws) ({ frames := 0, cells := 1, slots := 1, locals := 0 } : Room)) (fun a U => a = #[(.int p1)] ∧ Z.Warmed39 U.vm ∧ U.heap = h0) (fun _ _ _ _ _ => True) (fun _ U o U' => ∃ v L, o = .returned v ∧ Q_rmTB Z p1 h0 n0 v U'.heap L ∧ FrameEnd U o U' L ({ frames := 0, cells := 1, slots := 1, locals := 0 } : Room).cells ({ frames := 0, cells := 1, slots := 1, locals := 0 } : Room).slots) := by
  refine MetFree.of_bodySF (plainFor_of_name pn_java_lang_StringLatin1) hisR ?_
  intro p e s m args below meth c s₁ Bd hml0 hP hK
  obtain ⟨rfl, hZ, hh⟩ := hP
  have hx := Bd.exec
  have hby := Bd.bytes
  have hlk := BodyLoose.notSynchronized Bd
  have hml : c.maxLocals = 1 := hml0
  have hown : s.vm.findClass "java/lang/StringLatin1" = some m.cls := findClass_of_methodNamed Bd.named
  have hnm := (name_of_methodNamed Bd.named Bd.method).1
  have X0 : Stand p l e ({ frames := 0, cells := 1, slots := 1, locals := 0 } : Room) s m #[(.int p1)] below meth c s₁ [] 0 0 := Stand.of_body Bd
  have e0 : s₁.heap = h0 := by rw [← hh, Bd.state]; rfl
  have N0 := Fr.nil n0
  have K0 := Keep.refl h0 []
  clear hh
  show Wk p e below (EndN s (Q_rmTB Z p1 h0 n0) ({ frames := 0, cells := 1, slots := 1, locals := 0 } : Room).cells ({ frames := 0, cells := 1, slots := 1, locals := 0 } : Room).slots) s₁ (entryFrame m #[(.int p1)] 1)
  rw [ef_rmTB]
  refine Wk.iconst X0 hx (hb hby d_jdk_43_m46_0) (n := 1) rfl (z := (1 : Int32)) rfl ?_
  refine Wk.newP X0 hx hZ (hw _ (List.mem_of_getElem? (i := 19) rfl)) e0 (hb hby d_jdk_43_m46_1) (n := 3) rfl (by decide) (cap := 1) (by decide) (by decide) (by decide) (by decide) fun T1 H1 b1 k1 gn1 X1 e1 Ex1 An1 => ?_
  have gn1 := nx gn1
  have sz1 := Ex1.1
  have K1 := K0.ext Ex1
  have Vn1 : Arv Z H1 b1 k1 .byte (1 : Int32) [(.int (0 : Int32))] (.int (0 : Int32)) := (Arv.new An1 (by decide)).pad (pad_rep [] (.int (0 : Int32)) 1)
  have lt1 := ny Vn1.lt
  refine Wk.dup X1 hx (hb hby d_jdk_43_m46_3) (n := 4) rfl rfl ?_
  refine Wk.iconst X1 hx (hb hby d_jdk_43_m46_4) (n := 5) rfl (z := (0 : Int32)) rfl ?_
  refine Wk.iloadN X1 hx (hb hby d_jdk_43_m46_5) (n := 6) rfl rfl ?_
  refine Wk.i2b X1 hx (hb hby d_jdk_43_m46_6) (n := 7) rfl ?_
  obtain ⟨cl2, Ar2, qn2, Sz2, N_2, H_2, Gn2⟩ := id Vn1
  have hin2 : ¬ ((0 : Int32) < 0 ∨ cl2.slots.size ≤ ((0 : Int32)).toNatClampNeg) := inb_of Sz2 ⟨by decide, by decide⟩
  refine Wk.stB X1 hx hZ e1 Ar2 hin2 (hb hby d_jdk_43_m46_7) (n := 8) rfl fun T2 H2 X2 e2 Wn2 => ?_
  have Vn2 := Arv.set Ar2 qn2 Sz2 N_2 H_2 Gn2 (fits_nar_byte _) Wn2 0 rfl (Nat.le_of_ble_eq_true rfl)
  have Un2 : Arv Z H2 b1 k1 .byte (1 : Int32) [(.int p1.toInt8.toInt32)] (.int (0 : Int32)) := (by have q := Vn2; rw [show p1.toInt8.toInt32.toInt8.toInt32 = p1.toInt8.toInt32 from own_narb p1] at q; exact q)
  have sz2 := Wn2.size
  have K2 := K1.wr Wn2 (Or.inr (by omega))
  have N2 := Fr.snoc X2 N0 (by omega)
  exact Wk.leave X2 (v := some (.ref b1)) (fun h => by rw [Bd.returns] at h; cases h) hlk e2 ⟨b1, k1, rfl, N2, K2, Un2, (by omega)⟩ (by decide) (by decide) (fun fs hr => retA X2 hx rfl Bd.returns rfl (hb hby d_jdk_43_m46_8) hr)
def Q_rmSI (Z : State) (a1 : Addr) (a2 : Addr) (p1 : Int32) (u1 : Value) (u2 : Value) (h0 : Heap) (n0 : Nat) (v : Option Value) (h : Heap) (L : List Loc) : Prop := v = none ∧ Fr n0 L ∧ Keep h0 h [a1] ∧ Exa Z h a1 "java/lang/String" ∧ Fld Z h a1 "java/lang/String" "value" "[B" (.ref a2) ∧ Fld Z h a1 "java/lang/String" "coder" "B" (.int p1)
theorem ef_rmSI (m : MethodId) (x0 : Addr) (x1 : Addr) (x2 : Int32) : entryFrame m #[(.ref x0), (.ref x1), (.int x2)] 3 = mkF m 0 #[.val (.ref x0), .val (.ref x1), .val (.int x2)] [] := by first | (simp [entryFrame, mkF, argsToLocals, Value.category]; done) | rfl
theorem pn_java_lang_String : plainName "java/lang/String" = true := by first | (simp [plainName, overriddenIn]; done) | decide +kernel
theorem d_jdk_42_m151_0 : decode jdk_42_method_151_code 0 = .ok (.aload_n 0, 1) := by decide +kernel
theorem d_jdk_42_m151_1 : decode jdk_42_method_151_code 1 = .ok (.invokespecial 1, 3) := by decide +kernel
theorem d_jdk_42_m151_4 : decode jdk_42_method_151_code 4 = .ok (.aload_n 0, 1) := by decide +kernel
theorem d_jdk_42_m151_5 : decode jdk_42_method_151_code 5 = .ok (.aload_n 1, 1) := by decide +kernel
theorem d_jdk_42_m151_6 : decode jdk_42_method_151_code 6 = .ok (.putfield 9, 3) := by decide +kernel
theorem d_jdk_42_m151_9 : decode jdk_42_method_151_code 9 = .ok (.aload_n 0, 1) := by decide +kernel
theorem d_jdk_42_m151_10 : decode jdk_42_method_151_code 10 = .ok (.iload_n 2, 1) := by decide +kernel
theorem d_jdk_42_m151_11 : decode jdk_42_method_151_code 11 = .ok (.putfield 15, 3) := by decide +kernel
theorem d_jdk_42_m151_14 : decode jdk_42_method_151_code 14 = .ok (.return_, 1) := by decide +kernel
set_option maxRecDepth 65536 in
set_option maxHeartbeats 40000000 in
theorem rmSI (l : Launch) (Z : State) (a0 : Array Value) (hw : ∀ d ∈ tables_1, d.before a0 Z = true) (ws : List Jvm.Cond) (a1 : Addr) (a2 : Addr) (p1 : Int32) (u1 : Value) (u2 : Value) (h0 : Heap) (n0 : Nat) (Z0 : n0 ≤ h0.size) (E1 : Exa Z h0 a1 "java/lang/String") (F1 : Fld Z h0 a1 "java/lang/String" "value" "[B" u1) (F2 : Fld Z h0 a1 "java/lang/String" "coder" "B" u2) (g1 : n0 ≤ a1) (hb1 : nar .byte p1 = p1) :
    MetFree l (⟨"java/lang/String", "<init>", "([BB)V"⟩ : MethodName) (head1 (Jvm.Cond.code (⟨"java/lang/String", "<init>", "([BB)V"⟩ : MethodName) jdk_42_method_151_code 3 none :: ws) ({ frames := 1, cells := 0, slots := 0, locals := 12 } : Room)) (fun a U => a = #[(.ref a1), (.ref a2), (.int p1)] ∧ Z.Warmed39 U.vm ∧ U.heap = h0) (fun _ _ _ _ _ => True) (fun _ U o U' => ∃ v L, o = .returned v ∧ Q_rmSI Z a1 a2 p1 u1 u2 h0 n0 v U'.heap L ∧ FrameEnd U o U' L ({ frames := 1, cells := 0, slots := 0, locals := 12 } : Room).cells ({ frames := 1, cells := 0, slots := 0, locals := 12 } : Room).slots) := by
  refine MetFree.of_bodySF (plainFor_of_name pn_java_lang_String) hisR ?_
  intro p e s m args below meth c s₁ Bd hml0 hP hK
  obtain ⟨rfl, hZ, hh⟩ := hP
  have hx := Bd.exec
  have hby := Bd.bytes
  have hlk := BodyLoose.notSynchronized Bd
  have hml : c.maxLocals = 3 := hml0
  have hown : s.vm.findClass "java/lang/String" = some m.cls := findClass_of_methodNamed Bd.named
  have hnm := (name_of_methodNamed Bd.named Bd.method).1
  have X0 : Stand p l e ({ frames := 1, cells := 0, slots := 0, locals := 12 } : Room) s m #[(.ref a1), (.ref a2), (.int p1)] below meth c s₁ [] 0 0 := Stand.of_body Bd
  have e0 : s₁.heap = h0 := by rw [← hh, Bd.state]; rfl
  have N0 := Fr.nil n0
  have K0 := Keep.refl h0 [a1]
  clear hh
  show Wk p e below (EndN s (Q_rmSI Z a1 a2 p1 u1 u2 h0 n0) ({ frames := 1, cells := 0, slots := 0, locals := 12 } : Room).cells ({ frames := 1, cells := 0, slots := 0, locals := 12 } : Room).slots) s₁ (entryFrame m #[(.ref a1), (.ref a2), (.int p1)] 3)
  rw [ef_rmSI]
  have lt_E1 := ny E1.lt
  have lt_F1 := ny F1.lt
  have lt_F2 := ny F2.lt
  refine Wk.aloadN X0 hx (hb hby d_jdk_42_m151_0) (n := 1) rfl rfl rfl ?_
  refine Wk.initO X0 hx hZ hown (hw _ (List.mem_of_getElem? (i := 15) rfl)) (hw _ (List.mem_of_getElem? (i := 16) rfl)) (hw _ (List.mem_of_getElem? (i := 17) rfl)) e0 (by rw [hml]; rfl) (hb hby d_jdk_42_m151_1) (n := 4) rfl (by decide) (w := 0) (Nat.le_of_eq rfl) (by decide) fun T1 X1 e1 => ?_
  refine Wk.aloadN X1 hx (hb hby d_jdk_42_m151_4) (n := 5) rfl rfl rfl ?_
  refine Wk.aloadN X1 hx (hb hby d_jdk_42_m151_5) (n := 6) rfl rfl rfl ?_
  refine Wk.putF X1 hx hZ hown (host := "") (Or.inl (hw _ (List.mem_of_getElem? (i := 24) rfl))) Via.refl e1 F1 E1 (Or.inr ⟨(hw _ (List.mem_of_getElem? (i := 20) rfl)), rfl, hnm⟩) (hw _ (List.mem_of_getElem? (i := 5) rfl)) (ty := (.array .byte)) (by decide) rfl rfl (hb hby d_jdk_42_m151_6) (n := 9) rfl fun T2 H2 X2 e2 Wn2 => ?_
  have sz2 := Wn2.size
  have Fn2 := F1.same Wn2
  have K2 := K0.wr Wn2 (Or.inl (List.mem_of_getElem? (i := 0) rfl))
  have N2 := Fr.snoc X2 N0 (by omega)
  refine Wk.aloadN X2 hx (hb hby d_jdk_42_m151_9) (n := 10) rfl rfl rfl ?_
  refine Wk.iloadN X2 hx (hb hby d_jdk_42_m151_10) (n := 11) rfl rfl ?_
  have f3 := (F2.other Wn2 (Or.inr (slot_ne (Or.inr (hw _ (List.mem_of_getElem? (i := 21) rfl))) (Or.inr (hw _ (List.mem_of_getElem? (i := 20) rfl))) (by decide) (t := .byte) (t' := (.array .byte)) (by decide) (by decide))))
  have f4 := (E1.wr Wn2)
  refine Wk.putFN X2 hx hZ hown (hw _ (List.mem_of_getElem? (i := 25) rfl)) Via.refl e2 f3 f4 (Or.inr ⟨(hw _ (List.mem_of_getElem? (i := 21) rfl)), rfl, hnm⟩) (hw _ (List.mem_of_getElem? (i := 5) rfl)) (ty := .byte) (by decide) (v' := (.int p1)) (congrArg Value.int hb1) (own_fitb hb1) (hb hby d_jdk_42_m151_11) (n := 14) rfl fun T5 H5 X5 e5 Wn5 => ?_
  have sz5 := Wn5.size
  have Fn5 := f3.same Wn5
  have K5 := K2.wr Wn5 (Or.inl (List.mem_of_getElem? (i := 0) rfl))
  have N5 := Fr.snoc X5 N2 (by omega)
  have f6 := (f4.wr Wn5)
  have f7 := (Fn2.other Wn5 (Or.inr (slot_ne (Or.inr (hw _ (List.mem_of_getElem? (i := 20) rfl))) (Or.inr (hw _ (List.mem_of_getElem? (i := 21) rfl))) (by decide) (t := (.array .byte)) (t' := .byte) (by decide) (by decide))))
  exact Wk.leave X5 (v := none) (fun _ => rfl) hlk e5 ⟨rfl, N5, K5, f6, f7, Fn5⟩ (by decide) (by decide) (fun fs hr => X5.returnOut hx Bd.returns (hb hby d_jdk_42_m151_14) hr)
def Q_rmSVO (Z : State) (p1 : Int32) (zc : Int32) (h0 : Heap) (n0 : Nat) (v : Option Value) (h : Heap) (L : List Loc) : Prop := ∃ (r : Addr) (t : Addr) (kb : ClassId), v = some (.ref r) ∧ Fr n0 L ∧ Keep h0 h [] ∧ Exa Z h r "java/lang/String" ∧ Fld Z h r "java/lang/String" "value" "[B" (.ref t) ∧ Fld Z h r "java/lang/String" "coder" "B" (.int (0 : Int32)) ∧ Arv Z h t kb .byte (1 : Int32) [(.int p1.toInt8.toInt32)] (.int (0 : Int32)) ∧ (h0.size ≤ r) ∧ (h0.size ≤ t)
theorem ef_rmSVO (m : MethodId) (x0 : Int32) : entryFrame m #[(.int x0)] 1 = mkF m 0 #[.val (.int x0)] [] := by first | (simp [entryFrame, mkF, argsToLocals, Value.category]; done) | rfl
theorem d_jdk_42_m139_0 : decode jdk_42_method_139_code 0 = .ok (.getstatic 38, 3) := by decide +kernel
theorem d_jdk_42_m139_3 : decode jdk_42_method_139_code 3 = .ok (.ifCond .eq 23, 3) := by decide +kernel
theorem d_jdk_42_m139_6 : decode jdk_42_method_139_code 6 = .ok (.iload_n 0, 1) := by decide +kernel
theorem d_jdk_42_m139_7 : decode jdk_42_method_139_code 7 = .ok (.invokestatic 1015, 3) := by decide +kernel
theorem pd_0 : parseMethodDescriptor "(C)Z" = some ⟨[.char], some .boolean⟩ := by decide +kernel
theorem d_jdk_42_m139_10 : decode jdk_42_method_139_code 10 = .ok (.ifCond .eq 16, 3) := by decide +kernel
theorem d_jdk_42_m139_13 : decode jdk_42_method_139_code 13 = .ok (.new 10, 3) := by decide +kernel
theorem d_jdk_42_m139_16 : decode jdk_42_method_139_code 16 = .ok (.dup, 1) := by decide +kernel
theorem d_jdk_42_m139_17 : decode jdk_42_method_139_code 17 = .ok (.iload_n 0, 1) := by decide +kernel
theorem d_jdk_42_m139_18 : decode jdk_42_method_139_code 18 = .ok (.invokestatic 1018, 3) := by decide +kernel
theorem pd_1 : parseMethodDescriptor "(C)[B" = some ⟨[.char], some (.array .byte)⟩ := by decide +kernel
theorem d_jdk_42_m139_21 : decode jdk_42_method_139_code 21 = .ok (.iconst 0, 1) := by decide +kernel
theorem d_jdk_42_m139_22 : decode jdk_42_method_139_code 22 = .ok (.invokespecial 209, 3) := by decide +kernel
theorem pd_2 : parseMethodDescriptor "([BB)V" = some ⟨[(.array .byte), .byte], none⟩ := by decide +kernel
theorem d_jdk_42_m139_25 : decode jdk_42_method_139_code 25 = .ok (.areturn, 1) := by decide +kernel
set_option maxRecDepth 65536 in
set_option maxHeartbeats 40000000 in
theorem rmSVO (l : Launch) (Z : State) (a0 : Array Value) (hw : ∀ d ∈ tables_1, d.before a0 Z = true) (ws : List Jvm.Cond) (p1 : Int32) (zc : Int32) (h0 : Heap) (n0 : Nat) (Z0 : n0 ≤ h0.size) (S4 : Sta Z Z.heap "java/lang/String" "COMPACT_STRINGS" "Z" (.int zc)) (O1 : Old Z n0 h0) (hCS : ¬ zc = 0) (h1 : ¬ (255 : Int32) < p1) :
    MetFree l (⟨"java/lang/String", "valueOf", "(C)Ljava/lang/String;"⟩ : MethodName) (head1 (Jvm.Cond.code (⟨"java/lang/String", "valueOf", "(C)Ljava/lang/String;"⟩ : MethodName) jdk_42_method_139_code 1 (some (.object "java/lang/String")) :: ws) ({ frames := 2, cells := 2, slots := 5, locals := 27 } : Room)) (fun a U => a = #[(.int p1)] ∧ Z.Warmed39 U.vm ∧ U.heap = h0) (fun _ _ _ _ _ => True) (fun _ U o U' => ∃ v L, o = .returned v ∧ Q_rmSVO Z p1 zc h0 n0 v U'.heap L ∧ FrameEnd U o U' L ({ frames := 2, cells := 2, slots := 5, locals := 27 } : Room).cells ({ frames := 2, cells := 2, slots := 5, locals := 27 } : Room).slots) := by
  refine MetFree.of_bodySF (plainFor_of_name pn_java_lang_String) hisR ?_
  intro p e s m args below meth c s₁ Bd hml0 hP hK
  obtain ⟨rfl, hZ, hh⟩ := hP
  have hx := Bd.exec
  have hby := Bd.bytes
  have hlk := BodyLoose.notSynchronized Bd
  have hml : c.maxLocals = 1 := hml0
  have hown : s.vm.findClass "java/lang/String" = some m.cls := findClass_of_methodNamed Bd.named
  have hnm := (name_of_methodNamed Bd.named Bd.method).1
  have X0 : Stand p l e ({ frames := 2, cells := 2, slots := 5, locals := 27 } : Room) s m #[(.int p1)] below meth c s₁ [] 0 0 := Stand.of_body Bd
  have e0 : s₁.heap = h0 := by rw [← hh, Bd.state]; rfl
  have N0 := Fr.nil n0
  have K0 := Keep.refl h0 []
  clear hh
  show Wk p e below (EndN s (Q_rmSVO Z p1 zc h0 n0) ({ frames := 2, cells := 2, slots := 5, locals := 27 } : Room).cells ({ frames := 2, cells := 2, slots := 5, locals := 27 } : Room).slots) s₁ (entryFrame m #[(.int p1)] 1)
  rw [ef_rmSVO]
  refine Wk.getS X0 hx hZ hown (host := "") (Or.inl (hw _ (List.mem_of_getElem? (i := 29) rfl))) Via.refl e0 (Sta.ext O1.2 S4) (hb hby d_jdk_42_m139_0) (n := 3) rfl fun T1 X1 e1 => ?_
  have hc3_2 : ¬ (zc = (0 : Int32)) := hCS
  refine Wk.ifNo X1 hx (hb hby d_jdk_42_m139_3) (n := 6) rfl ((if0 _ _).trans (feq hc3_2).1) ?_
  refine Wk.iloadN X1 hx (hb hby d_jdk_42_m139_6) (n := 7) rfl rfl ?_
  have cl3_ := fun (Ls : Array Slot) (hLs : Ls.size = c.maxLocals) => Jvm.LawKit.callS X1 hx (y := (⟨"java/lang/StringLatin1", "canEncode", "(C)Z"⟩ : MethodName)) hown (mvT hZ (hw _ (List.mem_of_getElem? (i := 30) rfl))) (mvT hZ (hw _ (List.mem_of_getElem? (i := 31) rfl))) (mvT hZ (hw _ (List.mem_of_getElem? (i := 32) rfl))) (mvT hZ (hw _ (List.mem_of_getElem? (i := 33) rfl))) (by decide) (backOf (W := 0) (rmCE l Z a0 hw [] p1 h0 n0 (by omega) h1) hZ (hw _ (List.mem_of_getElem? (i := 33) rfl)) (hw _ (List.mem_of_getElem? (i := 32) rfl)) (by decide) (by decide)) (g := mkF m 7 Ls [(.int p1)]) rfl hLs (argsL := [(.int p1)]) (rest := []) (lenOf pd_0 rfl) rfl (by show 2 * 0 + _ ≤ _; exact Nat.le_of_eq rfl) (hb hby d_jdk_42_m139_7) (fun _ _ => ⟨rfl, e1, (by decide : 0 + 0 ≤ _), (by decide : 0 + 0 ≤ _)⟩)
  refine Wk.backS (n := 10) (rc := 0) (rs := 0) (Q := Q_rmCE Z p1 h0 n0) (cl3_ _ (by rw [hml]; rfl)) fun vn3 T3 L3 X3 hQ3 => ?_
  clear cl3_
  obtain ⟨rfl, M3, e3⟩ := hQ3
  have N3 := Fr.app N0 M3
  show Wk p e below _ T3 (mkF m 10 _ [(.int (1 : Int32))])
  have hc10_4 : ¬ ((1 : Int32) = (0 : Int32)) := by decide
  refine Wk.ifNo X3 hx (hb hby d_jdk_42_m139_10) (n := 13) rfl ((if0 _ _).trans (feq hc10_4).1) ?_
  refine Wk.newO X3 hx hZ hown (hw _ (List.mem_of_getElem? (i := 34) rfl)) (hw _ (List.mem_of_getElem? (i := 5) rfl)) (hw _ (List.mem_of_getElem? (i := 6) rfl)) e3 (hb hby d_jdk_42_m139_13) (n := 16) rfl (by decide) (by decide) fun T5 H5 b5 gn5 X5 e5 Ex5 An5 Dn5 Yn5 => ?_
  have gn5 := nx gn5
  have sz5 := Ex5.1
  have lt5 := ny An5.lt
  have K5 := K0.ext Ex5
  have Fn5_value : Fld Z H5 b5 "java/lang/String" "value" "[B" .null := Dn5 (Or.inr (hw _ (List.mem_of_getElem? (i := 20) rfl))) (ty := (.array .byte)) (by decide)
  have Fn5_coder : Fld Z H5 b5 "java/lang/String" "coder" "B" (.int (0 : Int32)) := Dn5 (Or.inr (hw _ (List.mem_of_getElem? (i := 21) rfl))) (ty := .byte) (by decide)
  refine Wk.dup X5 hx (hb hby d_jdk_42_m139_16) (n := 17) rfl rfl ?_
  refine Wk.iloadN X5 hx (hb hby d_jdk_42_m139_17) (n := 18) rfl rfl ?_
  have cl6_ := fun (Ls : Array Slot) (hLs : Ls.size = c.maxLocals) => Jvm.LawKit.callS X5 hx (y := (⟨"java/lang/StringLatin1", "toBytes", "(C)[B"⟩ : MethodName)) hown (mvT hZ (hw _ (List.mem_of_getElem? (i := 35) rfl))) (mvT hZ (hw _ (List.mem_of_getElem? (i := 36) rfl))) (mvT hZ (hw _ (List.mem_of_getElem? (i := 32) rfl))) (mvT hZ (hw _ (List.mem_of_getElem? (i := 37) rfl))) (by decide) (backOf (W := 2) (rmTB l Z a0 hw [] p1 H5 n0 (by omega)) hZ (hw _ (List.mem_of_getElem? (i := 37) rfl)) (hw _ (List.mem_of_getElem? (i := 32) rfl)) (by decide) (by decide)) (g := mkF m 18 Ls [(.int p1), (.ref b5), (.ref b5)]) rfl hLs (argsL := [(.int p1)]) (rest := [(.ref b5), (.ref b5)]) (lenOf pd_1 rfl) rfl (by show 2 * 0 + _ ≤ _; exact Nat.le_of_eq rfl) (hb hby d_jdk_42_m139_18) (fun _ _ => ⟨rfl, e5, (by decide : 0 + 0 + 1 + 1 ≤ _), (by decide : 0 + 0 + 4 + 1 ≤ _)⟩)
  refine Wk.backS (n := 21) (rc := 1) (rs := 1) (Q := Q_rmTB Z p1 H5 n0) (cl6_ _ (by rw [hml]; rfl)) fun vn6 T6 L6 X6 hQ6 => ?_
  clear cl6_
  obtain ⟨t_6, kb_6, rfl, M6, J6, p6_0, gt_6⟩ := hQ6
  have N6 := Fr.app N3 M6
  have sz6 := J6.1
  have K6 := K5.trans J6 (fun x hx => nomatch hx)
  have lt_p6_0 := ny p6_0.lt
  show Wk p e below _ T6 (mkF m 21 _ [(.ref t_6), (.ref b5), (.ref b5)])
  refine Wk.iconst X6 hx (hb hby d_jdk_42_m139_21) (n := 22) rfl (z := (0 : Int32)) rfl ?_
  have f7 := (An5.keep J6)
  have f8 := (Fn5_value.keep J6 nin0)
  have f9 := (Fn5_coder.keep J6 nin0)
  have cl10_ := fun (Ls : Array Slot) (hLs : Ls.size = c.maxLocals) => X6.specialBack hx (y := (⟨"java/lang/String", "<init>", "([BB)V"⟩ : MethodName)) rfl hown (mvT hZ (hw _ (List.mem_of_getElem? (i := 38) rfl))) (mvT hZ (hw _ (List.mem_of_getElem? (i := 39) rfl))) (mvT hZ (hw _ (List.mem_of_getElem? (i := 40) rfl))) (by decide) (backOf (W := 1) (rmSI l Z a0 hw [] b5 t_6 (0 : Int32) .null (.int (0 : Int32)) T6.heap n0 (by omega) f7 f8 f9 (by omega) rfl) hZ (hw _ (List.mem_of_getElem? (i := 40) rfl)) (hw _ (List.mem_of_getElem? (i := 6) rfl)) (by decide) (by decide)) (g := mkF m 22 Ls [(.int (0 : Int32)), (.ref t_6), (.ref b5), (.ref b5)]) rfl hLs (Steps.refl _) (a := b5) (argsL := [(.ref t_6), (.int (0 : Int32))]) (rest := [(.ref b5)]) (lenOf pd_2 rfl) rfl (by show 2 * 0 + _ ≤ _; exact Nat.le_of_eq rfl) (hb hby d_jdk_42_m139_22) (fun _ _ => ⟨rfl, rfl, (by decide : 0 + 0 + 1 + 1 + 0 ≤ _), (by decide : 0 + 0 + 4 + 1 + 0 ≤ _)⟩)
  refine Wk.back (n := 25) (rc := 0) (rs := 0) (Q := Q_rmSI Z b5 t_6 (0 : Int32) .null (.int (0 : Int32)) T6.heap n0) (cl10_ _ (by rw [hml]; rfl)) fun vn10 T10 L10 X10 hQ10 => ?_
  clear cl10_
  obtain ⟨rfl, M10, J10, p10_0, p10_1, p10_2⟩ := hQ10
  have N10 := Fr.app N6 M10
  have sz10 := J10.1
  have K10 := K6.trans J10 (allS (Or.inr (by omega)) all0)
  have lt_p10_0 := ny p10_0.lt
  show Wk p e below _ T10 (mkF m 25 _ [(.ref b5)])
  have f11 := (p6_0.keep J10 (ninS (nz (by omega)) nin0))
  exact Wk.leave X10 (v := some (.ref b5)) (fun h => by rw [Bd.returns] at h; cases h) hlk rfl ⟨b5, t_6, kb_6, rfl, N10, K10, p10_0, p10_1, p10_2, f11, (by omega), (by omega)⟩ (by decide) (by decide) (fun fs hr => retA X10 hx rfl Bd.returns rfl (hb hby d_jdk_42_m139_25) hr)
def Q_sbI1 (Z : State) (a1 : Addr) (u1 : Value) (zc : Int32) (h0 : Heap) (n0 : Nat) (v : Option Value) (h : Heap) (L : List Loc) : Prop := ∃ (t : Addr) (kb : ClassId), v = none ∧ Fr n0 L ∧ Keep h0 h [a1] ∧ Exa Z h a1 "java/lang/StringBuilder" ∧ Fld Z h a1 "java/lang/AbstractStringBuilder" "value" "[B" (.ref t) ∧ Fld Z h a1 "java/lang/AbstractStringBuilder" "coder" "B" (.int (0 : Int32)) ∧ Fld Z h a1 "java/lang/AbstractStringBuilder" "count" "I" (.int (Int32.ofNat ([] : List Int32).length)) ∧ Arv Z h t kb .byte (Int32.ofNat 16) (bsV ([] : List Int32)) (.int (0 : Int32)) ∧ (h0.size ≤ t)
theorem ef_sbI1 (m : MethodId) (x0 : Addr) : entryFrame m #[(.ref x0), (.int (16 : Int32))] 2 = mkF m 0 #[.val (.ref x0), .val (.int (16 : Int32))] [] := by first | (simp [entryFrame, mkF, argsToLocals, Value.category]; done) | rfl
theorem pn_java_lang_AbstractStringBuilder : plainName "java/lang/AbstractStringBuilder" = true := by first | (simp [plainName, overriddenIn]; done) | decide +kernel
theorem d_jdk_68_m2_0 : decode jdk_68_method_2_code 0 = .ok (.aload_n 0, 1) := by decide +kernel
theorem d_jdk_68_m2_1 : decode jdk_68_method_2_code 1 = .ok (.invokespecial 3, 3) := by decide +kernel
theorem d_jdk_68_m2_4 : decode jdk_68_method_2_code 4 = .ok (.getstatic 18, 3) := by decide +kernel
theorem d_jdk_68_m2_7 : decode jdk_68_method_2_code 7 = .ok (.ifCond .eq 18, 3) := by decide +kernel
theorem d_jdk_68_m2_10 : decode jdk_68_method_2_code 10 = .ok (.aload_n 0, 1) := by decide +kernel
theorem d_jdk_68_m2_11 : decode jdk_68_method_2_code 11 = .ok (.iload_n 1, 1) := by decide +kernel
theorem d_jdk_68_m2_12 : decode jdk_68_method_2_code 12 = .ok (.newarray .byte, 2) := by decide +kernel
theorem d_jdk_68_m2_14 : decode jdk_68_method_2_code 14 = .ok (.putfield 15, 3) := by decide +kernel
theorem d_jdk_68_m2_17 : decode jdk_68_method_2_code 17 = .ok (.aload_n 0, 1) := by decide +kernel
theorem d_jdk_68_m2_18 : decode jdk_68_method_2_code 18 = .ok (.iconst 0, 1) := by decide +kernel
theorem d_jdk_68_m2_19 : decode jdk_68_method_2_code 19 = .ok (.putfield 22, 3) := by decide +kernel
theorem d_jdk_68_m2_22 : decode jdk_68_method_2_code 22 = .ok (.goto 16, 3) := by decide +kernel
theorem d_jdk_68_m2_38 : decode jdk_68_method_2_code 38 = .ok (.return_, 1) := by decide +kernel
set_option maxRecDepth 65536 in
set_option maxHeartbeats 40000000 in
theorem sbI1 (l : Launch) (Z : State) (a0 : Array Value) (hw : ∀ d ∈ tables_1, d.before a0 Z = true) (ws : List Jvm.Cond) (a1 : Addr) (u1 : Value) (zc : Int32) (h0 : Heap) (n0 : Nat) (Z0 : n0 ≤ h0.size) (E1 : Exa Z h0 a1 "java/lang/StringBuilder") (F1 : Fld Z h0 a1 "java/lang/AbstractStringBuilder" "value" "[B" u1) (F2 : Fld Z h0 a1 "java/lang/AbstractStringBuilder" "coder" "B" (.int (0 : Int32))) (F3 : Fld Z h0 a1 "java/lang/AbstractStringBuilder" "count" "I" (.int (0 : Int32))) (S4 : Sta Z Z.heap "java/lang/String" "COMPACT_STRINGS" "Z" (.int zc)) (O1 : Old Z n0 h0) (g1 : n0 ≤ a1) (hCS : ¬ zc = 0) :
    MetFree l (⟨"java/lang/AbstractStringBuilder", "<init>", "(I)V"⟩ : MethodName) (head1 (Jvm.Cond.code (⟨"java/lang/AbstractStringBuilder", "<init>", "(I)V"⟩ : MethodName) jdk_68_method_2_code 2 none :: ws) ({ frames := 1, cells := 1, slots := 16, locals := 12 } : Room)) (fun a U => a = #[(.ref a1), (.int (16 : Int32))] ∧ Z.Warmed39 U.vm ∧ U.heap = h0) (fun _ _ _ _ _ => True) (fun _ U o U' => ∃ v L, o = .returned v ∧ Q_sbI1 Z a1 u1 zc h0 n0 v U'.heap L ∧ FrameEnd U o U' L ({ frames := 1, cells := 1, slots := 16, locals := 12 } : Room).cells ({ frames := 1, cells := 1, slots := 16, locals := 12 } : Room).slots) := by
  refine MetFree.of_bodySF (plainFor_of_name pn_java_lang_AbstractStringBuilder) hisR ?_
  intro p e s m args below meth c s₁ Bd hml0 hP hK
  obtain ⟨rfl, hZ, hh⟩ := hP
  have hx := Bd.exec
  have hby := Bd.bytes
  have hlk := BodyLoose.notSynchronized Bd
  have hml : c.maxLocals = 2 := hml0
  have hown : s.vm.findClass "java/lang/AbstractStringBuilder" = some m.cls := findClass_of_methodNamed Bd.named
  have hnm := (name_of_methodNamed Bd.named Bd.method).1
  have X0 : Stand p l e ({ frames := 1, cells := 1, slots := 16, locals := 12 } : Room) s m #[(.ref a1), (.int (16 : Int32))] below meth c s₁ [] 0 0 := Stand.of_body Bd
  have e0 : s₁.heap = h0 := by rw [← hh, Bd.state]; rfl
  have N0 := Fr.nil n0
  have K0 := Keep.refl h0 [a1]
  clear hh
  show Wk p e below (EndN s (Q_sbI1 Z a1 u1 zc h0 n0) ({ frames := 1, cells := 1, slots := 16, locals := 12 } : Room).cells ({ frames := 1, cells := 1, slots := 16, locals := 12 } : Room).slots) s₁ (entryFrame m #[(.ref a1), (.int (16 : Int32))] 2)
  rw [ef_sbI1]
  have lt_E1 := ny E1.lt
  have lt_F1 := ny F1.lt
  have lt_F2 := ny F2.lt
  have lt_F3 := ny F3.lt
  refine Wk.aloadN X0 hx (hb hby d_jdk_68_m2_0) (n := 1) rfl rfl rfl ?_
  refine Wk.initO X0 hx hZ hown (hw _ (List.mem_of_getElem? (i := 80) rfl)) (hw _ (List.mem_of_getElem? (i := 16) rfl)) (hw _ (List.mem_of_getElem? (i := 17) rfl)) e0 (by rw [hml]; rfl) (hb hby d_jdk_68_m2_1) (n := 4) rfl (by decide) (w := 0) (Nat.le_of_eq rfl) (by decide) fun T1 X1 e1 => ?_
  refine Wk.getS X1 hx hZ hown (host := "") (Or.inl (hw _ (List.mem_of_getElem? (i := 81) rfl))) Via.refl e1 (Sta.ext O1.2 S4) (hb hby d_jdk_68_m2_4) (n := 7) rfl fun T2 X2 e2 => ?_
  have hc7_3 : ¬ (zc = (0 : Int32)) := hCS
  refine Wk.ifNo X2 hx (hb hby d_jdk_68_m2_7) (n := 10) rfl ((if0 _ _).trans (feq hc7_3).1) ?_
  refine Wk.aloadN X2 hx (hb hby d_jdk_68_m2_10) (n := 11) rfl rfl rfl ?_
  refine Wk.iloadN X2 hx (hb hby d_jdk_68_m2_11) (n := 12) rfl rfl ?_
  refine Wk.newP X2 hx hZ (hw _ (List.mem_of_getElem? (i := 19) rfl)) e2 (hb hby d_jdk_68_m2_12) (n := 14) rfl (by decide) (cap := 16) (by decide) (by decide) (by decide) (by decide) fun T4 H4 b4 k4 gn4 X4 e4 Ex4 An4 => ?_
  have gn4 := nx gn4
  have sz4 := Ex4.1
  have K4 := K0.ext Ex4
  have Vn4 : Arv Z H4 b4 k4 .byte (16 : Int32) [(.int (0 : Int32)), (.int (0 : Int32)), (.int (0 : Int32)), (.int (0 : Int32)), (.int (0 : Int32)), (.int (0 : Int32)), (.int (0 : Int32)), (.int (0 : Int32)), (.int (0 : Int32)), (.int (0 : Int32)), (.int (0 : Int32)), (.int (0 : Int32)), (.int (0 : Int32)), (.int (0 : Int32)), (.int (0 : Int32)), (.int (0 : Int32))] (.int (0 : Int32)) := (Arv.new An4 (by decide)).pad (pad_rep [] (.int (0 : Int32)) 16)
  have lt4 := ny Vn4.lt
  have f5 := (F1.ext Ex4)
  have f6 := (E1.ext Ex4)
  refine Wk.putF X4 hx hZ hown (host := "") (Or.inl (hw _ (List.mem_of_getElem? (i := 82) rfl))) Via.refl e4 f5 f6 (Or.inl (hw _ (List.mem_of_getElem? (i := 83) rfl))) (hw _ (List.mem_of_getElem? (i := 69) rfl)) (ty := (.array .byte)) (by decide) rfl rfl (hb hby d_jdk_68_m2_14) (n := 17) rfl fun T7 H7 X7 e7 Wn7 => ?_
  have sz7 := Wn7.size
  have Fn7 := f5.same Wn7
  have K7 := K4.wr Wn7 (Or.inl (List.mem_of_getElem? (i := 0) rfl))
  have N7 := Fr.snoc X7 N0 (by omega)
  refine Wk.aloadN X7 hx (hb hby d_jdk_68_m2_17) (n := 18) rfl rfl rfl ?_
  refine Wk.iconst X7 hx (hb hby d_jdk_68_m2_18) (n := 19) rfl (z := (0 : Int32)) rfl ?_
  have f8 := ((F2.ext Ex4).other Wn7 (Or.inr (slot_ne (Or.inl (hw _ (List.mem_of_getElem? (i := 85) rfl))) (Or.inl (hw _ (List.mem_of_getElem? (i := 83) rfl))) (by decide) (t := .byte) (t' := (.array .byte)) (by decide) (by decide))))
  have f9 := (f6.wr Wn7)
  refine Wk.putFN X7 hx hZ hown (hw _ (List.mem_of_getElem? (i := 84) rfl)) Via.refl e7 f8 f9 (Or.inl (hw _ (List.mem_of_getElem? (i := 85) rfl))) (hw _ (List.mem_of_getElem? (i := 69) rfl)) (ty := .byte) (by decide) (v' := (.int (0 : Int32))) rfl rfl (hb hby d_jdk_68_m2_19) (n := 22) rfl fun T10 H10 X10 e10 Wn10 => ?_
  have sz10 := Wn10.size
  have Fn10 := f8.same Wn10
  have K10 := K7.wr Wn10 (Or.inl (List.mem_of_getElem? (i := 0) rfl))
  have N10 := Fr.snoc X10 N7 (by omega)
  refine Wk.goto X10 hx (hb hby d_jdk_68_m2_22) (by decide) (n := 38) (by decide) ?_
  have f11 := ((Vn4.other Wn7 (nz (by omega))).other Wn10 (nz (by omega)))
  have f12 := (f9.wr Wn10)
  have f13 := (Fn7.other Wn10 (Or.inr (slot_ne (Or.inl (hw _ (List.mem_of_getElem? (i := 83) rfl))) (Or.inl (hw _ (List.mem_of_getElem? (i := 85) rfl))) (by decide) (t := (.array .byte)) (t' := .byte) (by decide) (by decide))))
  have f14 := (((F3.ext Ex4).other Wn7 (Or.inr (slot_ne (Or.inl (hw _ (List.mem_of_getElem? (i := 107) rfl))) (Or.inl (hw _ (List.mem_of_getElem? (i := 83) rfl))) (by decide) (t := .int) (t' := (.array .byte)) (by decide) (by decide)))).other Wn10 (Or.inr (slot_ne (Or.inl (hw _ (List.mem_of_getElem? (i := 107) rfl))) (Or.inl (hw _ (List.mem_of_getElem? (i := 85) rfl))) (by decide) (t := .int) (t' := .byte) (by decide) (by decide))))
  exact Wk.leave X10 (v := none) (fun _ => rfl) hlk e10 ⟨b4, k4, rfl, N10, K10, f12, f13, Fn10, f14, (Arv.pad f11 (fun i => (pad_rep [] _ 16 i).symm)), (by omega)⟩ (by decide) (by decide) (fun fs hr => X10.returnOut hx Bd.returns (hb hby d_jdk_68_m2_38) hr)
def Q_sbI0 (Z : State) (a1 : Addr) (u1 : Value) (zc : Int32) (h0 : Heap) (n0 : Nat) (v : Option Value) (h : Heap) (L : List Loc) : Prop := ∃ (t : Addr) (kb : ClassId), v = none ∧ Fr n0 L ∧ Keep h0 h [a1] ∧ Exa Z h a1 "java/lang/StringBuilder" ∧ Fld Z h a1 "java/lang/AbstractStringBuilder" "value" "[B" (.ref t) ∧ Fld Z h a1 "java/lang/AbstractStringBuilder" "coder" "B" (.int (0 : Int32)) ∧ Fld Z h a1 "java/lang/AbstractStringBuilder" "count" "I" (.int (Int32.ofNat ([] : List Int32).length)) ∧ Arv Z h t kb .byte (Int32.ofNat 16) (bsV ([] : List Int32)) (.int (0 : Int32)) ∧ (h0.size ≤ t)
theorem ef_sbI0 (m : MethodId) (x0 : Addr) : entryFrame m #[(.ref x0)] 1 = mkF m 0 #[.val (.ref x0)] [] := by first | (simp [entryFrame, mkF, argsToLocals, Value.category]; done) | rfl
theorem pn_java_lang_StringBuilder : plainName "java/lang/StringBuilder" = true := by first | (simp [plainName, overriddenIn]; done) | decide +kernel
theorem d_jdk_67_m1_0 : decode jdk_67_method_1_code 0 = .ok (.aload_n 0, 1) := by decide +kernel
theorem d_jdk_67_m1_1 : decode jdk_67_method_1_code 1 = .ok (.bipush 16, 2) := by decide +kernel
theorem d_jdk_67_m1_3 : decode jdk_67_method_1_code 3 = .ok (.invokespecial 1, 3) := by decide +kernel
theorem pd_3 : parseMethodDescriptor "(I)V" = some ⟨[.int], none⟩ := by decide +kernel
theorem d_jdk_67_m1_6 : decode jdk_67_method_1_code 6 = .ok (.return_, 1) := by decide +kernel
set_option maxRecDepth 65536 in
set_option maxHeartbeats 40000000 in
theorem sbI0 (l : Launch) (Z : State) (a0 : Array Value) (hw : ∀ d ∈ tables_1, d.before a0 Z = true) (ws : List Jvm.Cond) (a1 : Addr) (u1 : Value) (zc : Int32) (h0 : Heap) (n0 : Nat) (Z0 : n0 ≤ h0.size) (E1 : Exa Z h0 a1 "java/lang/StringBuilder") (F1 : Fld Z h0 a1 "java/lang/AbstractStringBuilder" "value" "[B" u1) (F2 : Fld Z h0 a1 "java/lang/AbstractStringBuilder" "coder" "B" (.int (0 : Int32))) (F3 : Fld Z h0 a1 "java/lang/AbstractStringBuilder" "count" "I" (.int (0 : Int32))) (S4 : Sta Z Z.heap "java/lang/String" "COMPACT_STRINGS" "Z" (.int zc)) (O1 : Old Z n0 h0) (g1 : n0 ≤ a1) (hCS : ¬ zc = 0) :
    MetFree l (⟨"java/lang/StringBuilder", "<init>", "()V"⟩ : MethodName) (head1 (Jvm.Cond.code (⟨"java/lang/StringBuilder", "<init>", "()V"⟩ : MethodName) jdk_67_method_1_code 1 none :: ws) ({ frames := 2, cells := 1, slots := 16, locals := 25 } : Room)) (fun a U => a = #[(.ref a1)] ∧ Z.Warmed39 U.vm ∧ U.heap = h0) (fun _ _ _ _ _ => True) (fun _ U o U' => ∃ v L, o = .returned v ∧ Q_sbI0 Z a1 u1 zc h0 n0 v U'.heap L ∧ FrameEnd U o U' L ({ frames := 2, cells := 1, slots := 16, locals := 25 } : Room).cells ({ frames := 2, cells := 1, slots := 16, locals := 25 } : Room).slots) := by
  refine MetFree.of_bodySF (plainFor_of_name pn_java_lang_StringBuilder) hisR ?_
  intro p e s m args below meth c s₁ Bd hml0 hP hK
  obtain ⟨rfl, hZ, hh⟩ := hP
  have hx := Bd.exec
  have hby := Bd.bytes
  have hlk := BodyLoose.notSynchronized Bd
  have hml : c.maxLocals = 1 := hml0
  have hown : s.vm.findClass "java/lang/StringBuilder" = some m.cls := findClass_of_methodNamed Bd.named
  have hnm := (name_of_methodNamed Bd.named Bd.method).1
  have X0 : Stand p l e ({ frames := 2, cells := 1, slots := 16, locals := 25 } : Room) s m #[(.ref a1)] below meth c s₁ [] 0 0 := Stand.of_body Bd
  have e0 : s₁.heap = h0 := by rw [← hh, Bd.state]; rfl
  have N0 := Fr.nil n0
  have K0 := Keep.refl h0 [a1]
  clear hh
  show Wk p e below (EndN s (Q_sbI0 Z a1 u1 zc h0 n0) ({ frames := 2, cells := 1, slots := 16, locals := 25 } : Room).cells ({ frames := 2, cells := 1, slots := 16, locals := 25 } : Room).slots) s₁ (entryFrame m #[(.ref a1)] 1)
  rw [ef_sbI0]
  have lt_E1 := ny E1.lt
  have lt_F1 := ny F1.lt
  have lt_F2 := ny F2.lt
  have lt_F3 := ny F3.lt
  refine Wk.aloadN X0 hx (hb hby d_jdk_67_m1_0) (n := 1) rfl rfl rfl ?_
  refine Wk.bipush X0 hx (hb hby d_jdk_67_m1_1) (n := 3) rfl (z := (16 : Int32)) rfl ?_
  have cl1_ := fun (Ls : Array Slot) (hLs : Ls.size = c.maxLocals) => X0.specialBack hx (y := (⟨"java/lang/AbstractStringBuilder", "<init>", "(I)V"⟩ : MethodName)) rfl hown (mvT hZ (hw _ (List.mem_of_getElem? (i := 74) rfl))) (mvT hZ (hw _ (List.mem_of_getElem? (i := 75) rfl))) (mvT hZ (hw _ (List.mem_of_getElem? (i := 79) rfl))) (by decide) (backOf (W := 0) (sbI1 l Z a0 hw [] a1 u1 zc h0 n0 (by omega) E1 F1 F2 F3 S4 O1 (by omega) hCS) hZ (hw _ (List.mem_of_getElem? (i := 79) rfl)) (hw _ (List.mem_of_getElem? (i := 78) rfl)) (by decide) (by decide)) (g := mkF m 3 Ls [(.int (16 : Int32)), (.ref a1)]) rfl hLs (Steps.refl _) (a := a1) (argsL := [(.int (16 : Int32))]) (rest := []) (lenOf pd_3 rfl) rfl (by show 2 * 0 + _ ≤ _; exact Nat.le_of_eq rfl) (hb hby d_jdk_67_m1_3) (fun _ _ => ⟨rfl, e0, (by decide : 0 + 1 ≤ _), (by decide : 0 + 16 ≤ _)⟩)
  refine Wk.back (n := 6) (rc := 1) (rs := 16) (Q := Q_sbI1 Z a1 u1 zc h0 n0) (cl1_ _ (by rw [hml]; rfl)) fun vn1 T1 L1 X1 hQ1 => ?_
  clear cl1_
  obtain ⟨t_1, kb_1, rfl, M1, J1, p1_0, p1_1, p1_2, p1_3, p1_4, gt_1⟩ := hQ1
  have N1 := Fr.app N0 M1
  have sz1 := J1.1
  have K1 := K0.trans J1 (allS (Or.inl (List.mem_of_getElem? (i := 0) rfl)) all0)
  have lt_p1_0 := ny p1_0.lt
  have lt_p1_4 := ny p1_4.lt
  show Wk p e below _ T1 (mkF m 6 _ [])
  exact Wk.leave X1 (v := none) (fun _ => rfl) hlk rfl ⟨t_1, kb_1, rfl, N1, K1, p1_0, p1_1, p1_2, p1_3, p1_4, (by omega)⟩ (by decide) (by decide) (fun fs hr => X1.returnOut hx Bd.returns (hb hby d_jdk_67_m1_6) hr)
def Q_sbCo (Z : State) (a1 : Addr) (zc : Int32) (h0 : Heap) (n0 : Nat) (v : Option Value) (h : Heap) (L : List Loc) : Prop := v = some (.int (0 : Int32)) ∧ Fr n0 L ∧ h = h0
theorem ef_sbCo (m : MethodId) (x0 : Addr) : entryFrame m #[(.ref x0)] 1 = mkF m 0 #[.val (.ref x0)] [] := by first | (simp [entryFrame, mkF, argsToLocals, Value.category]; done) | rfl
theorem d_jdk_42_m152_0 : decode jdk_42_method_152_code 0 = .ok (.getstatic 38, 3) := by decide +kernel
theorem d_jdk_42_m152_3 : decode jdk_42_method_152_code 3 = .ok (.ifCond .eq 10, 3) := by decide +kernel
theorem d_jdk_42_m152_6 : decode jdk_42_method_152_code 6 = .ok (.aload_n 0, 1) := by decide +kernel
theorem d_jdk_42_m152_7 : decode jdk_42_method_152_code 7 = .ok (.getfield 15, 3) := by decide +kernel
theorem d_jdk_42_m152_10 : decode jdk_42_method_152_code 10 = .ok (.goto 4, 3) := by decide +kernel
theorem d_jdk_42_m152_14 : decode jdk_42_method_152_code 14 = .ok (.ireturn, 1) := by decide +kernel
set_option maxRecDepth 65536 in
set_option maxHeartbeats 40000000 in
theorem sbCo (l : Launch) (Z : State) (a0 : Array Value) (hw : ∀ d ∈ tables_1, d.before a0 Z = true) (ws : List Jvm.Cond) (a1 : Addr) (zc : Int32) (h0 : Heap) (n0 : Nat) (Z0 : n0 ≤ h0.size) (F1 : Fld Z h0 a1 "java/lang/String" "coder" "B" (.int (0 : Int32))) (S4 : Sta Z Z.heap "java/lang/String" "COMPACT_STRINGS" "Z" (.int zc)) (O1 : Old Z n0 h0) (hCS : ¬ zc = 0) :
    MetFree l (⟨"java/lang/String", "coder", "()B"⟩ : MethodName) (head1 (Jvm.Cond.code (⟨"java/lang/String", "coder", "()B"⟩ : MethodName) jdk_42_method_152_code 1 (some .byte) :: ws) ({ frames := 0, cells := 0, slots := 0, locals := 0 } : Room)) (fun a U => a = #[(.ref a1)] ∧ Z.Warmed39 U.vm ∧ U.heap = h0) (fun _ _ _ _ _ => True) (fun _ U o U' => ∃ v L, o = .returned v ∧ Q_sbCo Z a1 zc h0 n0 v U'.heap L ∧ FrameEnd U o U' L ({ frames := 0, cells := 0, slots := 0, locals := 0 } : Room).cells ({ frames := 0, cells := 0, slots := 0, locals := 0 } : Room).slots) := by
  refine MetFree.of_bodySF (plainFor_of_name pn_java_lang_String) hisR ?_
  intro p e s m args below meth c s₁ Bd hml0 hP hK
  obtain ⟨rfl, hZ, hh⟩ := hP
  have hx := Bd.exec
  have hby := Bd.bytes
  have hlk := BodyLoose.notSynchronized Bd
  have hml : c.maxLocals = 1 := hml0
  have hown : s.vm.findClass "java/lang/String" = some m.cls := findClass_of_methodNamed Bd.named
  have hnm := (name_of_methodNamed Bd.named Bd.method).1
  have X0 : Stand p l e ({ frames := 0, cells := 0, slots := 0, locals := 0 } : Room) s m #[(.ref a1)] below meth c s₁ [] 0 0 := Stand.of_body Bd
  have e0 : s₁.heap = h0 := by rw [← hh, Bd.state]; rfl
  have N0 := Fr.nil n0
  have K0 := Keep.refl h0 []
  clear hh
  show Wk p e below (EndN s (Q_sbCo Z a1 zc h0 n0) ({ frames := 0, cells := 0, slots := 0, locals := 0 } : Room).cells ({ frames := 0, cells := 0, slots := 0, locals := 0 } : Room).slots) s₁ (entryFrame m #[(.ref a1)] 1)
  rw [ef_sbCo]
  have lt_F1 := ny F1.lt
  refine Wk.getS X0 hx hZ hown (host := "") (Or.inl (hw _ (List.mem_of_getElem? (i := 29) rfl))) Via.refl e0 (Sta.ext O1.2 S4) (hb hby d_jdk_42_m152_0) (n := 3) rfl fun T1 X1 e1 => ?_
  have hc3_2 : ¬ (zc = (0 : Int32)) := hCS
  refine Wk.ifNo X1 hx (hb hby d_jdk_42_m152_3) (n := 6) rfl ((if0 _ _).trans (feq hc3_2).1) ?_
  refine Wk.aloadN X1 hx (hb hby d_jdk_42_m152_6) (n := 7) rfl rfl rfl ?_
  refine Wk.getF X1 hx hZ hown (host := "") (Or.inl (hw _ (List.mem_of_getElem? (i := 25) rfl))) Via.refl e1 F1 (hb hby d_jdk_42_m152_7) (n := 10) rfl fun T3 X3 e3 => ?_
  refine Wk.goto X3 hx (hb hby d_jdk_42_m152_10) (by decide) (n := 14) (by decide) ?_
  exact Wk.leave X3 (v := some (.int (0 : Int32))) (fun h => by rw [Bd.returns] at h; cases h) hlk e3 ⟨rfl, N0, rfl⟩ (by decide) (by decide) (fun fs hr => retNz X3 hx (t := .byte) rfl Bd.returns (by simp) (hb hby d_jdk_42_m152_14) hr)
def Q_sbEC (Z : State) (a1 : Addr) (i1 : Int32) (t1 : Addr) (k1 : ClassId) (cs : List Int32) (qz : Nat) (h0 : Heap) (n0 : Nat) (v : Option Value) (h : Heap) (L : List Loc) : Prop := v = none ∧ Fr n0 L ∧ h = h0
theorem ef_sbEC (m : MethodId) (x0 : Addr) (x1 : Int32) : entryFrame m #[(.ref x0), (.int x1)] 3 = mkF m 0 #[.val (.ref x0), .val (.int x1), .unset] [] := by first | (simp [entryFrame, mkF, argsToLocals, Value.category]; done) | rfl
theorem d_jdk_68_m9_0 : decode jdk_68_method_9_code 0 = .ok (.aload_n 0, 1) := by decide +kernel
theorem d_jdk_68_m9_1 : decode jdk_68_method_9_code 1 = .ok (.getfield 15, 3) := by decide +kernel
theorem d_jdk_68_m9_4 : decode jdk_68_method_9_code 4 = .ok (.arraylength, 1) := by decide +kernel
theorem d_jdk_68_m9_5 : decode jdk_68_method_9_code 5 = .ok (.aload_n 0, 1) := by decide +kernel
theorem d_jdk_68_m9_6 : decode jdk_68_method_9_code 6 = .ok (.getfield 22, 3) := by decide +kernel
theorem d_jdk_68_m9_9 : decode jdk_68_method_9_code 9 = .ok (.ishr, 1) := by decide +kernel
theorem d_jdk_68_m9_10 : decode jdk_68_method_9_code 10 = .ok (.istore_n 2, 1) := by decide +kernel
theorem d_jdk_68_m9_11 : decode jdk_68_method_9_code 11 = .ok (.iload_n 1, 1) := by decide +kernel
theorem d_jdk_68_m9_12 : decode jdk_68_method_9_code 12 = .ok (.iload_n 2, 1) := by decide +kernel
theorem d_jdk_68_m9_13 : decode jdk_68_method_9_code 13 = .ok (.isub, 1) := by decide +kernel
theorem d_jdk_68_m9_14 : decode jdk_68_method_9_code 14 = .ok (.ifCond .le 24, 3) := by decide +kernel
theorem d_jdk_68_m9_38 : decode jdk_68_method_9_code 38 = .ok (.return_, 1) := by decide +kernel
set_option maxRecDepth 65536 in
set_option maxHeartbeats 40000000 in
theorem sbEC (l : Launch) (Z : State) (a0 : Array Value) (hw : ∀ d ∈ tables_1, d.before a0 Z = true) (ws : List Jvm.Cond) (a1 : Addr) (i1 : Int32) (t1 : Addr) (k1 : ClassId) (cs : List Int32) (qz : Nat) (h0 : Heap) (n0 : Nat) (Z0 : n0 ≤ h0.size) (Eb1 : Exa Z h0 a1 "java/lang/StringBuilder") (Gv1 : Fld Z h0 a1 "java/lang/AbstractStringBuilder" "value" "[B" (.ref t1)) (Gc1 : Fld Z h0 a1 "java/lang/AbstractStringBuilder" "coder" "B" (.int (0 : Int32))) (Ab1 : Arv Z h0 t1 k1 .byte (Int32.ofNat 16) (bsV cs) (.int (0 : Int32))) (hi : i1 = Int32.ofNat qz) (hq : qz ≤ 16) :
    MetFree l (⟨"java/lang/AbstractStringBuilder", "ensureCapacityInternal", "(I)V"⟩ : MethodName) (head1 (Jvm.Cond.code (⟨"java/lang/AbstractStringBuilder", "ensureCapacityInternal", "(I)V"⟩ : MethodName) jdk_68_method_9_code 3 none :: ws) ({ frames := 0, cells := 0, slots := 0, locals := 0 } : Room)) (fun a U => a = #[(.ref a1), (.int i1)] ∧ Z.Warmed39 U.vm ∧ U.heap = h0) (fun _ _ _ _ _ => True) (fun _ U o U' => ∃ v L, o = .returned v ∧ Q_sbEC Z a1 i1 t1 k1 cs qz h0 n0 v U'.heap L ∧ FrameEnd U o U' L ({ frames := 0, cells := 0, slots := 0, locals := 0 } : Room).cells ({ frames := 0, cells := 0, slots := 0, locals := 0 } : Room).slots) := by
  refine MetFree.of_bodySF (plainFor_of_name pn_java_lang_AbstractStringBuilder) hisR ?_
  intro p e s m args below meth c s₁ Bd hml0 hP hK
  obtain ⟨rfl, hZ, hh⟩ := hP
  have hx := Bd.exec
  have hby := Bd.bytes
  have hlk := BodyLoose.notSynchronized Bd
  have hml : c.maxLocals = 3 := hml0
  have hown : s.vm.findClass "java/lang/AbstractStringBuilder" = some m.cls := findClass_of_methodNamed Bd.named
  have hnm := (name_of_methodNamed Bd.named Bd.method).1
  have X0 : Stand p l e ({ frames := 0, cells := 0, slots := 0, locals := 0 } : Room) s m #[(.ref a1), (.int i1)] below meth c s₁ [] 0 0 := Stand.of_body Bd
  have e0 : s₁.heap = h0 := by rw [← hh, Bd.state]; rfl
  have N0 := Fr.nil n0
  have K0 := Keep.refl h0 []
  clear hh
  show Wk p e below (EndN s (Q_sbEC Z a1 i1 t1 k1 cs qz h0 n0) ({ frames := 0, cells := 0, slots := 0, locals := 0 } : Room).cells ({ frames := 0, cells := 0, slots := 0, locals := 0 } : Room).slots) s₁ (entryFrame m #[(.ref a1), (.int i1)] 3)
  rw [ef_sbEC]
  have lt_Eb1 := ny Eb1.lt
  have lt_Gv1 := ny Gv1.lt
  have lt_Gc1 := ny Gc1.lt
  have lt_Ab1 := ny Ab1.lt
  refine Wk.aloadN X0 hx (hb hby d_jdk_68_m9_0) (n := 1) rfl rfl rfl ?_
  refine Wk.getF X0 hx hZ hown (host := "") (Or.inl (hw _ (List.mem_of_getElem? (i := 82) rfl))) Via.refl e0 Gv1 (hb hby d_jdk_68_m9_1) (n := 4) rfl fun T1 X1 e1 => ?_
  obtain ⟨cl2, Ar2, qn2, Sz2, N_2, H_2, Gn2⟩ := id Ab1
  refine Wk.arrlen X1 hx hZ e1 Ar2 Sz2 N_2 (hb hby d_jdk_68_m9_4) (n := 5) rfl ?_
  refine Wk.aloadN X1 hx (hb hby d_jdk_68_m9_5) (n := 6) rfl rfl rfl ?_
  refine Wk.getF X1 hx hZ hown (host := "") (Or.inl (hw _ (List.mem_of_getElem? (i := 84) rfl))) Via.refl e1 Gc1 (hb hby d_jdk_68_m9_6) (n := 9) rfl fun T3 X3 e3 => ?_
  refine Wk.ishr X3 hx (hb hby d_jdk_68_m9_9) (n := 10) rfl ?_
  refine Wk.istoreN X3 hx (hb hby d_jdk_68_m9_10) (n := 11) rfl (L' := #[.val (.ref a1), .val (.int i1), .val (.int ((Int32.ofNat 16) >>> ((0 : Int32) &&& 31)))]) rfl ?_
  refine Wk.iloadN X3 hx (hb hby d_jdk_68_m9_11) (n := 12) rfl rfl ?_
  refine Wk.iloadN X3 hx (hb hby d_jdk_68_m9_12) (n := 13) rfl rfl ?_
  refine Wk.isub X3 hx (hb hby d_jdk_68_m9_13) (n := 14) rfl ?_
  have hc14_4 : ¬ ((0 : Int32) < (i1 - ((Int32.ofNat 16) >>> ((0 : Int32) &&& 31)))) := by rw [hi]; exact own_ec hq (by decide)
  refine Wk.ifYes X3 hx (hb hby d_jdk_68_m9_14) ((if0 _ _).trans (flt hc14_4).2.2.2) (by decide) (n := 38) (by decide) ?_
  exact Wk.leave X3 (v := none) (fun _ => rfl) hlk e3 ⟨rfl, N0, rfl⟩ (by decide) (by decide) (fun fs hr => X3.returnOut hx Bd.returns (hb hby d_jdk_68_m9_38) hr)
def Q_sbIN (Z : State) (a1 : Addr) (x1 : Addr) (zc : Int32) (h0 : Heap) (n0 : Nat) (v : Option Value) (h : Heap) (L : List Loc) : Prop := v = none ∧ Fr n0 L ∧ h = h0
theorem ef_sbIN (m : MethodId) (x0 : Addr) (x1 : Addr) : entryFrame m #[(.ref x0), (.ref x1)] 2 = mkF m 0 #[.val (.ref x0), .val (.ref x1)] [] := by first | (simp [entryFrame, mkF, argsToLocals, Value.category]; done) | rfl
theorem d_jdk_68_m71_0 : decode jdk_68_method_71_code 0 = .ok (.getstatic 18, 3) := by decide +kernel
theorem d_jdk_68_m71_3 : decode jdk_68_method_71_code 3 = .ok (.ifCond .eq 18, 3) := by decide +kernel
theorem d_jdk_68_m71_6 : decode jdk_68_method_71_code 6 = .ok (.aload_n 0, 1) := by decide +kernel
theorem d_jdk_68_m71_7 : decode jdk_68_method_71_code 7 = .ok (.getfield 22, 3) := by decide +kernel
theorem d_jdk_68_m71_10 : decode jdk_68_method_71_code 10 = .ok (.aload_n 1, 1) := by decide +kernel
theorem d_jdk_68_m71_11 : decode jdk_68_method_71_code 11 = .ok (.invokevirtual 40, 3) := by decide +kernel
theorem pd_4 : parseMethodDescriptor "()B" = some ⟨[], some .byte⟩ := by decide +kernel
theorem d_jdk_68_m71_14 : decode jdk_68_method_71_code 14 = .ok (.if_icmp .eq 7, 3) := by decide +kernel
theorem d_jdk_68_m71_21 : decode jdk_68_method_71_code 21 = .ok (.return_, 1) := by decide +kernel
set_option maxRecDepth 65536 in
set_option maxHeartbeats 40000000 in
theorem sbIN (l : Launch) (Z : State) (a0 : Array Value) (hw : ∀ d ∈ tables_1, d.before a0 Z = true) (ws : List Jvm.Cond) (a1 : Addr) (x1 : Addr) (zc : Int32) (h0 : Heap) (n0 : Nat) (Z0 : n0 ≤ h0.size) (E1 : Exa Z h0 a1 "java/lang/StringBuilder") (F1 : Fld Z h0 a1 "java/lang/AbstractStringBuilder" "coder" "B" (.int (0 : Int32))) (E2 : Exa Z h0 x1 "java/lang/String") (F2 : Fld Z h0 x1 "java/lang/String" "coder" "B" (.int (0 : Int32))) (S4 : Sta Z Z.heap "java/lang/String" "COMPACT_STRINGS" "Z" (.int zc)) (O1 : Old Z n0 h0) (hCS : ¬ zc = 0) :
    MetFree l (⟨"java/lang/AbstractStringBuilder", "inflateIfNeededFor", "(Ljava/lang/String;)V"⟩ : MethodName) (head1 (Jvm.Cond.code (⟨"java/lang/AbstractStringBuilder", "inflateIfNeededFor", "(Ljava/lang/String;)V"⟩ : MethodName) jdk_68_method_71_code 2 none :: ws) ({ frames := 1, cells := 0, slots := 0, locals := 13 } : Room)) (fun a U => a = #[(.ref a1), (.ref x1)] ∧ Z.Warmed39 U.vm ∧ U.heap = h0) (fun _ _ _ _ _ => True) (fun _ U o U' => ∃ v L, o = .returned v ∧ Q_sbIN Z a1 x1 zc h0 n0 v U'.heap L ∧ FrameEnd U o U' L ({ frames := 1, cells := 0, slots := 0, locals := 13 } : Room).cells ({ frames := 1, cells := 0, slots := 0, locals := 13 } : Room).slots) := by
  refine MetFree.of_bodySF (plainFor_of_name pn_java_lang_AbstractStringBuilder) hisR ?_
  intro p e s m args below meth c s₁ Bd hml0 hP hK
  obtain ⟨rfl, hZ, hh⟩ := hP
  have hx := Bd.exec
  have hby := Bd.bytes
  have hlk := BodyLoose.notSynchronized Bd
  have hml : c.maxLocals = 2 := hml0
  have hown : s.vm.findClass "java/lang/AbstractStringBuilder" = some m.cls := findClass_of_methodNamed Bd.named
  have hnm := (name_of_methodNamed Bd.named Bd.method).1
  have X0 : Stand p l e ({ frames := 1, cells := 0, slots := 0, locals := 13 } : Room) s m #[(.ref a1), (.ref x1)] below meth c s₁ [] 0 0 := Stand.of_body Bd
  have e0 : s₁.heap = h0 := by rw [← hh, Bd.state]; rfl
  have N0 := Fr.nil n0
  have K0 := Keep.refl h0 []
  clear hh
  show Wk p e below (EndN s (Q_sbIN Z a1 x1 zc h0 n0) ({ frames := 1, cells := 0, slots := 0, locals := 13 } : Room).cells ({ frames := 1, cells := 0, slots := 0, locals := 13 } : Room).slots) s₁ (entryFrame m #[(.ref a1), (.ref x1)] 2)
  rw [ef_sbIN]
  have lt_E1 := ny E1.lt
  have lt_F1 := ny F1.lt
  have lt_E2 := ny E2.lt
  have lt_F2 := ny F2.lt
  refine Wk.getS X0 hx hZ hown (host := "") (Or.inl (hw _ (List.mem_of_getElem? (i := 81) rfl))) Via.refl e0 (Sta.ext O1.2 S4) (hb hby d_jdk_68_m71_0) (n := 3) rfl fun T1 X1 e1 => ?_
  have hc3_2 : ¬ (zc = (0 : Int32)) := hCS
  refine Wk.ifNo X1 hx (hb hby d_jdk_68_m71_3) (n := 6) rfl ((if0 _ _).trans (feq hc3_2).1) ?_
  refine Wk.aloadN X1 hx (hb hby d_jdk_68_m71_6) (n := 7) rfl rfl rfl ?_
  refine Wk.getF X1 hx hZ hown (host := "") (Or.inl (hw _ (List.mem_of_getElem? (i := 84) rfl))) Via.refl e1 F1 (hb hby d_jdk_68_m71_7) (n := 10) rfl fun T3 X3 e3 => ?_
  refine Wk.aloadN X3 hx (hb hby d_jdk_68_m71_10) (n := 11) rfl rfl rfl ?_
  obtain ⟨cq4, kq4, qn4a, qn4b, qn4c⟩ := isOf hZ e3 E2
  have cl4_ := fun (Ls : Array Slot) (hLs : Ls.size = c.maxLocals) => X3.virtualBack hx (y := (⟨"java/lang/String", "coder", "()B"⟩ : MethodName)) (z := (⟨"java/lang/String", "coder", "()B"⟩ : MethodName)) hown (mvT hZ (hw _ (List.mem_of_getElem? (i := 123) rfl))) (mvT hZ (hw _ (List.mem_of_getElem? (i := 102) rfl))) (notFace_of_selects (args := #[]) (mvT hZ (hw _ (List.mem_of_getElem? (i := 104) rfl)))) (mvT hZ (hw _ (List.mem_of_getElem? (i := 104) rfl))) (mvT hZ (hw _ (List.mem_of_getElem? (i := 103) rfl))) (by decide) (backOf (W := 1) (sbCo l Z a0 hw [] x1 zc h0 n0 (by omega) F2 S4 O1 hCS) hZ (hw _ (List.mem_of_getElem? (i := 105) rfl)) (hw _ (List.mem_of_getElem? (i := 6) rfl)) (by decide) (by decide)) qn4a qn4c (g := mkF m 11 Ls [(.ref x1), (.int (0 : Int32))]) rfl hLs (Steps.refl _) (argsL := []) (rest := [(.int (0 : Int32))]) (lenOf pd_4 rfl) rfl (by show 2 * 0 + _ ≤ _; exact Nat.le_of_eq rfl) (hb hby d_jdk_68_m71_11) (fun _ _ => ⟨rfl, e3, (by decide : 0 + 0 ≤ _), (by decide : 0 + 0 ≤ _)⟩)
  refine Wk.back (n := 14) (rc := 0) (rs := 0) (Q := Q_sbCo Z x1 zc h0 n0) (cl4_ _ (by rw [hml]; rfl)) fun vn4 T4 L4 X4 hQ4 => ?_
  clear cl4_
  obtain ⟨rfl, M4, e4⟩ := hQ4
  have N4 := Fr.app N0 M4
  show Wk p e below _ T4 (mkF m 14 _ [(.int (0 : Int32)), (.int (0 : Int32))])
  have hc14_5 : (0 : Int32) = (0 : Int32) := rfl
  refine Wk.icmpYes X4 hx (hb hby d_jdk_68_m71_14) (teq hc14_5).1 (by decide) (n := 21) (by decide) ?_
  exact Wk.leave X4 (v := none) (fun _ => rfl) hlk e4 ⟨rfl, N4, rfl⟩ (by decide) (by decide) (fun fs hr => X4.returnOut hx Bd.returns (hb hby d_jdk_68_m71_21) hr)
def Q_sbGB (Z : State) (x1 : Addr) (t2 : Addr) (k2 : ClassId) (cx : List Int32) (t1 : Addr) (k1 : ClassId) (cs : List Int32) (i1 : Int32) (zc : Int32) (h0 : Heap) (n0 : Nat) (v : Option Value) (h : Heap) (L : List Loc) : Prop := v = none ∧ Fr n0 L ∧ Keep h0 h [t1] ∧ Arv Z h t1 k1 .byte (Int32.ofNat 16) (bsV (cs ++ cx)) (.int (0 : Int32))
theorem ef_sbGB (m : MethodId) (x0 : Addr) (x1 : Addr) (x2 : Int32) : entryFrame m #[(.ref x0), (.ref x1), (.int x2), (.int (0 : Int32))] 4 = mkF m 0 #[.val (.ref x0), .val (.ref x1), .val (.int x2), .val (.int (0 : Int32))] [] := by first | (simp [entryFrame, mkF, argsToLocals, Value.category]; done) | rfl
theorem d_jdk_42_m147_0 : decode jdk_42_method_147_code 0 = .ok (.aload_n 0, 1) := by decide +kernel
theorem d_jdk_42_m147_1 : decode jdk_42_method_147_code 1 = .ok (.invokevirtual 335, 3) := by decide +kernel
theorem d_jdk_42_m147_4 : decode jdk_42_method_147_code 4 = .ok (.iload_n 3, 1) := by decide +kernel
theorem d_jdk_42_m147_5 : decode jdk_42_method_147_code 5 = .ok (.if_icmp .ne 23, 3) := by decide +kernel
theorem d_jdk_42_m147_8 : decode jdk_42_method_147_code 8 = .ok (.aload_n 0, 1) := by decide +kernel
theorem d_jdk_42_m147_9 : decode jdk_42_method_147_code 9 = .ok (.getfield 9, 3) := by decide +kernel
theorem d_jdk_42_m147_12 : decode jdk_42_method_147_code 12 = .ok (.iconst 0, 1) := by decide +kernel
theorem d_jdk_42_m147_13 : decode jdk_42_method_147_code 13 = .ok (.aload_n 1, 1) := by decide +kernel
theorem d_jdk_42_m147_14 : decode jdk_42_method_147_code 14 = .ok (.iload_n 2, 1) := by decide +kernel
theorem d_jdk_42_m147_15 : decode jdk_42_method_147_code 15 = .ok (.iload_n 3, 1) := by decide +kernel
theorem d_jdk_42_m147_16 : decode jdk_42_method_147_code 16 = .ok (.ishl, 1) := by decide +kernel
theorem d_jdk_42_m147_17 : decode jdk_42_method_147_code 17 = .ok (.aload_n 0, 1) := by decide +kernel
theorem d_jdk_42_m147_18 : decode jdk_42_method_147_code 18 = .ok (.getfield 9, 3) := by decide +kernel
theorem d_jdk_42_m147_21 : decode jdk_42_method_147_code 21 = .ok (.arraylength, 1) := by decide +kernel
theorem d_jdk_42_m147_22 : decode jdk_42_method_147_code 22 = .ok (.invokestatic 212, 3) := by decide +kernel
theorem d_jdk_42_m147_25 : decode jdk_42_method_147_code 25 = .ok (.goto 18, 3) := by decide +kernel
theorem d_jdk_42_m147_43 : decode jdk_42_method_147_code 43 = .ok (.return_, 1) := by decide +kernel
set_option maxRecDepth 65536 in
set_option maxHeartbeats 40000000 in
theorem sbGB (l : Launch) (Z : State) (a0 : Array Value) (hw : ∀ d ∈ tables_1, d.before a0 Z = true) (ws : List Jvm.Cond) (x1 : Addr) (t2 : Addr) (k2 : ClassId) (cx : List Int32) (t1 : Addr) (k1 : ClassId) (cs : List Int32) (i1 : Int32) (zc : Int32) (h0 : Heap) (n0 : Nat) (Z0 : n0 ≤ h0.size) (Es1 : Exa Z h0 x1 "java/lang/String") (Fv1 : Fld Z h0 x1 "java/lang/String" "value" "[B" (.ref t2)) (Fc1 : Fld Z h0 x1 "java/lang/String" "coder" "B" (.int (0 : Int32))) (As1 : Arv Z h0 t2 k2 .byte (Int32.ofNat cx.length) (bsV cx) (.int (0 : Int32))) (Ab1 : Arv Z h0 t1 k1 .byte (Int32.ofNat 16) (bsV cs) (.int (0 : Int32))) (S4 : Sta Z Z.heap "java/lang/String" "COMPACT_STRINGS" "Z" (.int zc)) (O1 : Old Z n0 h0) (hCS : ¬ zc = 0) (hi : i1 = Int32.ofNat cs.length) (hN : cs.length + cx.length ≤ 16) (g1 : n0 ≤ t1) :
    MetFree l (⟨"java/lang/String", "getBytes", "([BIB)V"⟩ : MethodName) (head1 (Jvm.Cond.code (⟨"java/lang/String", "getBytes", "([BIB)V"⟩ : MethodName) jdk_42_method_147_code 4 none :: ws) ({ frames := 1, cells := 0, slots := 0, locals := 32 } : Room)) (fun a U => a = #[(.ref x1), (.ref t1), (.int i1), (.int (0 : Int32))] ∧ Z.Warmed39 U.vm ∧ U.heap = h0) (fun _ _ _ _ _ => True) (fun _ U o U' => ∃ v L, o = .returned v ∧ Q_sbGB Z x1 t2 k2 cx t1 k1 cs i1 zc h0 n0 v U'.heap L ∧ FrameEnd U o U' L ({ frames := 1, cells := 0, slots := 0, locals := 32 } : Room).cells ({ frames := 1, cells := 0, slots := 0, locals := 32 } : Room).slots) := by
  refine MetFree.of_bodySF (plainFor_of_name pn_java_lang_String) hisR ?_
  intro p e s m args below meth c s₁ Bd hml0 hP hK
  obtain ⟨rfl, hZ, hh⟩ := hP
  have hx := Bd.exec
  have hby := Bd.bytes
  have hlk := BodyLoose.notSynchronized Bd
  have hml : c.maxLocals = 4 := hml0
  have hown : s.vm.findClass "java/lang/String" = some m.cls := findClass_of_methodNamed Bd.named
  have hnm := (name_of_methodNamed Bd.named Bd.method).1
  have X0 : Stand p l e ({ frames := 1, cells := 0, slots := 0, locals := 32 } : Room) s m #[(.ref x1), (.ref t1), (.int i1), (.int (0 : Int32))] below meth c s₁ [] 0 0 := Stand.of_body Bd
  have e0 : s₁.heap = h0 := by rw [← hh, Bd.state]; rfl
  have N0 := Fr.nil n0
  have K0 := Keep.refl h0 [t1]
  clear hh
  show Wk p e below (EndN s (Q_sbGB Z x1 t2 k2 cx t1 k1 cs i1 zc h0 n0) ({ frames := 1, cells := 0, slots := 0, locals := 32 } : Room).cells ({ frames := 1, cells := 0, slots := 0, locals := 32 } : Room).slots) s₁ (entryFrame m #[(.ref x1), (.ref t1), (.int i1), (.int (0 : Int32))] 4)
  rw [ef_sbGB]
  have lt_Es1 := ny Es1.lt
  have lt_Fv1 := ny Fv1.lt
  have lt_Fc1 := ny Fc1.lt
  have lt_As1 := ny As1.lt
  have lt_Ab1 := ny Ab1.lt
  refine Wk.aloadN X0 hx (hb hby d_jdk_42_m147_0) (n := 1) rfl rfl rfl ?_
  obtain ⟨cq1, kq1, qn1a, qn1b, qn1c⟩ := isOf hZ e0 Es1
  have cl1_ := fun (Ls : Array Slot) (hLs : Ls.size = c.maxLocals) => X0.virtualBack hx (y := (⟨"java/lang/String", "coder", "()B"⟩ : MethodName)) (z := (⟨"java/lang/String", "coder", "()B"⟩ : MethodName)) hown (mvT hZ (hw _ (List.mem_of_getElem? (i := 101) rfl))) (mvT hZ (hw _ (List.mem_of_getElem? (i := 102) rfl))) (notFace_of_selects (args := #[]) (mvT hZ (hw _ (List.mem_of_getElem? (i := 104) rfl)))) (mvT hZ (hw _ (List.mem_of_getElem? (i := 104) rfl))) (mvT hZ (hw _ (List.mem_of_getElem? (i := 103) rfl))) (by decide) (backOf (W := 0) (sbCo l Z a0 hw [] x1 zc h0 n0 (by omega) Fc1 S4 O1 hCS) hZ (hw _ (List.mem_of_getElem? (i := 105) rfl)) (hw _ (List.mem_of_getElem? (i := 6) rfl)) (by decide) (by decide)) qn1a qn1c (g := mkF m 1 Ls [(.ref x1)]) rfl hLs (Steps.refl _) (argsL := []) (rest := []) (lenOf pd_4 rfl) rfl (by show 2 * 0 + _ ≤ _; exact Nat.le_of_eq rfl) (hb hby d_jdk_42_m147_1) (fun _ _ => ⟨rfl, e0, (by decide : 0 + 0 ≤ _), (by decide : 0 + 0 ≤ _)⟩)
  refine Wk.back (n := 4) (rc := 0) (rs := 0) (Q := Q_sbCo Z x1 zc h0 n0) (cl1_ _ (by rw [hml]; rfl)) fun vn1 T1 L1 X1 hQ1 => ?_
  clear cl1_
  obtain ⟨rfl, M1, e1⟩ := hQ1
  have N1 := Fr.app N0 M1
  show Wk p e below _ T1 (mkF m 4 _ [(.int (0 : Int32))])
  refine Wk.iloadN X1 hx (hb hby d_jdk_42_m147_4) (n := 5) rfl rfl ?_
  have hc5_2 : (0 : Int32) = (0 : Int32) := rfl
  refine Wk.icmpNo X1 hx (hb hby d_jdk_42_m147_5) (n := 8) rfl (teq hc5_2).2 ?_
  refine Wk.aloadN X1 hx (hb hby d_jdk_42_m147_8) (n := 9) rfl rfl rfl ?_
  refine Wk.getF X1 hx hZ hown (host := "") (Or.inl (hw _ (List.mem_of_getElem? (i := 24) rfl))) Via.refl e1 Fv1 (hb hby d_jdk_42_m147_9) (n := 12) rfl fun T3 X3 e3 => ?_
  refine Wk.iconst X3 hx (hb hby d_jdk_42_m147_12) (n := 13) rfl (z := (0 : Int32)) rfl ?_
  refine Wk.aloadN X3 hx (hb hby d_jdk_42_m147_13) (n := 14) rfl rfl rfl ?_
  refine Wk.iloadN X3 hx (hb hby d_jdk_42_m147_14) (n := 15) rfl rfl ?_
  refine Wk.iloadN X3 hx (hb hby d_jdk_42_m147_15) (n := 16) rfl rfl ?_
  refine Wk.ishl X3 hx (hb hby d_jdk_42_m147_16) (n := 17) rfl ?_
  refine Wk.aloadN X3 hx (hb hby d_jdk_42_m147_17) (n := 18) rfl rfl rfl ?_
  refine Wk.getF X3 hx hZ hown (host := "") (Or.inl (hw _ (List.mem_of_getElem? (i := 24) rfl))) Via.refl e3 Fv1 (hb hby d_jdk_42_m147_18) (n := 21) rfl fun T4 X4 e4 => ?_
  obtain ⟨cl5, Ar5, qn5, Sz5, N_5, H_5, Gn5⟩ := id As1
  refine Wk.arrlen X4 hx hZ e4 Ar5 Sz5 N_5 (hb hby d_jdk_42_m147_21) (n := 22) rfl ?_
  have Pd := Arv.pad Ab1 (pad_rep (bsV cs) (.int (0 : Int32)) cx.length)
  refine Wk.cpA X4 hx hZ hown (hw _ (List.mem_of_getElem? (i := 129) rfl)) (hw _ (List.mem_of_getElem? (i := 132) rfl)) (hw _ (List.mem_of_getElem? (i := 130) rfl)) (hw _ (List.mem_of_getElem? (i := 131) rfl)) e4 As1 Pd (Or.inl ⟨rfl, rfl⟩) (i := 0) (j := cs.length) (q := cx.length) rfl (by rw [own_shl0]; exact hi) rfl (by omega) (by omega) (by omega) (by rw [own_cl (by omega)]; omega) (by rw [own_cl (by omega)]; omega) rfl (by simp [bsV]) N1 (by omega) (vn := (bsV (cs ++ cx))) (own_vn cs cx) (by rw [hml]; rfl) (hb hby d_jdk_42_m147_22) (n := 25) rfl (by decide) (w := 0) (Nat.le_of_eq rfl) (by decide) fun T6 H6 Lc6 X6 e6 N6 J6 Vn6 => ?_
  have sz6 := J6.1
  have K6 := K0.trans J6 (allS (Or.inl (List.mem_of_getElem? (i := 0) rfl)) all0)
  refine Wk.goto X6 hx (hb hby d_jdk_42_m147_25) (by decide) (n := 43) (by decide) ?_
  exact Wk.leave X6 (v := none) (fun _ => rfl) hlk e6 ⟨rfl, N6, K6, Vn6⟩ (by decide) (by decide) (fun fs hr => X6.returnOut hx Bd.returns (hb hby d_jdk_42_m147_43) hr)
def Q_sbPS (Z : State) (a1 : Addr) (i1 : Int32) (x1 : Addr) (t2 : Addr) (k2 : ClassId) (cx : List Int32) (t1 : Addr) (k1 : ClassId) (cs : List Int32) (zc : Int32) (h0 : Heap) (n0 : Nat) (v : Option Value) (h : Heap) (L : List Loc) : Prop := v = none ∧ Fr n0 L ∧ Keep h0 h [t1] ∧ Arv Z h t1 k1 .byte (Int32.ofNat 16) (bsV (cs ++ cx)) (.int (0 : Int32))
theorem ef_sbPS (m : MethodId) (x0 : Addr) (x1 : Int32) (x2 : Addr) : entryFrame m #[(.ref x0), (.int x1), (.ref x2)] 3 = mkF m 0 #[.val (.ref x0), .val (.int x1), .val (.ref x2)] [] := by first | (simp [entryFrame, mkF, argsToLocals, Value.category]; done) | rfl
theorem d_jdk_68_m73_0 : decode jdk_68_method_73_code 0 = .ok (.aload_n 0, 1) := by decide +kernel
theorem d_jdk_68_m73_1 : decode jdk_68_method_73_code 1 = .ok (.aload_n 2, 1) := by decide +kernel
theorem d_jdk_68_m73_2 : decode jdk_68_method_73_code 2 = .ok (.invokevirtual 397, 3) := by decide +kernel
theorem pd_5 : parseMethodDescriptor "(Ljava/lang/String;)V" = some ⟨[(.object "java/lang/String")], none⟩ := by decide +kernel
theorem d_jdk_68_m73_5 : decode jdk_68_method_73_code 5 = .ok (.aload_n 2, 1) := by decide +kernel
theorem d_jdk_68_m73_6 : decode jdk_68_method_73_code 6 = .ok (.aload_n 0, 1) := by decide +kernel
theorem d_jdk_68_m73_7 : decode jdk_68_method_73_code 7 = .ok (.getfield 15, 3) := by decide +kernel
theorem d_jdk_68_m73_10 : decode jdk_68_method_73_code 10 = .ok (.iload_n 1, 1) := by decide +kernel
theorem d_jdk_68_m73_11 : decode jdk_68_method_73_code 11 = .ok (.aload_n 0, 1) := by decide +kernel
theorem d_jdk_68_m73_12 : decode jdk_68_method_73_code 12 = .ok (.getfield 22, 3) := by decide +kernel
theorem d_jdk_68_m73_15 : decode jdk_68_method_73_code 15 = .ok (.invokevirtual 399, 3) := by decide +kernel
theorem pd_6 : parseMethodDescriptor "([BIB)V" = some ⟨[(.array .byte), .int, .byte], none⟩ := by decide +kernel
theorem d_jdk_68_m73_18 : decode jdk_68_method_73_code 18 = .ok (.return_, 1) := by decide +kernel
set_option maxRecDepth 65536 in
set_option maxHeartbeats 40000000 in
theorem sbPS (l : Launch) (Z : State) (a0 : Array Value) (hw : ∀ d ∈ tables_1, d.before a0 Z = true) (ws : List Jvm.Cond) (a1 : Addr) (i1 : Int32) (x1 : Addr) (t2 : Addr) (k2 : ClassId) (cx : List Int32) (t1 : Addr) (k1 : ClassId) (cs : List Int32) (zc : Int32) (h0 : Heap) (n0 : Nat) (Z0 : n0 ≤ h0.size) (Eb1 : Exa Z h0 a1 "java/lang/StringBuilder") (Gv1 : Fld Z h0 a1 "java/lang/AbstractStringBuilder" "value" "[B" (.ref t1)) (Gc1 : Fld Z h0 a1 "java/lang/AbstractStringBuilder" "coder" "B" (.int (0 : Int32))) (Ab1 : Arv Z h0 t1 k1 .byte (Int32.ofNat 16) (bsV cs) (.int (0 : Int32))) (Es1 : Exa Z h0 x1 "java/lang/String") (Fv1 : Fld Z h0 x1 "java/lang/String" "value" "[B" (.ref t2)) (Fc1 : Fld Z h0 x1 "java/lang/String" "coder" "B" (.int (0 : Int32))) (As1 : Arv Z h0 t2 k2 .byte (Int32.ofNat cx.length) (bsV cx) (.int (0 : Int32))) (S4 : Sta Z Z.heap "java/lang/String" "COMPACT_STRINGS" "Z" (.int zc)) (O1 : Old Z n0 h0) (hCS : ¬ zc = 0) (hi : i1 = Int32.ofNat cs.length) (hN : cs.length + cx.length ≤ 16) (g1 : n0 ≤ t1) :
    MetFree l (⟨"java/lang/AbstractStringBuilder", "putStringAt", "(ILjava/lang/String;)V"⟩ : MethodName) (head1 (Jvm.Cond.code (⟨"java/lang/AbstractStringBuilder", "putStringAt", "(ILjava/lang/String;)V"⟩ : MethodName) jdk_68_method_73_code 3 none :: ws) ({ frames := 2, cells := 0, slots := 0, locals := 47 } : Room)) (fun a U => a = #[(.ref a1), (.int i1), (.ref x1)] ∧ Z.Warmed39 U.vm ∧ U.heap = h0) (fun _ _ _ _ _ => True) (fun _ U o U' => ∃ v L, o = .returned v ∧ Q_sbPS Z a1 i1 x1 t2 k2 cx t1 k1 cs zc h0 n0 v U'.heap L ∧ FrameEnd U o U' L ({ frames := 2, cells := 0, slots := 0, locals := 47 } : Room).cells ({ frames := 2, cells := 0, slots := 0, locals := 47 } : Room).slots) := by
  refine MetFree.of_bodySF (plainFor_of_name pn_java_lang_AbstractStringBuilder) hisR ?_
  intro p e s m args below meth c s₁ Bd hml0 hP hK
  obtain ⟨rfl, hZ, hh⟩ := hP
  have hx := Bd.exec
  have hby := Bd.bytes
  have hlk := BodyLoose.notSynchronized Bd
  have hml : c.maxLocals = 3 := hml0
  have hown : s.vm.findClass "java/lang/AbstractStringBuilder" = some m.cls := findClass_of_methodNamed Bd.named
  have hnm := (name_of_methodNamed Bd.named Bd.method).1
  have X0 : Stand p l e ({ frames := 2, cells := 0, slots := 0, locals := 47 } : Room) s m #[(.ref a1), (.int i1), (.ref x1)] below meth c s₁ [] 0 0 := Stand.of_body Bd
  have e0 : s₁.heap = h0 := by rw [← hh, Bd.state]; rfl
  have N0 := Fr.nil n0
  have K0 := Keep.refl h0 [t1]
  clear hh
  show Wk p e below (EndN s (Q_sbPS Z a1 i1 x1 t2 k2 cx t1 k1 cs zc h0 n0) ({ frames := 2, cells := 0, slots := 0, locals := 47 } : Room).cells ({ frames := 2, cells := 0, slots := 0, locals := 47 } : Room).slots) s₁ (entryFrame m #[(.ref a1), (.int i1), (.ref x1)] 3)
  rw [ef_sbPS]
  have lt_Eb1 := ny Eb1.lt
  have lt_Gv1 := ny Gv1.lt
  have lt_Gc1 := ny Gc1.lt
  have lt_Ab1 := ny Ab1.lt
  have lt_Es1 := ny Es1.lt
  have lt_Fv1 := ny Fv1.lt
  have lt_Fc1 := ny Fc1.lt
  have lt_As1 := ny As1.lt
  refine Wk.aloadN X0 hx (hb hby d_jdk_68_m73_0) (n := 1) rfl rfl rfl ?_
  refine Wk.aloadN X0 hx (hb hby d_jdk_68_m73_1) (n := 2) rfl rfl rfl ?_
  obtain ⟨cq1, kq1, qn1a, qn1b, qn1c⟩ := isOf hZ e0 Eb1
  have cl1_ := fun (Ls : Array Slot) (hLs : Ls.size = c.maxLocals) => X0.virtualBack hx (y := (⟨"java/lang/AbstractStringBuilder", "inflateIfNeededFor", "(Ljava/lang/String;)V"⟩ : MethodName)) (z := (⟨"java/lang/AbstractStringBuilder", "inflateIfNeededFor", "(Ljava/lang/String;)V"⟩ : MethodName)) hown (mvT hZ (hw _ (List.mem_of_getElem? (i := 118) rfl))) (mvT hZ (own_decl (hw _ (List.mem_of_getElem? (i := 119) rfl)) (hw _ (List.mem_of_getElem? (i := 122) rfl)))) (notFace_of_selects (args := #[]) (mvT hZ (hw _ (List.mem_of_getElem? (i := 121) rfl)))) (mvT hZ (hw _ (List.mem_of_getElem? (i := 121) rfl))) (mvT hZ (hw _ (List.mem_of_getElem? (i := 119) rfl))) (by decide) (backOf (W := 0) (sbIN l Z a0 hw [] a1 x1 zc h0 n0 (by omega) Eb1 Gc1 Es1 Fc1 S4 O1 hCS) hZ (hw _ (List.mem_of_getElem? (i := 122) rfl)) (hw _ (List.mem_of_getElem? (i := 78) rfl)) (by decide) (by decide)) qn1a qn1c (g := mkF m 2 Ls [(.ref x1), (.ref a1)]) rfl hLs (Steps.refl _) (argsL := [(.ref x1)]) (rest := []) (lenOf pd_5 rfl) rfl (by show 2 * 0 + _ ≤ _; exact Nat.le_of_eq rfl) (hb hby d_jdk_68_m73_2) (fun _ _ => ⟨rfl, e0, (by decide : 0 + 0 ≤ _), (by decide : 0 + 0 ≤ _)⟩)
  refine Wk.back (n := 5) (rc := 0) (rs := 0) (Q := Q_sbIN Z a1 x1 zc h0 n0) (cl1_ _ (by rw [hml]; rfl)) fun vn1 T1 L1 X1 hQ1 => ?_
  clear cl1_
  obtain ⟨rfl, M1, e1⟩ := hQ1
  have N1 := Fr.app N0 M1
  show Wk p e below _ T1 (mkF m 5 _ [])
  refine Wk.aloadN X1 hx (hb hby d_jdk_68_m73_5) (n := 6) rfl rfl rfl ?_
  refine Wk.aloadN X1 hx (hb hby d_jdk_68_m73_6) (n := 7) rfl rfl rfl ?_
  refine Wk.getF X1 hx hZ hown (host := "") (Or.inl (hw _ (List.mem_of_getElem? (i := 82) rfl))) Via.refl e1 Gv1 (hb hby d_jdk_68_m73_7) (n := 10) rfl fun T2 X2 e2 => ?_
  refine Wk.iloadN X2 hx (hb hby d_jdk_68_m73_10) (n := 11) rfl rfl ?_
  refine Wk.aloadN X2 hx (hb hby d_jdk_68_m73_11) (n := 12) rfl rfl rfl ?_
  refine Wk.getF X2 hx hZ hown (host := "") (Or.inl (hw _ (List.mem_of_getElem? (i := 84) rfl))) Via.refl e2 Gc1 (hb hby d_jdk_68_m73_12) (n := 15) rfl fun T3 X3 e3 => ?_
  obtain ⟨cq4, kq4, qn4a, qn4b, qn4c⟩ := isOf hZ e3 Es1
  have cl4_ := fun (Ls : Array Slot) (hLs : Ls.size = c.maxLocals) => X3.virtualBack hx (y := (⟨"java/lang/String", "getBytes", "([BIB)V"⟩ : MethodName)) (z := (⟨"java/lang/String", "getBytes", "([BIB)V"⟩ : MethodName)) hown (mvT hZ (hw _ (List.mem_of_getElem? (i := 124) rfl))) (mvT hZ (hw _ (List.mem_of_getElem? (i := 125) rfl))) (notFace_of_selects (args := #[]) (mvT hZ (hw _ (List.mem_of_getElem? (i := 127) rfl)))) (mvT hZ (hw _ (List.mem_of_getElem? (i := 127) rfl))) (mvT hZ (hw _ (List.mem_of_getElem? (i := 126) rfl))) (by decide) (backOf (W := 0) (sbGB l Z a0 hw [] x1 t2 k2 cx t1 k1 cs i1 zc h0 n0 (by omega) Es1 Fv1 Fc1 As1 Ab1 S4 O1 hCS hi (by omega) (by omega)) hZ (hw _ (List.mem_of_getElem? (i := 128) rfl)) (hw _ (List.mem_of_getElem? (i := 6) rfl)) (by decide) (by decide)) qn4a qn4c (g := mkF m 15 Ls [(.int (0 : Int32)), (.int i1), (.ref t1), (.ref x1)]) rfl hLs (Steps.refl _) (argsL := [(.ref t1), (.int i1), (.int (0 : Int32))]) (rest := []) (lenOf pd_6 rfl) rfl (by show 2 * 0 + _ ≤ _; exact Nat.le_of_eq rfl) (hb hby d_jdk_68_m73_15) (fun _ _ => ⟨rfl, e3, (by decide : 0 + 0 + 0 ≤ _), (by decide : 0 + 0 + 0 ≤ _)⟩)
  refine Wk.back (n := 18) (rc := 0) (rs := 0) (Q := Q_sbGB Z x1 t2 k2 cx t1 k1 cs i1 zc h0 n0) (cl4_ _ (by rw [hml]; rfl)) fun vn4 T4 L4 X4 hQ4 => ?_
  clear cl4_
  obtain ⟨rfl, M4, J4, p4_0⟩ := hQ4
  have N4 := Fr.app N1 M4
  have sz4 := J4.1
  have K4 := K0.trans J4 (allS (Or.inl (List.mem_of_getElem? (i := 0) rfl)) all0)
  have lt_p4_0 := ny p4_0.lt
  show Wk p e below _ T4 (mkF m 18 _ [])
  exact Wk.leave X4 (v := none) (fun _ => rfl) hlk rfl ⟨rfl, N4, K4, p4_0⟩ (by decide) (by decide) (fun fs hr => X4.returnOut hx Bd.returns (hb hby d_jdk_68_m73_18) hr)
def Q_sbAP (Z : State) (a1 : Addr) (x1 : Addr) (t2 : Addr) (k2 : ClassId) (cx : List Int32) (t1 : Addr) (k1 : ClassId) (cs : List Int32) (zc : Int32) (h0 : Heap) (n0 : Nat) (v : Option Value) (h : Heap) (L : List Loc) : Prop := v = some (.ref a1) ∧ Fr n0 L ∧ Keep h0 h [a1, t1] ∧ Exa Z h a1 "java/lang/StringBuilder" ∧ Fld Z h a1 "java/lang/AbstractStringBuilder" "value" "[B" (.ref t1) ∧ Fld Z h a1 "java/lang/AbstractStringBuilder" "coder" "B" (.int (0 : Int32)) ∧ Fld Z h a1 "java/lang/AbstractStringBuilder" "count" "I" (.int (Int32.ofNat (cs ++ cx).length)) ∧ Arv Z h t1 k1 .byte (Int32.ofNat 16) (bsV (cs ++ cx)) (.int (0 : Int32))
theorem ef_sbAP (m : MethodId) (x0 : Addr) (x1 : Addr) : entryFrame m #[(.ref x0), (.ref x1)] 3 = mkF m 0 #[.val (.ref x0), .val (.ref x1), .unset] [] := by first | (simp [entryFrame, mkF, argsToLocals, Value.category]; done) | rfl
theorem d_jdk_68_m22_0 : decode jdk_68_method_22_code 0 = .ok (.aload_n 1, 1) := by decide +kernel
theorem d_jdk_68_m22_1 : decode jdk_68_method_22_code 1 = .ok (.ifnonnull 8, 3) := by decide +kernel
theorem d_jdk_68_m22_9 : decode jdk_68_method_22_code 9 = .ok (.aload_n 1, 1) := by decide +kernel
theorem d_jdk_68_m22_10 : decode jdk_68_method_22_code 10 = .ok (.invokevirtual 32, 3) := by decide +kernel
theorem pd_7 : parseMethodDescriptor "()I" = some ⟨[], some .int⟩ := by decide +kernel
theorem d_jdk_68_m22_13 : decode jdk_68_method_22_code 13 = .ok (.istore_n 2, 1) := by decide +kernel
theorem d_jdk_68_m22_14 : decode jdk_68_method_22_code 14 = .ok (.aload_n 0, 1) := by decide +kernel
theorem d_jdk_68_m22_15 : decode jdk_68_method_22_code 15 = .ok (.aload_n 0, 1) := by decide +kernel
theorem d_jdk_68_m22_16 : decode jdk_68_method_22_code 16 = .ok (.getfield 79, 3) := by decide +kernel
theorem d_jdk_68_m22_19 : decode jdk_68_method_22_code 19 = .ok (.iload_n 2, 1) := by decide +kernel
theorem d_jdk_68_m22_20 : decode jdk_68_method_22_code 20 = .ok (.iadd, 1) := by decide +kernel
theorem d_jdk_68_m22_21 : decode jdk_68_method_22_code 21 = .ok (.invokevirtual 100, 3) := by decide +kernel
theorem d_jdk_68_m22_24 : decode jdk_68_method_22_code 24 = .ok (.aload_n 0, 1) := by decide +kernel
theorem d_jdk_68_m22_25 : decode jdk_68_method_22_code 25 = .ok (.aload_n 0, 1) := by decide +kernel
theorem d_jdk_68_m22_26 : decode jdk_68_method_22_code 26 = .ok (.getfield 79, 3) := by decide +kernel
theorem d_jdk_68_m22_29 : decode jdk_68_method_22_code 29 = .ok (.aload_n 1, 1) := by decide +kernel
theorem d_jdk_68_m22_30 : decode jdk_68_method_22_code 30 = .ok (.invokevirtual 208, 3) := by decide +kernel
theorem pd_8 : parseMethodDescriptor "(ILjava/lang/String;)V" = some ⟨[.int, (.object "java/lang/String")], none⟩ := by decide +kernel
theorem d_jdk_68_m22_33 : decode jdk_68_method_22_code 33 = .ok (.aload_n 0, 1) := by decide +kernel
theorem d_jdk_68_m22_34 : decode jdk_68_method_22_code 34 = .ok (.dup, 1) := by decide +kernel
theorem d_jdk_68_m22_35 : decode jdk_68_method_22_code 35 = .ok (.getfield 79, 3) := by decide +kernel
theorem d_jdk_68_m22_38 : decode jdk_68_method_22_code 38 = .ok (.iload_n 2, 1) := by decide +kernel
theorem d_jdk_68_m22_39 : decode jdk_68_method_22_code 39 = .ok (.iadd, 1) := by decide +kernel
theorem d_jdk_68_m22_40 : decode jdk_68_method_22_code 40 = .ok (.putfield 79, 3) := by decide +kernel
theorem d_jdk_68_m22_43 : decode jdk_68_method_22_code 43 = .ok (.aload_n 0, 1) := by decide +kernel
theorem d_jdk_68_m22_44 : decode jdk_68_method_22_code 44 = .ok (.areturn, 1) := by decide +kernel
set_option maxRecDepth 65536 in
set_option maxHeartbeats 40000000 in
theorem sbAP (l : Launch) (Z : State) (a0 : Array Value) (hw : ∀ d ∈ tables_1, d.before a0 Z = true) (ws : List Jvm.Cond) (a1 : Addr) (x1 : Addr) (t2 : Addr) (k2 : ClassId) (cx : List Int32) (t1 : Addr) (k1 : ClassId) (cs : List Int32) (zc : Int32) (h0 : Heap) (n0 : Nat) (Z0 : n0 ≤ h0.size) (Eb1 : Exa Z h0 a1 "java/lang/StringBuilder") (Gv1 : Fld Z h0 a1 "java/lang/AbstractStringBuilder" "value" "[B" (.ref t1)) (Gc1 : Fld Z h0 a1 "java/lang/AbstractStringBuilder" "coder" "B" (.int (0 : Int32))) (Gn1 : Fld Z h0 a1 "java/lang/AbstractStringBuilder" "count" "I" (.int (Int32.ofNat cs.length))) (Ab1 : Arv Z h0 t1 k1 .byte (Int32.ofNat 16) (bsV cs) (.int (0 : Int32))) (Es1 : Exa Z h0 x1 "java/lang/String") (Fv1 : Fld Z h0 x1 "java/lang/String" "value" "[B" (.ref t2)) (Fc1 : Fld Z h0 x1 "java/lang/String" "coder" "B" (.int (0 : Int32))) (As1 : Arv Z h0 t2 k2 .byte (Int32.ofNat cx.length) (bsV cx) (.int (0 : Int32))) (S4 : Sta Z Z.heap "java/lang/String" "COMPACT_STRINGS" "Z" (.int zc)) (O1 : Old Z n0 h0) (hCS : ¬ zc = 0) (hp : ∀ c ∈ cx, ¬ c < 0 ∧ ¬ (255 : Int32) < c) (hN : cs.length + cx.length ≤ 16) (g1 : n0 ≤ t1) (g2 : n0 ≤ a1) (hn1 : ¬ @Eq Nat t2 t1) (hn2 : ¬ @Eq Nat t1 a1) :
    MetFree l (⟨"java/lang/AbstractStringBuilder", "append", "(Ljava/lang/String;)Ljava/lang/AbstractStringBuilder;"⟩ : MethodName) (head1 (Jvm.Cond.code (⟨"java/lang/AbstractStringBuilder", "append", "(Ljava/lang/String;)Ljava/lang/AbstractStringBuilder;"⟩ : MethodName) jdk_68_method_22_code 3 (some (.object "java/lang/AbstractStringBuilder")) :: ws) ({ frames := 3, cells := 0, slots := 0, locals := 61 } : Room)) (fun a U => a = #[(.ref a1), (.ref x1)] ∧ Z.Warmed39 U.vm ∧ U.heap = h0) (fun _ _ _ _ _ => True) (fun _ U o U' => ∃ v L, o = .returned v ∧ Q_sbAP Z a1 x1 t2 k2 cx t1 k1 cs zc h0 n0 v U'.heap L ∧ FrameEnd U o U' L ({ frames := 3, cells := 0, slots := 0, locals := 61 } : Room).cells ({ frames := 3, cells := 0, slots := 0, locals := 61 } : Room).slots) := by
  refine MetFree.of_bodySF (plainFor_of_name pn_java_lang_AbstractStringBuilder) hisR ?_
  intro p e s m args below meth c s₁ Bd hml0 hP hK
  obtain ⟨rfl, hZ, hh⟩ := hP
  have hx := Bd.exec
  have hby := Bd.bytes
  have hlk := BodyLoose.notSynchronized Bd
  have hml : c.maxLocals = 3 := hml0
  have hown : s.vm.findClass "java/lang/AbstractStringBuilder" = some m.cls := findClass_of_methodNamed Bd.named
  have hnm := (name_of_methodNamed Bd.named Bd.method).1
  have X0 : Stand p l e ({ frames := 3, cells := 0, slots := 0, locals := 61 } : Room) s m #[(.ref a1), (.ref x1)] below meth c s₁ [] 0 0 := Stand.of_body Bd
  have e0 : s₁.heap = h0 := by rw [← hh, Bd.state]; rfl
  have N0 := Fr.nil n0
  have K0 := Keep.refl h0 [a1, t1]
  clear hh
  show Wk p e below (EndN s (Q_sbAP Z a1 x1 t2 k2 cx t1 k1 cs zc h0 n0) ({ frames := 3, cells := 0, slots := 0, locals := 61 } : Room).cells ({ frames := 3, cells := 0, slots := 0, locals := 61 } : Room).slots) s₁ (entryFrame m #[(.ref a1), (.ref x1)] 3)
  rw [ef_sbAP]
  have lt_Eb1 := ny Eb1.lt
  have lt_Gv1 := ny Gv1.lt
  have lt_Gc1 := ny Gc1.lt
  have lt_Gn1 := ny Gn1.lt
  have lt_Ab1 := ny Ab1.lt
  have lt_Es1 := ny Es1.lt
  have lt_Fv1 := ny Fv1.lt
  have lt_Fc1 := ny Fc1.lt
  have lt_As1 := ny As1.lt
  refine Wk.aloadN X0 hx (hb hby d_jdk_68_m22_0) (n := 1) rfl rfl rfl ?_
  refine Wk.ifnonnullYes X0 hx (hb hby d_jdk_68_m22_1) (by decide) (n := 9) (by decide) ?_
  refine Wk.aloadN X0 hx (hb hby d_jdk_68_m22_9) (n := 10) rfl rfl rfl ?_
  obtain ⟨cq1, kq1, qn1a, qn1b, qn1c⟩ := isOf hZ e0 Es1
  have cl1_ := fun (Ls : Array Slot) (hLs : Ls.size = c.maxLocals) => X0.virtualBack hx (y := (⟨"java/lang/String", "length", "()I"⟩ : MethodName)) (z := (⟨"java/lang/String", "length", "()I"⟩ : MethodName)) hown (mvT hZ (hw _ (List.mem_of_getElem? (i := 96) rfl))) (mvT hZ (hw _ (List.mem_of_getElem? (i := 97) rfl))) (notFace_of_selects (args := #[]) (mvT hZ (hw _ (List.mem_of_getElem? (i := 99) rfl)))) (mvT hZ (hw _ (List.mem_of_getElem? (i := 99) rfl))) (mvT hZ (hw _ (List.mem_of_getElem? (i := 98) rfl))) (by decide) (StrChars.Road.lenW (W := 0) hZ (fun d hd => hw d (own_wl d hd)) (kI := 4) (hw _ (List.mem_of_getElem? (i := 5) rfl)) Es1 Fv1 Fc1 As1 (StrChars.Road.codOf (cs := cx) (n := cx.length) rfl (fun c hc => (hp c hc).2)) (own_up hp) (Sta.ext O1.2 S4) hCS (by omega) (by decide) (by decide)) qn1a qn1c (g := mkF m 10 Ls [(.ref x1)]) rfl hLs (Steps.refl _) (argsL := []) (rest := []) (lenOf pd_7 rfl) rfl (by show 2 * 0 + _ ≤ _; exact Nat.le_of_eq rfl) (hb hby d_jdk_68_m22_10) (fun _ _ => ⟨rfl, e0, (by decide : 0 + 0 ≤ _), (by decide : 0 + 0 ≤ _)⟩)
  refine Wk.back (n := 13) (rc := 0) (rs := 0) (Q := fun v h' L => (v = some (.int (Int32.ofNat (cx : List Int32).length)) ∧ L = [] ∧ h' = h0)) (cl1_ _ (by rw [hml]; rfl)) fun vn1 T1 L1 X1 hQ1 => ?_
  clear cl1_
  obtain ⟨rfl, rfl, e1⟩ := hQ1
  have N1 := Fr.app N0 (Fr.nil n0)
  show Wk p e below _ T1 (mkF m 13 _ [(.int (Int32.ofNat cx.length))])
  refine Wk.istoreN X1 hx (hb hby d_jdk_68_m22_13) (n := 14) rfl (L' := #[.val (.ref a1), .val (.ref x1), .val (.int (Int32.ofNat cx.length))]) rfl ?_
  refine Wk.aloadN X1 hx (hb hby d_jdk_68_m22_14) (n := 15) rfl rfl rfl ?_
  refine Wk.aloadN X1 hx (hb hby d_jdk_68_m22_15) (n := 16) rfl rfl rfl ?_
  refine Wk.getF X1 hx hZ hown (host := "") (Or.inl (hw _ (List.mem_of_getElem? (i := 106) rfl))) Via.refl e1 Gn1 (hb hby d_jdk_68_m22_16) (n := 19) rfl fun T2 X2 e2 => ?_
  refine Wk.iloadN X2 hx (hb hby d_jdk_68_m22_19) (n := 20) rfl rfl ?_
  refine Wk.iadd X2 hx (hb hby d_jdk_68_m22_20) (n := 21) rfl ?_
  obtain ⟨cq3, kq3, qn3a, qn3b, qn3c⟩ := isOf hZ e2 Eb1
  have cl3_ := fun (Ls : Array Slot) (hLs : Ls.size = c.maxLocals) => X2.virtualBack hx (y := (⟨"java/lang/AbstractStringBuilder", "ensureCapacityInternal", "(I)V"⟩ : MethodName)) (z := (⟨"java/lang/AbstractStringBuilder", "ensureCapacityInternal", "(I)V"⟩ : MethodName)) hown (mvT hZ (hw _ (List.mem_of_getElem? (i := 108) rfl))) (mvT hZ (own_decl (hw _ (List.mem_of_getElem? (i := 109) rfl)) (hw _ (List.mem_of_getElem? (i := 112) rfl)))) (notFace_of_selects (args := #[]) (mvT hZ (hw _ (List.mem_of_getElem? (i := 111) rfl)))) (mvT hZ (hw _ (List.mem_of_getElem? (i := 111) rfl))) (mvT hZ (hw _ (List.mem_of_getElem? (i := 109) rfl))) (by decide) (backOf (W := 0) (sbEC l Z a0 hw [] a1 ((Int32.ofNat cs.length) + (Int32.ofNat cx.length)) t1 k1 cs (cs.length + cx.length) h0 n0 (by omega) Eb1 Gv1 Gc1 Ab1 (own_ofadd _ _) (by omega)) hZ (hw _ (List.mem_of_getElem? (i := 112) rfl)) (hw _ (List.mem_of_getElem? (i := 78) rfl)) (by decide) (by decide)) qn3a qn3c (g := mkF m 21 Ls [(.int ((Int32.ofNat cs.length) + (Int32.ofNat cx.length))), (.ref a1)]) rfl hLs (Steps.refl _) (argsL := [(.int ((Int32.ofNat cs.length) + (Int32.ofNat cx.length)))]) (rest := []) (lenOf pd_3 rfl) rfl (by show 2 * 0 + _ ≤ _; exact Nat.le_of_eq rfl) (hb hby d_jdk_68_m22_21) (fun _ _ => ⟨rfl, e2, (by decide : 0 + 0 + 0 ≤ _), (by decide : 0 + 0 + 0 ≤ _)⟩)
  refine Wk.back (n := 24) (rc := 0) (rs := 0) (Q := Q_sbEC Z a1 ((Int32.ofNat cs.length) + (Int32.ofNat cx.length)) t1 k1 cs (cs.length + cx.length) h0 n0) (cl3_ _ (by rw [hml]; rfl)) fun vn3 T3 L3 X3 hQ3 => ?_
  clear cl3_
  obtain ⟨rfl, M3, e3⟩ := hQ3
  have N3 := Fr.app N1 M3
  show Wk p e below _ T3 (mkF m 24 _ [])
  refine Wk.aloadN X3 hx (hb hby d_jdk_68_m22_24) (n := 25) rfl rfl rfl ?_
  refine Wk.aloadN X3 hx (hb hby d_jdk_68_m22_25) (n := 26) rfl rfl rfl ?_
  refine Wk.getF X3 hx hZ hown (host := "") (Or.inl (hw _ (List.mem_of_getElem? (i := 106) rfl))) Via.refl e3 Gn1 (hb hby d_jdk_68_m22_26) (n := 29) rfl fun T4 X4 e4 => ?_
  refine Wk.aloadN X4 hx (hb hby d_jdk_68_m22_29) (n := 30) rfl rfl rfl ?_
  obtain ⟨cq5, kq5, qn5a, qn5b, qn5c⟩ := isOf hZ e4 Eb1
  have cl5_ := fun (Ls : Array Slot) (hLs : Ls.size = c.maxLocals) => X4.virtualBack hx (y := (⟨"java/lang/AbstractStringBuilder", "putStringAt", "(ILjava/lang/String;)V"⟩ : MethodName)) (z := (⟨"java/lang/AbstractStringBuilder", "putStringAt", "(ILjava/lang/String;)V"⟩ : MethodName)) hown (mvT hZ (hw _ (List.mem_of_getElem? (i := 113) rfl))) (mvT hZ (own_decl (hw _ (List.mem_of_getElem? (i := 114) rfl)) (hw _ (List.mem_of_getElem? (i := 117) rfl)))) (notFace_of_selects (args := #[]) (mvT hZ (hw _ (List.mem_of_getElem? (i := 116) rfl)))) (mvT hZ (hw _ (List.mem_of_getElem? (i := 116) rfl))) (mvT hZ (hw _ (List.mem_of_getElem? (i := 114) rfl))) (by decide) (backOf (W := 0) (sbPS l Z a0 hw [] a1 (Int32.ofNat cs.length) x1 t2 k2 cx t1 k1 cs zc h0 n0 (by omega) Eb1 Gv1 Gc1 Ab1 Es1 Fv1 Fc1 As1 S4 O1 hCS rfl (by omega) (by omega)) hZ (hw _ (List.mem_of_getElem? (i := 117) rfl)) (hw _ (List.mem_of_getElem? (i := 78) rfl)) (by decide) (by decide)) qn5a qn5c (g := mkF m 30 Ls [(.ref x1), (.int (Int32.ofNat cs.length)), (.ref a1)]) rfl hLs (Steps.refl _) (argsL := [(.int (Int32.ofNat cs.length)), (.ref x1)]) (rest := []) (lenOf pd_8 rfl) rfl (by show 2 * 0 + _ ≤ _; exact Nat.le_of_eq rfl) (hb hby d_jdk_68_m22_30) (fun _ _ => ⟨rfl, e4, (by decide : 0 + 0 + 0 + 0 ≤ _), (by decide : 0 + 0 + 0 + 0 ≤ _)⟩)
  refine Wk.back (n := 33) (rc := 0) (rs := 0) (Q := Q_sbPS Z a1 (Int32.ofNat cs.length) x1 t2 k2 cx t1 k1 cs zc h0 n0) (cl5_ _ (by rw [hml]; rfl)) fun vn5 T5 L5 X5 hQ5 => ?_
  clear cl5_
  obtain ⟨rfl, M5, J5, p5_0⟩ := hQ5
  have N5 := Fr.app N3 M5
  have sz5 := J5.1
  have K5 := K0.trans J5 (allS (Or.inl (List.mem_of_getElem? (i := 1) rfl)) all0)
  have lt_p5_0 := ny p5_0.lt
  show Wk p e below _ T5 (mkF m 33 _ [])
  refine Wk.aloadN X5 hx (hb hby d_jdk_68_m22_33) (n := 34) rfl rfl rfl ?_
  refine Wk.dup X5 hx (hb hby d_jdk_68_m22_34) (n := 35) rfl rfl ?_
  have f6 := (Gn1.keep J5 (ninS (nz (by omega)) nin0))
  refine Wk.getF X5 hx hZ hown (host := "") (Or.inl (hw _ (List.mem_of_getElem? (i := 106) rfl))) Via.refl rfl f6 (hb hby d_jdk_68_m22_35) (n := 38) rfl fun T7 X7 e7 => ?_
  refine Wk.iloadN X7 hx (hb hby d_jdk_68_m22_38) (n := 39) rfl rfl ?_
  refine Wk.iadd X7 hx (hb hby d_jdk_68_m22_39) (n := 40) rfl ?_
  have f8 := (Eb1.keep J5)
  refine Wk.putF X7 hx hZ hown (host := "") (Or.inl (hw _ (List.mem_of_getElem? (i := 106) rfl))) Via.refl e7 f6 f8 (Or.inl (hw _ (List.mem_of_getElem? (i := 107) rfl))) (hw _ (List.mem_of_getElem? (i := 69) rfl)) (ty := .int) (by decide) rfl rfl (hb hby d_jdk_68_m22_40) (n := 43) rfl fun T9 H9 X9 e9 Wn9 => ?_
  have sz9 := Wn9.size
  have Fn9 := f6.same Wn9
  have K9 := K5.wr Wn9 (Or.inl (List.mem_of_getElem? (i := 0) rfl))
  have N9 := Fr.snoc X9 N5 (by omega)
  refine Wk.aloadN X9 hx (hb hby d_jdk_68_m22_43) (n := 44) rfl rfl rfl ?_
  have f10 := (f8.wr Wn9)
  have f11 := ((Gv1.keep J5 (ninS (nz (by omega)) nin0)).other Wn9 (Or.inr (slot_ne (Or.inl (hw _ (List.mem_of_getElem? (i := 83) rfl))) (Or.inl (hw _ (List.mem_of_getElem? (i := 107) rfl))) (by decide) (t := (.array .byte)) (t' := .int) (by decide) (by decide))))
  have f12 := ((Gc1.keep J5 (ninS (nz (by omega)) nin0)).other Wn9 (Or.inr (slot_ne (Or.inl (hw _ (List.mem_of_getElem? (i := 85) rfl))) (Or.inl (hw _ (List.mem_of_getElem? (i := 107) rfl))) (by decide) (t := .byte) (t' := .int) (by decide) (by decide))))
  have f13 := (p5_0.other Wn9 (nz (by omega)))
  exact Wk.leave X9 (v := some (.ref a1)) (fun h => by rw [Bd.returns] at h; cases h) hlk e9 ⟨rfl, N9, K9, f10, f11, f12, (by have q := Fn9; rw [own_ofadd, ← List.length_append] at q; exact q), f13⟩ (by decide) (by decide) (fun fs hr => retA X9 hx rfl Bd.returns rfl (hb hby d_jdk_68_m22_44) hr)
def Q_sbSA (Z : State) (a1 : Addr) (x1 : Addr) (t2 : Addr) (k2 : ClassId) (cx : List Int32) (t1 : Addr) (k1 : ClassId) (cs : List Int32) (zc : Int32) (h0 : Heap) (n0 : Nat) (v : Option Value) (h : Heap) (L : List Loc) : Prop := v = some (.ref a1) ∧ Fr n0 L ∧ Keep h0 h [a1, t1] ∧ Exa Z h a1 "java/lang/StringBuilder" ∧ Fld Z h a1 "java/lang/AbstractStringBuilder" "value" "[B" (.ref t1) ∧ Fld Z h a1 "java/lang/AbstractStringBuilder" "coder" "B" (.int (0 : Int32)) ∧ Fld Z h a1 "java/lang/AbstractStringBuilder" "count" "I" (.int (Int32.ofNat (cs ++ cx).length)) ∧ Arv Z h t1 k1 .byte (Int32.ofNat 16) (bsV (cs ++ cx)) (.int (0 : Int32))
theorem ef_sbSA (m : MethodId) (x0 : Addr) (x1 : Addr) : entryFrame m #[(.ref x0), (.ref x1)] 2 = mkF m 0 #[.val (.ref x0), .val (.ref x1)] [] := by first | (simp [entryFrame, mkF, argsToLocals, Value.category]; done) | rfl
theorem d_jdk_67_m7_0 : decode jdk_67_method_7_code 0 = .ok (.aload_n 0, 1) := by decide +kernel
theorem d_jdk_67_m7_1 : decode jdk_67_method_7_code 1 = .ok (.aload_n 1, 1) := by decide +kernel
theorem d_jdk_67_m7_2 : decode jdk_67_method_7_code 2 = .ok (.invokespecial 29, 3) := by decide +kernel
theorem pd_9 : parseMethodDescriptor "(Ljava/lang/String;)Ljava/lang/AbstractStringBuilder;" = some ⟨[(.object "java/lang/String")], some (.object "java/lang/AbstractStringBuilder")⟩ := by decide +kernel
theorem d_jdk_67_m7_5 : decode jdk_67_method_7_code 5 = .ok (.pop, 1) := by decide +kernel
theorem d_jdk_67_m7_6 : decode jdk_67_method_7_code 6 = .ok (.aload_n 0, 1) := by decide +kernel
theorem d_jdk_67_m7_7 : decode jdk_67_method_7_code 7 = .ok (.areturn, 1) := by decide +kernel
set_option maxRecDepth 65536 in
set_option maxHeartbeats 40000000 in
theorem sbSA (l : Launch) (Z : State) (a0 : Array Value) (hw : ∀ d ∈ tables_1, d.before a0 Z = true) (ws : List Jvm.Cond) (a1 : Addr) (x1 : Addr) (t2 : Addr) (k2 : ClassId) (cx : List Int32) (t1 : Addr) (k1 : ClassId) (cs : List Int32) (zc : Int32) (h0 : Heap) (n0 : Nat) (Z0 : n0 ≤ h0.size) (Eb1 : Exa Z h0 a1 "java/lang/StringBuilder") (Gv1 : Fld Z h0 a1 "java/lang/AbstractStringBuilder" "value" "[B" (.ref t1)) (Gc1 : Fld Z h0 a1 "java/lang/AbstractStringBuilder" "coder" "B" (.int (0 : Int32))) (Gn1 : Fld Z h0 a1 "java/lang/AbstractStringBuilder" "count" "I" (.int (Int32.ofNat cs.length))) (Ab1 : Arv Z h0 t1 k1 .byte (Int32.ofNat 16) (bsV cs) (.int (0 : Int32))) (Es1 : Exa Z h0 x1 "java/lang/String") (Fv1 : Fld Z h0 x1 "java/lang/String" "value" "[B" (.ref t2)) (Fc1 : Fld Z h0 x1 "java/lang/String" "coder" "B" (.int (0 : Int32))) (As1 : Arv Z h0 t2 k2 .byte (Int32.ofNat cx.length) (bsV cx) (.int (0 : Int32))) (S4 : Sta Z Z.heap "java/lang/String" "COMPACT_STRINGS" "Z" (.int zc)) (O1 : Old Z n0 h0) (hCS : ¬ zc = 0) (hp : ∀ c ∈ cx, ¬ c < 0 ∧ ¬ (255 : Int32) < c) (hN : cs.length + cx.length ≤ 16) (g1 : n0 ≤ t1) (g2 : n0 ≤ a1) (hn1 : ¬ @Eq Nat t2 t1) (hn2 : ¬ @Eq Nat t1 a1) :
    MetFree l (⟨"java/lang/StringBuilder", "append", "(Ljava/lang/String;)Ljava/lang/StringBuilder;"⟩ : MethodName) (head1 (Jvm.Cond.code (⟨"java/lang/StringBuilder", "append", "(Ljava/lang/String;)Ljava/lang/StringBuilder;"⟩ : MethodName) jdk_67_method_7_code 2 (some (.object "java/lang/StringBuilder")) :: ws) ({ frames := 4, cells := 0, slots := 0, locals := 75 } : Room)) (fun a U => a = #[(.ref a1), (.ref x1)] ∧ Z.Warmed39 U.vm ∧ U.heap = h0) (fun _ _ _ _ _ => True) (fun _ U o U' => ∃ v L, o = .returned v ∧ Q_sbSA Z a1 x1 t2 k2 cx t1 k1 cs zc h0 n0 v U'.heap L ∧ FrameEnd U o U' L ({ frames := 4, cells := 0, slots := 0, locals := 75 } : Room).cells ({ frames := 4, cells := 0, slots := 0, locals := 75 } : Room).slots) := by
  refine MetFree.of_bodySF (plainFor_of_name pn_java_lang_StringBuilder) hisR ?_
  intro p e s m args below meth c s₁ Bd hml0 hP hK
  obtain ⟨rfl, hZ, hh⟩ := hP
  have hx := Bd.exec
  have hby := Bd.bytes
  have hlk := BodyLoose.notSynchronized Bd
  have hml : c.maxLocals = 2 := hml0
  have hown : s.vm.findClass "java/lang/StringBuilder" = some m.cls := findClass_of_methodNamed Bd.named
  have hnm := (name_of_methodNamed Bd.named Bd.method).1
  have X0 : Stand p l e ({ frames := 4, cells := 0, slots := 0, locals := 75 } : Room) s m #[(.ref a1), (.ref x1)] below meth c s₁ [] 0 0 := Stand.of_body Bd
  have e0 : s₁.heap = h0 := by rw [← hh, Bd.state]; rfl
  have N0 := Fr.nil n0
  have K0 := Keep.refl h0 [a1, t1]
  clear hh
  show Wk p e below (EndN s (Q_sbSA Z a1 x1 t2 k2 cx t1 k1 cs zc h0 n0) ({ frames := 4, cells := 0, slots := 0, locals := 75 } : Room).cells ({ frames := 4, cells := 0, slots := 0, locals := 75 } : Room).slots) s₁ (entryFrame m #[(.ref a1), (.ref x1)] 2)
  rw [ef_sbSA]
  have lt_Eb1 := ny Eb1.lt
  have lt_Gv1 := ny Gv1.lt
  have lt_Gc1 := ny Gc1.lt
  have lt_Gn1 := ny Gn1.lt
  have lt_Ab1 := ny Ab1.lt
  have lt_Es1 := ny Es1.lt
  have lt_Fv1 := ny Fv1.lt
  have lt_Fc1 := ny Fc1.lt
  have lt_As1 := ny As1.lt
  refine Wk.aloadN X0 hx (hb hby d_jdk_67_m7_0) (n := 1) rfl rfl rfl ?_
  refine Wk.aloadN X0 hx (hb hby d_jdk_67_m7_1) (n := 2) rfl rfl rfl ?_
  have cl1_ := fun (Ls : Array Slot) (hLs : Ls.size = c.maxLocals) => superBack X0 hx hZ (y := (⟨"java/lang/AbstractStringBuilder", "append", "(Ljava/lang/String;)Ljava/lang/AbstractStringBuilder;"⟩ : MethodName)) hown (hw _ (List.mem_of_getElem? (i := 91) rfl)) (own_same (hw _ (List.mem_of_getElem? (i := 92) rfl)) (hw _ (List.mem_of_getElem? (i := 109) rfl)) (hw _ (List.mem_of_getElem? (i := 111) rfl)) (by decide)) (hw _ (List.mem_of_getElem? (i := 92) rfl)) (hw _ (List.mem_of_getElem? (i := 93) rfl)) (by decide) (backOf (W := 0) (sbAP l Z a0 hw [] a1 x1 t2 k2 cx t1 k1 cs zc h0 n0 (by omega) Eb1 Gv1 Gc1 Gn1 Ab1 Es1 Fv1 Fc1 As1 S4 O1 hCS hp (by omega) (by omega) (by omega) (by omega) (by omega)) hZ (hw _ (List.mem_of_getElem? (i := 95) rfl)) (hw _ (List.mem_of_getElem? (i := 78) rfl)) (by decide) (by decide)) e0 (Ins.self Eb1) (g := mkF m 2 Ls [(.ref x1), (.ref a1)]) rfl hLs (hw _ (List.mem_of_getElem? (i := 95) rfl)) (argsL := [(.ref x1)]) (rest := []) (lenOf pd_9 rfl) rfl (by show 2 * 0 + _ ≤ _; exact Nat.le_of_eq rfl) (hb hby d_jdk_67_m7_2) (fun _ _ => ⟨rfl, e0, (by decide : 0 + 0 ≤ _), (by decide : 0 + 0 ≤ _)⟩)
  refine Wk.back (n := 5) (rc := 0) (rs := 0) (Q := Q_sbAP Z a1 x1 t2 k2 cx t1 k1 cs zc h0 n0) (cl1_ _ (by rw [hml]; rfl)) fun vn1 T1 L1 X1 hQ1 => ?_
  clear cl1_
  obtain ⟨rfl, M1, J1, p1_0, p1_1, p1_2, p1_3, p1_4⟩ := hQ1
  have N1 := Fr.app N0 M1
  have sz1 := J1.1
  have K1 := K0.trans J1 (allS (Or.inl (List.mem_of_getElem? (i := 0) rfl)) (allS (Or.inl (List.mem_of_getElem? (i := 1) rfl)) all0))
  have lt_p1_0 := ny p1_0.lt
  have lt_p1_4 := ny p1_4.lt
  show Wk p e below _ T1 (mkF m 5 _ [(.ref a1)])
  refine Wk.pop X1 hx (hb hby d_jdk_67_m7_5) (n := 6) rfl rfl ?_
  refine Wk.aloadN X1 hx (hb hby d_jdk_67_m7_6) (n := 7) rfl rfl rfl ?_
  exact Wk.leave X1 (v := some (.ref a1)) (fun h => by rw [Bd.returns] at h; cases h) hlk rfl ⟨rfl, N1, K1, p1_0, p1_1, p1_2, p1_3, p1_4⟩ (by decide) (by decide) (fun fs hr => retA X1 hx rfl Bd.returns rfl (hb hby d_jdk_67_m7_7) hr)
def Q_sbGV (Z : State) (a1 : Addr) (t1 : Addr) (h0 : Heap) (n0 : Nat) (v : Option Value) (h : Heap) (L : List Loc) : Prop := v = some (.ref t1) ∧ Fr n0 L ∧ h = h0
theorem ef_sbGV (m : MethodId) (x0 : Addr) : entryFrame m #[(.ref x0)] 1 = mkF m 0 #[.val (.ref x0)] [] := by first | (simp [entryFrame, mkF, argsToLocals, Value.category]; done) | rfl
theorem d_jdk_68_m64_0 : decode jdk_68_method_64_code 0 = .ok (.aload_n 0, 1) := by decide +kernel
theorem d_jdk_68_m64_1 : decode jdk_68_method_64_code 1 = .ok (.getfield 15, 3) := by decide +kernel
theorem d_jdk_68_m64_4 : decode jdk_68_method_64_code 4 = .ok (.areturn, 1) := by decide +kernel
set_option maxRecDepth 65536 in
set_option maxHeartbeats 40000000 in
theorem sbGV (l : Launch) (Z : State) (a0 : Array Value) (hw : ∀ d ∈ tables_1, d.before a0 Z = true) (ws : List Jvm.Cond) (a1 : Addr) (t1 : Addr) (h0 : Heap) (n0 : Nat) (Z0 : n0 ≤ h0.size) (F1 : Fld Z h0 a1 "java/lang/AbstractStringBuilder" "value" "[B" (.ref t1)) :
    MetFree l (⟨"java/lang/AbstractStringBuilder", "getValue", "()[B"⟩ : MethodName) (head1 (Jvm.Cond.code (⟨"java/lang/AbstractStringBuilder", "getValue", "()[B"⟩ : MethodName) jdk_68_method_64_code 1 (some (.array .byte)) :: ws) ({ frames := 0, cells := 0, slots := 0, locals := 0 } : Room)) (fun a U => a = #[(.ref a1)] ∧ Z.Warmed39 U.vm ∧ U.heap = h0) (fun _ _ _ _ _ => True) (fun _ U o U' => ∃ v L, o = .returned v ∧ Q_sbGV Z a1 t1 h0 n0 v U'.heap L ∧ FrameEnd U o U' L ({ frames := 0, cells := 0, slots := 0, locals := 0 } : Room).cells ({ frames := 0, cells := 0, slots := 0, locals := 0 } : Room).slots) := by
  refine MetFree.of_bodySF (plainFor_of_name pn_java_lang_AbstractStringBuilder) hisR ?_
  intro p e s m args below meth c s₁ Bd hml0 hP hK
  obtain ⟨rfl, hZ, hh⟩ := hP
  have hx := Bd.exec
  have hby := Bd.bytes
  have hlk := BodyLoose.notSynchronized Bd
  have hml : c.maxLocals = 1 := hml0
  have hown : s.vm.findClass "java/lang/AbstractStringBuilder" = some m.cls := findClass_of_methodNamed Bd.named
  have hnm := (name_of_methodNamed Bd.named Bd.method).1
  have X0 : Stand p l e ({ frames := 0, cells := 0, slots := 0, locals := 0 } : Room) s m #[(.ref a1)] below meth c s₁ [] 0 0 := Stand.of_body Bd
  have e0 : s₁.heap = h0 := by rw [← hh, Bd.state]; rfl
  have N0 := Fr.nil n0
  have K0 := Keep.refl h0 []
  clear hh
  show Wk p e below (EndN s (Q_sbGV Z a1 t1 h0 n0) ({ frames := 0, cells := 0, slots := 0, locals := 0 } : Room).cells ({ frames := 0, cells := 0, slots := 0, locals := 0 } : Room).slots) s₁ (entryFrame m #[(.ref a1)] 1)
  rw [ef_sbGV]
  have lt_F1 := ny F1.lt
  refine Wk.aloadN X0 hx (hb hby d_jdk_68_m64_0) (n := 1) rfl rfl rfl ?_
  refine Wk.getF X0 hx hZ hown (host := "") (Or.inl (hw _ (List.mem_of_getElem? (i := 82) rfl))) Via.refl e0 F1 (hb hby d_jdk_68_m64_1) (n := 4) rfl fun T1 X1 e1 => ?_
  exact Wk.leave X1 (v := some (.ref t1)) (fun h => by rw [Bd.returns] at h; cases h) hlk e1 ⟨rfl, N0, rfl⟩ (by decide) (by decide) (fun fs hr => retA X1 hx rfl Bd.returns rfl (hb hby d_jdk_68_m64_4) hr)
def Q_sbL1 (Z : State) (a1 : Addr) (i1 : Int32) (h0 : Heap) (n0 : Nat) (v : Option Value) (h : Heap) (L : List Loc) : Prop := v = some (.int i1) ∧ Fr n0 L ∧ h = h0
theorem ef_sbL1 (m : MethodId) (x0 : Addr) : entryFrame m #[(.ref x0)] 1 = mkF m 0 #[.val (.ref x0)] [] := by first | (simp [entryFrame, mkF, argsToLocals, Value.category]; done) | rfl
theorem d_jdk_68_m6_0 : decode jdk_68_method_6_code 0 = .ok (.aload_n 0, 1) := by decide +kernel
theorem d_jdk_68_m6_1 : decode jdk_68_method_6_code 1 = .ok (.getfield 79, 3) := by decide +kernel
theorem d_jdk_68_m6_4 : decode jdk_68_method_6_code 4 = .ok (.ireturn, 1) := by decide +kernel
set_option maxRecDepth 65536 in
set_option maxHeartbeats 40000000 in
theorem sbL1 (l : Launch) (Z : State) (a0 : Array Value) (hw : ∀ d ∈ tables_1, d.before a0 Z = true) (ws : List Jvm.Cond) (a1 : Addr) (i1 : Int32) (h0 : Heap) (n0 : Nat) (Z0 : n0 ≤ h0.size) (F1 : Fld Z h0 a1 "java/lang/AbstractStringBuilder" "count" "I" (.int i1)) :
    MetFree l (⟨"java/lang/AbstractStringBuilder", "length", "()I"⟩ : MethodName) (head1 (Jvm.Cond.code (⟨"java/lang/AbstractStringBuilder", "length", "()I"⟩ : MethodName) jdk_68_method_6_code 1 (some .int) :: ws) ({ frames := 0, cells := 0, slots := 0, locals := 0 } : Room)) (fun a U => a = #[(.ref a1)] ∧ Z.Warmed39 U.vm ∧ U.heap = h0) (fun _ _ _ _ _ => True) (fun _ U o U' => ∃ v L, o = .returned v ∧ Q_sbL1 Z a1 i1 h0 n0 v U'.heap L ∧ FrameEnd U o U' L ({ frames := 0, cells := 0, slots := 0, locals := 0 } : Room).cells ({ frames := 0, cells := 0, slots := 0, locals := 0 } : Room).slots) := by
  refine MetFree.of_bodySF (plainFor_of_name pn_java_lang_AbstractStringBuilder) hisR ?_
  intro p e s m args below meth c s₁ Bd hml0 hP hK
  obtain ⟨rfl, hZ, hh⟩ := hP
  have hx := Bd.exec
  have hby := Bd.bytes
  have hlk := BodyLoose.notSynchronized Bd
  have hml : c.maxLocals = 1 := hml0
  have hown : s.vm.findClass "java/lang/AbstractStringBuilder" = some m.cls := findClass_of_methodNamed Bd.named
  have hnm := (name_of_methodNamed Bd.named Bd.method).1
  have X0 : Stand p l e ({ frames := 0, cells := 0, slots := 0, locals := 0 } : Room) s m #[(.ref a1)] below meth c s₁ [] 0 0 := Stand.of_body Bd
  have e0 : s₁.heap = h0 := by rw [← hh, Bd.state]; rfl
  have N0 := Fr.nil n0
  have K0 := Keep.refl h0 []
  clear hh
  show Wk p e below (EndN s (Q_sbL1 Z a1 i1 h0 n0) ({ frames := 0, cells := 0, slots := 0, locals := 0 } : Room).cells ({ frames := 0, cells := 0, slots := 0, locals := 0 } : Room).slots) s₁ (entryFrame m #[(.ref a1)] 1)
  rw [ef_sbL1]
  have lt_F1 := ny F1.lt
  refine Wk.aloadN X0 hx (hb hby d_jdk_68_m6_0) (n := 1) rfl rfl rfl ?_
  refine Wk.getF X0 hx hZ hown (host := "") (Or.inl (hw _ (List.mem_of_getElem? (i := 106) rfl))) Via.refl e0 F1 (hb hby d_jdk_68_m6_1) (n := 4) rfl fun T1 X1 e1 => ?_
  exact Wk.leave X1 (v := some (.int i1)) (fun h => by rw [Bd.returns] at h; cases h) hlk e1 ⟨rfl, N0, rfl⟩ (by decide) (by decide) (fun fs hr => retI X1 hx Bd.returns (hb hby d_jdk_68_m6_4) hr)
def Q_sbL0 (Z : State) (a1 : Addr) (i1 : Int32) (h0 : Heap) (n0 : Nat) (v : Option Value) (h : Heap) (L : List Loc) : Prop := v = some (.int i1) ∧ Fr n0 L ∧ h = h0
theorem ef_sbL0 (m : MethodId) (x0 : Addr) : entryFrame m #[(.ref x0)] 1 = mkF m 0 #[.val (.ref x0)] [] := by first | (simp [entryFrame, mkF, argsToLocals, Value.category]; done) | rfl
theorem d_jdk_67_m93_0 : decode jdk_67_method_93_code 0 = .ok (.aload_n 0, 1) := by decide +kernel
theorem d_jdk_67_m93_1 : decode jdk_67_method_93_code 1 = .ok (.invokespecial 343, 3) := by decide +kernel
theorem d_jdk_67_m93_4 : decode jdk_67_method_93_code 4 = .ok (.ireturn, 1) := by decide +kernel
set_option maxRecDepth 65536 in
set_option maxHeartbeats 40000000 in
theorem sbL0 (l : Launch) (Z : State) (a0 : Array Value) (hw : ∀ d ∈ tables_1, d.before a0 Z = true) (ws : List Jvm.Cond) (a1 : Addr) (i1 : Int32) (h0 : Heap) (n0 : Nat) (Z0 : n0 ≤ h0.size) (E1 : Exa Z h0 a1 "java/lang/StringBuilder") (F1 : Fld Z h0 a1 "java/lang/AbstractStringBuilder" "count" "I" (.int i1)) :
    MetFree l (⟨"java/lang/StringBuilder", "length", "()I"⟩ : MethodName) (head1 (Jvm.Cond.code (⟨"java/lang/StringBuilder", "length", "()I"⟩ : MethodName) jdk_67_method_93_code 1 (some .int) :: ws) ({ frames := 1, cells := 0, slots := 0, locals := 12 } : Room)) (fun a U => a = #[(.ref a1)] ∧ Z.Warmed39 U.vm ∧ U.heap = h0) (fun _ _ _ _ _ => True) (fun _ U o U' => ∃ v L, o = .returned v ∧ Q_sbL0 Z a1 i1 h0 n0 v U'.heap L ∧ FrameEnd U o U' L ({ frames := 1, cells := 0, slots := 0, locals := 12 } : Room).cells ({ frames := 1, cells := 0, slots := 0, locals := 12 } : Room).slots) := by
  refine MetFree.of_bodySF (plainFor_of_name pn_java_lang_StringBuilder) hisR ?_
  intro p e s m args below meth c s₁ Bd hml0 hP hK
  obtain ⟨rfl, hZ, hh⟩ := hP
  have hx := Bd.exec
  have hby := Bd.bytes
  have hlk := BodyLoose.notSynchronized Bd
  have hml : c.maxLocals = 1 := hml0
  have hown : s.vm.findClass "java/lang/StringBuilder" = some m.cls := findClass_of_methodNamed Bd.named
  have hnm := (name_of_methodNamed Bd.named Bd.method).1
  have X0 : Stand p l e ({ frames := 1, cells := 0, slots := 0, locals := 12 } : Room) s m #[(.ref a1)] below meth c s₁ [] 0 0 := Stand.of_body Bd
  have e0 : s₁.heap = h0 := by rw [← hh, Bd.state]; rfl
  have N0 := Fr.nil n0
  have K0 := Keep.refl h0 []
  clear hh
  show Wk p e below (EndN s (Q_sbL0 Z a1 i1 h0 n0) ({ frames := 1, cells := 0, slots := 0, locals := 12 } : Room).cells ({ frames := 1, cells := 0, slots := 0, locals := 12 } : Room).slots) s₁ (entryFrame m #[(.ref a1)] 1)
  rw [ef_sbL0]
  have lt_E1 := ny E1.lt
  have lt_F1 := ny F1.lt
  refine Wk.aloadN X0 hx (hb hby d_jdk_67_m93_0) (n := 1) rfl rfl rfl ?_
  have cl1_ := fun (Ls : Array Slot) (hLs : Ls.size = c.maxLocals) => superBack X0 hx hZ (y := (⟨"java/lang/AbstractStringBuilder", "length", "()I"⟩ : MethodName)) hown (hw _ (List.mem_of_getElem? (i := 157) rfl)) (own_same (hw _ (List.mem_of_getElem? (i := 153) rfl)) (hw _ (List.mem_of_getElem? (i := 109) rfl)) (hw _ (List.mem_of_getElem? (i := 111) rfl)) (by decide)) (hw _ (List.mem_of_getElem? (i := 153) rfl)) (hw _ (List.mem_of_getElem? (i := 93) rfl)) (by decide) (backOf (W := 0) (sbL1 l Z a0 hw [] a1 i1 h0 n0 (by omega) F1) hZ (hw _ (List.mem_of_getElem? (i := 158) rfl)) (hw _ (List.mem_of_getElem? (i := 78) rfl)) (by decide) (by decide)) e0 (Ins.self E1) (g := mkF m 1 Ls [(.ref a1)]) rfl hLs (hw _ (List.mem_of_getElem? (i := 158) rfl)) (argsL := []) (rest := []) (lenOf pd_7 rfl) rfl (by show 2 * 0 + _ ≤ _; exact Nat.le_of_eq rfl) (hb hby d_jdk_67_m93_1) (fun _ _ => ⟨rfl, e0, (by decide : 0 + 0 ≤ _), (by decide : 0 + 0 ≤ _)⟩)
  refine Wk.back (n := 4) (rc := 0) (rs := 0) (Q := Q_sbL1 Z a1 i1 h0 n0) (cl1_ _ (by rw [hml]; rfl)) fun vn1 T1 L1 X1 hQ1 => ?_
  clear cl1_
  obtain ⟨rfl, M1, e1⟩ := hQ1
  have N1 := Fr.app N0 M1
  show Wk p e below _ T1 (mkF m 4 _ [(.int i1)])
  exact Wk.leave X1 (v := some (.int i1)) (fun h => by rw [Bd.returns] at h; cases h) hlk e1 ⟨rfl, N1, rfl⟩ (by decide) (by decide) (fun fs hr => retI X1 hx Bd.returns (hb hby d_jdk_67_m93_4) hr)
def Q_sbIL (Z : State) (a1 : Addr) (zc : Int32) (h0 : Heap) (n0 : Nat) (v : Option Value) (h : Heap) (L : List Loc) : Prop := v = some (.int (1 : Int32)) ∧ Fr n0 L ∧ h = h0
theorem ef_sbIL (m : MethodId) (x0 : Addr) : entryFrame m #[(.ref x0)] 1 = mkF m 0 #[.val (.ref x0)] [] := by first | (simp [entryFrame, mkF, argsToLocals, Value.category]; done) | rfl
theorem d_jdk_68_m68_0 : decode jdk_68_method_68_code 0 = .ok (.getstatic 18, 3) := by decide +kernel
theorem d_jdk_68_m68_3 : decode jdk_68_method_68_code 3 = .ok (.ifCond .eq 14, 3) := by decide +kernel
theorem d_jdk_68_m68_6 : decode jdk_68_method_68_code 6 = .ok (.aload_n 0, 1) := by decide +kernel
theorem d_jdk_68_m68_7 : decode jdk_68_method_68_code 7 = .ok (.getfield 22, 3) := by decide +kernel
theorem d_jdk_68_m68_10 : decode jdk_68_method_68_code 10 = .ok (.ifCond .ne 7, 3) := by decide +kernel
theorem d_jdk_68_m68_13 : decode jdk_68_method_68_code 13 = .ok (.iconst 1, 1) := by decide +kernel
theorem d_jdk_68_m68_14 : decode jdk_68_method_68_code 14 = .ok (.goto 4, 3) := by decide +kernel
theorem d_jdk_68_m68_18 : decode jdk_68_method_68_code 18 = .ok (.ireturn, 1) := by decide +kernel
set_option maxRecDepth 65536 in
set_option maxHeartbeats 40000000 in
theorem sbIL (l : Launch) (Z : State) (a0 : Array Value) (hw : ∀ d ∈ tables_1, d.before a0 Z = true) (ws : List Jvm.Cond) (a1 : Addr) (zc : Int32) (h0 : Heap) (n0 : Nat) (Z0 : n0 ≤ h0.size) (F1 : Fld Z h0 a1 "java/lang/AbstractStringBuilder" "coder" "B" (.int (0 : Int32))) (S4 : Sta Z Z.heap "java/lang/String" "COMPACT_STRINGS" "Z" (.int zc)) (O1 : Old Z n0 h0) (hCS : ¬ zc = 0) :
    MetFree l (⟨"java/lang/AbstractStringBuilder", "isLatin1", "()Z"⟩ : MethodName) (head1 (Jvm.Cond.code (⟨"java/lang/AbstractStringBuilder", "isLatin1", "()Z"⟩ : MethodName) jdk_68_method_68_code 1 (some .boolean) :: ws) ({ frames := 0, cells := 0, slots := 0, locals := 0 } : Room)) (fun a U => a = #[(.ref a1)] ∧ Z.Warmed39 U.vm ∧ U.heap = h0) (fun _ _ _ _ _ => True) (fun _ U o U' => ∃ v L, o = .returned v ∧ Q_sbIL Z a1 zc h0 n0 v U'.heap L ∧ FrameEnd U o U' L ({ frames := 0, cells := 0, slots := 0, locals := 0 } : Room).cells ({ frames := 0, cells := 0, slots := 0, locals := 0 } : Room).slots) := by
  refine MetFree.of_bodySF (plainFor_of_name pn_java_lang_AbstractStringBuilder) hisR ?_
  intro p e s m args below meth c s₁ Bd hml0 hP hK
  obtain ⟨rfl, hZ, hh⟩ := hP
  have hx := Bd.exec
  have hby := Bd.bytes
  have hlk := BodyLoose.notSynchronized Bd
  have hml : c.maxLocals = 1 := hml0
  have hown : s.vm.findClass "java/lang/AbstractStringBuilder" = some m.cls := findClass_of_methodNamed Bd.named
  have hnm := (name_of_methodNamed Bd.named Bd.method).1
  have X0 : Stand p l e ({ frames := 0, cells := 0, slots := 0, locals := 0 } : Room) s m #[(.ref a1)] below meth c s₁ [] 0 0 := Stand.of_body Bd
  have e0 : s₁.heap = h0 := by rw [← hh, Bd.state]; rfl
  have N0 := Fr.nil n0
  have K0 := Keep.refl h0 []
  clear hh
  show Wk p e below (EndN s (Q_sbIL Z a1 zc h0 n0) ({ frames := 0, cells := 0, slots := 0, locals := 0 } : Room).cells ({ frames := 0, cells := 0, slots := 0, locals := 0 } : Room).slots) s₁ (entryFrame m #[(.ref a1)] 1)
  rw [ef_sbIL]
  have lt_F1 := ny F1.lt
  refine Wk.getS X0 hx hZ hown (host := "") (Or.inl (hw _ (List.mem_of_getElem? (i := 81) rfl))) Via.refl e0 (Sta.ext O1.2 S4) (hb hby d_jdk_68_m68_0) (n := 3) rfl fun T1 X1 e1 => ?_
  have hc3_2 : ¬ (zc = (0 : Int32)) := hCS
  refine Wk.ifNo X1 hx (hb hby d_jdk_68_m68_3) (n := 6) rfl ((if0 _ _).trans (feq hc3_2).1) ?_
  refine Wk.aloadN X1 hx (hb hby d_jdk_68_m68_6) (n := 7) rfl rfl rfl ?_
  refine Wk.getF X1 hx hZ hown (host := "") (Or.inl (hw _ (List.mem_of_getElem? (i := 84) rfl))) Via.refl e1 F1 (hb hby d_jdk_68_m68_7) (n := 10) rfl fun T3 X3 e3 => ?_
  have hc10_4 : (0 : Int32) = (0 : Int32) := rfl
  refine Wk.ifNo X3 hx (hb hby d_jdk_68_m68_10) (n := 13) rfl ((if0 _ _).trans (teq hc10_4).2) ?_
  refine Wk.iconst X3 hx (hb hby d_jdk_68_m68_13) (n := 14) rfl (z := (1 : Int32)) rfl ?_
  refine Wk.goto X3 hx (hb hby d_jdk_68_m68_14) (by decide) (n := 18) (by decide) ?_
  exact Wk.leave X3 (v := some (.int (1 : Int32))) (fun h => by rw [Bd.returns] at h; cases h) hlk e3 ⟨rfl, N0, rfl⟩ (by decide) (by decide) (fun fs hr => retNz X3 hx (t := .boolean) rfl Bd.returns (by simp) (hb hby d_jdk_68_m68_18) hr)
def Q_sbMI (Z : State) (i1 : Int32) (i2 : Int32) (h0 : Heap) (n0 : Nat) (v : Option Value) (h : Heap) (L : List Loc) : Prop := v = some (.int i2) ∧ Fr n0 L ∧ h = h0
theorem ef_sbMI (m : MethodId) (x0 : Int32) (x1 : Int32) : entryFrame m #[(.int x0), (.int x1)] 2 = mkF m 0 #[.val (.int x0), .val (.int x1)] [] := by first | (simp [entryFrame, mkF, argsToLocals, Value.category]; done) | rfl
theorem d_jdk_29_m69_0 : decode jdk_29_method_69_code 0 = .ok (.iload_n 0, 1) := by decide +kernel
theorem d_jdk_29_m69_1 : decode jdk_29_method_69_code 1 = .ok (.iload_n 1, 1) := by decide +kernel
theorem d_jdk_29_m69_2 : decode jdk_29_method_69_code 2 = .ok (.if_icmp .gt 7, 3) := by decide +kernel
theorem d_jdk_29_m69_9 : decode jdk_29_method_69_code 9 = .ok (.iload_n 1, 1) := by decide +kernel
theorem d_jdk_29_m69_10 : decode jdk_29_method_69_code 10 = .ok (.ireturn, 1) := by decide +kernel
set_option maxRecDepth 65536 in
set_option maxHeartbeats 40000000 in
theorem sbMI (l : Launch) (Z : State) (a0 : Array Value) (hw : ∀ d ∈ tables_1, d.before a0 Z = true) (ws : List Jvm.Cond) (i1 : Int32) (i2 : Int32) (h0 : Heap) (n0 : Nat) (Z0 : n0 ≤ h0.size) (h1 : i2 < i1) :
    MetFree l (⟨"java/lang/Math", "min", "(II)I"⟩ : MethodName) (head1 (Jvm.Cond.code (⟨"java/lang/Math", "min", "(II)I"⟩ : MethodName) jdk_29_method_69_code 2 (some .int) :: ws) ({ frames := 0, cells := 0, slots := 0, locals := 0 } : Room)) (fun a U => a = #[(.int i1), (.int i2)] ∧ Z.Warmed39 U.vm ∧ U.heap = h0) (fun _ _ _ _ _ => True) (fun _ U o U' => ∃ v L, o = .returned v ∧ Q_sbMI Z i1 i2 h0 n0 v U'.heap L ∧ FrameEnd U o U' L ({ frames := 0, cells := 0, slots := 0, locals := 0 } : Room).cells ({ frames := 0, cells := 0, slots := 0, locals := 0 } : Room).slots) := by
  refine MetFree.of_bodySF (Jvm.Free.JP.mathPlain rfl (by decide +kernel)) hisR ?_
  intro p e s m args below meth c s₁ Bd hml0 hP hK
  obtain ⟨rfl, hZ, hh⟩ := hP
  have hx := Bd.exec
  have hby := Bd.bytes
  have hlk := BodyLoose.notSynchronized Bd
  have hml : c.maxLocals = 2 := hml0
  have hown : s.vm.findClass "java/lang/Math" = some m.cls := findClass_of_methodNamed Bd.named
  have hnm := (name_of_methodNamed Bd.named Bd.method).1
  have X0 : Stand p l e ({ frames := 0, cells := 0, slots := 0, locals := 0 } : Room) s m #[(.int i1), (.int i2)] below meth c s₁ [] 0 0 := Stand.of_body Bd
  have e0 : s₁.heap = h0 := by rw [← hh, Bd.state]; rfl
  have N0 := Fr.nil n0
  have K0 := Keep.refl h0 []
  clear hh
  show Wk p e below (EndN s (Q_sbMI Z i1 i2 h0 n0) ({ frames := 0, cells := 0, slots := 0, locals := 0 } : Room).cells ({ frames := 0, cells := 0, slots := 0, locals := 0 } : Room).slots) s₁ (entryFrame m #[(.int i1), (.int i2)] 2)
  rw [ef_sbMI]
  refine Wk.iloadN X0 hx (hb hby d_jdk_29_m69_0) (n := 1) rfl rfl ?_
  refine Wk.iloadN X0 hx (hb hby d_jdk_29_m69_1) (n := 2) rfl rfl ?_
  have hc2_1 : i2 < i1 := h1
  refine Wk.icmpYes X0 hx (hb hby d_jdk_29_m69_2) (tlt hc2_1).2.2.1 (by decide) (n := 9) (by decide) ?_
  refine Wk.iloadN X0 hx (hb hby d_jdk_29_m69_9) (n := 10) rfl rfl ?_
  exact Wk.leave X0 (v := some (.int i2)) (fun h => by rw [Bd.returns] at h; cases h) hlk e0 ⟨rfl, N0, rfl⟩ (by decide) (by decide) (fun fs hr => retI X0 hx Bd.returns (hb hby d_jdk_29_m69_10) hr)
def Q_sbCL (Z : State) (i1 : Int32) (i2 : Int32) (h0 : Heap) (n0 : Nat) (v : Option Value) (h : Heap) (L : List Loc) : Prop := v = none ∧ Fr n0 L ∧ h = h0
theorem ef_sbCL (m : MethodId) (x0 : Int32) (x1 : Int32) : entryFrame m #[(.int x0), (.int x1)] 2 = mkF m 0 #[.val (.int x0), .val (.int x1)] [] := by first | (simp [entryFrame, mkF, argsToLocals, Value.category]; done) | rfl
theorem pn_java_util_Arrays : plainName "java/util/Arrays" = true := by first | (simp [plainName, overriddenIn]; done) | decide +kernel
theorem d_jdk_65_m131_0 : decode jdk_65_method_131_code 0 = .ok (.iload_n 1, 1) := by decide +kernel
theorem d_jdk_65_m131_1 : decode jdk_65_method_131_code 1 = .ok (.iload_n 0, 1) := by decide +kernel
theorem d_jdk_65_m131_2 : decode jdk_65_method_131_code 2 = .ok (.if_icmp .ge 35, 3) := by decide +kernel
theorem d_jdk_65_m131_37 : decode jdk_65_method_131_code 37 = .ok (.return_, 1) := by decide +kernel
set_option maxRecDepth 65536 in
set_option maxHeartbeats 40000000 in
theorem sbCL (l : Launch) (Z : State) (a0 : Array Value) (hw : ∀ d ∈ tables_1, d.before a0 Z = true) (ws : List Jvm.Cond) (i1 : Int32) (i2 : Int32) (h0 : Heap) (n0 : Nat) (Z0 : n0 ≤ h0.size) (h1 : ¬ i2 < i1) :
    MetFree l (⟨"java/util/Arrays", "checkLength", "(II)V"⟩ : MethodName) (head1 (Jvm.Cond.code (⟨"java/util/Arrays", "checkLength", "(II)V"⟩ : MethodName) jdk_65_method_131_code 2 none :: ws) ({ frames := 0, cells := 0, slots := 0, locals := 0 } : Room)) (fun a U => a = #[(.int i1), (.int i2)] ∧ Z.Warmed39 U.vm ∧ U.heap = h0) (fun _ _ _ _ _ => True) (fun _ U o U' => ∃ v L, o = .returned v ∧ Q_sbCL Z i1 i2 h0 n0 v U'.heap L ∧ FrameEnd U o U' L ({ frames := 0, cells := 0, slots := 0, locals := 0 } : Room).cells ({ frames := 0, cells := 0, slots := 0, locals := 0 } : Room).slots) := by
  refine MetFree.of_bodySF (plainFor_of_name pn_java_util_Arrays) hisR ?_
  intro p e s m args below meth c s₁ Bd hml0 hP hK
  obtain ⟨rfl, hZ, hh⟩ := hP
  have hx := Bd.exec
  have hby := Bd.bytes
  have hlk := BodyLoose.notSynchronized Bd
  have hml : c.maxLocals = 2 := hml0
  have hown : s.vm.findClass "java/util/Arrays" = some m.cls := findClass_of_methodNamed Bd.named
  have hnm := (name_of_methodNamed Bd.named Bd.method).1
  have X0 : Stand p l e ({ frames := 0, cells := 0, slots := 0, locals := 0 } : Room) s m #[(.int i1), (.int i2)] below meth c s₁ [] 0 0 := Stand.of_body Bd
  have e0 : s₁.heap = h0 := by rw [← hh, Bd.state]; rfl
  have N0 := Fr.nil n0
  have K0 := Keep.refl h0 []
  clear hh
  show Wk p e below (EndN s (Q_sbCL Z i1 i2 h0 n0) ({ frames := 0, cells := 0, slots := 0, locals := 0 } : Room).cells ({ frames := 0, cells := 0, slots := 0, locals := 0 } : Room).slots) s₁ (entryFrame m #[(.int i1), (.int i2)] 2)
  rw [ef_sbCL]
  refine Wk.iloadN X0 hx (hb hby d_jdk_65_m131_0) (n := 1) rfl rfl ?_
  refine Wk.iloadN X0 hx (hb hby d_jdk_65_m131_1) (n := 2) rfl rfl ?_
  have hc2_1 : ¬ (i2 < i1) := h1
  refine Wk.icmpYes X0 hx (hb hby d_jdk_65_m131_2) (flt hc2_1).2.1 (by decide) (n := 37) (by decide) ?_
  exact Wk.leave X0 (v := none) (fun _ => rfl) hlk e0 ⟨rfl, N0, rfl⟩ (by decide) (by decide) (fun fs hr => X0.returnOut hx Bd.returns (hb hby d_jdk_65_m131_37) hr)
def Q_sbCB (Z : State) (t1 : Addr) (k1 : ClassId) (cs : List Int32) (i1 : Int32) (h0 : Heap) (n0 : Nat) (v : Option Value) (h : Heap) (L : List Loc) : Prop := ∃ (t : Addr) (kb : ClassId), v = some (.ref t) ∧ Fr n0 L ∧ Keep h0 h [] ∧ Arv Z h t kb .byte (Int32.ofNat cs.length) (bsV cs) (.int (0 : Int32)) ∧ (h0.size ≤ t)
theorem ef_sbCB (m : MethodId) (x0 : Addr) (x2 : Int32) : entryFrame m #[(.ref x0), (.int (0 : Int32)), (.int x2)] 5 = mkF m 0 #[.val (.ref x0), .val (.int (0 : Int32)), .val (.int x2), .unset, .unset] [] := by first | (simp [entryFrame, mkF, argsToLocals, Value.category]; done) | rfl
theorem d_jdk_65_m133_0 : decode jdk_65_method_133_code 0 = .ok (.iload_n 1, 1) := by decide +kernel
theorem d_jdk_65_m133_1 : decode jdk_65_method_133_code 1 = .ok (.iload_n 2, 1) := by decide +kernel
theorem d_jdk_65_m133_2 : decode jdk_65_method_133_code 2 = .ok (.invokestatic 343, 3) := by decide +kernel
theorem pd_10 : parseMethodDescriptor "(II)V" = some ⟨[.int, .int], none⟩ := by decide +kernel
theorem d_jdk_65_m133_5 : decode jdk_65_method_133_code 5 = .ok (.iload_n 2, 1) := by decide +kernel
theorem d_jdk_65_m133_6 : decode jdk_65_method_133_code 6 = .ok (.iload_n 1, 1) := by decide +kernel
theorem d_jdk_65_m133_7 : decode jdk_65_method_133_code 7 = .ok (.isub, 1) := by decide +kernel
theorem d_jdk_65_m133_8 : decode jdk_65_method_133_code 8 = .ok (.istore_n 3, 1) := by decide +kernel
theorem d_jdk_65_m133_9 : decode jdk_65_method_133_code 9 = .ok (.iload_n 3, 1) := by decide +kernel
theorem d_jdk_65_m133_10 : decode jdk_65_method_133_code 10 = .ok (.newarray .byte, 2) := by decide +kernel
theorem d_jdk_65_m133_12 : decode jdk_65_method_133_code 12 = .ok (.astore 4, 2) := by decide +kernel
theorem d_jdk_65_m133_14 : decode jdk_65_method_133_code 14 = .ok (.aload_n 0, 1) := by decide +kernel
theorem d_jdk_65_m133_15 : decode jdk_65_method_133_code 15 = .ok (.iload_n 1, 1) := by decide +kernel
theorem d_jdk_65_m133_16 : decode jdk_65_method_133_code 16 = .ok (.aload 4, 2) := by decide +kernel
theorem d_jdk_65_m133_18 : decode jdk_65_method_133_code 18 = .ok (.iconst 0, 1) := by decide +kernel
theorem d_jdk_65_m133_19 : decode jdk_65_method_133_code 19 = .ok (.aload_n 0, 1) := by decide +kernel
theorem d_jdk_65_m133_20 : decode jdk_65_method_133_code 20 = .ok (.arraylength, 1) := by decide +kernel
theorem d_jdk_65_m133_21 : decode jdk_65_method_133_code 21 = .ok (.iload_n 1, 1) := by decide +kernel
theorem d_jdk_65_m133_22 : decode jdk_65_method_133_code 22 = .ok (.isub, 1) := by decide +kernel
theorem d_jdk_65_m133_23 : decode jdk_65_method_133_code 23 = .ok (.iload_n 3, 1) := by decide +kernel
theorem d_jdk_65_m133_24 : decode jdk_65_method_133_code 24 = .ok (.invokestatic 304, 3) := by decide +kernel
theorem pd_11 : parseMethodDescriptor "(II)I" = some ⟨[.int, .int], some .int⟩ := by decide +kernel
theorem d_jdk_65_m133_27 : decode jdk_65_method_133_code 27 = .ok (.invokestatic 150, 3) := by decide +kernel
theorem d_jdk_65_m133_30 : decode jdk_65_method_133_code 30 = .ok (.aload 4, 2) := by decide +kernel
theorem d_jdk_65_m133_32 : decode jdk_65_method_133_code 32 = .ok (.areturn, 1) := by decide +kernel
set_option maxRecDepth 65536 in
set_option maxHeartbeats 40000000 in
theorem sbCB (l : Launch) (Z : State) (a0 : Array Value) (hw : ∀ d ∈ tables_1, d.before a0 Z = true) (ws : List Jvm.Cond) (t1 : Addr) (k1 : ClassId) (cs : List Int32) (i1 : Int32) (h0 : Heap) (n0 : Nat) (Z0 : n0 ≤ h0.size) (Ab1 : Arv Z h0 t1 k1 .byte (Int32.ofNat 16) (bsV cs) (.int (0 : Int32))) (hi : i1 = Int32.ofNat cs.length) (hN : cs.length < 16) :
    MetFree l (⟨"java/util/Arrays", "copyOfRangeByte", "([BII)[B"⟩ : MethodName) (head1 (Jvm.Cond.code (⟨"java/util/Arrays", "copyOfRangeByte", "([BII)[B"⟩ : MethodName) jdk_65_method_133_code 5 (some (.array .byte)) :: ws) ({ frames := 1, cells := 1, slots := 16, locals := 31 } : Room)) (fun a U => a = #[(.ref t1), (.int (0 : Int32)), (.int i1)] ∧ Z.Warmed39 U.vm ∧ U.heap = h0) (fun _ _ _ _ _ => True) (fun _ U o U' => ∃ v L, o = .returned v ∧ Q_sbCB Z t1 k1 cs i1 h0 n0 v U'.heap L ∧ FrameEnd U o U' L ({ frames := 1, cells := 1, slots := 16, locals := 31 } : Room).cells ({ frames := 1, cells := 1, slots := 16, locals := 31 } : Room).slots) := by
  refine MetFree.of_bodySF (plainFor_of_name pn_java_util_Arrays) hisR ?_
  intro p e s m args below meth c s₁ Bd hml0 hP hK
  obtain ⟨rfl, hZ, hh⟩ := hP
  have hx := Bd.exec
  have hby := Bd.bytes
  have hlk := BodyLoose.notSynchronized Bd
  have hml : c.maxLocals = 5 := hml0
  have hown : s.vm.findClass "java/util/Arrays" = some m.cls := findClass_of_methodNamed Bd.named
  have hnm := (name_of_methodNamed Bd.named Bd.method).1
  have X0 : Stand p l e ({ frames := 1, cells := 1, slots := 16, locals := 31 } : Room) s m #[(.ref t1), (.int (0 : Int32)), (.int i1)] below meth c s₁ [] 0 0 := Stand.of_body Bd
  have e0 : s₁.heap = h0 := by rw [← hh, Bd.state]; rfl
  have N0 := Fr.nil n0
  have K0 := Keep.refl h0 []
  clear hh
  show Wk p e below (EndN s (Q_sbCB Z t1 k1 cs i1 h0 n0) ({ frames := 1, cells := 1, slots := 16, locals := 31 } : Room).cells ({ frames := 1, cells := 1, slots := 16, locals := 31 } : Room).slots) s₁ (entryFrame m #[(.ref t1), (.int (0 : Int32)), (.int i1)] 5)
  rw [ef_sbCB]
  have lt_Ab1 := ny Ab1.lt
  have hi0 : i1 - (0 : Int32) = Int32.ofNat cs.length := (own_sub0 _).trans hi
  refine Wk.iloadN X0 hx (hb hby d_jdk_65_m133_0) (n := 1) rfl rfl ?_
  refine Wk.iloadN X0 hx (hb hby d_jdk_65_m133_1) (n := 2) rfl rfl ?_
  have cl1_ := fun (Ls : Array Slot) (hLs : Ls.size = c.maxLocals) => Jvm.LawKit.callS X0 hx (y := (⟨"java/util/Arrays", "checkLength", "(II)V"⟩ : MethodName)) hown (mvT hZ (hw _ (List.mem_of_getElem? (i := 171) rfl))) (mvT hZ (hw _ (List.mem_of_getElem? (i := 172) rfl))) (mvT hZ (hw _ (List.mem_of_getElem? (i := 166) rfl))) (mvT hZ (hw _ (List.mem_of_getElem? (i := 173) rfl))) (by decide) (backOf (W := 0) (sbCL l Z a0 hw [] (0 : Int32) i1 h0 n0 (by omega) (by rw [hi]; exact own_nonneg (by omega))) hZ (hw _ (List.mem_of_getElem? (i := 173) rfl)) (hw _ (List.mem_of_getElem? (i := 166) rfl)) (by decide) (by decide)) (g := mkF m 2 Ls [(.int i1), (.int (0 : Int32))]) rfl hLs (argsL := [(.int (0 : Int32)), (.int i1)]) (rest := []) (lenOf pd_10 rfl) rfl (by show 2 * 0 + _ ≤ _; exact Nat.le_of_eq rfl) (hb hby d_jdk_65_m133_2) (fun _ _ => ⟨rfl, e0, (by decide : 0 + 0 ≤ _), (by decide : 0 + 0 ≤ _)⟩)
  refine Wk.backS (n := 5) (rc := 0) (rs := 0) (Q := Q_sbCL Z (0 : Int32) i1 h0 n0) (cl1_ _ (by rw [hml]; rfl)) fun vn1 T1 L1 X1 hQ1 => ?_
  clear cl1_
  obtain ⟨rfl, M1, e1⟩ := hQ1
  have N1 := Fr.app N0 M1
  show Wk p e below _ T1 (mkF m 5 _ [])
  refine Wk.iloadN X1 hx (hb hby d_jdk_65_m133_5) (n := 6) rfl rfl ?_
  refine Wk.iloadN X1 hx (hb hby d_jdk_65_m133_6) (n := 7) rfl rfl ?_
  refine Wk.isub X1 hx (hb hby d_jdk_65_m133_7) (n := 8) rfl ?_
  refine Wk.istoreN X1 hx (hb hby d_jdk_65_m133_8) (n := 9) rfl (L' := #[.val (.ref t1), .val (.int (0 : Int32)), .val (.int i1), .val (.int (i1 - (0 : Int32))), .unset]) rfl ?_
  refine Wk.iloadN X1 hx (hb hby d_jdk_65_m133_9) (n := 10) rfl rfl ?_
  refine Wk.newP X1 hx hZ (hw _ (List.mem_of_getElem? (i := 19) rfl)) e1 (hb hby d_jdk_65_m133_10) (n := 12) rfl (by rw [hi0]; exact own_nonneg (by omega)) (cap := 16) (by rw [hi0, own_cl (by omega)]; omega) (by decide) (by decide) (by decide) fun T2 H2 b2 k2 gn2 X2 e2 Ex2 An2 => ?_
  have gn2 := nx gn2
  have sz2 := Ex2.1
  have K2 := K0.ext Ex2
  have Vn2 : Arv Z H2 b2 k2 .byte (i1 - (0 : Int32)) (List.replicate 16 (.int (0 : Int32))) (.int (0 : Int32)) := (Arv.new An2 (by rw [hi0]; exact own_nonneg (by omega))).pad (pad_rep [] (.int (0 : Int32)) 16)
  have lt2 := ny Vn2.lt
  refine Wk.astore X2 hx (hb hby d_jdk_65_m133_12) (n := 14) rfl rfl (L' := #[.val (.ref t1), .val (.int (0 : Int32)), .val (.int i1), .val (.int (i1 - (0 : Int32))), .val (.ref b2)]) rfl ?_
  refine Wk.aloadN X2 hx (hb hby d_jdk_65_m133_14) (n := 15) rfl rfl rfl ?_
  refine Wk.iloadN X2 hx (hb hby d_jdk_65_m133_15) (n := 16) rfl rfl ?_
  refine Wk.aload X2 hx (hb hby d_jdk_65_m133_16) (n := 18) rfl rfl rfl ?_
  refine Wk.iconst X2 hx (hb hby d_jdk_65_m133_18) (n := 19) rfl (z := (0 : Int32)) rfl ?_
  refine Wk.aloadN X2 hx (hb hby d_jdk_65_m133_19) (n := 20) rfl rfl rfl ?_
  have f3 := (Ab1.ext Ex2)
  obtain ⟨cl4, Ar4, qn4, Sz4, N_4, H_4, Gn4⟩ := id f3
  refine Wk.arrlen X2 hx hZ e2 Ar4 Sz4 N_4 (hb hby d_jdk_65_m133_20) (n := 21) rfl ?_
  refine Wk.iloadN X2 hx (hb hby d_jdk_65_m133_21) (n := 22) rfl rfl ?_
  refine Wk.isub X2 hx (hb hby d_jdk_65_m133_22) (n := 23) rfl ?_
  refine Wk.iloadN X2 hx (hb hby d_jdk_65_m133_23) (n := 24) rfl rfl ?_
  have cl5_ := fun (Ls : Array Slot) (hLs : Ls.size = c.maxLocals) => Jvm.LawKit.callS X2 hx (y := (⟨"java/lang/Math", "min", "(II)I"⟩ : MethodName)) hown (mvT hZ (hw _ (List.mem_of_getElem? (i := 174) rfl))) (mvT hZ (hw _ (List.mem_of_getElem? (i := 175) rfl))) (mvT hZ (hw _ (List.mem_of_getElem? (i := 176) rfl))) (mvT hZ (hw _ (List.mem_of_getElem? (i := 177) rfl))) (by decide) (backOf (W := 4) (sbMI l Z a0 hw [] ((Int32.ofNat 16) - (0 : Int32)) (i1 - (0 : Int32)) H2 n0 (by omega) (by rw [hi0, own_sub0]; exact (own_lt (by omega) (by decide)).mpr hN)) hZ (hw _ (List.mem_of_getElem? (i := 177) rfl)) (hw _ (List.mem_of_getElem? (i := 176) rfl)) (by decide) (by decide)) (g := mkF m 24 Ls [(.int (i1 - (0 : Int32))), (.int ((Int32.ofNat 16) - (0 : Int32))), (.int (0 : Int32)), (.ref b2), (.int (0 : Int32)), (.ref t1)]) rfl hLs (argsL := [(.int ((Int32.ofNat 16) - (0 : Int32))), (.int (i1 - (0 : Int32)))]) (rest := [(.int (0 : Int32)), (.ref b2), (.int (0 : Int32)), (.ref t1)]) (lenOf pd_11 rfl) rfl (by show 2 * 0 + _ ≤ _; exact Nat.le_of_eq rfl) (hb hby d_jdk_65_m133_24) (fun _ _ => ⟨rfl, e2, (by decide : 0 + 0 + 1 + 0 ≤ _), (by decide : 0 + 0 + 16 + 0 ≤ _)⟩)
  refine Wk.backS (n := 27) (rc := 0) (rs := 0) (Q := Q_sbMI Z ((Int32.ofNat 16) - (0 : Int32)) (i1 - (0 : Int32)) H2 n0) (cl5_ _ (by rw [hml]; rfl)) fun vn5 T5 L5 X5 hQ5 => ?_
  clear cl5_
  obtain ⟨rfl, M5, e5⟩ := hQ5
  have N5 := Fr.app N1 M5
  show Wk p e below _ T5 (mkF m 27 _ [(.int (i1 - (0 : Int32))), (.int (0 : Int32)), (.ref b2), (.int (0 : Int32)), (.ref t1)])
  have Pd := Arv.pad Vn2 (own_padr 16 cs.length (.int (0 : Int32)))
  refine Wk.cpA X5 hx hZ hown (hw _ (List.mem_of_getElem? (i := 178) rfl)) (hw _ (List.mem_of_getElem? (i := 132) rfl)) (hw _ (List.mem_of_getElem? (i := 130) rfl)) (hw _ (List.mem_of_getElem? (i := 131) rfl)) e5 f3 Pd (Or.inl ⟨rfl, rfl⟩) (i := 0) (j := 0) (q := cs.length) rfl rfl hi0 (by omega) (by omega) (by omega) (by rw [own_cl (by omega)]; omega) (by rw [hi0, own_cl (by omega)]; omega) rfl (by simp) N5 (by omega) (vn := (bsV cs)) (own_vr cs) (by rw [hml]; rfl) (hb hby d_jdk_65_m133_27) (n := 30) rfl (by decide) (w := 0) (Nat.le_of_eq rfl) (by decide) fun T6 H6 Lc6 X6 e6 N6 J6 Vn6 => ?_
  have sz6 := J6.1
  have K6 := K2.trans J6 (allS (Or.inr (by omega)) all0)
  refine Wk.aload X6 hx (hb hby d_jdk_65_m133_30) (n := 32) rfl rfl rfl ?_
  exact Wk.leave X6 (v := some (.ref b2)) (fun h => by rw [Bd.returns] at h; cases h) hlk e6 ⟨b2, k2, rfl, N6, K6, (by have q := Vn6; rw [hi0] at q; exact q), (by omega)⟩ (by decide) (by decide) (fun fs hr => retA X6 hx rfl Bd.returns rfl (hb hby d_jdk_65_m133_32) hr)
def Q_sbCR (Z : State) (t1 : Addr) (k1 : ClassId) (cs : List Int32) (i1 : Int32) (h0 : Heap) (n0 : Nat) (v : Option Value) (h : Heap) (L : List Loc) : Prop := ∃ (t : Addr) (kb : ClassId), v = some (.ref t) ∧ Fr n0 L ∧ Keep h0 h [] ∧ Arv Z h t kb .byte (Int32.ofNat cs.length) (bsV cs) (.int (0 : Int32)) ∧ (h0.size ≤ t)
theorem ef_sbCR (m : MethodId) (x0 : Addr) (x2 : Int32) : entryFrame m #[(.ref x0), (.int (0 : Int32)), (.int x2)] 3 = mkF m 0 #[.val (.ref x0), .val (.int (0 : Int32)), .val (.int x2)] [] := by first | (simp [entryFrame, mkF, argsToLocals, Value.category]; done) | rfl
theorem d_jdk_65_m132_0 : decode jdk_65_method_132_code 0 = .ok (.iload_n 1, 1) := by decide +kernel
theorem d_jdk_65_m132_1 : decode jdk_65_method_132_code 1 = .ok (.ifCond .ne 9, 3) := by decide +kernel
theorem d_jdk_65_m132_4 : decode jdk_65_method_132_code 4 = .ok (.iload_n 2, 1) := by decide +kernel
theorem d_jdk_65_m132_5 : decode jdk_65_method_132_code 5 = .ok (.aload_n 0, 1) := by decide +kernel
theorem d_jdk_65_m132_6 : decode jdk_65_method_132_code 6 = .ok (.arraylength, 1) := by decide +kernel
theorem d_jdk_65_m132_7 : decode jdk_65_method_132_code 7 = .ok (.if_icmp .eq 10, 3) := by decide +kernel
theorem d_jdk_65_m132_10 : decode jdk_65_method_132_code 10 = .ok (.aload_n 0, 1) := by decide +kernel
theorem d_jdk_65_m132_11 : decode jdk_65_method_132_code 11 = .ok (.iload_n 1, 1) := by decide +kernel
theorem d_jdk_65_m132_12 : decode jdk_65_method_132_code 12 = .ok (.iload_n 2, 1) := by decide +kernel
theorem d_jdk_65_m132_13 : decode jdk_65_method_132_code 13 = .ok (.invokestatic 339, 3) := by decide +kernel
theorem pd_12 : parseMethodDescriptor "([BII)[B" = some ⟨[(.array .byte), .int, .int], some (.array .byte)⟩ := by decide +kernel
theorem d_jdk_65_m132_16 : decode jdk_65_method_132_code 16 = .ok (.areturn, 1) := by decide +kernel
set_option maxRecDepth 65536 in
set_option maxHeartbeats 40000000 in
theorem sbCR (l : Launch) (Z : State) (a0 : Array Value) (hw : ∀ d ∈ tables_1, d.before a0 Z = true) (ws : List Jvm.Cond) (t1 : Addr) (k1 : ClassId) (cs : List Int32) (i1 : Int32) (h0 : Heap) (n0 : Nat) (Z0 : n0 ≤ h0.size) (Ab1 : Arv Z h0 t1 k1 .byte (Int32.ofNat 16) (bsV cs) (.int (0 : Int32))) (hi : i1 = Int32.ofNat cs.length) (hN : cs.length < 16) :
    MetFree l (⟨"java/util/Arrays", "copyOfRange", "([BII)[B"⟩ : MethodName) (head1 (Jvm.Cond.code (⟨"java/util/Arrays", "copyOfRange", "([BII)[B"⟩ : MethodName) jdk_65_method_132_code 3 (some (.array .byte)) :: ws) ({ frames := 2, cells := 1, slots := 16, locals := 47 } : Room)) (fun a U => a = #[(.ref t1), (.int (0 : Int32)), (.int i1)] ∧ Z.Warmed39 U.vm ∧ U.heap = h0) (fun _ _ _ _ _ => True) (fun _ U o U' => ∃ v L, o = .returned v ∧ Q_sbCR Z t1 k1 cs i1 h0 n0 v U'.heap L ∧ FrameEnd U o U' L ({ frames := 2, cells := 1, slots := 16, locals := 47 } : Room).cells ({ frames := 2, cells := 1, slots := 16, locals := 47 } : Room).slots) := by
  refine MetFree.of_bodySF (plainFor_of_name pn_java_util_Arrays) hisR ?_
  intro p e s m args below meth c s₁ Bd hml0 hP hK
  obtain ⟨rfl, hZ, hh⟩ := hP
  have hx := Bd.exec
  have hby := Bd.bytes
  have hlk := BodyLoose.notSynchronized Bd
  have hml : c.maxLocals = 3 := hml0
  have hown : s.vm.findClass "java/util/Arrays" = some m.cls := findClass_of_methodNamed Bd.named
  have hnm := (name_of_methodNamed Bd.named Bd.method).1
  have X0 : Stand p l e ({ frames := 2, cells := 1, slots := 16, locals := 47 } : Room) s m #[(.ref t1), (.int (0 : Int32)), (.int i1)] below meth c s₁ [] 0 0 := Stand.of_body Bd
  have e0 : s₁.heap = h0 := by rw [← hh, Bd.state]; rfl
  have N0 := Fr.nil n0
  have K0 := Keep.refl h0 []
  clear hh
  show Wk p e below (EndN s (Q_sbCR Z t1 k1 cs i1 h0 n0) ({ frames := 2, cells := 1, slots := 16, locals := 47 } : Room).cells ({ frames := 2, cells := 1, slots := 16, locals := 47 } : Room).slots) s₁ (entryFrame m #[(.ref t1), (.int (0 : Int32)), (.int i1)] 3)
  rw [ef_sbCR]
  have lt_Ab1 := ny Ab1.lt
  refine Wk.iloadN X0 hx (hb hby d_jdk_65_m132_0) (n := 1) rfl rfl ?_
  have hc1_1 : (0 : Int32) = (0 : Int32) := rfl
  refine Wk.ifNo X0 hx (hb hby d_jdk_65_m132_1) (n := 4) rfl ((if0 _ _).trans (teq hc1_1).2) ?_
  refine Wk.iloadN X0 hx (hb hby d_jdk_65_m132_4) (n := 5) rfl rfl ?_
  refine Wk.aloadN X0 hx (hb hby d_jdk_65_m132_5) (n := 6) rfl rfl rfl ?_
  obtain ⟨cl2, Ar2, qn2, Sz2, N_2, H_2, Gn2⟩ := id Ab1
  refine Wk.arrlen X0 hx hZ e0 Ar2 Sz2 N_2 (hb hby d_jdk_65_m132_6) (n := 7) rfl ?_
  have hc7_3 : ¬ (i1 = (Int32.ofNat 16)) := by rw [hi]; exact fun q => absurd ((own_eqi (by omega) (by decide)).mp q) (by omega)
  refine Wk.icmpNo X0 hx (hb hby d_jdk_65_m132_7) (n := 10) rfl (feq hc7_3).1 ?_
  refine Wk.aloadN X0 hx (hb hby d_jdk_65_m132_10) (n := 11) rfl rfl rfl ?_
  refine Wk.iloadN X0 hx (hb hby d_jdk_65_m132_11) (n := 12) rfl rfl ?_
  refine Wk.iloadN X0 hx (hb hby d_jdk_65_m132_12) (n := 13) rfl rfl ?_
  have cl4_ := fun (Ls : Array Slot) (hLs : Ls.size = c.maxLocals) => Jvm.LawKit.callS X0 hx (y := (⟨"java/util/Arrays", "copyOfRangeByte", "([BII)[B"⟩ : MethodName)) hown (mvT hZ (hw _ (List.mem_of_getElem? (i := 168) rfl))) (mvT hZ (hw _ (List.mem_of_getElem? (i := 169) rfl))) (mvT hZ (hw _ (List.mem_of_getElem? (i := 166) rfl))) (mvT hZ (hw _ (List.mem_of_getElem? (i := 170) rfl))) (by decide) (backOf (W := 0) (sbCB l Z a0 hw [] t1 k1 cs i1 h0 n0 (by omega) Ab1 hi (by omega)) hZ (hw _ (List.mem_of_getElem? (i := 170) rfl)) (hw _ (List.mem_of_getElem? (i := 166) rfl)) (by decide) (by decide)) (g := mkF m 13 Ls [(.int i1), (.int (0 : Int32)), (.ref t1)]) rfl hLs (argsL := [(.ref t1), (.int (0 : Int32)), (.int i1)]) (rest := []) (lenOf pd_12 rfl) rfl (by show 2 * 0 + _ ≤ _; exact Nat.le_of_eq rfl) (hb hby d_jdk_65_m132_13) (fun _ _ => ⟨rfl, e0, (by decide : 0 + 1 ≤ _), (by decide : 0 + 16 ≤ _)⟩)
  refine Wk.backS (n := 16) (rc := 1) (rs := 16) (Q := Q_sbCB Z t1 k1 cs i1 h0 n0) (cl4_ _ (by rw [hml]; rfl)) fun vn4 T4 L4 X4 hQ4 => ?_
  clear cl4_
  obtain ⟨t_4, kb_4, rfl, M4, J4, p4_0, gt_4⟩ := hQ4
  have N4 := Fr.app N0 M4
  have sz4 := J4.1
  have K4 := K0.trans J4 (fun x hx => nomatch hx)
  have lt_p4_0 := ny p4_0.lt
  show Wk p e below _ T4 (mkF m 16 _ [(.ref t_4)])
  exact Wk.leave X4 (v := some (.ref t_4)) (fun h => by rw [Bd.returns] at h; cases h) hlk rfl ⟨t_4, kb_4, rfl, N4, K4, p4_0, (by omega)⟩ (by decide) (by decide) (fun fs hr => retA X4 hx rfl Bd.returns rfl (hb hby d_jdk_65_m132_16) hr)
def Q_sbSV (Z : State) (x1 : Addr) (a1 : Addr) (t1 : Addr) (k1 : ClassId) (cs : List Int32) (zc : Int32) (u1 : Value) (h0 : Heap) (n0 : Nat) (v : Option Value) (h : Heap) (L : List Loc) : Prop := ∃ (t : Addr) (kb : ClassId), v = none ∧ Fr n0 L ∧ Keep h0 h [x1] ∧ Exa Z h x1 "java/lang/String" ∧ Fld Z h x1 "java/lang/String" "value" "[B" (.ref t) ∧ Fld Z h x1 "java/lang/String" "coder" "B" (.int (0 : Int32)) ∧ Arv Z h t kb .byte (Int32.ofNat cs.length) (bsV cs) (.int (0 : Int32)) ∧ (h0.size ≤ t)
theorem ef_sbSV (m : MethodId) (x0 : Addr) (x1 : Addr) : entryFrame m #[(.ref x0), (.ref x1), .null] 5 = mkF m 0 #[.val (.ref x0), .val (.ref x1), .val .null, .unset, .unset] [] := by first | (simp [entryFrame, mkF, argsToLocals, Value.category]; done) | rfl
theorem d_jdk_42_m150_0 : decode jdk_42_method_150_code 0 = .ok (.aload_n 0, 1) := by decide +kernel
theorem d_jdk_42_m150_1 : decode jdk_42_method_150_code 1 = .ok (.invokespecial 1, 3) := by decide +kernel
theorem d_jdk_42_m150_4 : decode jdk_42_method_150_code 4 = .ok (.aload_n 1, 1) := by decide +kernel
theorem d_jdk_42_m150_5 : decode jdk_42_method_150_code 5 = .ok (.invokevirtual 552, 3) := by decide +kernel
theorem pd_13 : parseMethodDescriptor "()[B" = some ⟨[], some (.array .byte)⟩ := by decide +kernel
theorem d_jdk_42_m150_8 : decode jdk_42_method_150_code 8 = .ok (.astore_n 3, 1) := by decide +kernel
theorem d_jdk_42_m150_9 : decode jdk_42_method_150_code 9 = .ok (.aload_n 1, 1) := by decide +kernel
theorem d_jdk_42_m150_10 : decode jdk_42_method_150_code 10 = .ok (.invokevirtual 549, 3) := by decide +kernel
theorem d_jdk_42_m150_13 : decode jdk_42_method_150_code 13 = .ok (.istore 4, 2) := by decide +kernel
theorem d_jdk_42_m150_15 : decode jdk_42_method_150_code 15 = .ok (.aload_n 1, 1) := by decide +kernel
theorem d_jdk_42_m150_16 : decode jdk_42_method_150_code 16 = .ok (.invokevirtual 1047, 3) := by decide +kernel
theorem pd_14 : parseMethodDescriptor "()Z" = some ⟨[], some .boolean⟩ := by decide +kernel
theorem d_jdk_42_m150_19 : decode jdk_42_method_150_code 19 = .ok (.ifCond .eq 22, 3) := by decide +kernel
theorem d_jdk_42_m150_22 : decode jdk_42_method_150_code 22 = .ok (.aload_n 0, 1) := by decide +kernel
theorem d_jdk_42_m150_23 : decode jdk_42_method_150_code 23 = .ok (.iconst 0, 1) := by decide +kernel
theorem d_jdk_42_m150_24 : decode jdk_42_method_150_code 24 = .ok (.putfield 15, 3) := by decide +kernel
theorem d_jdk_42_m150_27 : decode jdk_42_method_150_code 27 = .ok (.aload_n 0, 1) := by decide +kernel
theorem d_jdk_42_m150_28 : decode jdk_42_method_150_code 28 = .ok (.aload_n 3, 1) := by decide +kernel
theorem d_jdk_42_m150_29 : decode jdk_42_method_150_code 29 = .ok (.iconst 0, 1) := by decide +kernel
theorem d_jdk_42_m150_30 : decode jdk_42_method_150_code 30 = .ok (.iload 4, 2) := by decide +kernel
theorem d_jdk_42_m150_32 : decode jdk_42_method_150_code 32 = .ok (.invokestatic 54, 3) := by decide +kernel
theorem d_jdk_42_m150_35 : decode jdk_42_method_150_code 35 = .ok (.putfield 9, 3) := by decide +kernel
theorem d_jdk_42_m150_38 : decode jdk_42_method_150_code 38 = .ok (.goto 59, 3) := by decide +kernel
theorem d_jdk_42_m150_97 : decode jdk_42_method_150_code 97 = .ok (.return_, 1) := by decide +kernel
set_option maxRecDepth 65536 in
set_option maxHeartbeats 40000000 in
theorem sbSV (l : Launch) (Z : State) (a0 : Array Value) (hw : ∀ d ∈ tables_1, d.before a0 Z = true) (ws : List Jvm.Cond) (x1 : Addr) (a1 : Addr) (t1 : Addr) (k1 : ClassId) (cs : List Int32) (zc : Int32) (u1 : Value) (h0 : Heap) (n0 : Nat) (Z0 : n0 ≤ h0.size) (E1 : Exa Z h0 x1 "java/lang/String") (F1 : Fld Z h0 x1 "java/lang/String" "value" "[B" u1) (F2 : Fld Z h0 x1 "java/lang/String" "coder" "B" (.int (0 : Int32))) (Eb1 : Exa Z h0 a1 "java/lang/StringBuilder") (Gv1 : Fld Z h0 a1 "java/lang/AbstractStringBuilder" "value" "[B" (.ref t1)) (Gc1 : Fld Z h0 a1 "java/lang/AbstractStringBuilder" "coder" "B" (.int (0 : Int32))) (Gn1 : Fld Z h0 a1 "java/lang/AbstractStringBuilder" "count" "I" (.int (Int32.ofNat cs.length))) (Ab1 : Arv Z h0 t1 k1 .byte (Int32.ofNat 16) (bsV cs) (.int (0 : Int32))) (S4 : Sta Z Z.heap "java/lang/String" "COMPACT_STRINGS" "Z" (.int zc)) (O1 : Old Z n0 h0) (hCS : ¬ zc = 0) (hN : cs.length < 16) (g1 : n0 ≤ x1) (hn1 : ¬ @Eq Nat x1 a1) (hn2 : ¬ @Eq Nat x1 t1) :
    MetFree l (⟨"java/lang/String", "<init>", "(Ljava/lang/AbstractStringBuilder;Ljava/lang/Void;)V"⟩ : MethodName) (head1 (Jvm.Cond.code (⟨"java/lang/String", "<init>", "(Ljava/lang/AbstractStringBuilder;Ljava/lang/Void;)V"⟩ : MethodName) jdk_42_method_150_code 5 none :: ws) ({ frames := 3, cells := 1, slots := 16, locals := 63 } : Room)) (fun a U => a = #[(.ref x1), (.ref a1), .null] ∧ Z.Warmed39 U.vm ∧ U.heap = h0) (fun _ _ _ _ _ => True) (fun _ U o U' => ∃ v L, o = .returned v ∧ Q_sbSV Z x1 a1 t1 k1 cs zc u1 h0 n0 v U'.heap L ∧ FrameEnd U o U' L ({ frames := 3, cells := 1, slots := 16, locals := 63 } : Room).cells ({ frames := 3, cells := 1, slots := 16, locals := 63 } : Room).slots) := by
  refine MetFree.of_bodySF (plainFor_of_name pn_java_lang_String) hisR ?_
  intro p e s m args below meth c s₁ Bd hml0 hP hK
  obtain ⟨rfl, hZ, hh⟩ := hP
  have hx := Bd.exec
  have hby := Bd.bytes
  have hlk := BodyLoose.notSynchronized Bd
  have hml : c.maxLocals = 5 := hml0
  have hown : s.vm.findClass "java/lang/String" = some m.cls := findClass_of_methodNamed Bd.named
  have hnm := (name_of_methodNamed Bd.named Bd.method).1
  have X0 : Stand p l e ({ frames := 3, cells := 1, slots := 16, locals := 63 } : Room) s m #[(.ref x1), (.ref a1), .null] below meth c s₁ [] 0 0 := Stand.of_body Bd
  have e0 : s₁.heap = h0 := by rw [← hh, Bd.state]; rfl
  have N0 := Fr.nil n0
  have K0 := Keep.refl h0 [x1]
  clear hh
  show Wk p e below (EndN s (Q_sbSV Z x1 a1 t1 k1 cs zc u1 h0 n0) ({ frames := 3, cells := 1, slots := 16, locals := 63 } : Room).cells ({ frames := 3, cells := 1, slots := 16, locals := 63 } : Room).slots) s₁ (entryFrame m #[(.ref x1), (.ref a1), .null] 5)
  rw [ef_sbSV]
  have lt_E1 := ny E1.lt
  have lt_F1 := ny F1.lt
  have lt_F2 := ny F2.lt
  have lt_Eb1 := ny Eb1.lt
  have lt_Gv1 := ny Gv1.lt
  have lt_Gc1 := ny Gc1.lt
  have lt_Gn1 := ny Gn1.lt
  have lt_Ab1 := ny Ab1.lt
  refine Wk.aloadN X0 hx (hb hby d_jdk_42_m150_0) (n := 1) rfl rfl rfl ?_
  refine Wk.initO X0 hx hZ hown (hw _ (List.mem_of_getElem? (i := 15) rfl)) (hw _ (List.mem_of_getElem? (i := 16) rfl)) (hw _ (List.mem_of_getElem? (i := 17) rfl)) e0 (by rw [hml]; rfl) (hb hby d_jdk_42_m150_1) (n := 4) rfl (by decide) (w := 0) (Nat.le_of_eq rfl) (by decide) fun T1 X1 e1 => ?_
  refine Wk.aloadN X1 hx (hb hby d_jdk_42_m150_4) (n := 5) rfl rfl rfl ?_
  obtain ⟨cq2, kq2, qn2a, qn2b, qn2c⟩ := isOf hZ e1 Eb1
  have cl2_ := fun (Ls : Array Slot) (hLs : Ls.size = c.maxLocals) => X1.virtualBack hx (y := (⟨"java/lang/AbstractStringBuilder", "getValue", "()[B"⟩ : MethodName)) (z := (⟨"java/lang/AbstractStringBuilder", "getValue", "()[B"⟩ : MethodName)) hown (mvT hZ (hw _ (List.mem_of_getElem? (i := 146) rfl))) (mvT hZ (hw _ (List.mem_of_getElem? (i := 147) rfl))) (notFace_of_selects (args := #[]) (mvT hZ (hw _ (List.mem_of_getElem? (i := 149) rfl)))) (mvT hZ (hw _ (List.mem_of_getElem? (i := 149) rfl))) (mvT hZ (hw _ (List.mem_of_getElem? (i := 148) rfl))) (by decide) (backOf (W := 0) (sbGV l Z a0 hw [] a1 t1 h0 n0 (by omega) Gv1) hZ (hw _ (List.mem_of_getElem? (i := 150) rfl)) (hw _ (List.mem_of_getElem? (i := 78) rfl)) (by decide) (by decide)) qn2a qn2c (g := mkF m 5 Ls [(.ref a1)]) rfl hLs (Steps.refl _) (argsL := []) (rest := []) (lenOf pd_13 rfl) rfl (by show 2 * 0 + _ ≤ _; exact Nat.le_of_eq rfl) (hb hby d_jdk_42_m150_5) (fun _ _ => ⟨rfl, e1, (by decide : 0 + 0 ≤ _), (by decide : 0 + 0 ≤ _)⟩)
  refine Wk.back (n := 8) (rc := 0) (rs := 0) (Q := Q_sbGV Z a1 t1 h0 n0) (cl2_ _ (by rw [hml]; rfl)) fun vn2 T2 L2 X2 hQ2 => ?_
  clear cl2_
  obtain ⟨rfl, M2, e2⟩ := hQ2
  have N2 := Fr.app N0 M2
  show Wk p e below _ T2 (mkF m 8 _ [(.ref t1)])
  refine Wk.astoreN X2 hx (hb hby d_jdk_42_m150_8) (n := 9) rfl rfl (L' := #[.val (.ref x1), .val (.ref a1), .val .null, .val (.ref t1), .unset]) rfl ?_
  refine Wk.aloadN X2 hx (hb hby d_jdk_42_m150_9) (n := 10) rfl rfl rfl ?_
  obtain ⟨cq3, kq3, qn3a, qn3b, qn3c⟩ := isOf hZ e2 Eb1
  have cl3_ := fun (Ls : Array Slot) (hLs : Ls.size = c.maxLocals) => X2.virtualBack hx (y := (⟨"java/lang/AbstractStringBuilder", "length", "()I"⟩ : MethodName)) (z := (⟨"java/lang/StringBuilder", "length", "()I"⟩ : MethodName)) hown (mvT hZ (hw _ (List.mem_of_getElem? (i := 151) rfl))) (mvT hZ (hw _ (List.mem_of_getElem? (i := 152) rfl))) (own_nf (args := #[]) (mvT hZ (hw _ (List.mem_of_getElem? (i := 152) rfl))) (mvT hZ (hw _ (List.mem_of_getElem? (i := 148) rfl))) (mvT hZ (hw _ (List.mem_of_getElem? (i := 149) rfl)))) (mvT hZ (hw _ (List.mem_of_getElem? (i := 154) rfl))) (mvT hZ (hw _ (List.mem_of_getElem? (i := 155) rfl))) (by decide) (backOf (W := 0) (sbL0 l Z a0 hw [] a1 (Int32.ofNat cs.length) h0 n0 (by omega) Eb1 Gn1) hZ (hw _ (List.mem_of_getElem? (i := 156) rfl)) (hw _ (List.mem_of_getElem? (i := 70) rfl)) (by decide) (by decide)) qn3a qn3c (g := mkF m 10 Ls [(.ref a1)]) rfl hLs (Steps.refl _) (argsL := []) (rest := []) (lenOf pd_7 rfl) rfl (by show 2 * 0 + _ ≤ _; exact Nat.le_of_eq rfl) (hb hby d_jdk_42_m150_10) (fun _ _ => ⟨rfl, e2, (by decide : 0 + 0 + 0 ≤ _), (by decide : 0 + 0 + 0 ≤ _)⟩)
  refine Wk.back (n := 13) (rc := 0) (rs := 0) (Q := Q_sbL0 Z a1 (Int32.ofNat cs.length) h0 n0) (cl3_ _ (by rw [hml]; rfl)) fun vn3 T3 L3 X3 hQ3 => ?_
  clear cl3_
  obtain ⟨rfl, M3, e3⟩ := hQ3
  have N3 := Fr.app N2 M3
  show Wk p e below _ T3 (mkF m 13 _ [(.int (Int32.ofNat cs.length))])
  refine Wk.istore X3 hx (hb hby d_jdk_42_m150_13) (n := 15) rfl (L' := #[.val (.ref x1), .val (.ref a1), .val .null, .val (.ref t1), .val (.int (Int32.ofNat cs.length))]) rfl ?_
  refine Wk.aloadN X3 hx (hb hby d_jdk_42_m150_15) (n := 16) rfl rfl rfl ?_
  obtain ⟨cq4, kq4, qn4a, qn4b, qn4c⟩ := isOf hZ e3 Eb1
  have cl4_ := fun (Ls : Array Slot) (hLs : Ls.size = c.maxLocals) => X3.virtualBack hx (y := (⟨"java/lang/AbstractStringBuilder", "isLatin1", "()Z"⟩ : MethodName)) (z := (⟨"java/lang/AbstractStringBuilder", "isLatin1", "()Z"⟩ : MethodName)) hown (mvT hZ (hw _ (List.mem_of_getElem? (i := 159) rfl))) (mvT hZ (hw _ (List.mem_of_getElem? (i := 160) rfl))) (notFace_of_selects (args := #[]) (mvT hZ (hw _ (List.mem_of_getElem? (i := 162) rfl)))) (mvT hZ (hw _ (List.mem_of_getElem? (i := 162) rfl))) (mvT hZ (hw _ (List.mem_of_getElem? (i := 161) rfl))) (by decide) (backOf (W := 0) (sbIL l Z a0 hw [] a1 zc h0 n0 (by omega) Gc1 S4 O1 hCS) hZ (hw _ (List.mem_of_getElem? (i := 163) rfl)) (hw _ (List.mem_of_getElem? (i := 78) rfl)) (by decide) (by decide)) qn4a qn4c (g := mkF m 16 Ls [(.ref a1)]) rfl hLs (Steps.refl _) (argsL := []) (rest := []) (lenOf pd_14 rfl) rfl (by show 2 * 0 + _ ≤ _; exact Nat.le_of_eq rfl) (hb hby d_jdk_42_m150_16) (fun _ _ => ⟨rfl, e3, (by decide : 0 + 0 + 0 + 0 ≤ _), (by decide : 0 + 0 + 0 + 0 ≤ _)⟩)
  refine Wk.back (n := 19) (rc := 0) (rs := 0) (Q := Q_sbIL Z a1 zc h0 n0) (cl4_ _ (by rw [hml]; rfl)) fun vn4 T4 L4 X4 hQ4 => ?_
  clear cl4_
  obtain ⟨rfl, M4, e4⟩ := hQ4
  have N4 := Fr.app N3 M4
  show Wk p e below _ T4 (mkF m 19 _ [(.int (1 : Int32))])
  have hc19_5 : ¬ ((1 : Int32) = (0 : Int32)) := by decide
  refine Wk.ifNo X4 hx (hb hby d_jdk_42_m150_19) (n := 22) rfl ((if0 _ _).trans (feq hc19_5).1) ?_
  refine Wk.aloadN X4 hx (hb hby d_jdk_42_m150_22) (n := 23) rfl rfl rfl ?_
  refine Wk.iconst X4 hx (hb hby d_jdk_42_m150_23) (n := 24) rfl (z := (0 : Int32)) rfl ?_
  refine Wk.putFN X4 hx hZ hown (hw _ (List.mem_of_getElem? (i := 25) rfl)) Via.refl e4 F2 E1 (Or.inr ⟨(hw _ (List.mem_of_getElem? (i := 21) rfl)), rfl, hnm⟩) (hw _ (List.mem_of_getElem? (i := 5) rfl)) (ty := .byte) (by decide) (v' := (.int (0 : Int32))) rfl rfl (hb hby d_jdk_42_m150_24) (n := 27) rfl fun T6 H6 X6 e6 Wn6 => ?_
  have sz6 := Wn6.size
  have Fn6 := F2.same Wn6
  have K6 := K0.wr Wn6 (Or.inl (List.mem_of_getElem? (i := 0) rfl))
  have N6 := Fr.snoc X6 N4 (by omega)
  refine Wk.aloadN X6 hx (hb hby d_jdk_42_m150_27) (n := 28) rfl rfl rfl ?_
  refine Wk.aloadN X6 hx (hb hby d_jdk_42_m150_28) (n := 29) rfl rfl rfl ?_
  refine Wk.iconst X6 hx (hb hby d_jdk_42_m150_29) (n := 30) rfl (z := (0 : Int32)) rfl ?_
  refine Wk.iload X6 hx (hb hby d_jdk_42_m150_30) (n := 32) rfl rfl ?_
  have f7 := (Ab1.other Wn6 (nz (by omega)))
  have cl8_ := fun (Ls : Array Slot) (hLs : Ls.size = c.maxLocals) => Jvm.LawKit.callS X6 hx (y := (⟨"java/util/Arrays", "copyOfRange", "([BII)[B"⟩ : MethodName)) hown (mvT hZ (hw _ (List.mem_of_getElem? (i := 164) rfl))) (mvT hZ (hw _ (List.mem_of_getElem? (i := 165) rfl))) (mvT hZ (hw _ (List.mem_of_getElem? (i := 166) rfl))) (mvT hZ (hw _ (List.mem_of_getElem? (i := 167) rfl))) (by decide) (backOf (W := 1) (sbCR l Z a0 hw [] t1 k1 cs (Int32.ofNat cs.length) H6 n0 (by omega) f7 rfl (by omega)) hZ (hw _ (List.mem_of_getElem? (i := 167) rfl)) (hw _ (List.mem_of_getElem? (i := 166) rfl)) (by decide) (by decide)) (g := mkF m 32 Ls [(.int (Int32.ofNat cs.length)), (.int (0 : Int32)), (.ref t1), (.ref x1)]) rfl hLs (argsL := [(.ref t1), (.int (0 : Int32)), (.int (Int32.ofNat cs.length))]) (rest := [(.ref x1)]) (lenOf pd_12 rfl) rfl (by show 2 * 0 + _ ≤ _; exact Nat.le_of_eq rfl) (hb hby d_jdk_42_m150_32) (fun _ _ => ⟨rfl, e6, (by decide : 0 + 0 + 0 + 0 + 1 ≤ _), (by decide : 0 + 0 + 0 + 0 + 16 ≤ _)⟩)
  refine Wk.backS (n := 35) (rc := 1) (rs := 16) (Q := Q_sbCR Z t1 k1 cs (Int32.ofNat cs.length) H6 n0) (cl8_ _ (by rw [hml]; rfl)) fun vn8 T8 L8 X8 hQ8 => ?_
  clear cl8_
  obtain ⟨t_8, kb_8, rfl, M8, J8, p8_0, gt_8⟩ := hQ8
  have N8 := Fr.app N6 M8
  have sz8 := J8.1
  have K8 := K6.trans J8 (fun x hx => nomatch hx)
  have lt_p8_0 := ny p8_0.lt
  show Wk p e below _ T8 (mkF m 35 _ [(.ref t_8), (.ref x1)])
  have f9 := ((F1.other Wn6 (Or.inr (slot_ne (Or.inr (hw _ (List.mem_of_getElem? (i := 20) rfl))) (Or.inr (hw _ (List.mem_of_getElem? (i := 21) rfl))) (by decide) (t := (.array .byte)) (t' := .byte) (by decide) (by decide)))).keep J8 nin0)
  have f10 := ((E1.wr Wn6).keep J8)
  refine Wk.putF X8 hx hZ hown (host := "") (Or.inl (hw _ (List.mem_of_getElem? (i := 24) rfl))) Via.refl rfl f9 f10 (Or.inr ⟨(hw _ (List.mem_of_getElem? (i := 20) rfl)), rfl, hnm⟩) (hw _ (List.mem_of_getElem? (i := 5) rfl)) (ty := (.array .byte)) (by decide) rfl rfl (hb hby d_jdk_42_m150_35) (n := 38) rfl fun T11 H11 X11 e11 Wn11 => ?_
  have sz11 := Wn11.size
  have Fn11 := f9.same Wn11
  have K11 := K8.wr Wn11 (Or.inl (List.mem_of_getElem? (i := 0) rfl))
  have N11 := Fr.snoc X11 N8 (by omega)
  refine Wk.goto X11 hx (hb hby d_jdk_42_m150_38) (by decide) (n := 97) (by decide) ?_
  have f12 := (f10.wr Wn11)
  have f13 := ((Fn6.keep J8 nin0).other Wn11 (Or.inr (slot_ne (Or.inr (hw _ (List.mem_of_getElem? (i := 21) rfl))) (Or.inr (hw _ (List.mem_of_getElem? (i := 20) rfl))) (by decide) (t := .byte) (t' := (.array .byte)) (by decide) (by decide))))
  have f14 := (p8_0.other Wn11 (nz (by omega)))
  exact Wk.leave X11 (v := none) (fun _ => rfl) hlk e11 ⟨t_8, kb_8, rfl, N11, K11, f12, Fn11, f13, f14, (by omega)⟩ (by decide) (by decide) (fun fs hr => X11.returnOut hx Bd.returns (hb hby d_jdk_42_m150_97) hr)
def Q_sbSW (Z : State) (x1 : Addr) (a1 : Addr) (t1 : Addr) (k1 : ClassId) (cs : List Int32) (zc : Int32) (u1 : Value) (h0 : Heap) (n0 : Nat) (v : Option Value) (h : Heap) (L : List Loc) : Prop := ∃ (t : Addr) (kb : ClassId), v = none ∧ Fr n0 L ∧ Keep h0 h [x1] ∧ Exa Z h x1 "java/lang/String" ∧ Fld Z h x1 "java/lang/String" "value" "[B" (.ref t) ∧ Fld Z h x1 "java/lang/String" "coder" "B" (.int (0 : Int32)) ∧ Arv Z h t kb .byte (Int32.ofNat cs.length) (bsV cs) (.int (0 : Int32)) ∧ (h0.size ≤ t)
theorem ef_sbSW (m : MethodId) (x0 : Addr) (x1 : Addr) : entryFrame m #[(.ref x0), (.ref x1)] 2 = mkF m 0 #[.val (.ref x0), .val (.ref x1)] [] := by first | (simp [entryFrame, mkF, argsToLocals, Value.category]; done) | rfl
theorem d_jdk_42_m53_0 : decode jdk_42_method_53_code 0 = .ok (.aload_n 0, 1) := by decide +kernel
theorem d_jdk_42_m53_1 : decode jdk_42_method_53_code 1 = .ok (.aload_n 1, 1) := by decide +kernel
theorem d_jdk_42_m53_2 : decode jdk_42_method_53_code 2 = .ok (.aconst_null, 1) := by decide +kernel
theorem d_jdk_42_m53_3 : decode jdk_42_method_53_code 3 = .ok (.invokespecial 489, 3) := by decide +kernel
theorem pd_15 : parseMethodDescriptor "(Ljava/lang/AbstractStringBuilder;Ljava/lang/Void;)V" = some ⟨[(.object "java/lang/AbstractStringBuilder"), (.object "java/lang/Void")], none⟩ := by decide +kernel
theorem d_jdk_42_m53_6 : decode jdk_42_method_53_code 6 = .ok (.return_, 1) := by decide +kernel
set_option maxRecDepth 65536 in
set_option maxHeartbeats 40000000 in
theorem sbSW (l : Launch) (Z : State) (a0 : Array Value) (hw : ∀ d ∈ tables_1, d.before a0 Z = true) (ws : List Jvm.Cond) (x1 : Addr) (a1 : Addr) (t1 : Addr) (k1 : ClassId) (cs : List Int32) (zc : Int32) (u1 : Value) (h0 : Heap) (n0 : Nat) (Z0 : n0 ≤ h0.size) (E1 : Exa Z h0 x1 "java/lang/String") (F1 : Fld Z h0 x1 "java/lang/String" "value" "[B" u1) (F2 : Fld Z h0 x1 "java/lang/String" "coder" "B" (.int (0 : Int32))) (Eb1 : Exa Z h0 a1 "java/lang/StringBuilder") (Gv1 : Fld Z h0 a1 "java/lang/AbstractStringBuilder" "value" "[B" (.ref t1)) (Gc1 : Fld Z h0 a1 "java/lang/AbstractStringBuilder" "coder" "B" (.int (0 : Int32))) (Gn1 : Fld Z h0 a1 "java/lang/AbstractStringBuilder" "count" "I" (.int (Int32.ofNat cs.length))) (Ab1 : Arv Z h0 t1 k1 .byte (Int32.ofNat 16) (bsV cs) (.int (0 : Int32))) (S4 : Sta Z Z.heap "java/lang/String" "COMPACT_STRINGS" "Z" (.int zc)) (O1 : Old Z n0 h0) (hCS : ¬ zc = 0) (hN : cs.length < 16) (g1 : n0 ≤ x1) (hn1 : ¬ @Eq Nat x1 a1) (hn2 : ¬ @Eq Nat x1 t1) :
    MetFree l (⟨"java/lang/String", "<init>", "(Ljava/lang/StringBuilder;)V"⟩ : MethodName) (head1 (Jvm.Cond.code (⟨"java/lang/String", "<init>", "(Ljava/lang/StringBuilder;)V"⟩ : MethodName) jdk_42_method_53_code 2 none :: ws) ({ frames := 4, cells := 1, slots := 16, locals := 79 } : Room)) (fun a U => a = #[(.ref x1), (.ref a1)] ∧ Z.Warmed39 U.vm ∧ U.heap = h0) (fun _ _ _ _ _ => True) (fun _ U o U' => ∃ v L, o = .returned v ∧ Q_sbSW Z x1 a1 t1 k1 cs zc u1 h0 n0 v U'.heap L ∧ FrameEnd U o U' L ({ frames := 4, cells := 1, slots := 16, locals := 79 } : Room).cells ({ frames := 4, cells := 1, slots := 16, locals := 79 } : Room).slots) := by
  refine MetFree.of_bodySF (plainFor_of_name pn_java_lang_String) hisR ?_
  intro p e s m args below meth c s₁ Bd hml0 hP hK
  obtain ⟨rfl, hZ, hh⟩ := hP
  have hx := Bd.exec
  have hby := Bd.bytes
  have hlk := BodyLoose.notSynchronized Bd
  have hml : c.maxLocals = 2 := hml0
  have hown : s.vm.findClass "java/lang/String" = some m.cls := findClass_of_methodNamed Bd.named
  have hnm := (name_of_methodNamed Bd.named Bd.method).1
  have X0 : Stand p l e ({ frames := 4, cells := 1, slots := 16, locals := 79 } : Room) s m #[(.ref x1), (.ref a1)] below meth c s₁ [] 0 0 := Stand.of_body Bd
  have e0 : s₁.heap = h0 := by rw [← hh, Bd.state]; rfl
  have N0 := Fr.nil n0
  have K0 := Keep.refl h0 [x1]
  clear hh
  show Wk p e below (EndN s (Q_sbSW Z x1 a1 t1 k1 cs zc u1 h0 n0) ({ frames := 4, cells := 1, slots := 16, locals := 79 } : Room).cells ({ frames := 4, cells := 1, slots := 16, locals := 79 } : Room).slots) s₁ (entryFrame m #[(.ref x1), (.ref a1)] 2)
  rw [ef_sbSW]
  have lt_E1 := ny E1.lt
  have lt_F1 := ny F1.lt
  have lt_F2 := ny F2.lt
  have lt_Eb1 := ny Eb1.lt
  have lt_Gv1 := ny Gv1.lt
  have lt_Gc1 := ny Gc1.lt
  have lt_Gn1 := ny Gn1.lt
  have lt_Ab1 := ny Ab1.lt
  refine Wk.aloadN X0 hx (hb hby d_jdk_42_m53_0) (n := 1) rfl rfl rfl ?_
  refine Wk.aloadN X0 hx (hb hby d_jdk_42_m53_1) (n := 2) rfl rfl rfl ?_
  refine Wk.aconstNull X0 hx (hb hby d_jdk_42_m53_2) (n := 3) rfl ?_
  have cl1_ := fun (Ls : Array Slot) (hLs : Ls.size = c.maxLocals) => X0.specialBack hx (y := (⟨"java/lang/String", "<init>", "(Ljava/lang/AbstractStringBuilder;Ljava/lang/Void;)V"⟩ : MethodName)) rfl hown (mvT hZ (hw _ (List.mem_of_getElem? (i := 143) rfl))) (mvT hZ (hw _ (List.mem_of_getElem? (i := 144) rfl))) (mvT hZ (hw _ (List.mem_of_getElem? (i := 145) rfl))) (by decide) (backOf (W := 0) (sbSV l Z a0 hw [] x1 a1 t1 k1 cs zc u1 h0 n0 (by omega) E1 F1 F2 Eb1 Gv1 Gc1 Gn1 Ab1 S4 O1 hCS (by omega) (by omega) (by omega) (by omega)) hZ (hw _ (List.mem_of_getElem? (i := 145) rfl)) (hw _ (List.mem_of_getElem? (i := 6) rfl)) (by decide) (by decide)) (g := mkF m 3 Ls [.null, (.ref a1), (.ref x1)]) rfl hLs (Steps.refl _) (a := x1) (argsL := [(.ref a1), .null]) (rest := []) (lenOf pd_15 rfl) rfl (by show 2 * 0 + _ ≤ _; exact Nat.le_of_eq rfl) (hb hby d_jdk_42_m53_3) (fun _ _ => ⟨rfl, e0, (by decide : 0 + 1 ≤ _), (by decide : 0 + 16 ≤ _)⟩)
  refine Wk.back (n := 6) (rc := 1) (rs := 16) (Q := Q_sbSV Z x1 a1 t1 k1 cs zc u1 h0 n0) (cl1_ _ (by rw [hml]; rfl)) fun vn1 T1 L1 X1 hQ1 => ?_
  clear cl1_
  obtain ⟨t_1, kb_1, rfl, M1, J1, p1_0, p1_1, p1_2, p1_3, gt_1⟩ := hQ1
  have N1 := Fr.app N0 M1
  have sz1 := J1.1
  have K1 := K0.trans J1 (allS (Or.inl (List.mem_of_getElem? (i := 0) rfl)) all0)
  have lt_p1_0 := ny p1_0.lt
  have lt_p1_3 := ny p1_3.lt
  show Wk p e below _ T1 (mkF m 6 _ [])
  exact Wk.leave X1 (v := none) (fun _ => rfl) hlk rfl ⟨t_1, kb_1, rfl, N1, K1, p1_0, p1_1, p1_2, p1_3, (by omega)⟩ (by decide) (by decide) (fun fs hr => X1.returnOut hx Bd.returns (hb hby d_jdk_42_m53_6) hr)
def Q_sbTS (Z : State) (a1 : Addr) (t1 : Addr) (k1 : ClassId) (cs : List Int32) (zc : Int32) (h0 : Heap) (n0 : Nat) (v : Option Value) (h : Heap) (L : List Loc) : Prop := ∃ (r : Addr) (t : Addr) (kb : ClassId), v = some (.ref r) ∧ Fr n0 L ∧ Keep h0 h [] ∧ Exa Z h r "java/lang/String" ∧ Fld Z h r "java/lang/String" "value" "[B" (.ref t) ∧ Fld Z h r "java/lang/String" "coder" "B" (.int (0 : Int32)) ∧ Arv Z h t kb .byte (Int32.ofNat cs.length) (bsV cs) (.int (0 : Int32)) ∧ (h0.size ≤ r) ∧ (h0.size ≤ t)
theorem ef_sbTS (m : MethodId) (x0 : Addr) : entryFrame m #[(.ref x0)] 1 = mkF m 0 #[.val (.ref x0)] [] := by first | (simp [entryFrame, mkF, argsToLocals, Value.category]; done) | rfl
theorem d_jdk_67_m42_0 : decode jdk_67_method_42_code 0 = .ok (.new 18, 3) := by decide +kernel
theorem d_jdk_67_m42_3 : decode jdk_67_method_42_code 3 = .ok (.dup, 1) := by decide +kernel
theorem d_jdk_67_m42_4 : decode jdk_67_method_42_code 4 = .ok (.aload_n 0, 1) := by decide +kernel
theorem d_jdk_67_m42_5 : decode jdk_67_method_42_code 5 = .ok (.invokespecial 137, 3) := by decide +kernel
theorem pd_16 : parseMethodDescriptor "(Ljava/lang/StringBuilder;)V" = some ⟨[(.object "java/lang/StringBuilder")], none⟩ := by decide +kernel
theorem d_jdk_67_m42_8 : decode jdk_67_method_42_code 8 = .ok (.areturn, 1) := by decide +kernel
set_option maxRecDepth 65536 in
set_option maxHeartbeats 40000000 in
theorem sbTS (l : Launch) (Z : State) (a0 : Array Value) (hw : ∀ d ∈ tables_1, d.before a0 Z = true) (ws : List Jvm.Cond) (a1 : Addr) (t1 : Addr) (k1 : ClassId) (cs : List Int32) (zc : Int32) (h0 : Heap) (n0 : Nat) (Z0 : n0 ≤ h0.size) (Eb1 : Exa Z h0 a1 "java/lang/StringBuilder") (Gv1 : Fld Z h0 a1 "java/lang/AbstractStringBuilder" "value" "[B" (.ref t1)) (Gc1 : Fld Z h0 a1 "java/lang/AbstractStringBuilder" "coder" "B" (.int (0 : Int32))) (Gn1 : Fld Z h0 a1 "java/lang/AbstractStringBuilder" "count" "I" (.int (Int32.ofNat cs.length))) (Ab1 : Arv Z h0 t1 k1 .byte (Int32.ofNat 16) (bsV cs) (.int (0 : Int32))) (S4 : Sta Z Z.heap "java/lang/String" "COMPACT_STRINGS" "Z" (.int zc)) (O1 : Old Z n0 h0) (hCS : ¬ zc = 0) (hN : cs.length < 16) :
    MetFree l (⟨"java/lang/StringBuilder", "toString", "()Ljava/lang/String;"⟩ : MethodName) (head1 (Jvm.Cond.code (⟨"java/lang/StringBuilder", "toString", "()Ljava/lang/String;"⟩ : MethodName) jdk_67_method_42_code 1 (some (.object "java/lang/String")) :: ws) ({ frames := 5, cells := 2, slots := 20, locals := 93 } : Room)) (fun a U => a = #[(.ref a1)] ∧ Z.Warmed39 U.vm ∧ U.heap = h0) (fun _ _ _ _ _ => True) (fun _ U o U' => ∃ v L, o = .returned v ∧ Q_sbTS Z a1 t1 k1 cs zc h0 n0 v U'.heap L ∧ FrameEnd U o U' L ({ frames := 5, cells := 2, slots := 20, locals := 93 } : Room).cells ({ frames := 5, cells := 2, slots := 20, locals := 93 } : Room).slots) := by
  refine MetFree.of_bodySF (plainFor_of_name pn_java_lang_StringBuilder) hisR ?_
  intro p e s m args below meth c s₁ Bd hml0 hP hK
  obtain ⟨rfl, hZ, hh⟩ := hP
  have hx := Bd.exec
  have hby := Bd.bytes
  have hlk := BodyLoose.notSynchronized Bd
  have hml : c.maxLocals = 1 := hml0
  have hown : s.vm.findClass "java/lang/StringBuilder" = some m.cls := findClass_of_methodNamed Bd.named
  have hnm := (name_of_methodNamed Bd.named Bd.method).1
  have X0 : Stand p l e ({ frames := 5, cells := 2, slots := 20, locals := 93 } : Room) s m #[(.ref a1)] below meth c s₁ [] 0 0 := Stand.of_body Bd
  have e0 : s₁.heap = h0 := by rw [← hh, Bd.state]; rfl
  have N0 := Fr.nil n0
  have K0 := Keep.refl h0 []
  clear hh
  show Wk p e below (EndN s (Q_sbTS Z a1 t1 k1 cs zc h0 n0) ({ frames := 5, cells := 2, slots := 20, locals := 93 } : Room).cells ({ frames := 5, cells := 2, slots := 20, locals := 93 } : Room).slots) s₁ (entryFrame m #[(.ref a1)] 1)
  rw [ef_sbTS]
  have lt_Eb1 := ny Eb1.lt
  have lt_Gv1 := ny Gv1.lt
  have lt_Gc1 := ny Gc1.lt
  have lt_Gn1 := ny Gn1.lt
  have lt_Ab1 := ny Ab1.lt
  refine Wk.newO X0 hx hZ hown (hw _ (List.mem_of_getElem? (i := 139) rfl)) (hw _ (List.mem_of_getElem? (i := 5) rfl)) (hw _ (List.mem_of_getElem? (i := 6) rfl)) e0 (hb hby d_jdk_67_m42_0) (n := 3) rfl (by decide) (by decide) fun T1 H1 b1 gn1 X1 e1 Ex1 An1 Dn1 Yn1 => ?_
  have gn1 := nx gn1
  have sz1 := Ex1.1
  have lt1 := ny An1.lt
  have K1 := K0.ext Ex1
  have Fn1_value : Fld Z H1 b1 "java/lang/String" "value" "[B" .null := Dn1 (Or.inr (hw _ (List.mem_of_getElem? (i := 20) rfl))) (ty := (.array .byte)) (by decide)
  have Fn1_coder : Fld Z H1 b1 "java/lang/String" "coder" "B" (.int (0 : Int32)) := Dn1 (Or.inr (hw _ (List.mem_of_getElem? (i := 21) rfl))) (ty := .byte) (by decide)
  refine Wk.dup X1 hx (hb hby d_jdk_67_m42_3) (n := 4) rfl rfl ?_
  refine Wk.aloadN X1 hx (hb hby d_jdk_67_m42_4) (n := 5) rfl rfl rfl ?_
  have f2 := (Eb1.ext Ex1)
  have f3 := (Gv1.ext Ex1)
  have f4 := (Gc1.ext Ex1)
  have f5 := (Gn1.ext Ex1)
  have f6 := (Ab1.ext Ex1)
  have f7 := (O1.ext Ex1)
  have cl8_ := fun (Ls : Array Slot) (hLs : Ls.size = c.maxLocals) => X1.specialBack hx (y := (⟨"java/lang/String", "<init>", "(Ljava/lang/StringBuilder;)V"⟩ : MethodName)) rfl hown (mvT hZ (hw _ (List.mem_of_getElem? (i := 140) rfl))) (mvT hZ (hw _ (List.mem_of_getElem? (i := 141) rfl))) (mvT hZ (hw _ (List.mem_of_getElem? (i := 142) rfl))) (by decide) (backOf (W := 1) (sbSW l Z a0 hw [] b1 a1 t1 k1 cs zc .null H1 n0 (by omega) An1 Fn1_value Fn1_coder f2 f3 f4 f5 f6 S4 f7 hCS (by omega) (by omega) (by omega) (by omega)) hZ (hw _ (List.mem_of_getElem? (i := 142) rfl)) (hw _ (List.mem_of_getElem? (i := 6) rfl)) (by decide) (by decide)) (g := mkF m 5 Ls [(.ref a1), (.ref b1), (.ref b1)]) rfl hLs (Steps.refl _) (a := b1) (argsL := [(.ref a1)]) (rest := [(.ref b1)]) (lenOf pd_16 rfl) rfl (by show 2 * 0 + _ ≤ _; exact Nat.le_of_eq rfl) (hb hby d_jdk_67_m42_5) (fun _ _ => ⟨rfl, e1, (by decide : 0 + 1 + 1 ≤ _), (by decide : 0 + 4 + 16 ≤ _)⟩)
  refine Wk.back (n := 8) (rc := 1) (rs := 16) (Q := Q_sbSW Z b1 a1 t1 k1 cs zc .null H1 n0) (cl8_ _ (by rw [hml]; rfl)) fun vn8 T8 L8 X8 hQ8 => ?_
  clear cl8_
  obtain ⟨t_8, kb_8, rfl, M8, J8, p8_0, p8_1, p8_2, p8_3, gt_8⟩ := hQ8
  have N8 := Fr.app N0 M8
  have sz8 := J8.1
  have K8 := K1.trans J8 (allS (Or.inr (by omega)) all0)
  have lt_p8_0 := ny p8_0.lt
  have lt_p8_3 := ny p8_3.lt
  show Wk p e below _ T8 (mkF m 8 _ [(.ref b1)])
  exact Wk.leave X8 (v := some (.ref b1)) (fun h => by rw [Bd.returns] at h; cases h) hlk rfl ⟨b1, t_8, kb_8, rfl, N8, K8, p8_0, p8_1, p8_2, p8_3, (by omega), (by omega)⟩ (by decide) (by decide) (fun fs hr => retA X8 hx rfl Bd.returns rfl (hb hby d_jdk_67_m42_8) hr)
def Q_rmV0 (Z : State) (x1 : Addr) (b1 : Addr) (u1 : Value) (h0 : Heap) (n0 : Nat) (v : Option Value) (h : Heap) (L : List Loc) : Prop := ∃ (t : Addr) (kb : ClassId), v = none ∧ Fr n0 L ∧ Keep h0 h [x1] ∧ Exa Z h x1 "java/lang/String" ∧ Fld Z h x1 "java/lang/String" "value" "[B" (.ref t) ∧ Fld Z h x1 "java/lang/String" "coder" "B" (.int (0 : Int32)) ∧ Arv Z h t kb .byte (Int32.ofNat ([] : List Int32).length) (bsV ([] : List Int32)) (.int (0 : Int32))
theorem ef_rmV0 (m : MethodId) (x0 : Addr) (x1 : Addr) : entryFrame m #[(.ref x0), (.ref x1), (.int (0 : Int32)), (.int (0 : Int32)), .null] 6 = mkF m 0 #[.val (.ref x0), .val (.ref x1), .val (.int (0 : Int32)), .val (.int (0 : Int32)), .val .null, .unset] [] := by first | (simp [entryFrame, mkF, argsToLocals, Value.category]; done) | rfl
theorem d_jdk_42_m149_0 : decode jdk_42_method_149_code 0 = .ok (.aload_n 0, 1) := by decide +kernel
theorem d_jdk_42_m149_1 : decode jdk_42_method_149_code 1 = .ok (.invokespecial 1, 3) := by decide +kernel
theorem d_jdk_42_m149_4 : decode jdk_42_method_149_code 4 = .ok (.iload_n 3, 1) := by decide +kernel
theorem d_jdk_42_m149_5 : decode jdk_42_method_149_code 5 = .ok (.ifCond .ne 22, 3) := by decide +kernel
theorem d_jdk_42_m149_8 : decode jdk_42_method_149_code 8 = .ok (.aload_n 0, 1) := by decide +kernel
theorem d_jdk_42_m149_9 : decode jdk_42_method_149_code 9 = .ok (.ldc 7, 2) := by decide +kernel
theorem d_jdk_42_m149_11 : decode jdk_42_method_149_code 11 = .ok (.getfield 9, 3) := by decide +kernel
theorem d_jdk_42_m149_14 : decode jdk_42_method_149_code 14 = .ok (.putfield 9, 3) := by decide +kernel
theorem d_jdk_42_m149_17 : decode jdk_42_method_149_code 17 = .ok (.aload_n 0, 1) := by decide +kernel
theorem d_jdk_42_m149_18 : decode jdk_42_method_149_code 18 = .ok (.ldc 7, 2) := by decide +kernel
theorem d_jdk_42_m149_20 : decode jdk_42_method_149_code 20 = .ok (.getfield 15, 3) := by decide +kernel
theorem d_jdk_42_m149_23 : decode jdk_42_method_149_code 23 = .ok (.putfield 15, 3) := by decide +kernel
theorem d_jdk_42_m149_26 : decode jdk_42_method_149_code 26 = .ok (.return_, 1) := by decide +kernel
set_option maxRecDepth 65536 in
set_option maxHeartbeats 40000000 in
theorem rmV0 (l : Launch) (Z : State) (a0 : Array Value) (hw : ∀ d ∈ tables_1, d.before a0 Z = true) (ws : List Jvm.Cond) (x1 : Addr) (b1 : Addr) (u1 : Value) (h0 : Heap) (n0 : Nat) (Z0 : n0 ≤ h0.size) (E1 : Exa Z h0 x1 "java/lang/String") (F1 : Fld Z h0 x1 "java/lang/String" "value" "[B" u1) (F2 : Fld Z h0 x1 "java/lang/String" "coder" "B" (.int (0 : Int32))) (g1 : n0 ≤ x1) :
    MetFree l (⟨"java/lang/String", "<init>", "([CIILjava/lang/Void;)V"⟩ : MethodName) (head1 (Jvm.Cond.code (⟨"java/lang/String", "<init>", "([CIILjava/lang/Void;)V"⟩ : MethodName) jdk_42_method_149_code 6 none :: ws) ({ frames := 1, cells := 4, slots := 8, locals := 12 } : Room)) (fun a U => a = #[(.ref x1), (.ref b1), (.int (0 : Int32)), (.int (0 : Int32)), .null] ∧ Z.Warmed39 U.vm ∧ U.heap = h0 ∧ CHv Z own_EL U.vm h0 ∧ ∀ x ∈ ([x1] : List Addr), Safe Z own_EL U.vm h0 x) (fun _ _ _ _ _ => True) (fun _ U o U' => ∃ v L, o = .returned v ∧ Q_rmV0 Z x1 b1 u1 h0 n0 v U'.heap L ∧ CHr Z own_EL U.vm U.heap U'.vm U'.heap ∧ ReturnedEndW U o U' L ({ frames := 1, cells := 4, slots := 8, locals := 12 } : Room).cells ({ frames := 1, cells := 4, slots := 8, locals := 12 } : Room).slots) := by
  refine MetFree.of_bodySF (plainFor_of_name pn_java_lang_String) hisR ?_
  intro p e s m args below meth c s₁ Bd hml0 hP hK
  obtain ⟨rfl, hZ, hh, hCH, hSf⟩ := hP
  have hx := Bd.exec
  have hby := Bd.bytes
  have hlk := BodyLoose.notSynchronized Bd
  have hml : c.maxLocals = 6 := hml0
  have hown : s.vm.findClass "java/lang/String" = some m.cls := findClass_of_methodNamed Bd.named
  have hnm := (name_of_methodNamed Bd.named Bd.method).1
  have X0 : Stand p l e ({ frames := 1, cells := 4, slots := 8, locals := 12 } : Room) s m #[(.ref x1), (.ref b1), (.int (0 : Int32)), (.int (0 : Int32)), .null] below meth c s₁ [] 0 0 := Stand.of_body Bd
  have e0 : s₁.heap = h0 := by rw [← hh, Bd.state]; rfl
  have N0 := Fr.nil n0
  have K0 := Keep.refl h0 [x1]
  skip
  show Wk p e below (EndW Z own_EL s (Q_rmV0 Z x1 b1 u1 h0 n0) ({ frames := 1, cells := 4, slots := 8, locals := 12 } : Room).cells ({ frames := 1, cells := 4, slots := 8, locals := 12 } : Room).slots) s₁ (entryFrame m #[(.ref x1), (.ref b1), (.int (0 : Int32)), (.int (0 : Int32)), .null] 6)
  rw [ef_rmV0]
  have Bs0 := Base.start s h0.size
  have R0 := CHr.refl hCH
  have hELw := own_ew hw
  have Sf_x1 := hSf _ (List.mem_of_getElem? (i := 0) rfl)
  have lt_E1 := ny E1.lt
  have lt_F1 := ny F1.lt
  have lt_F2 := ny F2.lt
  refine Wk.aloadN X0 hx (hb hby d_jdk_42_m149_0) (n := 1) rfl rfl rfl ?_
  refine Wk.initO X0 hx hZ hown (hw _ (List.mem_of_getElem? (i := 15) rfl)) (hw _ (List.mem_of_getElem? (i := 16) rfl)) (hw _ (List.mem_of_getElem? (i := 17) rfl)) e0 (by rw [hml]; rfl) (hb hby d_jdk_42_m149_1) (n := 4) rfl (by decide) (w := 0) (Nat.le_of_eq rfl) (by decide) fun T1 X1 e1 => ?_
  refine Wk.iloadN X1 hx (hb hby d_jdk_42_m149_4) (n := 5) rfl rfl ?_
  have hc5_2 : (0 : Int32) = (0 : Int32) := rfl
  refine Wk.ifNo X1 hx (hb hby d_jdk_42_m149_5) (n := 8) rfl ((if0 _ _).trans (teq hc5_2).2) ?_
  refine Wk.aloadN X1 hx (hb hby d_jdk_42_m149_8) (n := 9) rfl rfl rfl ?_
  refine Wk.ldcL (text := "") X1 hx hZ hown (hw _ (List.mem_of_getElem? (i := 18) rfl)) (fun d hd => hw d (own_wS d hd)) e1 Bs0 (by omega) hELw (by decide) R0 (vs := (bsV [])) (z := (Int32.ofNat ([] : List Int32).length)) ⟨by decide, rfl⟩ (by decide) (by decide) (hb hby d_jdk_42_m149_9) (n := 11) rfl (nn := 0) (by decide) (by decide) (by decide) (by decide) fun us3 T3 H3 a3_ t3_ k3_ X3 e3 Ex3 Bs3 hZ hown An3 Fn3_c Fn3_v Vn3 A_3 R3 hne3 => ?_
  have sz3 := Ex3.1
  have lt3 := ny An3.lt
  have lu3 := ny Vn3.lt
  have K3 := K0.ext Ex3
  have f4 := (A_3.safe (ny (by omega)) Sf_x1)
  have nl3_x1 := nw (hne3 _ f4).1
  have nm3_x1 := nw (hne3 _ f4).2
  refine Wk.getF X3 hx hZ hown (host := "") (Or.inl (hw _ (List.mem_of_getElem? (i := 24) rfl))) Via.refl e3 Fn3_v (hb hby d_jdk_42_m149_11) (n := 14) rfl fun T5 X5 e5 => ?_
  have f6 := (F1.ext Ex3)
  have f7 := (E1.ext Ex3)
  refine Wk.putF X5 hx hZ hown (host := "") (Or.inl (hw _ (List.mem_of_getElem? (i := 24) rfl))) Via.refl e5 f6 f7 (Or.inr ⟨(hw _ (List.mem_of_getElem? (i := 20) rfl)), rfl, hnm⟩) (hw _ (List.mem_of_getElem? (i := 5) rfl)) (ty := (.array .byte)) (by decide) rfl rfl (hb hby d_jdk_42_m149_14) (n := 17) rfl fun T8 H8 X8 e8 Wn8 => ?_
  have sz8 := Wn8.size
  have Fn8 := f6.same Wn8
  have Sw8 := f4
  have R8 := R3.trans (CHr.wr Wn8 Sw8 R3.1)
  have K8 := K3.wr Wn8 (Or.inl (List.mem_of_getElem? (i := 0) rfl))
  have N8 := Fr.snoc X8 N0 (by omega)
  refine Wk.aloadN X8 hx (hb hby d_jdk_42_m149_17) (n := 18) rfl rfl rfl ?_
  refine Wk.ldcL (text := "") X8 hx hZ hown (hw _ (List.mem_of_getElem? (i := 18) rfl)) (fun d hd => hw d (own_wS d hd)) e8 Bs3 (by omega) hELw (by decide) R8 (vs := (bsV [])) (z := (Int32.ofNat ([] : List Int32).length)) ⟨by decide, rfl⟩ (by decide) (by decide) (hb hby d_jdk_42_m149_18) (n := 20) rfl (nn := 0) (by decide) (by decide) (by decide) (by decide) fun us9 T9 H9 a9_ t9_ k9_ X9 e9 Ex9 Bs9 hZ hown An9 Fn9_c Fn9_v Vn9 A_9 R9 hne9 => ?_
  have sz9 := Ex9.1
  have lt9 := ny An9.lt
  have lu9 := ny Vn9.lt
  have K9 := K8.ext Ex9
  have f10 := (A_9.safe (ny (by omega)) (Safe.wr Wn8 Sw8 R3.1 f4))
  have nl9_x1 := nw (hne9 _ f10).1
  have nm9_x1 := nw (hne9 _ f10).2
  refine Wk.getF X9 hx hZ hown (host := "") (Or.inl (hw _ (List.mem_of_getElem? (i := 25) rfl))) Via.refl e9 Fn9_c (hb hby d_jdk_42_m149_20) (n := 23) rfl fun T11 X11 e11 => ?_
  have f12 := (((F2.ext Ex3).other Wn8 (Or.inr (slot_ne (Or.inr (hw _ (List.mem_of_getElem? (i := 21) rfl))) (Or.inr (hw _ (List.mem_of_getElem? (i := 20) rfl))) (by decide) (t := .byte) (t' := (.array .byte)) (by decide) (by decide)))).ext Ex9)
  have f13 := ((f7.wr Wn8).ext Ex9)
  refine Wk.putFN X11 hx hZ hown (hw _ (List.mem_of_getElem? (i := 25) rfl)) Via.refl e11 f12 f13 (Or.inr ⟨(hw _ (List.mem_of_getElem? (i := 21) rfl)), rfl, hnm⟩) (hw _ (List.mem_of_getElem? (i := 5) rfl)) (ty := .byte) (by decide) (v' := (.int (0 : Int32))) rfl rfl (hb hby d_jdk_42_m149_23) (n := 26) rfl fun T14 H14 X14 e14 Wn14 => ?_
  have sz14 := Wn14.size
  have Fn14 := f12.same Wn14
  have Sw14 := f10
  have R14 := R9.trans (CHr.wr Wn14 Sw14 R9.1)
  have K14 := K9.wr Wn14 (Or.inl (List.mem_of_getElem? (i := 0) rfl))
  have N14 := Fr.snoc X14 N8 (by omega)
  have f15 := (f13.wr Wn14)
  have f16 := ((Fn8.ext Ex9).other Wn14 (Or.inr (slot_ne (Or.inr (hw _ (List.mem_of_getElem? (i := 20) rfl))) (Or.inr (hw _ (List.mem_of_getElem? (i := 21) rfl))) (by decide) (t := (.array .byte)) (t' := .byte) (by decide) (by decide))))
  have f17 := (((Vn3.other Wn8 (nz (by omega))).ext Ex9).other Wn14 (nz (by omega)))
  exact Wk.leaveW X14 Bs9 (by omega) (v := none) (fun _ => rfl) hlk e14 hh ⟨t3_, k3_, rfl, N14, K14, f15, f16, Fn14, f17⟩ hZ hELw R14 (by decide) (by decide) (fun fs hr => X14.returnOut hx Bd.returns (hb hby d_jdk_42_m149_26) hr)
def Q_rmC0 (Z : State) (x1 : Addr) (b1 : Addr) (u1 : Value) (kc1 : ClassId) (h0 : Heap) (n0 : Nat) (v : Option Value) (h : Heap) (L : List Loc) : Prop := ∃ (t : Addr) (kb : ClassId), v = none ∧ Fr n0 L ∧ Keep h0 h [x1] ∧ Exa Z h x1 "java/lang/String" ∧ Fld Z h x1 "java/lang/String" "value" "[B" (.ref t) ∧ Fld Z h x1 "java/lang/String" "coder" "B" (.int (0 : Int32)) ∧ Arv Z h t kb .byte (Int32.ofNat ([] : List Int32).length) (bsV ([] : List Int32)) (.int (0 : Int32))
theorem ef_rmC0 (m : MethodId) (x0 : Addr) (x1 : Addr) : entryFrame m #[(.ref x0), (.ref x1)] 2 = mkF m 0 #[.val (.ref x0), .val (.ref x1)] [] := by first | (simp [entryFrame, mkF, argsToLocals, Value.category]; done) | rfl
theorem d_jdk_42_m3_0 : decode jdk_42_method_3_code 0 = .ok (.aload_n 0, 1) := by decide +kernel
theorem d_jdk_42_m3_1 : decode jdk_42_method_3_code 1 = .ok (.aload_n 1, 1) := by decide +kernel
theorem d_jdk_42_m3_2 : decode jdk_42_method_3_code 2 = .ok (.iconst 0, 1) := by decide +kernel
theorem d_jdk_42_m3_3 : decode jdk_42_method_3_code 3 = .ok (.aload_n 1, 1) := by decide +kernel
theorem d_jdk_42_m3_4 : decode jdk_42_method_3_code 4 = .ok (.arraylength, 1) := by decide +kernel
theorem d_jdk_42_m3_5 : decode jdk_42_method_3_code 5 = .ok (.aconst_null, 1) := by decide +kernel
theorem d_jdk_42_m3_6 : decode jdk_42_method_3_code 6 = .ok (.invokespecial 27, 3) := by decide +kernel
theorem pd_17 : parseMethodDescriptor "([CIILjava/lang/Void;)V" = some ⟨[(.array .char), .int, .int, (.object "java/lang/Void")], none⟩ := by decide +kernel
theorem d_jdk_42_m3_9 : decode jdk_42_method_3_code 9 = .ok (.return_, 1) := by decide +kernel
set_option maxRecDepth 65536 in
set_option maxHeartbeats 40000000 in
theorem rmC0 (l : Launch) (Z : State) (a0 : Array Value) (hw : ∀ d ∈ tables_1, d.before a0 Z = true) (ws : List Jvm.Cond) (x1 : Addr) (b1 : Addr) (u1 : Value) (kc1 : ClassId) (h0 : Heap) (n0 : Nat) (Z0 : n0 ≤ h0.size) (E1 : Exa Z h0 x1 "java/lang/String") (F1 : Fld Z h0 x1 "java/lang/String" "value" "[B" u1) (F2 : Fld Z h0 x1 "java/lang/String" "coder" "B" (.int (0 : Int32))) (A1 : Arv Z h0 b1 kc1 .char (0 : Int32) [] (.int (0 : Int32))) (g1 : n0 ≤ x1) :
    MetFree l (⟨"java/lang/String", "<init>", "([C)V"⟩ : MethodName) (head1 (Jvm.Cond.code (⟨"java/lang/String", "<init>", "([C)V"⟩ : MethodName) jdk_42_method_3_code 2 none :: ws) ({ frames := 2, cells := 4, slots := 8, locals := 29 } : Room)) (fun a U => a = #[(.ref x1), (.ref b1)] ∧ Z.Warmed39 U.vm ∧ U.heap = h0 ∧ CHv Z own_EL U.vm h0 ∧ ∀ x ∈ ([x1] : List Addr), Safe Z own_EL U.vm h0 x) (fun _ _ _ _ _ => True) (fun _ U o U' => ∃ v L, o = .returned v ∧ Q_rmC0 Z x1 b1 u1 kc1 h0 n0 v U'.heap L ∧ CHr Z own_EL U.vm U.heap U'.vm U'.heap ∧ ReturnedEndW U o U' L ({ frames := 2, cells := 4, slots := 8, locals := 29 } : Room).cells ({ frames := 2, cells := 4, slots := 8, locals := 29 } : Room).slots) := by
  refine MetFree.of_bodySF (plainFor_of_name pn_java_lang_String) hisR ?_
  intro p e s m args below meth c s₁ Bd hml0 hP hK
  obtain ⟨rfl, hZ, hh, hCH, hSf⟩ := hP
  have hx := Bd.exec
  have hby := Bd.bytes
  have hlk := BodyLoose.notSynchronized Bd
  have hml : c.maxLocals = 2 := hml0
  have hown : s.vm.findClass "java/lang/String" = some m.cls := findClass_of_methodNamed Bd.named
  have hnm := (name_of_methodNamed Bd.named Bd.method).1
  have X0 : Stand p l e ({ frames := 2, cells := 4, slots := 8, locals := 29 } : Room) s m #[(.ref x1), (.ref b1)] below meth c s₁ [] 0 0 := Stand.of_body Bd
  have e0 : s₁.heap = h0 := by rw [← hh, Bd.state]; rfl
  have N0 := Fr.nil n0
  have K0 := Keep.refl h0 [x1]
  skip
  show Wk p e below (EndW Z own_EL s (Q_rmC0 Z x1 b1 u1 kc1 h0 n0) ({ frames := 2, cells := 4, slots := 8, locals := 29 } : Room).cells ({ frames := 2, cells := 4, slots := 8, locals := 29 } : Room).slots) s₁ (entryFrame m #[(.ref x1), (.ref b1)] 2)
  rw [ef_rmC0]
  have Bs0 := Base.start s h0.size
  have R0 := CHr.refl hCH
  have hELw := own_ew hw
  have Sf_x1 := hSf _ (List.mem_of_getElem? (i := 0) rfl)
  have lt_E1 := ny E1.lt
  have lt_F1 := ny F1.lt
  have lt_F2 := ny F2.lt
  have lt_A1 := ny A1.lt
  refine Wk.aloadN X0 hx (hb hby d_jdk_42_m3_0) (n := 1) rfl rfl rfl ?_
  refine Wk.aloadN X0 hx (hb hby d_jdk_42_m3_1) (n := 2) rfl rfl rfl ?_
  refine Wk.iconst X0 hx (hb hby d_jdk_42_m3_2) (n := 3) rfl (z := (0 : Int32)) rfl ?_
  refine Wk.aloadN X0 hx (hb hby d_jdk_42_m3_3) (n := 4) rfl rfl rfl ?_
  obtain ⟨cl1, Ar1, qn1, Sz1, N_1, H_1, Gn1⟩ := id A1
  refine Wk.arrlen X0 hx hZ e0 Ar1 Sz1 N_1 (hb hby d_jdk_42_m3_4) (n := 5) rfl ?_
  refine Wk.aconstNull X0 hx (hb hby d_jdk_42_m3_5) (n := 6) rfl ?_
  have cl2_ := fun (Ls : Array Slot) (hLs : Ls.size = c.maxLocals) => X0.specialBackS hx (y := (⟨"java/lang/String", "<init>", "([CIILjava/lang/Void;)V"⟩ : MethodName)) rfl hown (mvT hZ (hw _ (List.mem_of_getElem? (i := 11) rfl))) (mvT hZ (hw _ (List.mem_of_getElem? (i := 12) rfl))) (mvT hZ (hw _ (List.mem_of_getElem? (i := 14) rfl))) (by decide) (backWd (W := 0) (EL := own_EL) (rmV0 l Z a0 hw [] x1 b1 u1 h0 n0 (by omega) E1 F1 F2 (by omega)) hZ (hw _ (List.mem_of_getElem? (i := 14) rfl)) (hw _ (List.mem_of_getElem? (i := 6) rfl)) (by decide) (by decide) hELw R0.1 (List.forall_mem_cons.mpr ⟨ny (by omega), (fun _ q => nomatch q)⟩) (sfS Sf_x1 sf0)) (g := mkF m 6 Ls [.null, (.int (0 : Int32)), (.int (0 : Int32)), (.ref b1), (.ref x1)]) rfl hLs (Steps.refl _) (a := x1) (argsL := [(.ref b1), (.int (0 : Int32)), (.int (0 : Int32)), .null]) (rest := []) (lenOf pd_17 rfl) rfl (by show 2 * 0 + _ ≤ _; exact Nat.le_of_eq rfl) (hb hby d_jdk_42_m3_6) (fun _ _ => ⟨rfl, e0, (by decide : 0 + 4 ≤ _), (by decide : 0 + 8 ≤ _)⟩)
  refine Wk.backW (n := 9) (rc := 4) (rs := 8) (Q := Q_rmV0 Z x1 b1 u1 h0 n0) e0 Bs0 (by omega) hZ hown R0 (cl2_ _ (by rw [hml]; rfl)) fun vn2 us2 T2 L2 X2 Bs2 hZ hown A_2 R2 hQ2 => ?_
  obtain ⟨t_2, kb_2, rfl, M2, J2, p2_0, p2_1, p2_2, p2_3⟩ := hQ2
  have N2 := Fr.app N0 M2
  have sz2 := J2.1
  have K2 := K0.trans J2 (allS (Or.inl (List.mem_of_getElem? (i := 0) rfl)) all0)
  have lt_p2_0 := ny p2_0.lt
  have lt_p2_3 := ny p2_3.lt
  show Wk p e below _ T2 (mkF m 9 _ [])
  exact Wk.leaveW X2 Bs2 (by omega) (v := none) (fun _ => rfl) hlk rfl hh ⟨t_2, kb_2, rfl, N2, K2, p2_0, p2_1, p2_2, p2_3⟩ hZ hELw R2 (by decide) (by decide) (fun fs hr => X2.returnOut hx Bd.returns (hb hby d_jdk_42_m3_9) hr)
def Q_rmStr (Z : State) (p1 : Int32) (zc : Int32) (h0 : Heap) (n0 : Nat) (v : Option Value) (h : Heap) (L : List Loc) : Prop := ∃ (r : Addr) (t : Addr) (kb : ClassId) (cs : List Int32), v = some (.ref r) ∧ Fr n0 L ∧ Keep h0 h [] ∧ Exa Z h r "java/lang/String" ∧ Fld Z h r "java/lang/String" "value" "[B" (.ref t) ∧ Fld Z h r "java/lang/String" "coder" "B" (.int (0 : Int32)) ∧ Arv Z h t kb .byte (Int32.ofNat cs.length) (bsV cs) (.int (0 : Int32)) ∧ (h0.size ≤ r) ∧ (cs.length ≤ 3) ∧ (∀ c ∈ cs, ¬ c < 0 ∧ ¬ (255 : Int32) < c)
theorem ef_rmStr (m : MethodId) (x0 : Int32) : entryFrame m #[(.int x0)] 5 = mkF m 0 #[.val (.int x0), .unset, .unset, .unset, .unset] [] := by first | (simp [entryFrame, mkF, argsToLocals, Value.category]; done) | rfl
theorem pn_com_example_mulock_mulock_zookeeper_ContenderPathPinLaw : plainName "com/example/mulock/mulock/zookeeper/ContenderPathPinLaw" = true := by first | (simp [plainName, overriddenIn]; done) | decide +kernel
theorem d_m2_0 : decode method_2_code 0 = .ok (.iload_n 0, 1) := by decide +kernel
theorem d_m2_1 : decode method_2_code 1 = .ok (.bipush 24, 2) := by decide +kernel
theorem d_m2_3 : decode method_2_code 3 = .ok (.iushr, 1) := by decide +kernel
theorem d_m2_4 : decode method_2_code 4 = .ok (.iconst 3, 1) := by decide +kernel
theorem d_m2_5 : decode method_2_code 5 = .ok (.iand, 1) := by decide +kernel
theorem d_m2_6 : decode method_2_code 6 = .ok (.istore_n 1, 1) := by decide +kernel
theorem d_m2_7 : decode method_2_code 7 = .ok (.iload_n 0, 1) := by decide +kernel
theorem d_m2_8 : decode method_2_code 8 = .ok (.sipush 255, 3) := by decide +kernel
theorem d_m2_11 : decode method_2_code 11 = .ok (.iand, 1) := by decide +kernel
theorem d_m2_12 : decode method_2_code 12 = .ok (.i2c, 1) := by decide +kernel
theorem d_m2_13 : decode method_2_code 13 = .ok (.istore_n 2, 1) := by decide +kernel
theorem d_m2_14 : decode method_2_code 14 = .ok (.iload_n 0, 1) := by decide +kernel
theorem d_m2_15 : decode method_2_code 15 = .ok (.bipush 8, 2) := by decide +kernel
theorem d_m2_17 : decode method_2_code 17 = .ok (.iushr, 1) := by decide +kernel
theorem d_m2_18 : decode method_2_code 18 = .ok (.sipush 255, 3) := by decide +kernel
theorem d_m2_21 : decode method_2_code 21 = .ok (.iand, 1) := by decide +kernel
theorem d_m2_22 : decode method_2_code 22 = .ok (.i2c, 1) := by decide +kernel
theorem d_m2_23 : decode method_2_code 23 = .ok (.istore_n 3, 1) := by decide +kernel
theorem d_m2_24 : decode method_2_code 24 = .ok (.iload_n 0, 1) := by decide +kernel
theorem d_m2_25 : decode method_2_code 25 = .ok (.bipush 16, 2) := by decide +kernel
theorem d_m2_27 : decode method_2_code 27 = .ok (.iushr, 1) := by decide +kernel
theorem d_m2_28 : decode method_2_code 28 = .ok (.sipush 255, 3) := by decide +kernel
theorem d_m2_31 : decode method_2_code 31 = .ok (.iand, 1) := by decide +kernel
theorem d_m2_32 : decode method_2_code 32 = .ok (.i2c, 1) := by decide +kernel
theorem d_m2_33 : decode method_2_code 33 = .ok (.istore 4, 2) := by decide +kernel
theorem d_m2_35 : decode method_2_code 35 = .ok (.iload_n 1, 1) := by decide +kernel
theorem d_m2_36 : decode method_2_code 36 = .ok (.ifCond .ne 14, 3) := by decide +kernel
theorem d_m2_39 : decode method_2_code 39 = .ok (.new 7, 3) := by decide +kernel
theorem d_m2_42 : decode method_2_code 42 = .ok (.dup, 1) := by decide +kernel
theorem d_m2_43 : decode method_2_code 43 = .ok (.iconst 0, 1) := by decide +kernel
theorem d_m2_44 : decode method_2_code 44 = .ok (.newarray .char, 2) := by decide +kernel
theorem d_m2_46 : decode method_2_code 46 = .ok (.invokespecial 9, 3) := by decide +kernel
theorem pd_18 : parseMethodDescriptor "([C)V" = some ⟨[(.array .char)], none⟩ := by decide +kernel
theorem d_m2_49 : decode method_2_code 49 = .ok (.areturn, 1) := by decide +kernel
theorem d_m2_50 : decode method_2_code 50 = .ok (.iload_n 1, 1) := by decide +kernel
theorem d_m2_51 : decode method_2_code 51 = .ok (.iconst 1, 1) := by decide +kernel
theorem d_m2_52 : decode method_2_code 52 = .ok (.if_icmp .ne 18, 3) := by decide +kernel
theorem d_m2_55 : decode method_2_code 55 = .ok (.new 7, 3) := by decide +kernel
theorem d_m2_58 : decode method_2_code 58 = .ok (.dup, 1) := by decide +kernel
theorem d_m2_59 : decode method_2_code 59 = .ok (.iconst 1, 1) := by decide +kernel
theorem d_m2_60 : decode method_2_code 60 = .ok (.newarray .char, 2) := by decide +kernel
theorem d_m2_62 : decode method_2_code 62 = .ok (.dup, 1) := by decide +kernel
theorem d_m2_63 : decode method_2_code 63 = .ok (.iconst 0, 1) := by decide +kernel
theorem d_m2_64 : decode method_2_code 64 = .ok (.iload_n 2, 1) := by decide +kernel
theorem d_m2_65 : decode method_2_code 65 = .ok (.castore, 1) := by decide +kernel
theorem d_m2_66 : decode method_2_code 66 = .ok (.invokespecial 9, 3) := by decide +kernel
theorem d_m2_69 : decode method_2_code 69 = .ok (.areturn, 1) := by decide +kernel
theorem d_m2_70 : decode method_2_code 70 = .ok (.iload_n 1, 1) := by decide +kernel
theorem d_m2_71 : decode method_2_code 71 = .ok (.iconst 2, 1) := by decide +kernel
theorem d_m2_72 : decode method_2_code 72 = .ok (.if_icmp .ne 22, 3) := by decide +kernel
theorem d_m2_75 : decode method_2_code 75 = .ok (.new 7, 3) := by decide +kernel
theorem d_m2_78 : decode method_2_code 78 = .ok (.dup, 1) := by decide +kernel
theorem d_m2_79 : decode method_2_code 79 = .ok (.iconst 2, 1) := by decide +kernel
theorem d_m2_80 : decode method_2_code 80 = .ok (.newarray .char, 2) := by decide +kernel
theorem d_m2_82 : decode method_2_code 82 = .ok (.dup, 1) := by decide +kernel
theorem d_m2_83 : decode method_2_code 83 = .ok (.iconst 0, 1) := by decide +kernel
theorem d_m2_84 : decode method_2_code 84 = .ok (.iload_n 2, 1) := by decide +kernel
theorem d_m2_85 : decode method_2_code 85 = .ok (.castore, 1) := by decide +kernel
theorem d_m2_86 : decode method_2_code 86 = .ok (.dup, 1) := by decide +kernel
theorem d_m2_87 : decode method_2_code 87 = .ok (.iconst 1, 1) := by decide +kernel
theorem d_m2_88 : decode method_2_code 88 = .ok (.iload_n 3, 1) := by decide +kernel
theorem d_m2_89 : decode method_2_code 89 = .ok (.castore, 1) := by decide +kernel
theorem d_m2_90 : decode method_2_code 90 = .ok (.invokespecial 9, 3) := by decide +kernel
theorem d_m2_93 : decode method_2_code 93 = .ok (.areturn, 1) := by decide +kernel
theorem d_m2_94 : decode method_2_code 94 = .ok (.new 7, 3) := by decide +kernel
theorem d_m2_97 : decode method_2_code 97 = .ok (.dup, 1) := by decide +kernel
theorem d_m2_98 : decode method_2_code 98 = .ok (.iconst 3, 1) := by decide +kernel
theorem d_m2_99 : decode method_2_code 99 = .ok (.newarray .char, 2) := by decide +kernel
theorem d_m2_101 : decode method_2_code 101 = .ok (.dup, 1) := by decide +kernel
theorem d_m2_102 : decode method_2_code 102 = .ok (.iconst 0, 1) := by decide +kernel
theorem d_m2_103 : decode method_2_code 103 = .ok (.iload_n 2, 1) := by decide +kernel
theorem d_m2_104 : decode method_2_code 104 = .ok (.castore, 1) := by decide +kernel
theorem d_m2_105 : decode method_2_code 105 = .ok (.dup, 1) := by decide +kernel
theorem d_m2_106 : decode method_2_code 106 = .ok (.iconst 1, 1) := by decide +kernel
theorem d_m2_107 : decode method_2_code 107 = .ok (.iload_n 3, 1) := by decide +kernel
theorem d_m2_108 : decode method_2_code 108 = .ok (.castore, 1) := by decide +kernel
theorem d_m2_109 : decode method_2_code 109 = .ok (.dup, 1) := by decide +kernel
theorem d_m2_110 : decode method_2_code 110 = .ok (.iconst 2, 1) := by decide +kernel
theorem d_m2_111 : decode method_2_code 111 = .ok (.iload 4, 2) := by decide +kernel
theorem d_m2_113 : decode method_2_code 113 = .ok (.castore, 1) := by decide +kernel
theorem d_m2_114 : decode method_2_code 114 = .ok (.invokespecial 9, 3) := by decide +kernel
theorem d_m2_117 : decode method_2_code 117 = .ok (.areturn, 1) := by decide +kernel
set_option maxRecDepth 65536 in
set_option maxHeartbeats 40000000 in
theorem rmStr (l : Launch) (Z : State) (a0 : Array Value) (hw : ∀ d ∈ tables_1, d.before a0 Z = true) (ws : List Jvm.Cond) (p1 : Int32) (zc : Int32) (h0 : Heap) (n0 : Nat) (Z0 : n0 ≤ h0.size) (S4 : Sta Z Z.heap "java/lang/String" "COMPACT_STRINGS" "Z" (.int zc)) (O1 : Old Z n0 h0) (hCS : ¬ zc = 0) :
    MetFree l (⟨"com/example/mulock/mulock/zookeeper/ContenderPathPinLaw", "str", "(I)Ljava/lang/String;"⟩ : MethodName) (head1 (Jvm.Cond.code (⟨"com/example/mulock/mulock/zookeeper/ContenderPathPinLaw", "str", "(I)Ljava/lang/String;"⟩ : MethodName) method_2_code 5 (some (.object "java/lang/String")) :: ws) ({ frames := 4, cells := 6, slots := 16, locals := 66 } : Room)) (fun a U => a = #[(.int p1)] ∧ Z.Warmed39 U.vm ∧ U.heap = h0 ∧ CHv Z own_EL U.vm h0 ∧ ∀ x ∈ ([] : List Addr), Safe Z own_EL U.vm h0 x) (fun _ _ _ _ _ => True) (fun _ U o U' => ∃ v L, o = .returned v ∧ Q_rmStr Z p1 zc h0 n0 v U'.heap L ∧ CHr Z own_EL U.vm U.heap U'.vm U'.heap ∧ ReturnedEndW U o U' L ({ frames := 4, cells := 6, slots := 16, locals := 66 } : Room).cells ({ frames := 4, cells := 6, slots := 16, locals := 66 } : Room).slots) := by
  refine MetFree.of_bodySF (plainFor_of_name pn_com_example_mulock_mulock_zookeeper_ContenderPathPinLaw) hisR ?_
  intro p e s m args below meth c s₁ Bd hml0 hP hK
  obtain ⟨rfl, hZ, hh, hCH, hSf⟩ := hP
  have hx := Bd.exec
  have hby := Bd.bytes
  have hlk := BodyLoose.notSynchronized Bd
  have hml : c.maxLocals = 5 := hml0
  have hown : s.vm.findClass "com/example/mulock/mulock/zookeeper/ContenderPathPinLaw" = some m.cls := findClass_of_methodNamed Bd.named
  have hnm := (name_of_methodNamed Bd.named Bd.method).1
  have X0 : Stand p l e ({ frames := 4, cells := 6, slots := 16, locals := 66 } : Room) s m #[(.int p1)] below meth c s₁ [] 0 0 := Stand.of_body Bd
  have e0 : s₁.heap = h0 := by rw [← hh, Bd.state]; rfl
  have N0 := Fr.nil n0
  have K0 := Keep.refl h0 []
  skip
  show Wk p e below (EndW Z own_EL s (Q_rmStr Z p1 zc h0 n0) ({ frames := 4, cells := 6, slots := 16, locals := 66 } : Room).cells ({ frames := 4, cells := 6, slots := 16, locals := 66 } : Room).slots) s₁ (entryFrame m #[(.int p1)] 5)
  rw [ef_rmStr]
  have Bs0 := Base.start s h0.size
  have R0 := CHr.refl hCH
  have hELw := own_ew hw
  refine Wk.iloadN X0 hx (hb hby d_m2_0) (n := 1) rfl rfl ?_
  refine Wk.bipush X0 hx (hb hby d_m2_1) (n := 3) rfl (z := (24 : Int32)) rfl ?_
  refine Wk.iushr X0 hx (hb hby d_m2_3) (n := 4) rfl ?_
  refine Wk.iconst X0 hx (hb hby d_m2_4) (n := 5) rfl (z := (3 : Int32)) rfl ?_
  refine Wk.iand X0 hx (hb hby d_m2_5) (n := 6) rfl ?_
  refine Wk.istoreN X0 hx (hb hby d_m2_6) (n := 7) rfl (L' := #[.val (.int p1), .val (.int (((p1.toUInt32 >>> ((24 : Int32) &&& 31).toUInt32).toInt32) &&& (3 : Int32))), .unset, .unset, .unset]) rfl ?_
  refine Wk.iloadN X0 hx (hb hby d_m2_7) (n := 8) rfl rfl ?_
  refine Wk.sipush X0 hx (hb hby d_m2_8) (n := 11) rfl (z := (255 : Int32)) rfl ?_
  refine Wk.iand X0 hx (hb hby d_m2_11) (n := 12) rfl ?_
  obtain ⟨c0, q_c0⟩ : ∃ z : Int32, z = ((p1 &&& (255 : Int32)).toUInt32.toUInt16.toUInt32.toInt32) := ⟨_, rfl⟩
  have n_c0 : nar .char c0 = c0 := by rw [q_c0]; exact own_c255 _
  have r_c0 : ¬ c0 < 0 ∧ ¬ (255 : Int32) < c0 := by rw [q_c0]; exact own_r255 _
  refine Wk.i2c X0 hx (hb hby d_m2_12) (n := 13) rfl q_c0.symm ?_
  refine Wk.istoreN X0 hx (hb hby d_m2_13) (n := 14) rfl (L' := #[.val (.int p1), .val (.int (((p1.toUInt32 >>> ((24 : Int32) &&& 31).toUInt32).toInt32) &&& (3 : Int32))), .val (.int c0), .unset, .unset]) rfl ?_
  refine Wk.iloadN X0 hx (hb hby d_m2_14) (n := 15) rfl rfl ?_
  refine Wk.bipush X0 hx (hb hby d_m2_15) (n := 17) rfl (z := (8 : Int32)) rfl ?_
  refine Wk.iushr X0 hx (hb hby d_m2_17) (n := 18) rfl ?_
  refine Wk.sipush X0 hx (hb hby d_m2_18) (n := 21) rfl (z := (255 : Int32)) rfl ?_
  refine Wk.iand X0 hx (hb hby d_m2_21) (n := 22) rfl ?_
  obtain ⟨c1, q_c1⟩ : ∃ z : Int32, z = ((((p1.toUInt32 >>> ((8 : Int32) &&& 31).toUInt32).toInt32) &&& (255 : Int32)).toUInt32.toUInt16.toUInt32.toInt32) := ⟨_, rfl⟩
  have n_c1 : nar .char c1 = c1 := by rw [q_c1]; exact own_c255 _
  have r_c1 : ¬ c1 < 0 ∧ ¬ (255 : Int32) < c1 := by rw [q_c1]; exact own_r255 _
  refine Wk.i2c X0 hx (hb hby d_m2_22) (n := 23) rfl q_c1.symm ?_
  refine Wk.istoreN X0 hx (hb hby d_m2_23) (n := 24) rfl (L' := #[.val (.int p1), .val (.int (((p1.toUInt32 >>> ((24 : Int32) &&& 31).toUInt32).toInt32) &&& (3 : Int32))), .val (.int c0), .val (.int c1), .unset]) rfl ?_
  refine Wk.iloadN X0 hx (hb hby d_m2_24) (n := 25) rfl rfl ?_
  refine Wk.bipush X0 hx (hb hby d_m2_25) (n := 27) rfl (z := (16 : Int32)) rfl ?_
  refine Wk.iushr X0 hx (hb hby d_m2_27) (n := 28) rfl ?_
  refine Wk.sipush X0 hx (hb hby d_m2_28) (n := 31) rfl (z := (255 : Int32)) rfl ?_
  refine Wk.iand X0 hx (hb hby d_m2_31) (n := 32) rfl ?_
  obtain ⟨c2, q_c2⟩ : ∃ z : Int32, z = ((((p1.toUInt32 >>> ((16 : Int32) &&& 31).toUInt32).toInt32) &&& (255 : Int32)).toUInt32.toUInt16.toUInt32.toInt32) := ⟨_, rfl⟩
  have n_c2 : nar .char c2 = c2 := by rw [q_c2]; exact own_c255 _
  have r_c2 : ¬ c2 < 0 ∧ ¬ (255 : Int32) < c2 := by rw [q_c2]; exact own_r255 _
  refine Wk.i2c X0 hx (hb hby d_m2_32) (n := 33) rfl q_c2.symm ?_
  refine Wk.istore X0 hx (hb hby d_m2_33) (n := 35) rfl (L' := #[.val (.int p1), .val (.int (((p1.toUInt32 >>> ((24 : Int32) &&& 31).toUInt32).toInt32) &&& (3 : Int32))), .val (.int c0), .val (.int c1), .val (.int c2)]) rfl ?_
  refine Wk.iloadN X0 hx (hb hby d_m2_35) (n := 36) rfl rfl ?_
  by_cases hc36 : (((p1.toUInt32 >>> ((24 : Int32) &&& 31).toUInt32).toInt32) &&& (3 : Int32)) = (0 : Int32)
  ·
    refine Wk.ifNo X0 hx (hb hby d_m2_36) (n := 39) rfl ((if0 _ _).trans (teq hc36).2) ?_
    refine Wk.newO X0 hx hZ hown (hw _ (List.mem_of_getElem? (i := 4) rfl)) (hw _ (List.mem_of_getElem? (i := 5) rfl)) (hw _ (List.mem_of_getElem? (i := 6) rfl)) e0 (hb hby d_m2_39) (n := 42) rfl (by decide) (by decide) fun T1 H1 b1 gn1 X1 e1 Ex1 An1 Dn1 Yn1 => ?_
    have gn1 := nx gn1
    have sz1 := Ex1.1
    have lt1 := ny An1.lt
    have K1 := K0.ext Ex1
    have R1 := R0.trans (CHr.ext Ex1 R0.1)
    have Sf1 := Safe.ext (x := b1) Ex1 R0.1 (Safe.new (Nat.le_of_eq gn1.symm))
    have Fn1_value : Fld Z H1 b1 "java/lang/String" "value" "[B" .null := Dn1 (Or.inr (hw _ (List.mem_of_getElem? (i := 20) rfl))) (ty := (.array .byte)) (by decide)
    have Fn1_coder : Fld Z H1 b1 "java/lang/String" "coder" "B" (.int (0 : Int32)) := Dn1 (Or.inr (hw _ (List.mem_of_getElem? (i := 21) rfl))) (ty := .byte) (by decide)
    refine Wk.dup X1 hx (hb hby d_m2_42) (n := 43) rfl rfl ?_
    refine Wk.iconst X1 hx (hb hby d_m2_43) (n := 44) rfl (z := (0 : Int32)) rfl ?_
    refine Wk.newP X1 hx hZ (hw _ (List.mem_of_getElem? (i := 7) rfl)) e1 (hb hby d_m2_44) (n := 46) rfl (by decide) (cap := 0) (by decide) (by decide) (by decide) (by decide) fun T2 H2 b2 k2 gn2 X2 e2 Ex2 An2 => ?_
    have gn2 := nx gn2
    have sz2 := Ex2.1
    have K2 := K1.ext Ex2
    have R2 := R1.trans (CHr.ext Ex2 R1.1)
    have Vn2 : Arv Z H2 b2 k2 .char (0 : Int32) [] (.int (0 : Int32)) := (Arv.new An2 (by decide)).pad (pad_rep [] (.int (0 : Int32)) 0)
    have lt2 := ny Vn2.lt
    have f3 := (An1.ext Ex2)
    have f4 := (Fn1_value.ext Ex2)
    have f5 := (Fn1_coder.ext Ex2)
    have f7 := (Safe.ext Ex2 R1.1 Sf1)
    have cl6_ := fun (Ls : Array Slot) (hLs : Ls.size = c.maxLocals) => X2.specialBackS hx (y := (⟨"java/lang/String", "<init>", "([C)V"⟩ : MethodName)) rfl hown (mvT hZ (hw _ (List.mem_of_getElem? (i := 8) rfl))) (mvT hZ (hw _ (List.mem_of_getElem? (i := 9) rfl))) (mvT hZ (hw _ (List.mem_of_getElem? (i := 10) rfl))) (by decide) (backWd (W := 1) (EL := own_EL) (rmC0 l Z a0 hw [] b1 b2 .null k2 H2 n0 (by omega) f3 f4 f5 Vn2 (by omega)) hZ (hw _ (List.mem_of_getElem? (i := 10) rfl)) (hw _ (List.mem_of_getElem? (i := 6) rfl)) (by decide) (by decide) hELw R2.1 (List.forall_mem_cons.mpr ⟨ny (by omega), (fun _ q => nomatch q)⟩) (sfS f7 sf0)) (g := mkF m 46 Ls [(.ref b2), (.ref b1), (.ref b1)]) rfl hLs (Steps.refl _) (a := b1) (argsL := [(.ref b2)]) (rest := [(.ref b1)]) (lenOf pd_18 rfl) rfl (by show 2 * 0 + _ ≤ _; exact Nat.le_of_eq rfl) (hb hby d_m2_46) (fun _ _ => ⟨rfl, e2, (by decide : 0 + 1 + 1 + 4 ≤ _), (by decide : 0 + 4 + 0 + 8 ≤ _)⟩)
    refine Wk.backW (n := 49) (rc := 4) (rs := 8) (Q := Q_rmC0 Z b1 b2 .null k2 H2 n0) e2 Bs0 (by omega) hZ hown R2 (cl6_ _ (by rw [hml]; rfl)) fun vn6 us6 T6 L6 X6 Bs6 hZ hown A_6 R6 hQ6 => ?_
    obtain ⟨t_6, kb_6, rfl, M6, J6, p6_0, p6_1, p6_2, p6_3⟩ := hQ6
    have N6 := Fr.app N0 M6
    have sz6 := J6.1
    have K6 := K2.trans J6 (allS (Or.inr (by omega)) all0)
    have lt_p6_0 := ny p6_0.lt
    have lt_p6_3 := ny p6_3.lt
    show Wk p e below _ T6 (mkF m 49 _ [(.ref b1)])
    exact Wk.leaveW X6 Bs6 (by omega) (v := some (.ref b1)) (fun h => by rw [Bd.returns] at h; cases h) hlk rfl hh ⟨b1, t_6, kb_6, [], rfl, N6, K6, p6_0, p6_1, p6_2, p6_3, (by omega), (by decide), (fun _ q => nomatch q)⟩ hZ hELw R6 (by decide) (by decide) (fun fs hr => retA X6 hx rfl Bd.returns rfl (hb hby d_m2_49) hr)
  ·
    refine Wk.ifYes X0 hx (hb hby d_m2_36) ((if0 _ _).trans (feq hc36).2) (by decide) (n := 50) (by decide) ?_
    refine Wk.iloadN X0 hx (hb hby d_m2_50) (n := 51) rfl rfl ?_
    refine Wk.iconst X0 hx (hb hby d_m2_51) (n := 52) rfl (z := (1 : Int32)) rfl ?_
    by_cases hc52 : (((p1.toUInt32 >>> ((24 : Int32) &&& 31).toUInt32).toInt32) &&& (3 : Int32)) = (1 : Int32)
    ·
      refine Wk.icmpNo X0 hx (hb hby d_m2_52) (n := 55) rfl (teq hc52).2 ?_
      refine Wk.newO X0 hx hZ hown (hw _ (List.mem_of_getElem? (i := 4) rfl)) (hw _ (List.mem_of_getElem? (i := 5) rfl)) (hw _ (List.mem_of_getElem? (i := 6) rfl)) e0 (hb hby d_m2_55) (n := 58) rfl (by decide) (by decide) fun T8 H8 b8 gn8 X8 e8 Ex8 An8 Dn8 Yn8 => ?_
      have gn8 := nx gn8
      have sz8 := Ex8.1
      have lt8 := ny An8.lt
      have K8 := K0.ext Ex8
      have R8 := R0.trans (CHr.ext Ex8 R0.1)
      have Sf8 := Safe.ext (x := b8) Ex8 R0.1 (Safe.new (Nat.le_of_eq gn8.symm))
      have Fn8_value : Fld Z H8 b8 "java/lang/String" "value" "[B" .null := Dn8 (Or.inr (hw _ (List.mem_of_getElem? (i := 20) rfl))) (ty := (.array .byte)) (by decide)
      have Fn8_coder : Fld Z H8 b8 "java/lang/String" "coder" "B" (.int (0 : Int32)) := Dn8 (Or.inr (hw _ (List.mem_of_getElem? (i := 21) rfl))) (ty := .byte) (by decide)
      refine Wk.dup X8 hx (hb hby d_m2_58) (n := 59) rfl rfl ?_
      refine Wk.iconst X8 hx (hb hby d_m2_59) (n := 60) rfl (z := (1 : Int32)) rfl ?_
      refine Wk.newP X8 hx hZ (hw _ (List.mem_of_getElem? (i := 7) rfl)) e8 (hb hby d_m2_60) (n := 62) rfl (by decide) (cap := 1) (by decide) (by decide) (by decide) (by decide) fun T9 H9 b9 k9 gn9 X9 e9 Ex9 An9 => ?_
      have gn9 := nx gn9
      have sz9 := Ex9.1
      have K9 := K8.ext Ex9
      have R9 := R8.trans (CHr.ext Ex9 R8.1)
      have Vn9 : Arv Z H9 b9 k9 .char (1 : Int32) [(.int (0 : Int32))] (.int (0 : Int32)) := (Arv.new An9 (by decide)).pad (pad_rep [] (.int (0 : Int32)) 1)
      have lt9 := ny Vn9.lt
      refine Wk.dup X9 hx (hb hby d_m2_62) (n := 63) rfl rfl ?_
      refine Wk.iconst X9 hx (hb hby d_m2_63) (n := 64) rfl (z := (0 : Int32)) rfl ?_
      refine Wk.iloadN X9 hx (hb hby d_m2_64) (n := 65) rfl rfl ?_
      obtain ⟨cl10, Ar10, qn10, Sz10, N_10, H_10, Gn10⟩ := id Vn9
      have hin10 : ¬ ((0 : Int32) < 0 ∨ cl10.slots.size ≤ ((0 : Int32)).toNatClampNeg) := inb_of Sz10 ⟨by decide, by decide⟩
      refine Wk.stC X9 hx hZ e9 Ar10 hin10 (hb hby d_m2_65) (n := 66) rfl fun T10 H10 X10 e10 Wn10 => ?_
      have Vn10 := Arv.set Ar10 qn10 Sz10 N_10 H_10 Gn10 (fits_nar_char _) Wn10 0 rfl (Nat.le_of_ble_eq_true rfl)
      have Un10 : Arv Z H10 b9 k9 .char (1 : Int32) [(.int c0)] (.int (0 : Int32)) := by have q := Vn10; rw [n_c0] at q; exact q
      have sz10 := Wn10.size
      have Sw10 := (Safe.arv (EL := own_EL) hZ.alike Vn9 (by simp))
      have R10 := R9.trans (CHr.wr Wn10 Sw10 R9.1)
      have K10 := K9.wr Wn10 (Or.inr (by omega))
      have N10 := Fr.snoc X10 N0 (by omega)
      have f12 := ((An8.ext Ex9).wr Wn10)
      have f13 := ((Fn8_value.ext Ex9).other Wn10 (Or.inl (nz (by omega))))
      have f14 := ((Fn8_coder.ext Ex9).other Wn10 (Or.inl (nz (by omega))))
      have f15 := (((O1.ext Ex8).ext Ex9).wr Wn10 (by omega))
      have hp16 : ∀ c ∈ ([c0] : List Int32), ¬ c < 0 ∧ ¬ (255 : Int32) < c := List.forall_mem_cons.mpr ⟨r_c0, (fun _ q => nomatch q)⟩
      have cl11_ := fun (Ls : Array Slot) (hLs : Ls.size = c.maxLocals) => X10.specialBack hx (y := (⟨"java/lang/String", "<init>", "([C)V"⟩ : MethodName)) rfl hown (mvT hZ (hw _ (List.mem_of_getElem? (i := 8) rfl))) (mvT hZ (hw _ (List.mem_of_getElem? (i := 9) rfl))) (mvT hZ (hw _ (List.mem_of_getElem? (i := 10) rfl))) (by decide) (StrChars.Road.backV (n0 := n0) (h := H10) (x := b8) (W := 1) hZ (fun d hd => hw d (own_ws d hd)) (kI := 4) (hw _ (List.mem_of_getElem? (i := 5) rfl)) (cs := [c0]) (bs := (([c0] : List Int32).map (fun c => c.toInt8.toInt32))) (n := 1) (by omega) (by omega) f12 f13 f14 Un10 (Sta.ext f15.2 S4) hCS rfl rfl (by decide) (by decide) hp16 rfl (by decide) (by decide)) (g := mkF m 66 Ls [(.ref b9), (.ref b8), (.ref b8)]) rfl hLs (Steps.refl _) (a := b8) (argsL := [(.ref b9)]) (rest := [(.ref b8)]) (lenOf pd_18 rfl) rfl (by show 2 * 0 + _ ≤ _; exact Nat.le_of_eq rfl) (hb hby d_m2_66) (fun _ _ => ⟨rfl, e10, (by decide : 0 + 1 + 1 + 1 ≤ _), (by decide : 0 + 4 + 1 + 1 ≤ _)⟩)
      refine Wk.back (n := 69) (rc := 1) (rs := 1) (Q := StrChars.Road.QV Z b8 (1 : Int32) (([c0] : List Int32).map (fun c => c.toInt8.toInt32)) H10 n0) (cl11_ _ (by rw [hml]; rfl)) fun vn11 T11 L11 X11 hQ11 => ?_
      clear cl11_
      obtain ⟨rfl, M11, J11, p11_0, p11_1, t_11, kb_11, _, ge_11, nt_11, p11_2, p11_3⟩ := hQ11
      have nt_11 := nw nt_11
      have N11 := Fr.app N10 M11
      have sz11 := J11.1
      have f17 := (Safe.wr Wn10 Sw10 R9.1 (Safe.ext Ex9 R8.1 Sf8))
      have hs11 : ∀ x ∈ ([b8] : List Addr), Safe Z own_EL s.vm H10 x := (sfS f17 sf0)
      have R11 := R10.trans (CHr.keep J11 hs11 R10.1)
      have K11 := K10.trans J11 (allS (Or.inr (by omega)) all0)
      have lt_p11 := ny p11_3.lt
      show Wk p e below _ T11 (mkF m 69 _ [(.ref b8)])
      exact Wk.leaveW X11 Bs0 (by omega) (v := some (.ref b8)) (fun h => by rw [Bd.returns] at h; cases h) hlk rfl hh ⟨b8, t_11, kb_11, [c0], rfl, N11, K11, p11_0, p11_2, p11_1, p11_3, (by omega), (Nat.le_of_ble_eq_true rfl), hp16⟩ hZ hELw R11 (by decide) (by decide) (fun fs hr => retA X11 hx rfl Bd.returns rfl (hb hby d_m2_69) hr)
    ·
      refine Wk.icmpYes X0 hx (hb hby d_m2_52) (feq hc52).2 (by decide) (n := 70) (by decide) ?_
      refine Wk.iloadN X0 hx (hb hby d_m2_70) (n := 71) rfl rfl ?_
      refine Wk.iconst X0 hx (hb hby d_m2_71) (n := 72) rfl (z := (2 : Int32)) rfl ?_
      by_cases hc72 : (((p1.toUInt32 >>> ((24 : Int32) &&& 31).toUInt32).toInt32) &&& (3 : Int32)) = (2 : Int32)
      ·
        refine Wk.icmpNo X0 hx (hb hby d_m2_72) (n := 75) rfl (teq hc72).2 ?_
        refine Wk.newO X0 hx hZ hown (hw _ (List.mem_of_getElem? (i := 4) rfl)) (hw _ (List.mem_of_getElem? (i := 5) rfl)) (hw _ (List.mem_of_getElem? (i := 6) rfl)) e0 (hb hby d_m2_75) (n := 78) rfl (by decide) (by decide) fun T18 H18 b18 gn18 X18 e18 Ex18 An18 Dn18 Yn18 => ?_
        have gn18 := nx gn18
        have sz18 := Ex18.1
        have lt18 := ny An18.lt
        have K18 := K0.ext Ex18
        have R18 := R0.trans (CHr.ext Ex18 R0.1)
        have Sf18 := Safe.ext (x := b18) Ex18 R0.1 (Safe.new (Nat.le_of_eq gn18.symm))
        have Fn18_value : Fld Z H18 b18 "java/lang/String" "value" "[B" .null := Dn18 (Or.inr (hw _ (List.mem_of_getElem? (i := 20) rfl))) (ty := (.array .byte)) (by decide)
        have Fn18_coder : Fld Z H18 b18 "java/lang/String" "coder" "B" (.int (0 : Int32)) := Dn18 (Or.inr (hw _ (List.mem_of_getElem? (i := 21) rfl))) (ty := .byte) (by decide)
        refine Wk.dup X18 hx (hb hby d_m2_78) (n := 79) rfl rfl ?_
        refine Wk.iconst X18 hx (hb hby d_m2_79) (n := 80) rfl (z := (2 : Int32)) rfl ?_
        refine Wk.newP X18 hx hZ (hw _ (List.mem_of_getElem? (i := 7) rfl)) e18 (hb hby d_m2_80) (n := 82) rfl (by decide) (cap := 2) (by decide) (by decide) (by decide) (by decide) fun T19 H19 b19 k19 gn19 X19 e19 Ex19 An19 => ?_
        have gn19 := nx gn19
        have sz19 := Ex19.1
        have K19 := K18.ext Ex19
        have R19 := R18.trans (CHr.ext Ex19 R18.1)
        have Vn19 : Arv Z H19 b19 k19 .char (2 : Int32) [(.int (0 : Int32)), (.int (0 : Int32))] (.int (0 : Int32)) := (Arv.new An19 (by decide)).pad (pad_rep [] (.int (0 : Int32)) 2)
        have lt19 := ny Vn19.lt
        refine Wk.dup X19 hx (hb hby d_m2_82) (n := 83) rfl rfl ?_
        refine Wk.iconst X19 hx (hb hby d_m2_83) (n := 84) rfl (z := (0 : Int32)) rfl ?_
        refine Wk.iloadN X19 hx (hb hby d_m2_84) (n := 85) rfl rfl ?_
        obtain ⟨cl20, Ar20, qn20, Sz20, N_20, H_20, Gn20⟩ := id Vn19
        have hin20 : ¬ ((0 : Int32) < 0 ∨ cl20.slots.size ≤ ((0 : Int32)).toNatClampNeg) := inb_of Sz20 ⟨by decide, by decide⟩
        refine Wk.stC X19 hx hZ e19 Ar20 hin20 (hb hby d_m2_85) (n := 86) rfl fun T20 H20 X20 e20 Wn20 => ?_
        have Vn20 := Arv.set Ar20 qn20 Sz20 N_20 H_20 Gn20 (fits_nar_char _) Wn20 0 rfl (Nat.le_of_ble_eq_true rfl)
        have Un20 : Arv Z H20 b19 k19 .char (2 : Int32) [(.int c0), (.int (0 : Int32))] (.int (0 : Int32)) := by have q := Vn20; rw [n_c0] at q; exact q
        have sz20 := Wn20.size
        have Sw20 := (Safe.arv (EL := own_EL) hZ.alike Vn19 (by simp))
        have R20 := R19.trans (CHr.wr Wn20 Sw20 R19.1)
        have K20 := K19.wr Wn20 (Or.inr (by omega))
        have N20 := Fr.snoc X20 N0 (by omega)
        refine Wk.dup X20 hx (hb hby d_m2_86) (n := 87) rfl rfl ?_
        refine Wk.iconst X20 hx (hb hby d_m2_87) (n := 88) rfl (z := (1 : Int32)) rfl ?_
        refine Wk.iloadN X20 hx (hb hby d_m2_88) (n := 89) rfl rfl ?_
        obtain ⟨cl21, Ar21, qn21, Sz21, N_21, H_21, Gn21⟩ := id Un20
        have hin21 : ¬ ((1 : Int32) < 0 ∨ cl21.slots.size ≤ ((1 : Int32)).toNatClampNeg) := inb_of Sz21 ⟨by decide, by decide⟩
        refine Wk.stC X20 hx hZ e20 Ar21 hin21 (hb hby d_m2_89) (n := 90) rfl fun T21 H21 X21 e21 Wn21 => ?_
        have Vn21 := Arv.set Ar21 qn21 Sz21 N_21 H_21 Gn21 (fits_nar_char _) Wn21 1 rfl (Nat.le_of_ble_eq_true rfl)
        have Un21 : Arv Z H21 b19 k19 .char (2 : Int32) [(.int c0), (.int c1)] (.int (0 : Int32)) := by have q := Vn21; rw [n_c1] at q; exact q
        have sz21 := Wn21.size
        have Sw21 := (Safe.arv (EL := own_EL) hZ.alike Un20 (by simp))
        have R21 := R20.trans (CHr.wr Wn21 Sw21 R20.1)
        have K21 := K20.wr Wn21 (Or.inr (by omega))
        have N21 := Fr.snoc X21 N20 (by omega)
        have f23 := (((An18.ext Ex19).wr Wn20).wr Wn21)
        have f24 := (((Fn18_value.ext Ex19).other Wn20 (Or.inl (nz (by omega)))).other Wn21 (Or.inl (nz (by omega))))
        have f25 := (((Fn18_coder.ext Ex19).other Wn20 (Or.inl (nz (by omega)))).other Wn21 (Or.inl (nz (by omega))))
        have f26 := ((((O1.ext Ex18).ext Ex19).wr Wn20 (by omega)).wr Wn21 (by omega))
        have hp27 : ∀ c ∈ ([c0, c1] : List Int32), ¬ c < 0 ∧ ¬ (255 : Int32) < c := List.forall_mem_cons.mpr ⟨r_c0, List.forall_mem_cons.mpr ⟨r_c1, (fun _ q => nomatch q)⟩⟩
        have cl22_ := fun (Ls : Array Slot) (hLs : Ls.size = c.maxLocals) => X21.specialBack hx (y := (⟨"java/lang/String", "<init>", "([C)V"⟩ : MethodName)) rfl hown (mvT hZ (hw _ (List.mem_of_getElem? (i := 8) rfl))) (mvT hZ (hw _ (List.mem_of_getElem? (i := 9) rfl))) (mvT hZ (hw _ (List.mem_of_getElem? (i := 10) rfl))) (by decide) (StrChars.Road.backV (n0 := n0) (h := H21) (x := b18) (W := 1) hZ (fun d hd => hw d (own_ws d hd)) (kI := 4) (hw _ (List.mem_of_getElem? (i := 5) rfl)) (cs := [c0, c1]) (bs := (([c0, c1] : List Int32).map (fun c => c.toInt8.toInt32))) (n := 2) (by omega) (by omega) f23 f24 f25 Un21 (Sta.ext f26.2 S4) hCS rfl rfl (by decide) (by decide) hp27 rfl (by decide) (by decide)) (g := mkF m 90 Ls [(.ref b19), (.ref b18), (.ref b18)]) rfl hLs (Steps.refl _) (a := b18) (argsL := [(.ref b19)]) (rest := [(.ref b18)]) (lenOf pd_18 rfl) rfl (by show 2 * 0 + _ ≤ _; exact Nat.le_of_eq rfl) (hb hby d_m2_90) (fun _ _ => ⟨rfl, e21, (by decide : 0 + 1 + 1 + 1 ≤ _), (by decide : 0 + 4 + 2 + 2 ≤ _)⟩)
        refine Wk.back (n := 93) (rc := 1) (rs := 2) (Q := StrChars.Road.QV Z b18 (2 : Int32) (([c0, c1] : List Int32).map (fun c => c.toInt8.toInt32)) H21 n0) (cl22_ _ (by rw [hml]; rfl)) fun vn22 T22 L22 X22 hQ22 => ?_
        clear cl22_
        obtain ⟨rfl, M22, J22, p22_0, p22_1, t_22, kb_22, _, ge_22, nt_22, p22_2, p22_3⟩ := hQ22
        have nt_22 := nw nt_22
        have N22 := Fr.app N21 M22
        have sz22 := J22.1
        have f28 := (Safe.wr Wn21 Sw21 R20.1 (Safe.wr Wn20 Sw20 R19.1 (Safe.ext Ex19 R18.1 Sf18)))
        have hs22 : ∀ x ∈ ([b18] : List Addr), Safe Z own_EL s.vm H21 x := (sfS f28 sf0)
        have R22 := R21.trans (CHr.keep J22 hs22 R21.1)
        have K22 := K21.trans J22 (allS (Or.inr (by omega)) all0)
        have lt_p22 := ny p22_3.lt
        show Wk p e below _ T22 (mkF m 93 _ [(.ref b18)])
        exact Wk.leaveW X22 Bs0 (by omega) (v := some (.ref b18)) (fun h => by rw [Bd.returns] at h; cases h) hlk rfl hh ⟨b18, t_22, kb_22, [c0, c1], rfl, N22, K22, p22_0, p22_2, p22_1, p22_3, (by omega), (Nat.le_of_ble_eq_true rfl), hp27⟩ hZ hELw R22 (by decide) (by decide) (fun fs hr => retA X22 hx rfl Bd.returns rfl (hb hby d_m2_93) hr)
      ·
        refine Wk.icmpYes X0 hx (hb hby d_m2_72) (feq hc72).2 (by decide) (n := 94) (by decide) ?_
        refine Wk.newO X0 hx hZ hown (hw _ (List.mem_of_getElem? (i := 4) rfl)) (hw _ (List.mem_of_getElem? (i := 5) rfl)) (hw _ (List.mem_of_getElem? (i := 6) rfl)) e0 (hb hby d_m2_94) (n := 97) rfl (by decide) (by decide) fun T29 H29 b29 gn29 X29 e29 Ex29 An29 Dn29 Yn29 => ?_
        have gn29 := nx gn29
        have sz29 := Ex29.1
        have lt29 := ny An29.lt
        have K29 := K0.ext Ex29
        have R29 := R0.trans (CHr.ext Ex29 R0.1)
        have Sf29 := Safe.ext (x := b29) Ex29 R0.1 (Safe.new (Nat.le_of_eq gn29.symm))
        have Fn29_value : Fld Z H29 b29 "java/lang/String" "value" "[B" .null := Dn29 (Or.inr (hw _ (List.mem_of_getElem? (i := 20) rfl))) (ty := (.array .byte)) (by decide)
        have Fn29_coder : Fld Z H29 b29 "java/lang/String" "coder" "B" (.int (0 : Int32)) := Dn29 (Or.inr (hw _ (List.mem_of_getElem? (i := 21) rfl))) (ty := .byte) (by decide)
        refine Wk.dup X29 hx (hb hby d_m2_97) (n := 98) rfl rfl ?_
        refine Wk.iconst X29 hx (hb hby d_m2_98) (n := 99) rfl (z := (3 : Int32)) rfl ?_
        refine Wk.newP X29 hx hZ (hw _ (List.mem_of_getElem? (i := 7) rfl)) e29 (hb hby d_m2_99) (n := 101) rfl (by decide) (cap := 3) (by decide) (by decide) (by decide) (by decide) fun T30 H30 b30 k30 gn30 X30 e30 Ex30 An30 => ?_
        have gn30 := nx gn30
        have sz30 := Ex30.1
        have K30 := K29.ext Ex30
        have R30 := R29.trans (CHr.ext Ex30 R29.1)
        have Vn30 : Arv Z H30 b30 k30 .char (3 : Int32) [(.int (0 : Int32)), (.int (0 : Int32)), (.int (0 : Int32))] (.int (0 : Int32)) := (Arv.new An30 (by decide)).pad (pad_rep [] (.int (0 : Int32)) 3)
        have lt30 := ny Vn30.lt
        refine Wk.dup X30 hx (hb hby d_m2_101) (n := 102) rfl rfl ?_
        refine Wk.iconst X30 hx (hb hby d_m2_102) (n := 103) rfl (z := (0 : Int32)) rfl ?_
        refine Wk.iloadN X30 hx (hb hby d_m2_103) (n := 104) rfl rfl ?_
        obtain ⟨cl31, Ar31, qn31, Sz31, N_31, H_31, Gn31⟩ := id Vn30
        have hin31 : ¬ ((0 : Int32) < 0 ∨ cl31.slots.size ≤ ((0 : Int32)).toNatClampNeg) := inb_of Sz31 ⟨by decide, by decide⟩
        refine Wk.stC X30 hx hZ e30 Ar31 hin31 (hb hby d_m2_104) (n := 105) rfl fun T31 H31 X31 e31 Wn31 => ?_
        have Vn31 := Arv.set Ar31 qn31 Sz31 N_31 H_31 Gn31 (fits_nar_char _) Wn31 0 rfl (Nat.le_of_ble_eq_true rfl)
        have Un31 : Arv Z H31 b30 k30 .char (3 : Int32) [(.int c0), (.int (0 : Int32)), (.int (0 : Int32))] (.int (0 : Int32)) := by have q := Vn31; rw [n_c0] at q; exact q
        have sz31 := Wn31.size
        have Sw31 := (Safe.arv (EL := own_EL) hZ.alike Vn30 (by simp))
        have R31 := R30.trans (CHr.wr Wn31 Sw31 R30.1)
        have K31 := K30.wr Wn31 (Or.inr (by omega))
        have N31 := Fr.snoc X31 N0 (by omega)
        refine Wk.dup X31 hx (hb hby d_m2_105) (n := 106) rfl rfl ?_
        refine Wk.iconst X31 hx (hb hby d_m2_106) (n := 107) rfl (z := (1 : Int32)) rfl ?_
        refine Wk.iloadN X31 hx (hb hby d_m2_107) (n := 108) rfl rfl ?_
        obtain ⟨cl32, Ar32, qn32, Sz32, N_32, H_32, Gn32⟩ := id Un31
        have hin32 : ¬ ((1 : Int32) < 0 ∨ cl32.slots.size ≤ ((1 : Int32)).toNatClampNeg) := inb_of Sz32 ⟨by decide, by decide⟩
        refine Wk.stC X31 hx hZ e31 Ar32 hin32 (hb hby d_m2_108) (n := 109) rfl fun T32 H32 X32 e32 Wn32 => ?_
        have Vn32 := Arv.set Ar32 qn32 Sz32 N_32 H_32 Gn32 (fits_nar_char _) Wn32 1 rfl (Nat.le_of_ble_eq_true rfl)
        have Un32 : Arv Z H32 b30 k30 .char (3 : Int32) [(.int c0), (.int c1), (.int (0 : Int32))] (.int (0 : Int32)) := by have q := Vn32; rw [n_c1] at q; exact q
        have sz32 := Wn32.size
        have Sw32 := (Safe.arv (EL := own_EL) hZ.alike Un31 (by simp))
        have R32 := R31.trans (CHr.wr Wn32 Sw32 R31.1)
        have K32 := K31.wr Wn32 (Or.inr (by omega))
        have N32 := Fr.snoc X32 N31 (by omega)
        refine Wk.dup X32 hx (hb hby d_m2_109) (n := 110) rfl rfl ?_
        refine Wk.iconst X32 hx (hb hby d_m2_110) (n := 111) rfl (z := (2 : Int32)) rfl ?_
        refine Wk.iload X32 hx (hb hby d_m2_111) (n := 113) rfl rfl ?_
        obtain ⟨cl33, Ar33, qn33, Sz33, N_33, H_33, Gn33⟩ := id Un32
        have hin33 : ¬ ((2 : Int32) < 0 ∨ cl33.slots.size ≤ ((2 : Int32)).toNatClampNeg) := inb_of Sz33 ⟨by decide, by decide⟩
        refine Wk.stC X32 hx hZ e32 Ar33 hin33 (hb hby d_m2_113) (n := 114) rfl fun T33 H33 X33 e33 Wn33 => ?_
        have Vn33 := Arv.set Ar33 qn33 Sz33 N_33 H_33 Gn33 (fits_nar_char _) Wn33 2 rfl (Nat.le_of_ble_eq_true rfl)
        have Un33 : Arv Z H33 b30 k30 .char (3 : Int32) [(.int c0), (.int c1), (.int c2)] (.int (0 : Int32)) := by have q := Vn33; rw [n_c2] at q; exact q
        have sz33 := Wn33.size
        have Sw33 := (Safe.arv (EL := own_EL) hZ.alike Un32 (by simp))
        have R33 := R32.trans (CHr.wr Wn33 Sw33 R32.1)
        have K33 := K32.wr Wn33 (Or.inr (by omega))
        have N33 := Fr.snoc X33 N32 (by omega)
        have f35 := ((((An29.ext Ex30).wr Wn31).wr Wn32).wr Wn33)
        have f36 := ((((Fn29_value.ext Ex30).other Wn31 (Or.inl (nz (by omega)))).other Wn32 (Or.inl (nz (by omega)))).other Wn33 (Or.inl (nz (by omega))))
        have f37 := ((((Fn29_coder.ext Ex30).other Wn31 (Or.inl (nz (by omega)))).other Wn32 (Or.inl (nz (by omega)))).other Wn33 (Or.inl (nz (by omega))))
        have f38 := (((((O1.ext Ex29).ext Ex30).wr Wn31 (by omega)).wr Wn32 (by omega)).wr Wn33 (by omega))
        have hp39 : ∀ c ∈ ([c0, c1, c2] : List Int32), ¬ c < 0 ∧ ¬ (255 : Int32) < c := List.forall_mem_cons.mpr ⟨r_c0, List.forall_mem_cons.mpr ⟨r_c1, List.forall_mem_cons.mpr ⟨r_c2, (fun _ q => nomatch q)⟩⟩⟩
        have cl34_ := fun (Ls : Array Slot) (hLs : Ls.size = c.maxLocals) => X33.specialBack hx (y := (⟨"java/lang/String", "<init>", "([C)V"⟩ : MethodName)) rfl hown (mvT hZ (hw _ (List.mem_of_getElem? (i := 8) rfl))) (mvT hZ (hw _ (List.mem_of_getElem? (i := 9) rfl))) (mvT hZ (hw _ (List.mem_of_getElem? (i := 10) rfl))) (by decide) (StrChars.Road.backV (n0 := n0) (h := H33) (x := b29) (W := 1) hZ (fun d hd => hw d (own_ws d hd)) (kI := 4) (hw _ (List.mem_of_getElem? (i := 5) rfl)) (cs := [c0, c1, c2]) (bs := (([c0, c1, c2] : List Int32).map (fun c => c.toInt8.toInt32))) (n := 3) (by omega) (by omega) f35 f36 f37 Un33 (Sta.ext f38.2 S4) hCS rfl rfl (by decide) (by decide) hp39 rfl (by decide) (by decide)) (g := mkF m 114 Ls [(.ref b30), (.ref b29), (.ref b29)]) rfl hLs (Steps.refl _) (a := b29) (argsL := [(.ref b30)]) (rest := [(.ref b29)]) (lenOf pd_18 rfl) rfl (by show 2 * 0 + _ ≤ _; exact Nat.le_of_eq rfl) (hb hby d_m2_114) (fun _ _ => ⟨rfl, e33, (by decide : 0 + 1 + 1 + 1 ≤ _), (by decide : 0 + 4 + 3 + 3 ≤ _)⟩)
        refine Wk.back (n := 117) (rc := 1) (rs := 3) (Q := StrChars.Road.QV Z b29 (3 : Int32) (([c0, c1, c2] : List Int32).map (fun c => c.toInt8.toInt32)) H33 n0) (cl34_ _ (by rw [hml]; rfl)) fun vn34 T34 L34 X34 hQ34 => ?_
        clear cl34_
        obtain ⟨rfl, M34, J34, p34_0, p34_1, t_34, kb_34, _, ge_34, nt_34, p34_2, p34_3⟩ := hQ34
        have nt_34 := nw nt_34
        have N34 := Fr.app N33 M34
        have sz34 := J34.1
        have f40 := (Safe.wr Wn33 Sw33 R32.1 (Safe.wr Wn32 Sw32 R31.1 (Safe.wr Wn31 Sw31 R30.1 (Safe.ext Ex30 R29.1 Sf29))))
        have hs34 : ∀ x ∈ ([b29] : List Addr), Safe Z own_EL s.vm H33 x := (sfS f40 sf0)
        have R34 := R33.trans (CHr.keep J34 hs34 R33.1)
        have K34 := K33.trans J34 (allS (Or.inr (by omega)) all0)
        have lt_p34 := ny p34_3.lt
        show Wk p e below _ T34 (mkF m 117 _ [(.ref b29)])
        exact Wk.leaveW X34 Bs0 (by omega) (v := some (.ref b29)) (fun h => by rw [Bd.returns] at h; cases h) hlk rfl hh ⟨b29, t_34, kb_34, [c0, c1, c2], rfl, N34, K34, p34_0, p34_2, p34_1, p34_3, (by omega), (Nat.le_of_ble_eq_true rfl), hp39⟩ hZ hELw R34 (by decide) (by decide) (fun fs hr => retA X34 hx rfl Bd.returns rfl (hb hby d_m2_117) hr)
def Q_rmRI (Z : State) (a1 : Addr) (h0 : Heap) (n0 : Nat) (v : Option Value) (h : Heap) (L : List Loc) : Prop := v = none ∧ Fr n0 L ∧ h = h0
theorem ef_rmRI (m : MethodId) (x0 : Addr) : entryFrame m #[(.ref x0)] 1 = mkF m 0 #[.val (.ref x0)] [] := by first | (simp [entryFrame, mkF, argsToLocals, Value.category]; done) | rfl
theorem pn_java_lang_Record : plainName "java/lang/Record" = true := by first | (simp [plainName, overriddenIn]; done) | decide +kernel
theorem d_jdk_30_m1_0 : decode jdk_30_method_1_code 0 = .ok (.aload_n 0, 1) := by decide +kernel
theorem d_jdk_30_m1_1 : decode jdk_30_method_1_code 1 = .ok (.invokespecial 1, 3) := by decide +kernel
theorem d_jdk_30_m1_4 : decode jdk_30_method_1_code 4 = .ok (.return_, 1) := by decide +kernel
set_option maxRecDepth 65536 in
set_option maxHeartbeats 40000000 in
theorem rmRI (l : Launch) (Z : State) (a0 : Array Value) (hw : ∀ d ∈ tables_1, d.before a0 Z = true) (ws : List Jvm.Cond) (a1 : Addr) (h0 : Heap) (n0 : Nat) (Z0 : n0 ≤ h0.size) :
    MetFree l (⟨"java/lang/Record", "<init>", "()V"⟩ : MethodName) (head1 (Jvm.Cond.code (⟨"java/lang/Record", "<init>", "()V"⟩ : MethodName) jdk_30_method_1_code 1 none :: ws) ({ frames := 1, cells := 0, slots := 0, locals := 12 } : Room)) (fun a U => a = #[(.ref a1)] ∧ Z.Warmed39 U.vm ∧ U.heap = h0) (fun _ _ _ _ _ => True) (fun _ U o U' => ∃ v L, o = .returned v ∧ Q_rmRI Z a1 h0 n0 v U'.heap L ∧ FrameEnd U o U' L ({ frames := 1, cells := 0, slots := 0, locals := 12 } : Room).cells ({ frames := 1, cells := 0, slots := 0, locals := 12 } : Room).slots) := by
  refine MetFree.of_bodySF (plainFor_of_name pn_java_lang_Record) hisR ?_
  intro p e s m args below meth c s₁ Bd hml0 hP hK
  obtain ⟨rfl, hZ, hh⟩ := hP
  have hx := Bd.exec
  have hby := Bd.bytes
  have hlk := BodyLoose.notSynchronized Bd
  have hml : c.maxLocals = 1 := hml0
  have hown : s.vm.findClass "java/lang/Record" = some m.cls := findClass_of_methodNamed Bd.named
  have hnm := (name_of_methodNamed Bd.named Bd.method).1
  have X0 : Stand p l e ({ frames := 1, cells := 0, slots := 0, locals := 12 } : Room) s m #[(.ref a1)] below meth c s₁ [] 0 0 := Stand.of_body Bd
  have e0 : s₁.heap = h0 := by rw [← hh, Bd.state]; rfl
  have N0 := Fr.nil n0
  have K0 := Keep.refl h0 []
  clear hh
  show Wk p e below (EndN s (Q_rmRI Z a1 h0 n0) ({ frames := 1, cells := 0, slots := 0, locals := 12 } : Room).cells ({ frames := 1, cells := 0, slots := 0, locals := 12 } : Room).slots) s₁ (entryFrame m #[(.ref a1)] 1)
  rw [ef_rmRI]
  refine Wk.aloadN X0 hx (hb hby d_jdk_30_m1_0) (n := 1) rfl rfl rfl ?_
  refine Wk.initO X0 hx hZ hown (hw _ (List.mem_of_getElem? (i := 52) rfl)) (hw _ (List.mem_of_getElem? (i := 16) rfl)) (hw _ (List.mem_of_getElem? (i := 17) rfl)) e0 (by rw [hml]; rfl) (hb hby d_jdk_30_m1_1) (n := 4) rfl (by decide) (w := 0) (Nat.le_of_eq rfl) (by decide) fun T1 X1 e1 => ?_
  exact Wk.leave X1 (v := none) (fun _ => rfl) hlk e1 ⟨rfl, N0, rfl⟩ (by decide) (by decide) (fun fs hr => X1.returnOut hx Bd.returns (hb hby d_jdk_30_m1_4) hr)
def Q_rmCI (Z : State) (a1 : Addr) (y1 : Addr) (y2 : Addr) (y3 : Addr) (j1 : Int64) (j2 : Int64) (u0 : Value) (u1 : Value) (u2 : Value) (u3 : Value) (u4 : Value) (h0 : Heap) (n0 : Nat) (v : Option Value) (h : Heap) (L : List Loc) : Prop := v = none ∧ Fr n0 L ∧ Keep h0 h [a1] ∧ Exa Z h a1 "com/example/mulock/mulock/zookeeper/Contender" ∧ Fld Z h a1 "com/example/mulock/mulock/zookeeper/Contender" "lock" "Ljava/lang/String;" (.ref y1) ∧ Fld Z h a1 "com/example/mulock/mulock/zookeeper/Contender" "name" "Ljava/lang/String;" (.ref y3)
theorem ef_rmCI (m : MethodId) (x0 : Addr) (x1 : Addr) (x2 : Addr) (x3 : Addr) (x4 : Int64) (x5 : Int64) : entryFrame m #[(.ref x0), (.ref x1), (.ref x2), (.ref x3), (.long x4), (.long x5)] 8 = mkF m 0 #[.val (.ref x0), .val (.ref x1), .val (.ref x2), .val (.ref x3), .val (.long x4), .second, .val (.long x5), .second] [] := by first | (simp [entryFrame, mkF, argsToLocals, Value.category]; done) | rfl
theorem pn_com_example_mulock_mulock_zookeeper_Contender : plainName "com/example/mulock/mulock/zookeeper/Contender" = true := by first | (simp [plainName, overriddenIn]; done) | decide +kernel
theorem d_prog_22_m1_0 : decode prog_22_method_1_code 0 = .ok (.aload_n 0, 1) := by decide +kernel
theorem d_prog_22_m1_1 : decode prog_22_method_1_code 1 = .ok (.invokespecial 1, 3) := by decide +kernel
theorem pd_19 : parseMethodDescriptor "()V" = some ⟨[], none⟩ := by decide +kernel
theorem d_prog_22_m1_4 : decode prog_22_method_1_code 4 = .ok (.aload_n 0, 1) := by decide +kernel
theorem d_prog_22_m1_5 : decode prog_22_method_1_code 5 = .ok (.aload_n 1, 1) := by decide +kernel
theorem d_prog_22_m1_6 : decode prog_22_method_1_code 6 = .ok (.putfield 7, 3) := by decide +kernel
theorem d_prog_22_m1_9 : decode prog_22_method_1_code 9 = .ok (.aload_n 0, 1) := by decide +kernel
theorem d_prog_22_m1_10 : decode prog_22_method_1_code 10 = .ok (.aload_n 2, 1) := by decide +kernel
theorem d_prog_22_m1_11 : decode prog_22_method_1_code 11 = .ok (.putfield 13, 3) := by decide +kernel
theorem d_prog_22_m1_14 : decode prog_22_method_1_code 14 = .ok (.aload_n 0, 1) := by decide +kernel
theorem d_prog_22_m1_15 : decode prog_22_method_1_code 15 = .ok (.aload_n 3, 1) := by decide +kernel
theorem d_prog_22_m1_16 : decode prog_22_method_1_code 16 = .ok (.putfield 16, 3) := by decide +kernel
theorem d_prog_22_m1_19 : decode prog_22_method_1_code 19 = .ok (.aload_n 0, 1) := by decide +kernel
theorem d_prog_22_m1_20 : decode prog_22_method_1_code 20 = .ok (.lload 4, 2) := by decide +kernel
theorem d_prog_22_m1_22 : decode prog_22_method_1_code 22 = .ok (.putfield 19, 3) := by decide +kernel
theorem d_prog_22_m1_25 : decode prog_22_method_1_code 25 = .ok (.aload_n 0, 1) := by decide +kernel
theorem d_prog_22_m1_26 : decode prog_22_method_1_code 26 = .ok (.lload 6, 2) := by decide +kernel
theorem d_prog_22_m1_28 : decode prog_22_method_1_code 28 = .ok (.putfield 23, 3) := by decide +kernel
theorem d_prog_22_m1_31 : decode prog_22_method_1_code 31 = .ok (.return_, 1) := by decide +kernel
set_option maxRecDepth 65536 in
set_option maxHeartbeats 40000000 in
theorem rmCI (l : Launch) (Z : State) (a0 : Array Value) (hw : ∀ d ∈ tables_1, d.before a0 Z = true) (ws : List Jvm.Cond) (a1 : Addr) (y1 : Addr) (y2 : Addr) (y3 : Addr) (j1 : Int64) (j2 : Int64) (u0 : Value) (u1 : Value) (u2 : Value) (u3 : Value) (u4 : Value) (h0 : Heap) (n0 : Nat) (Z0 : n0 ≤ h0.size) (E1 : Exa Z h0 a1 "com/example/mulock/mulock/zookeeper/Contender") (F1 : Fld Z h0 a1 "com/example/mulock/mulock/zookeeper/Contender" "lock" "Ljava/lang/String;" u0) (F2 : Fld Z h0 a1 "com/example/mulock/mulock/zookeeper/Contender" "id" "Ljava/lang/String;" u1) (F3 : Fld Z h0 a1 "com/example/mulock/mulock/zookeeper/Contender" "name" "Ljava/lang/String;" u2) (F4 : Fld Z h0 a1 "com/example/mulock/mulock/zookeeper/Contender" "token" "J" u3) (F5 : Fld Z h0 a1 "com/example/mulock/mulock/zookeeper/Contender" "session" "J" u4) (g1 : n0 ≤ a1) :
    MetFree l (⟨"com/example/mulock/mulock/zookeeper/Contender", "<init>", "(Ljava/lang/String;Ljava/lang/String;Ljava/lang/String;JJ)V"⟩ : MethodName) (head1 (Jvm.Cond.code (⟨"com/example/mulock/mulock/zookeeper/Contender", "<init>", "(Ljava/lang/String;Ljava/lang/String;Ljava/lang/String;JJ)V"⟩ : MethodName) prog_22_method_1_code 8 none :: ws) ({ frames := 2, cells := 0, slots := 0, locals := 24 } : Room)) (fun a U => a = #[(.ref a1), (.ref y1), (.ref y2), (.ref y3), (.long j1), (.long j2)] ∧ Z.Warmed39 U.vm ∧ U.heap = h0) (fun _ _ _ _ _ => True) (fun _ U o U' => ∃ v L, o = .returned v ∧ Q_rmCI Z a1 y1 y2 y3 j1 j2 u0 u1 u2 u3 u4 h0 n0 v U'.heap L ∧ FrameEnd U o U' L ({ frames := 2, cells := 0, slots := 0, locals := 24 } : Room).cells ({ frames := 2, cells := 0, slots := 0, locals := 24 } : Room).slots) := by
  refine MetFree.of_bodySF (plainFor_of_name pn_com_example_mulock_mulock_zookeeper_Contender) hisR ?_
  intro p e s m args below meth c s₁ Bd hml0 hP hK
  obtain ⟨rfl, hZ, hh⟩ := hP
  have hx := Bd.exec
  have hby := Bd.bytes
  have hlk := BodyLoose.notSynchronized Bd
  have hml : c.maxLocals = 8 := hml0
  have hown : s.vm.findClass "com/example/mulock/mulock/zookeeper/Contender" = some m.cls := findClass_of_methodNamed Bd.named
  have hnm := (name_of_methodNamed Bd.named Bd.method).1
  have X0 : Stand p l e ({ frames := 2, cells := 0, slots := 0, locals := 24 } : Room) s m #[(.ref a1), (.ref y1), (.ref y2), (.ref y3), (.long j1), (.long j2)] below meth c s₁ [] 0 0 := Stand.of_body Bd
  have e0 : s₁.heap = h0 := by rw [← hh, Bd.state]; rfl
  have N0 := Fr.nil n0
  have K0 := Keep.refl h0 [a1]
  clear hh
  show Wk p e below (EndN s (Q_rmCI Z a1 y1 y2 y3 j1 j2 u0 u1 u2 u3 u4 h0 n0) ({ frames := 2, cells := 0, slots := 0, locals := 24 } : Room).cells ({ frames := 2, cells := 0, slots := 0, locals := 24 } : Room).slots) s₁ (entryFrame m #[(.ref a1), (.ref y1), (.ref y2), (.ref y3), (.long j1), (.long j2)] 8)
  rw [ef_rmCI]
  have lt_E1 := ny E1.lt
  have lt_F1 := ny F1.lt
  have lt_F2 := ny F2.lt
  have lt_F3 := ny F3.lt
  have lt_F4 := ny F4.lt
  have lt_F5 := ny F5.lt
  refine Wk.aloadN X0 hx (hb hby d_prog_22_m1_0) (n := 1) rfl rfl rfl ?_
  have cl1_ := fun (Ls : Array Slot) (hLs : Ls.size = c.maxLocals) => X0.specialBack hx (y := (⟨"java/lang/Record", "<init>", "()V"⟩ : MethodName)) rfl hown (mvT hZ (hw _ (List.mem_of_getElem? (i := 47) rfl))) (mvT hZ (hw _ (List.mem_of_getElem? (i := 48) rfl))) (mvT hZ (hw _ (List.mem_of_getElem? (i := 51) rfl))) (by decide) (backOf (W := 0) (rmRI l Z a0 hw [] a1 h0 n0 (by omega)) hZ (hw _ (List.mem_of_getElem? (i := 51) rfl)) (hw _ (List.mem_of_getElem? (i := 50) rfl)) (by decide) (by decide)) (g := mkF m 1 Ls [(.ref a1)]) rfl hLs (Steps.refl _) (a := a1) (argsL := []) (rest := []) (lenOf pd_19 rfl) rfl (by show 2 * 0 + _ ≤ _; exact Nat.le_of_eq rfl) (hb hby d_prog_22_m1_1) (fun _ _ => ⟨rfl, e0, (by decide : 0 + 0 ≤ _), (by decide : 0 + 0 ≤ _)⟩)
  refine Wk.back (n := 4) (rc := 0) (rs := 0) (Q := Q_rmRI Z a1 h0 n0) (cl1_ _ (by rw [hml]; rfl)) fun vn1 T1 L1 X1 hQ1 => ?_
  clear cl1_
  obtain ⟨rfl, M1, e1⟩ := hQ1
  have N1 := Fr.app N0 M1
  show Wk p e below _ T1 (mkF m 4 _ [])
  refine Wk.aloadN X1 hx (hb hby d_prog_22_m1_4) (n := 5) rfl rfl rfl ?_
  refine Wk.aloadN X1 hx (hb hby d_prog_22_m1_5) (n := 6) rfl rfl rfl ?_
  refine Wk.putF X1 hx hZ hown (host := "") (Or.inl (hw _ (List.mem_of_getElem? (i := 53) rfl))) Via.refl e1 F1 E1 (Or.inr ⟨(hw _ (List.mem_of_getElem? (i := 54) rfl)), rfl, hnm⟩) (hw _ (List.mem_of_getElem? (i := 42) rfl)) (ty := (.object "java/lang/String")) (by decide) rfl rfl (hb hby d_prog_22_m1_6) (n := 9) rfl fun T2 H2 X2 e2 Wn2 => ?_
  have sz2 := Wn2.size
  have Fn2 := F1.same Wn2
  have K2 := K0.wr Wn2 (Or.inl (List.mem_of_getElem? (i := 0) rfl))
  have N2 := Fr.snoc X2 N1 (by omega)
  refine Wk.aloadN X2 hx (hb hby d_prog_22_m1_9) (n := 10) rfl rfl rfl ?_
  refine Wk.aloadN X2 hx (hb hby d_prog_22_m1_10) (n := 11) rfl rfl rfl ?_
  have f3 := (F2.other Wn2 (Or.inr (slot_ne (Or.inr (hw _ (List.mem_of_getElem? (i := 56) rfl))) (Or.inr (hw _ (List.mem_of_getElem? (i := 54) rfl))) (by decide) (t := (.object "java/lang/String")) (t' := (.object "java/lang/String")) (by decide) (by decide))))
  have f4 := (E1.wr Wn2)
  refine Wk.putF X2 hx hZ hown (host := "") (Or.inl (hw _ (List.mem_of_getElem? (i := 55) rfl))) Via.refl e2 f3 f4 (Or.inr ⟨(hw _ (List.mem_of_getElem? (i := 56) rfl)), rfl, hnm⟩) (hw _ (List.mem_of_getElem? (i := 42) rfl)) (ty := (.object "java/lang/String")) (by decide) rfl rfl (hb hby d_prog_22_m1_11) (n := 14) rfl fun T5 H5 X5 e5 Wn5 => ?_
  have sz5 := Wn5.size
  have Fn5 := f3.same Wn5
  have K5 := K2.wr Wn5 (Or.inl (List.mem_of_getElem? (i := 0) rfl))
  have N5 := Fr.snoc X5 N2 (by omega)
  refine Wk.aloadN X5 hx (hb hby d_prog_22_m1_14) (n := 15) rfl rfl rfl ?_
  refine Wk.aloadN X5 hx (hb hby d_prog_22_m1_15) (n := 16) rfl rfl rfl ?_
  have f6 := ((F3.other Wn2 (Or.inr (slot_ne (Or.inr (hw _ (List.mem_of_getElem? (i := 58) rfl))) (Or.inr (hw _ (List.mem_of_getElem? (i := 54) rfl))) (by decide) (t := (.object "java/lang/String")) (t' := (.object "java/lang/String")) (by decide) (by decide)))).other Wn5 (Or.inr (slot_ne (Or.inr (hw _ (List.mem_of_getElem? (i := 58) rfl))) (Or.inr (hw _ (List.mem_of_getElem? (i := 56) rfl))) (by decide) (t := (.object "java/lang/String")) (t' := (.object "java/lang/String")) (by decide) (by decide))))
  have f7 := (f4.wr Wn5)
  refine Wk.putF X5 hx hZ hown (host := "") (Or.inl (hw _ (List.mem_of_getElem? (i := 57) rfl))) Via.refl e5 f6 f7 (Or.inr ⟨(hw _ (List.mem_of_getElem? (i := 58) rfl)), rfl, hnm⟩) (hw _ (List.mem_of_getElem? (i := 42) rfl)) (ty := (.object "java/lang/String")) (by decide) rfl rfl (hb hby d_prog_22_m1_16) (n := 19) rfl fun T8 H8 X8 e8 Wn8 => ?_
  have sz8 := Wn8.size
  have Fn8 := f6.same Wn8
  have K8 := K5.wr Wn8 (Or.inl (List.mem_of_getElem? (i := 0) rfl))
  have N8 := Fr.snoc X8 N5 (by omega)
  refine Wk.aloadN X8 hx (hb hby d_prog_22_m1_19) (n := 20) rfl rfl rfl ?_
  refine Wk.lload X8 hx (hb hby d_prog_22_m1_20) (n := 22) rfl rfl ?_
  have f9 := (((F4.other Wn2 (Or.inr (slot_ne (Or.inr (hw _ (List.mem_of_getElem? (i := 60) rfl))) (Or.inr (hw _ (List.mem_of_getElem? (i := 54) rfl))) (by decide) (t := .long) (t' := (.object "java/lang/String")) (by decide) (by decide)))).other Wn5 (Or.inr (slot_ne (Or.inr (hw _ (List.mem_of_getElem? (i := 60) rfl))) (Or.inr (hw _ (List.mem_of_getElem? (i := 56) rfl))) (by decide) (t := .long) (t' := (.object "java/lang/String")) (by decide) (by decide)))).other Wn8 (Or.inr (slot_ne (Or.inr (hw _ (List.mem_of_getElem? (i := 60) rfl))) (Or.inr (hw _ (List.mem_of_getElem? (i := 58) rfl))) (by decide) (t := .long) (t' := (.object "java/lang/String")) (by decide) (by decide))))
  have f10 := (f7.wr Wn8)
  refine Wk.putF X8 hx hZ hown (host := "") (Or.inl (hw _ (List.mem_of_getElem? (i := 59) rfl))) Via.refl e8 f9 f10 (Or.inr ⟨(hw _ (List.mem_of_getElem? (i := 60) rfl)), rfl, hnm⟩) (hw _ (List.mem_of_getElem? (i := 42) rfl)) (ty := .long) (by decide) rfl rfl (hb hby d_prog_22_m1_22) (n := 25) rfl fun T11 H11 X11 e11 Wn11 => ?_
  have sz11 := Wn11.size
  have Fn11 := f9.same Wn11
  have K11 := K8.wr Wn11 (Or.inl (List.mem_of_getElem? (i := 0) rfl))
  have N11 := Fr.snoc X11 N8 (by omega)
  refine Wk.aloadN X11 hx (hb hby d_prog_22_m1_25) (n := 26) rfl rfl rfl ?_
  refine Wk.lload X11 hx (hb hby d_prog_22_m1_26) (n := 28) rfl rfl ?_
  have f12 := ((((F5.other Wn2 (Or.inr (slot_ne (Or.inr (hw _ (List.mem_of_getElem? (i := 62) rfl))) (Or.inr (hw _ (List.mem_of_getElem? (i := 54) rfl))) (by decide) (t := .long) (t' := (.object "java/lang/String")) (by decide) (by decide)))).other Wn5 (Or.inr (slot_ne (Or.inr (hw _ (List.mem_of_getElem? (i := 62) rfl))) (Or.inr (hw _ (List.mem_of_getElem? (i := 56) rfl))) (by decide) (t := .long) (t' := (.object "java/lang/String")) (by decide) (by decide)))).other Wn8 (Or.inr (slot_ne (Or.inr (hw _ (List.mem_of_getElem? (i := 62) rfl))) (Or.inr (hw _ (List.mem_of_getElem? (i := 58) rfl))) (by decide) (t := .long) (t' := (.object "java/lang/String")) (by decide) (by decide)))).other Wn11 (Or.inr (slot_ne (Or.inr (hw _ (List.mem_of_getElem? (i := 62) rfl))) (Or.inr (hw _ (List.mem_of_getElem? (i := 60) rfl))) (by decide) (t := .long) (t' := .long) (by decide) (by decide))))
  have f13 := (f10.wr Wn11)
  refine Wk.putF X11 hx hZ hown (host := "") (Or.inl (hw _ (List.mem_of_getElem? (i := 61) rfl))) Via.refl e11 f12 f13 (Or.inr ⟨(hw _ (List.mem_of_getElem? (i := 62) rfl)), rfl, hnm⟩) (hw _ (List.mem_of_getElem? (i := 42) rfl)) (ty := .long) (by decide) rfl rfl (hb hby d_prog_22_m1_28) (n := 31) rfl fun T14 H14 X14 e14 Wn14 => ?_
  have sz14 := Wn14.size
  have Fn14 := f12.same Wn14
  have K14 := K11.wr Wn14 (Or.inl (List.mem_of_getElem? (i := 0) rfl))
  have N14 := Fr.snoc X14 N11 (by omega)
  have f15 := (f13.wr Wn14)
  have f16 := ((((Fn2.other Wn5 (Or.inr (slot_ne (Or.inr (hw _ (List.mem_of_getElem? (i := 54) rfl))) (Or.inr (hw _ (List.mem_of_getElem? (i := 56) rfl))) (by decide) (t := (.object "java/lang/String")) (t' := (.object "java/lang/String")) (by decide) (by decide)))).other Wn8 (Or.inr (slot_ne (Or.inr (hw _ (List.mem_of_getElem? (i := 54) rfl))) (Or.inr (hw _ (List.mem_of_getElem? (i := 58) rfl))) (by decide) (t := (.object "java/lang/String")) (t' := (.object "java/lang/String")) (by decide) (by decide)))).other Wn11 (Or.inr (slot_ne (Or.inr (hw _ (List.mem_of_getElem? (i := 54) rfl))) (Or.inr (hw _ (List.mem_of_getElem? (i := 60) rfl))) (by decide) (t := (.object "java/lang/String")) (t' := .long) (by decide) (by decide)))).other Wn14 (Or.inr (slot_ne (Or.inr (hw _ (List.mem_of_getElem? (i := 54) rfl))) (Or.inr (hw _ (List.mem_of_getElem? (i := 62) rfl))) (by decide) (t := (.object "java/lang/String")) (t' := .long) (by decide) (by decide))))
  have f17 := ((Fn8.other Wn11 (Or.inr (slot_ne (Or.inr (hw _ (List.mem_of_getElem? (i := 58) rfl))) (Or.inr (hw _ (List.mem_of_getElem? (i := 60) rfl))) (by decide) (t := (.object "java/lang/String")) (t' := .long) (by decide) (by decide)))).other Wn14 (Or.inr (slot_ne (Or.inr (hw _ (List.mem_of_getElem? (i := 58) rfl))) (Or.inr (hw _ (List.mem_of_getElem? (i := 62) rfl))) (by decide) (t := (.object "java/lang/String")) (t' := .long) (by decide) (by decide))))
  exact Wk.leave X14 (v := none) (fun _ => rfl) hlk e14 ⟨rfl, N14, K14, f15, f16, f17⟩ (by decide) (by decide) (fun fs hr => X14.returnOut hx Bd.returns (hb hby d_prog_22_m1_31) hr)
def Q_rmPath (Z : State) (a1 : Addr) (x1 : Addr) (t1 : Addr) (k1 : ClassId) (c1 : List Int32) (x2 : Addr) (t2 : Addr) (k2 : ClassId) (c2 : List Int32) (zc : Int32) (h0 : Heap) (n0 : Nat) (v : Option Value) (h : Heap) (L : List Loc) : Prop := ∃ (r : Addr) (t : Addr) (kb : ClassId), v = some (.ref r) ∧ Fr n0 L ∧ Keep h0 h [] ∧ Exa Z h r "java/lang/String" ∧ Fld Z h r "java/lang/String" "value" "[B" (.ref t) ∧ Fld Z h r "java/lang/String" "coder" "B" (.int (0 : Int32)) ∧ Arv Z h t kb .byte (Int32.ofNat (c1 ++ 47 :: c2).length) (bsV (c1 ++ 47 :: c2)) (.int (0 : Int32))
theorem ef_rmPath (m : MethodId) (x0 : Addr) : entryFrame m #[(.ref x0)] 1 = mkF m 0 #[.val (.ref x0)] [] := by first | (simp [entryFrame, mkF, argsToLocals, Value.category]; done) | rfl
theorem d_prog_22_m4_0 : decode prog_22_method_4_code 0 = .ok (.new 26, 3) := by decide +kernel
theorem d_prog_22_m4_3 : decode prog_22_method_4_code 3 = .ok (.dup, 1) := by decide +kernel
theorem d_prog_22_m4_4 : decode prog_22_method_4_code 4 = .ok (.invokespecial 28, 3) := by decide +kernel
theorem d_prog_22_m4_7 : decode prog_22_method_4_code 7 = .ok (.aload_n 0, 1) := by decide +kernel
theorem d_prog_22_m4_8 : decode prog_22_method_4_code 8 = .ok (.getfield 7, 3) := by decide +kernel
theorem d_prog_22_m4_11 : decode prog_22_method_4_code 11 = .ok (.invokevirtual 29, 3) := by decide +kernel
theorem pd_20 : parseMethodDescriptor "(Ljava/lang/String;)Ljava/lang/StringBuilder;" = some ⟨[(.object "java/lang/String")], some (.object "java/lang/StringBuilder")⟩ := by decide +kernel
theorem d_prog_22_m4_14 : decode prog_22_method_4_code 14 = .ok (.ldc 33, 2) := by decide +kernel
theorem d_prog_22_m4_16 : decode prog_22_method_4_code 16 = .ok (.invokevirtual 29, 3) := by decide +kernel
theorem d_prog_22_m4_19 : decode prog_22_method_4_code 19 = .ok (.aload_n 0, 1) := by decide +kernel
theorem d_prog_22_m4_20 : decode prog_22_method_4_code 20 = .ok (.getfield 16, 3) := by decide +kernel
theorem d_prog_22_m4_23 : decode prog_22_method_4_code 23 = .ok (.invokevirtual 29, 3) := by decide +kernel
theorem d_prog_22_m4_26 : decode prog_22_method_4_code 26 = .ok (.invokevirtual 37, 3) := by decide +kernel
theorem pd_21 : parseMethodDescriptor "()Ljava/lang/String;" = some ⟨[], some (.object "java/lang/String")⟩ := by decide +kernel
theorem d_prog_22_m4_29 : decode prog_22_method_4_code 29 = .ok (.areturn, 1) := by decide +kernel
set_option maxRecDepth 65536 in
set_option maxHeartbeats 40000000 in
theorem rmPath (l : Launch) (Z : State) (a0 : Array Value) (hw : ∀ d ∈ tables_1, d.before a0 Z = true) (ws : List Jvm.Cond) (a1 : Addr) (x1 : Addr) (t1 : Addr) (k1 : ClassId) (c1 : List Int32) (x2 : Addr) (t2 : Addr) (k2 : ClassId) (c2 : List Int32) (zc : Int32) (h0 : Heap) (n0 : Nat) (Z0 : n0 ≤ h0.size) (E1 : Exa Z h0 a1 "com/example/mulock/mulock/zookeeper/Contender") (F1 : Fld Z h0 a1 "com/example/mulock/mulock/zookeeper/Contender" "lock" "Ljava/lang/String;" (.ref x1)) (F3 : Fld Z h0 a1 "com/example/mulock/mulock/zookeeper/Contender" "name" "Ljava/lang/String;" (.ref x2)) (Es1 : Exa Z h0 x1 "java/lang/String") (Fv1 : Fld Z h0 x1 "java/lang/String" "value" "[B" (.ref t1)) (Fc1 : Fld Z h0 x1 "java/lang/String" "coder" "B" (.int (0 : Int32))) (As1 : Arv Z h0 t1 k1 .byte (Int32.ofNat c1.length) (bsV c1) (.int (0 : Int32))) (Es2 : Exa Z h0 x2 "java/lang/String") (Fv2 : Fld Z h0 x2 "java/lang/String" "value" "[B" (.ref t2)) (Fc2 : Fld Z h0 x2 "java/lang/String" "coder" "B" (.int (0 : Int32))) (As2 : Arv Z h0 t2 k2 .byte (Int32.ofNat c2.length) (bsV c2) (.int (0 : Int32))) (S4 : Sta Z Z.heap "java/lang/String" "COMPACT_STRINGS" "Z" (.int zc)) (O1 : Old Z n0 h0) (hCS : ¬ zc = 0) (l1 : c1.length ≤ 3) (l2 : c2.length ≤ 3) (q1 : ∀ c ∈ c1, ¬ c < 0 ∧ ¬ (255 : Int32) < c) (q2 : ∀ c ∈ c2, ¬ c < 0 ∧ ¬ (255 : Int32) < c) :
    MetFree l (⟨"com/example/mulock/mulock/zookeeper/Contender", "path", "()Ljava/lang/String;"⟩ : MethodName) (head1 (Jvm.Cond.code (⟨"com/example/mulock/mulock/zookeeper/Contender", "path", "()Ljava/lang/String;"⟩ : MethodName) prog_22_method_4_code 1 (some (.object "java/lang/String")) :: ws) ({ frames := 6, cells := 6, slots := 48, locals := 105 } : Room)) (fun a U => a = #[(.ref a1)] ∧ Z.Warmed39 U.vm ∧ U.heap = h0 ∧ CHv Z own_EL U.vm h0 ∧ ∀ x ∈ ([] : List Addr), Safe Z own_EL U.vm h0 x) (fun _ _ _ _ _ => True) (fun _ U o U' => ∃ v L, o = .returned v ∧ Q_rmPath Z a1 x1 t1 k1 c1 x2 t2 k2 c2 zc h0 n0 v U'.heap L ∧ CHr Z own_EL U.vm U.heap U'.vm U'.heap ∧ ReturnedEndW U o U' L ({ frames := 6, cells := 6, slots := 48, locals := 105 } : Room).cells ({ frames := 6, cells := 6, slots := 48, locals := 105 } : Room).slots) := by
  refine MetFree.of_bodySF (plainFor_of_name pn_com_example_mulock_mulock_zookeeper_Contender) hisR ?_
  intro p e s m args below meth c s₁ Bd hml0 hP hK
  obtain ⟨rfl, hZ, hh, hCH, hSf⟩ := hP
  have hx := Bd.exec
  have hby := Bd.bytes
  have hlk := BodyLoose.notSynchronized Bd
  have hml : c.maxLocals = 1 := hml0
  have hown : s.vm.findClass "com/example/mulock/mulock/zookeeper/Contender" = some m.cls := findClass_of_methodNamed Bd.named
  have hnm := (name_of_methodNamed Bd.named Bd.method).1
  have X0 : Stand p l e ({ frames := 6, cells := 6, slots := 48, locals := 105 } : Room) s m #[(.ref a1)] below meth c s₁ [] 0 0 := Stand.of_body Bd
  have e0 : s₁.heap = h0 := by rw [← hh, Bd.state]; rfl
  have N0 := Fr.nil n0
  have K0 := Keep.refl h0 []
  skip
  show Wk p e below (EndW Z own_EL s (Q_rmPath Z a1 x1 t1 k1 c1 x2 t2 k2 c2 zc h0 n0) ({ frames := 6, cells := 6, slots := 48, locals := 105 } : Room).cells ({ frames := 6, cells := 6, slots := 48, locals := 105 } : Room).slots) s₁ (entryFrame m #[(.ref a1)] 1)
  rw [ef_rmPath]
  have Bs0 := Base.start s h0.size
  have R0 := CHr.refl hCH
  have hELw := own_ew hw
  have lt_E1 := ny E1.lt
  have lt_F1 := ny F1.lt
  have lt_F3 := ny F3.lt
  have lt_Es1 := ny Es1.lt
  have lt_Fv1 := ny Fv1.lt
  have lt_Fc1 := ny Fc1.lt
  have lt_As1 := ny As1.lt
  have lt_Es2 := ny Es2.lt
  have lt_Fv2 := ny Fv2.lt
  have lt_Fc2 := ny Fc2.lt
  have lt_As2 := ny As2.lt
  refine Wk.newO X0 hx hZ hown (hw _ (List.mem_of_getElem? (i := 68) rfl)) (hw _ (List.mem_of_getElem? (i := 69) rfl)) (hw _ (List.mem_of_getElem? (i := 70) rfl)) e0 (hb hby d_prog_22_m4_0) (n := 3) rfl (by decide) (by decide) fun T1 H1 b1 gn1 X1 e1 Ex1 An1 Dn1 Yn1 => ?_
  have gn1 := nx gn1
  have sz1 := Ex1.1
  have lt1 := ny An1.lt
  have K1 := K0.ext Ex1
  have R1 := R0.trans (CHr.ext Ex1 R0.1)
  have Fn1_value : Fld Z H1 b1 "java/lang/AbstractStringBuilder" "value" "[B" .null := Dn1 (Or.inl (hw _ (List.mem_of_getElem? (i := 83) rfl))) (ty := (.array .byte)) (by decide)
  have Fn1_coder : Fld Z H1 b1 "java/lang/AbstractStringBuilder" "coder" "B" (.int (0 : Int32)) := Dn1 (Or.inl (hw _ (List.mem_of_getElem? (i := 85) rfl))) (ty := .byte) (by decide)
  have Fn1_count : Fld Z H1 b1 "java/lang/AbstractStringBuilder" "count" "I" (.int (0 : Int32)) := Dn1 (Or.inl (hw _ (List.mem_of_getElem? (i := 107) rfl))) (ty := .int) (by decide)
  refine Wk.dup X1 hx (hb hby d_prog_22_m4_3) (n := 4) rfl rfl ?_
  have f2 := (O1.ext Ex1)
  have cl3_ := fun (Ls : Array Slot) (hLs : Ls.size = c.maxLocals) => X1.specialBack hx (y := (⟨"java/lang/StringBuilder", "<init>", "()V"⟩ : MethodName)) rfl hown (mvT hZ (hw _ (List.mem_of_getElem? (i := 71) rfl))) (mvT hZ (hw _ (List.mem_of_getElem? (i := 72) rfl))) (mvT hZ (hw _ (List.mem_of_getElem? (i := 73) rfl))) (by decide) (backOf (W := 1) (sbI0 l Z a0 hw [] b1 .null zc H1 n0 (by omega) An1 Fn1_value Fn1_coder Fn1_count S4 f2 (by omega) hCS) hZ (hw _ (List.mem_of_getElem? (i := 73) rfl)) (hw _ (List.mem_of_getElem? (i := 70) rfl)) (by decide) (by decide)) (g := mkF m 4 Ls [(.ref b1), (.ref b1)]) rfl hLs (Steps.refl _) (a := b1) (argsL := []) (rest := [(.ref b1)]) (lenOf pd_19 rfl) rfl (by show 2 * 0 + _ ≤ _; exact Nat.le_of_eq rfl) (hb hby d_prog_22_m4_4) (fun _ _ => ⟨rfl, e1, (by decide : 0 + 1 + 1 ≤ _), (by decide : 0 + 4 + 16 ≤ _)⟩)
  refine Wk.back (n := 7) (rc := 1) (rs := 16) (Q := Q_sbI0 Z b1 .null zc H1 n0) (cl3_ _ (by rw [hml]; rfl)) fun vn3 T3 L3 X3 hQ3 => ?_
  clear cl3_
  obtain ⟨t_3, kb_3, rfl, M3, J3, p3_0, p3_1, p3_2, p3_3, p3_4, gt_3⟩ := hQ3
  have N3 := Fr.app N0 M3
  have sz3 := J3.1
  have hs3 : ∀ x ∈ ([b1] : List Addr), Safe Z own_EL s.vm H1 x := (sfS (Safe.exa (EL := own_EL) hZ.alike An1 (by decide) (by decide)) sf0)
  have R3 := R1.trans (CHr.keep J3 hs3 R1.1)
  have K3 := K1.trans J3 (allS (Or.inr (by omega)) all0)
  have lt_p3_0 := ny p3_0.lt
  have lt_p3_4 := ny p3_4.lt
  have Sf3_t := Safe.keep (x := t_3) J3 hs3 R1.1 (Safe.new (by omega))
  show Wk p e below _ T3 (mkF m 7 _ [(.ref b1)])
  refine Wk.aloadN X3 hx (hb hby d_prog_22_m4_7) (n := 8) rfl rfl rfl ?_
  have f4 := ((F1.ext Ex1).keep J3 (ninS (nz (by omega)) nin0))
  refine Wk.getF X3 hx hZ hown (host := "") (Or.inl (hw _ (List.mem_of_getElem? (i := 53) rfl))) Via.refl rfl f4 (hb hby d_prog_22_m4_8) (n := 11) rfl fun T5 X5 e5 => ?_
  have f6 := ((Es1.ext Ex1).keep J3)
  have f7 := ((Fv1.ext Ex1).keep J3 (ninS (nz (by omega)) nin0))
  have f8 := ((Fc1.ext Ex1).keep J3 (ninS (nz (by omega)) nin0))
  have f9 := ((As1.ext Ex1).keep J3 (ninS (nz (by omega)) nin0))
  have f10 := (f2.keep J3 (allS (by omega) all0))
  obtain ⟨cq11, kq11, qn11a, qn11b, qn11c⟩ := isOf hZ e5 p3_0
  have cl11_ := fun (Ls : Array Slot) (hLs : Ls.size = c.maxLocals) => X5.virtualBack hx (y := (⟨"java/lang/StringBuilder", "append", "(Ljava/lang/String;)Ljava/lang/StringBuilder;"⟩ : MethodName)) (z := (⟨"java/lang/StringBuilder", "append", "(Ljava/lang/String;)Ljava/lang/StringBuilder;"⟩ : MethodName)) hown (mvT hZ (hw _ (List.mem_of_getElem? (i := 86) rfl))) (mvT hZ (hw _ (List.mem_of_getElem? (i := 87) rfl))) (notFace_of_selects (args := #[]) (mvT hZ (hw _ (List.mem_of_getElem? (i := 89) rfl)))) (mvT hZ (hw _ (List.mem_of_getElem? (i := 89) rfl))) (mvT hZ (hw _ (List.mem_of_getElem? (i := 88) rfl))) (by decide) (backOf (W := 0) (sbSA l Z a0 hw [] b1 x1 t1 k1 c1 t_3 kb_3 ([] : List Int32) zc T3.heap n0 (by omega) p3_0 p3_1 p3_2 p3_3 p3_4 f6 f7 f8 f9 S4 f10 hCS q1 (by simp only [List.length_append, List.length_cons, List.length_nil]; omega) (by omega) (by omega) (by omega) (by omega)) hZ (hw _ (List.mem_of_getElem? (i := 90) rfl)) (hw _ (List.mem_of_getElem? (i := 70) rfl)) (by decide) (by decide)) qn11a qn11c (g := mkF m 11 Ls [(.ref x1), (.ref b1)]) rfl hLs (Steps.refl _) (argsL := [(.ref x1)]) (rest := []) (lenOf pd_20 rfl) rfl (by show 2 * 0 + _ ≤ _; exact Nat.le_of_eq rfl) (hb hby d_prog_22_m4_11) (fun _ _ => ⟨rfl, e5, (by decide : 0 + 1 + 1 + 0 ≤ _), (by decide : 0 + 4 + 16 + 0 ≤ _)⟩)
  refine Wk.back (n := 14) (rc := 0) (rs := 0) (Q := Q_sbSA Z b1 x1 t1 k1 c1 t_3 kb_3 ([] : List Int32) zc T3.heap n0) (cl11_ _ (by rw [hml]; rfl)) fun vn11 T11 L11 X11 hQ11 => ?_
  clear cl11_
  obtain ⟨rfl, M11, J11, p11_0, p11_1, p11_2, p11_3, p11_4⟩ := hQ11
  have N11 := Fr.app N3 M11
  have sz11 := J11.1
  have hs11 : ∀ x ∈ ([b1, t_3] : List Addr), Safe Z own_EL s.vm T3.heap x := (sfS (Safe.exa (EL := own_EL) hZ.alike p3_0 (by decide) (by decide)) (sfS Sf3_t sf0))
  have R11 := R3.trans (CHr.keep J11 hs11 R3.1)
  have K11 := K3.trans J11 (allS (Or.inr (by omega)) (allS (Or.inr (by omega)) all0))
  have lt_p11_0 := ny p11_0.lt
  have lt_p11_4 := ny p11_4.lt
  show Wk p e below _ T11 (mkF m 14 _ [(.ref b1)])
  refine Wk.ldcL (text := "/") X11 hx hZ hown (hw _ (List.mem_of_getElem? (i := 133) rfl)) (fun d hd => hw d (own_wS d hd)) rfl Bs0 (by omega) hELw (by decide) R11 (vs := (bsV [47])) (z := (Int32.ofNat ([47] : List Int32).length)) ⟨by decide, rfl⟩ (by decide) (by decide) (hb hby d_prog_22_m4_14) (n := 16) rfl (nn := 4) (by decide) (by decide) (by decide) (by decide) fun us12 T12 H12 a12_ t12_ k12_ X12 e12 Ex12 Bs12 hZ hown An12 Fn12_c Fn12_v Vn12 A_12 R12 hne12 => ?_
  have sz12 := Ex12.1
  have lt12 := ny An12.lt
  have lu12 := ny Vn12.lt
  have K12 := K11.ext Ex12
  have f13 := (A_12.safe (ny (by omega)) (Safe.keep J11 hs11 R3.1 Sf3_t))
  have nl12_t_3 := nw (hne12 _ f13).1
  have nm12_t_3 := nw (hne12 _ f13).2
  have f14 := (p11_0.ext Ex12)
  have f15 := (p11_1.ext Ex12)
  have f16 := (p11_2.ext Ex12)
  have f17 := (p11_3.ext Ex12)
  have f18 := (p11_4.ext Ex12)
  have f19 := ((f10.keep J11 (allS (by omega) (allS (by omega) all0))).ext Ex12)
  obtain ⟨cq20, kq20, qn20a, qn20b, qn20c⟩ := isOf hZ e12 f14
  have cl20_ := fun (Ls : Array Slot) (hLs : Ls.size = c.maxLocals) => X12.virtualBack hx (y := (⟨"java/lang/StringBuilder", "append", "(Ljava/lang/String;)Ljava/lang/StringBuilder;"⟩ : MethodName)) (z := (⟨"java/lang/StringBuilder", "append", "(Ljava/lang/String;)Ljava/lang/StringBuilder;"⟩ : MethodName)) hown (mvT hZ (hw _ (List.mem_of_getElem? (i := 86) rfl))) (mvT hZ (hw _ (List.mem_of_getElem? (i := 87) rfl))) (notFace_of_selects (args := #[]) (mvT hZ (hw _ (List.mem_of_getElem? (i := 89) rfl)))) (mvT hZ (hw _ (List.mem_of_getElem? (i := 89) rfl))) (mvT hZ (hw _ (List.mem_of_getElem? (i := 88) rfl))) (by decide) (backOf (W := 0) (sbSA l Z a0 hw [] b1 a12_ t12_ k12_ ([47] : List Int32) t_3 kb_3 (([] : List Int32) ++ c1) zc H12 n0 (by omega) f14 f15 f16 f17 f18 An12 Fn12_v Fn12_c Vn12 S4 f19 hCS (by decide) (by simp only [List.length_append, List.length_cons, List.length_nil]; omega) (by omega) (by omega) (by omega) (by omega)) hZ (hw _ (List.mem_of_getElem? (i := 90) rfl)) (hw _ (List.mem_of_getElem? (i := 70) rfl)) (by decide) (by decide)) qn20a qn20c (g := mkF m 16 Ls [(.ref a12_), (.ref b1)]) rfl hLs (Steps.refl _) (argsL := [(.ref a12_)]) (rest := []) (lenOf pd_20 rfl) rfl (by show 2 * 0 + _ ≤ _; exact Nat.le_of_eq rfl) (hb hby d_prog_22_m4_16) (fun _ _ => ⟨rfl, e12, (by decide : 0 + 1 + 1 + 0 + 2 + 0 ≤ _), (by decide : 0 + 4 + 16 + 0 + (4 + 4) + 0 ≤ _)⟩)
  refine Wk.back (n := 19) (rc := 0) (rs := 0) (Q := Q_sbSA Z b1 a12_ t12_ k12_ ([47] : List Int32) t_3 kb_3 (([] : List Int32) ++ c1) zc H12 n0) (cl20_ _ (by rw [hml]; rfl)) fun vn20 T20 L20 X20 hQ20 => ?_
  clear cl20_
  obtain ⟨rfl, M20, J20, p20_0, p20_1, p20_2, p20_3, p20_4⟩ := hQ20
  have N20 := Fr.app N11 M20
  have sz20 := J20.1
  have hs20 : ∀ x ∈ ([b1, t_3] : List Addr), Safe Z own_EL us12.vm H12 x := (sfS (Safe.exa (EL := own_EL) hZ.alike f14 (by decide) (by decide)) (sfS f13 sf0))
  have R20 := R12.trans (CHr.keep J20 hs20 R12.1)
  have K20 := K12.trans J20 (allS (Or.inr (by omega)) (allS (Or.inr (by omega)) all0))
  have lt_p20_0 := ny p20_0.lt
  have lt_p20_4 := ny p20_4.lt
  show Wk p e below _ T20 (mkF m 19 _ [(.ref b1)])
  refine Wk.aloadN X20 hx (hb hby d_prog_22_m4_19) (n := 20) rfl rfl rfl ?_
  have f21 := (((((F3.ext Ex1).keep J3 (ninS (nz (by omega)) nin0)).keep J11 (ninS (nz (by omega)) (ninS (nz (by omega)) nin0))).ext Ex12).keep J20 (ninS (nz (by omega)) (ninS (nz (by omega)) nin0)))
  refine Wk.getF X20 hx hZ hown (host := "") (Or.inl (hw _ (List.mem_of_getElem? (i := 57) rfl))) Via.refl rfl f21 (hb hby d_prog_22_m4_20) (n := 23) rfl fun T22 X22 e22 => ?_
  have f23 := (((((Es2.ext Ex1).keep J3).keep J11).ext Ex12).keep J20)
  have f24 := (((((Fv2.ext Ex1).keep J3 (ninS (nz (by omega)) nin0)).keep J11 (ninS (nz (by omega)) (ninS (nz (by omega)) nin0))).ext Ex12).keep J20 (ninS (nz (by omega)) (ninS (nz (by omega)) nin0)))
  have f25 := (((((Fc2.ext Ex1).keep J3 (ninS (nz (by omega)) nin0)).keep J11 (ninS (nz (by omega)) (ninS (nz (by omega)) nin0))).ext Ex12).keep J20 (ninS (nz (by omega)) (ninS (nz (by omega)) nin0)))
  have f26 := (((((As2.ext Ex1).keep J3 (ninS (nz (by omega)) nin0)).keep J11 (ninS (nz (by omega)) (ninS (nz (by omega)) nin0))).ext Ex12).keep J20 (ninS (nz (by omega)) (ninS (nz (by omega)) nin0)))
  have f27 := (f19.keep J20 (allS (by omega) (allS (by omega) all0)))
  obtain ⟨cq28, kq28, qn28a, qn28b, qn28c⟩ := isOf hZ e22 p20_0
  have cl28_ := fun (Ls : Array Slot) (hLs : Ls.size = c.maxLocals) => X22.virtualBack hx (y := (⟨"java/lang/StringBuilder", "append", "(Ljava/lang/String;)Ljava/lang/StringBuilder;"⟩ : MethodName)) (z := (⟨"java/lang/StringBuilder", "append", "(Ljava/lang/String;)Ljava/lang/StringBuilder;"⟩ : MethodName)) hown (mvT hZ (hw _ (List.mem_of_getElem? (i := 86) rfl))) (mvT hZ (hw _ (List.mem_of_getElem? (i := 87) rfl))) (notFace_of_selects (args := #[]) (mvT hZ (hw _ (List.mem_of_getElem? (i := 89) rfl)))) (mvT hZ (hw _ (List.mem_of_getElem? (i := 89) rfl))) (mvT hZ (hw _ (List.mem_of_getElem? (i := 88) rfl))) (by decide) (backOf (W := 0) (sbSA l Z a0 hw [] b1 x2 t2 k2 c2 t_3 kb_3 ((([] : List Int32) ++ c1) ++ ([47] : List Int32)) zc T20.heap n0 (by omega) p20_0 p20_1 p20_2 p20_3 p20_4 f23 f24 f25 f26 S4 f27 hCS q2 (by simp only [List.length_append, List.length_cons, List.length_nil]; omega) (by omega) (by omega) (by omega) (by omega)) hZ (hw _ (List.mem_of_getElem? (i := 90) rfl)) (hw _ (List.mem_of_getElem? (i := 70) rfl)) (by decide) (by decide)) qn28a qn28c (g := mkF m 23 Ls [(.ref x2), (.ref b1)]) rfl hLs (Steps.refl _) (argsL := [(.ref x2)]) (rest := []) (lenOf pd_20 rfl) rfl (by show 2 * 0 + _ ≤ _; exact Nat.le_of_eq rfl) (hb hby d_prog_22_m4_23) (fun _ _ => ⟨rfl, e22, (by decide : 0 + 1 + 1 + 0 + 2 + 0 + 0 ≤ _), (by decide : 0 + 4 + 16 + 0 + (4 + 4) + 0 + 0 ≤ _)⟩)
  refine Wk.back (n := 26) (rc := 0) (rs := 0) (Q := Q_sbSA Z b1 x2 t2 k2 c2 t_3 kb_3 ((([] : List Int32) ++ c1) ++ ([47] : List Int32)) zc T20.heap n0) (cl28_ _ (by rw [hml]; rfl)) fun vn28 T28 L28 X28 hQ28 => ?_
  clear cl28_
  obtain ⟨rfl, M28, J28, p28_0, p28_1, p28_2, p28_3, p28_4⟩ := hQ28
  have N28 := Fr.app N20 M28
  have sz28 := J28.1
  have f29 := (Safe.keep J20 hs20 R12.1 f13)
  have hs28 : ∀ x ∈ ([b1, t_3] : List Addr), Safe Z own_EL us12.vm T20.heap x := (sfS (Safe.exa (EL := own_EL) hZ.alike p20_0 (by decide) (by decide)) (sfS f29 sf0))
  have R28 := R20.trans (CHr.keep J28 hs28 R20.1)
  have K28 := K20.trans J28 (allS (Or.inr (by omega)) (allS (Or.inr (by omega)) all0))
  have lt_p28_0 := ny p28_0.lt
  have lt_p28_4 := ny p28_4.lt
  show Wk p e below _ T28 (mkF m 26 _ [(.ref b1)])
  have f30 := (f27.keep J28 (allS (by omega) (allS (by omega) all0)))
  obtain ⟨cq31, kq31, qn31a, qn31b, qn31c⟩ := isOf hZ rfl p28_0
  have cl31_ := fun (Ls : Array Slot) (hLs : Ls.size = c.maxLocals) => X28.virtualBack hx (y := (⟨"java/lang/StringBuilder", "toString", "()Ljava/lang/String;"⟩ : MethodName)) (z := (⟨"java/lang/StringBuilder", "toString", "()Ljava/lang/String;"⟩ : MethodName)) hown (mvT hZ (hw _ (List.mem_of_getElem? (i := 134) rfl))) (mvT hZ (hw _ (List.mem_of_getElem? (i := 135) rfl))) (notFace_of_selects (args := #[]) (mvT hZ (hw _ (List.mem_of_getElem? (i := 137) rfl)))) (mvT hZ (hw _ (List.mem_of_getElem? (i := 137) rfl))) (mvT hZ (hw _ (List.mem_of_getElem? (i := 136) rfl))) (by decide) (backOf (W := 0) (sbTS l Z a0 hw [] b1 t_3 kb_3 (((([] : List Int32) ++ c1) ++ ([47] : List Int32)) ++ c2) zc T28.heap n0 (by omega) p28_0 p28_1 p28_2 p28_3 p28_4 S4 f30 hCS (by simp only [List.length_append, List.length_cons, List.length_nil]; omega)) hZ (hw _ (List.mem_of_getElem? (i := 138) rfl)) (hw _ (List.mem_of_getElem? (i := 70) rfl)) (by decide) (by decide)) qn31a qn31c (g := mkF m 26 Ls [(.ref b1)]) rfl hLs (Steps.refl _) (argsL := []) (rest := []) (lenOf pd_21 rfl) rfl (by show 2 * 0 + _ ≤ _; exact Nat.le_of_eq rfl) (hb hby d_prog_22_m4_26) (fun _ _ => ⟨rfl, rfl, (by decide : 0 + 1 + 1 + 0 + 2 + 0 + 0 + 2 ≤ _), (by decide : 0 + 4 + 16 + 0 + (4 + 4) + 0 + 0 + 20 ≤ _)⟩)
  refine Wk.back (n := 29) (rc := 2) (rs := 20) (Q := Q_sbTS Z b1 t_3 kb_3 (((([] : List Int32) ++ c1) ++ ([47] : List Int32)) ++ c2) zc T28.heap n0) (cl31_ _ (by rw [hml]; rfl)) fun vn31 T31 L31 X31 hQ31 => ?_
  clear cl31_
  obtain ⟨r_31, t_31, kb_31, rfl, M31, J31, p31_0, p31_1, p31_2, p31_3, gr_31, gt_31⟩ := hQ31
  have N31 := Fr.app N28 M31
  have sz31 := J31.1
  have hs31 : ∀ x ∈ ([] : List Addr), Safe Z own_EL us12.vm T28.heap x := sf0
  have R31 := R28.trans (CHr.keep J31 hs31 R28.1)
  have K31 := K28.trans J31 (fun x hx => nomatch hx)
  have lt_p31_0 := ny p31_0.lt
  have lt_p31_3 := ny p31_3.lt
  have Sf31_r := Safe.keep (x := r_31) J31 hs31 R28.1 (Safe.new (by omega))
  have Sf31_t := Safe.keep (x := t_31) J31 hs31 R28.1 (Safe.new (by omega))
  show Wk p e below _ T31 (mkF m 29 _ [(.ref r_31)])
  exact Wk.leaveW X31 Bs12 (by omega) (v := some (.ref r_31)) (fun h => by rw [Bd.returns] at h; cases h) hlk rfl hh ⟨r_31, t_31, kb_31, rfl, N31, K31, p31_0, p31_1, p31_2, (by have q := p31_3; simpa using q)⟩ hZ hELw R31 (by decide) (by decide) (fun fs hr => retA X31 hx rfl Bd.returns rfl (hb hby d_prog_22_m4_29) hr)
def Q_rmEA (Z : State) (x1 : Addr) (t1 : Addr) (k1 : ClassId) (c1 : List Int32) (x2 : Addr) (t2 : Addr) (k2 : ClassId) (c2 : List Int32) (i1 : Int32) (iz : Nat) (zc : Int32) (fm : Value) (h0 : Heap) (n0 : Nat) (v : Option Value) (h : Heap) (L : List Loc) : Prop := v = some (.int ((c1 ++ 47 :: c2).getD iz 0)) ∧ Fr n0 L ∧ h = h0
theorem ef_rmEA (m : MethodId) (x0 : Addr) (x1 : Addr) (x2 : Int32) : entryFrame m #[(.ref x0), (.ref x1), (.int x2)] 4 = mkF m 0 #[.val (.ref x0), .val (.ref x1), .val (.int x2), .unset] [] := by first | (simp [entryFrame, mkF, argsToLocals, Value.category]; done) | rfl
theorem d_m3_0 : decode method_3_code 0 = .ok (.iload_n 2, 1) := by decide +kernel
theorem d_m3_1 : decode method_3_code 1 = .ok (.aload_n 0, 1) := by decide +kernel
theorem d_m3_2 : decode method_3_code 2 = .ok (.invokevirtual 12, 3) := by decide +kernel
theorem d_m3_5 : decode method_3_code 5 = .ok (.if_icmp .ge 9, 3) := by decide +kernel
theorem d_m3_8 : decode method_3_code 8 = .ok (.aload_n 0, 1) := by decide +kernel
theorem d_m3_9 : decode method_3_code 9 = .ok (.iload_n 2, 1) := by decide +kernel
theorem d_m3_10 : decode method_3_code 10 = .ok (.invokevirtual 16, 3) := by decide +kernel
theorem pd_22 : parseMethodDescriptor "(I)C" = some ⟨[.int], some .char⟩ := by decide +kernel
theorem d_m3_13 : decode method_3_code 13 = .ok (.ireturn, 1) := by decide +kernel
theorem d_m3_14 : decode method_3_code 14 = .ok (.iload_n 2, 1) := by decide +kernel
theorem d_m3_15 : decode method_3_code 15 = .ok (.aload_n 0, 1) := by decide +kernel
theorem d_m3_16 : decode method_3_code 16 = .ok (.invokevirtual 12, 3) := by decide +kernel
theorem d_m3_19 : decode method_3_code 19 = .ok (.if_icmp .ne 6, 3) := by decide +kernel
theorem d_m3_22 : decode method_3_code 22 = .ok (.bipush 47, 2) := by decide +kernel
theorem d_m3_24 : decode method_3_code 24 = .ok (.ireturn, 1) := by decide +kernel
theorem d_m3_25 : decode method_3_code 25 = .ok (.iload_n 2, 1) := by decide +kernel
theorem d_m3_26 : decode method_3_code 26 = .ok (.aload_n 0, 1) := by decide +kernel
theorem d_m3_27 : decode method_3_code 27 = .ok (.invokevirtual 12, 3) := by decide +kernel
theorem d_m3_30 : decode method_3_code 30 = .ok (.isub, 1) := by decide +kernel
theorem d_m3_31 : decode method_3_code 31 = .ok (.iconst 1, 1) := by decide +kernel
theorem d_m3_32 : decode method_3_code 32 = .ok (.isub, 1) := by decide +kernel
theorem d_m3_33 : decode method_3_code 33 = .ok (.istore_n 3, 1) := by decide +kernel
theorem d_m3_34 : decode method_3_code 34 = .ok (.iload_n 3, 1) := by decide +kernel
theorem d_m3_35 : decode method_3_code 35 = .ok (.aload_n 1, 1) := by decide +kernel
theorem d_m3_36 : decode method_3_code 36 = .ok (.invokevirtual 12, 3) := by decide +kernel
theorem d_m3_39 : decode method_3_code 39 = .ok (.if_icmp .ge 9, 3) := by decide +kernel
theorem d_m3_42 : decode method_3_code 42 = .ok (.aload_n 1, 1) := by decide +kernel
theorem d_m3_43 : decode method_3_code 43 = .ok (.iload_n 3, 1) := by decide +kernel
theorem d_m3_44 : decode method_3_code 44 = .ok (.invokevirtual 16, 3) := by decide +kernel
theorem d_m3_47 : decode method_3_code 47 = .ok (.ireturn, 1) := by decide +kernel
set_option maxRecDepth 65536 in
set_option maxHeartbeats 40000000 in
theorem rmEA (l : Launch) (Z : State) (a0 : Array Value) (hw : ∀ d ∈ tables_1, d.before a0 Z = true) (ws : List Jvm.Cond) (x1 : Addr) (t1 : Addr) (k1 : ClassId) (c1 : List Int32) (x2 : Addr) (t2 : Addr) (k2 : ClassId) (c2 : List Int32) (i1 : Int32) (iz : Nat) (zc : Int32) (fm : Value) (h0 : Heap) (n0 : Nat) (Z0 : n0 ≤ h0.size) (Es1 : Exa Z h0 x1 "java/lang/String") (Fv1 : Fld Z h0 x1 "java/lang/String" "value" "[B" (.ref t1)) (Fc1 : Fld Z h0 x1 "java/lang/String" "coder" "B" (.int (0 : Int32))) (As1 : Arv Z h0 t1 k1 .byte (Int32.ofNat c1.length) (bsV c1) (.int (0 : Int32))) (Es2 : Exa Z h0 x2 "java/lang/String") (Fv2 : Fld Z h0 x2 "java/lang/String" "value" "[B" (.ref t2)) (Fc2 : Fld Z h0 x2 "java/lang/String" "coder" "B" (.int (0 : Int32))) (As2 : Arv Z h0 t2 k2 .byte (Int32.ofNat c2.length) (bsV c2) (.int (0 : Int32))) (S4 : Sta Z Z.heap "java/lang/String" "COMPACT_STRINGS" "Z" (.int zc)) (O1 : Old Z n0 h0) (S5 : Sta Z Z.heap "jdk/internal/util/Preconditions" "SIOOBE_FORMATTER" "Ljava/util/function/BiFunction;" fm) (hCS : ¬ zc = 0) (hFM : fm.isRef = true) (l1 : c1.length ≤ 3) (l2 : c2.length ≤ 3) (q1 : ∀ c ∈ c1, ¬ c < 0 ∧ ¬ (255 : Int32) < c) (q2 : ∀ c ∈ c2, ¬ c < 0 ∧ ¬ (255 : Int32) < c) (hi : i1 = Int32.ofNat iz) (hz : iz < c1.length + 1 + c2.length) :
    MetFree l (⟨"com/example/mulock/mulock/zookeeper/ContenderPathPinLaw", "expAt", "(Ljava/lang/String;Ljava/lang/String;I)I"⟩ : MethodName) (head1 (Jvm.Cond.code (⟨"com/example/mulock/mulock/zookeeper/ContenderPathPinLaw", "expAt", "(Ljava/lang/String;Ljava/lang/String;I)I"⟩ : MethodName) method_3_code 4 (some .int) :: ws) ({ frames := 4, cells := 0, slots := 0, locals := 54 } : Room)) (fun a U => a = #[(.ref x1), (.ref x2), (.int i1)] ∧ Z.Warmed39 U.vm ∧ U.heap = h0) (fun _ _ _ _ _ => True) (fun _ U o U' => ∃ v L, o = .returned v ∧ Q_rmEA Z x1 t1 k1 c1 x2 t2 k2 c2 i1 iz zc fm h0 n0 v U'.heap L ∧ FrameEnd U o U' L ({ frames := 4, cells := 0, slots := 0, locals := 54 } : Room).cells ({ frames := 4, cells := 0, slots := 0, locals := 54 } : Room).slots) := by
  refine MetFree.of_bodySF (plainFor_of_name pn_com_example_mulock_mulock_zookeeper_ContenderPathPinLaw) hisR ?_
  intro p e s m args below meth c s₁ Bd hml0 hP hK
  obtain ⟨rfl, hZ, hh⟩ := hP
  have hx := Bd.exec
  have hby := Bd.bytes
  have hlk := BodyLoose.notSynchronized Bd
  have hml : c.maxLocals = 4 := hml0
  have hown : s.vm.findClass "com/example/mulock/mulock/zookeeper/ContenderPathPinLaw" = some m.cls := findClass_of_methodNamed Bd.named
  have hnm := (name_of_methodNamed Bd.named Bd.method).1
  have X0 : Stand p l e ({ frames := 4, cells := 0, slots := 0, locals := 54 } : Room) s m #[(.ref x1), (.ref x2), (.int i1)] below meth c s₁ [] 0 0 := Stand.of_body Bd
  have e0 : s₁.heap = h0 := by rw [← hh, Bd.state]; rfl
  have N0 := Fr.nil n0
  have K0 := Keep.refl h0 []
  clear hh
  show Wk p e below (EndN s (Q_rmEA Z x1 t1 k1 c1 x2 t2 k2 c2 i1 iz zc fm h0 n0) ({ frames := 4, cells := 0, slots := 0, locals := 54 } : Room).cells ({ frames := 4, cells := 0, slots := 0, locals := 54 } : Room).slots) s₁ (entryFrame m #[(.ref x1), (.ref x2), (.int i1)] 4)
  rw [ef_rmEA]
  have lt_Es1 := ny Es1.lt
  have lt_Fv1 := ny Fv1.lt
  have lt_Fc1 := ny Fc1.lt
  have lt_As1 := ny As1.lt
  have lt_Es2 := ny Es2.lt
  have lt_Fv2 := ny Fv2.lt
  have lt_Fc2 := ny Fc2.lt
  have lt_As2 := ny As2.lt
  refine Wk.iloadN X0 hx (hb hby d_m3_0) (n := 1) rfl rfl ?_
  refine Wk.aloadN X0 hx (hb hby d_m3_1) (n := 2) rfl rfl rfl ?_
  obtain ⟨cq1, kq1, qn1a, qn1b, qn1c⟩ := isOf hZ e0 Es1
  have cl1_ := fun (Ls : Array Slot) (hLs : Ls.size = c.maxLocals) => X0.virtualBack hx (y := (⟨"java/lang/String", "length", "()I"⟩ : MethodName)) (z := (⟨"java/lang/String", "length", "()I"⟩ : MethodName)) hown (mvT hZ (hw _ (List.mem_of_getElem? (i := 179) rfl))) (mvT hZ (hw _ (List.mem_of_getElem? (i := 97) rfl))) (notFace_of_selects (args := #[]) (mvT hZ (hw _ (List.mem_of_getElem? (i := 99) rfl)))) (mvT hZ (hw _ (List.mem_of_getElem? (i := 99) rfl))) (mvT hZ (hw _ (List.mem_of_getElem? (i := 98) rfl))) (by decide) (StrChars.Road.lenW (W := 1) hZ (fun d hd => hw d (own_wl d hd)) (kI := 4) (hw _ (List.mem_of_getElem? (i := 5) rfl)) Es1 Fv1 Fc1 As1 (StrChars.Road.codOf (cs := c1) (n := c1.length) rfl (fun c hc => (q1 c hc).2)) (own_up q1) (Sta.ext O1.2 S4) hCS (by omega) (by decide) (by decide)) qn1a qn1c (g := mkF m 2 Ls [(.ref x1), (.int i1)]) rfl hLs (Steps.refl _) (argsL := []) (rest := [(.int i1)]) (lenOf pd_7 rfl) rfl (by show 2 * 0 + _ ≤ _; exact Nat.le_of_eq rfl) (hb hby d_m3_2) (fun _ _ => ⟨rfl, e0, (by decide : 0 + 0 ≤ _), (by decide : 0 + 0 ≤ _)⟩)
  refine Wk.back (n := 5) (rc := 0) (rs := 0) (Q := fun v h' L => (v = some (.int (Int32.ofNat (c1 : List Int32).length)) ∧ L = [] ∧ h' = h0)) (cl1_ _ (by rw [hml]; rfl)) fun vn1 T1 L1 X1 hQ1 => ?_
  clear cl1_
  obtain ⟨rfl, rfl, e1⟩ := hQ1
  have N1 := Fr.app N0 (Fr.nil n0)
  show Wk p e below _ T1 (mkF m 5 _ [(.int (Int32.ofNat c1.length)), (.int i1)])
  by_cases hc5 : i1 < (Int32.ofNat c1.length)
  ·
    refine Wk.icmpNo X1 hx (hb hby d_m3_5) (n := 8) rfl (tlt hc5).2.1 ?_
    refine Wk.aloadN X1 hx (hb hby d_m3_8) (n := 9) rfl rfl rfl ?_
    refine Wk.iloadN X1 hx (hb hby d_m3_9) (n := 10) rfl rfl ?_
    have iy : iz < c1.length := by rw [hi] at hc5; exact (own_lt (by omega) (by omega)).mp hc5
    obtain ⟨cq2, kq2, qn2a, qn2b, qn2c⟩ := isOf hZ e1 Es1
    have cl2_ := fun (Ls : Array Slot) (hLs : Ls.size = c.maxLocals) => X1.virtualBack hx (y := (⟨"java/lang/String", "charAt", "(I)C"⟩ : MethodName)) (z := (⟨"java/lang/String", "charAt", "(I)C"⟩ : MethodName)) hown (mvT hZ (hw _ (List.mem_of_getElem? (i := 183) rfl))) (mvT hZ (hw _ (List.mem_of_getElem? (i := 184) rfl))) (notFace_of_selects (args := #[]) (mvT hZ (hw _ (List.mem_of_getElem? (i := 186) rfl)))) (mvT hZ (hw _ (List.mem_of_getElem? (i := 186) rfl))) (mvT hZ (hw _ (List.mem_of_getElem? (i := 185) rfl))) (by decide) (StrChars.Road.chN (W := 0) hZ (fun d hd => hw d (own_wc d hd)) (kI := 4) (hw _ (List.mem_of_getElem? (i := 5) rfl)) Es1 Fv1 Fc1 As1 (StrChars.Road.codOf (cs := c1) (n := c1.length) rfl (fun c hc => (q1 c hc).2)) (own_up q1) (Sta.ext O1.2 S4) hCS (Sta.ext O1.2 S5) hFM (by omega) (i := iz) iy (j := i1) hi (by decide) (by decide)) qn2a qn2c (g := mkF m 10 Ls [(.int i1), (.ref x1)]) rfl hLs (Steps.refl _) (argsL := [(.int i1)]) (rest := []) (lenOf pd_22 rfl) rfl (by show 2 * 0 + _ ≤ _; exact Nat.le_of_eq rfl) (hb hby d_m3_10) (fun _ _ => ⟨rfl, e1, (by decide : 0 + 0 + 0 ≤ _), (by decide : 0 + 0 + 0 ≤ _)⟩)
    refine Wk.back (n := 13) (rc := 0) (rs := 0) (Q := fun v h' L => (v = some (.int ((c1 : List Int32).getD iz 0)) ∧ L = [] ∧ h' = h0)) (cl2_ _ (by rw [hml]; rfl)) fun vn2 T2 L2 X2 hQ2 => ?_
    clear cl2_
    obtain ⟨rfl, rfl, e2⟩ := hQ2
    have N2 := Fr.app N1 (Fr.nil n0)
    show Wk p e below _ T2 (mkF m 13 _ [(.int (c1.getD iz 0))])
    exact Wk.leave X2 (v := some (.int (c1.getD iz 0))) (fun h => by rw [Bd.returns] at h; cases h) hlk e2 ⟨(congrArg (fun z => some (Value.int z)) (own_g1 c2 iy).symm), N2, rfl⟩ (by decide) (by decide) (fun fs hr => retI X2 hx Bd.returns (hb hby d_m3_13) hr)
  ·
    refine Wk.icmpYes X1 hx (hb hby d_m3_5) (flt hc5).2.1 (by decide) (n := 14) (by decide) ?_
    refine Wk.iloadN X1 hx (hb hby d_m3_14) (n := 15) rfl rfl ?_
    refine Wk.aloadN X1 hx (hb hby d_m3_15) (n := 16) rfl rfl rfl ?_
    obtain ⟨cq3, kq3, qn3a, qn3b, qn3c⟩ := isOf hZ e1 Es1
    have cl3_ := fun (Ls : Array Slot) (hLs : Ls.size = c.maxLocals) => X1.virtualBack hx (y := (⟨"java/lang/String", "length", "()I"⟩ : MethodName)) (z := (⟨"java/lang/String", "length", "()I"⟩ : MethodName)) hown (mvT hZ (hw _ (List.mem_of_getElem? (i := 179) rfl))) (mvT hZ (hw _ (List.mem_of_getElem? (i := 97) rfl))) (notFace_of_selects (args := #[]) (mvT hZ (hw _ (List.mem_of_getElem? (i := 99) rfl)))) (mvT hZ (hw _ (List.mem_of_getElem? (i := 99) rfl))) (mvT hZ (hw _ (List.mem_of_getElem? (i := 98) rfl))) (by decide) (StrChars.Road.lenW (W := 1) hZ (fun d hd => hw d (own_wl d hd)) (kI := 4) (hw _ (List.mem_of_getElem? (i := 5) rfl)) Es1 Fv1 Fc1 As1 (StrChars.Road.codOf (cs := c1) (n := c1.length) rfl (fun c hc => (q1 c hc).2)) (own_up q1) (Sta.ext O1.2 S4) hCS (by omega) (by decide) (by decide)) qn3a qn3c (g := mkF m 16 Ls [(.ref x1), (.int i1)]) rfl hLs (Steps.refl _) (argsL := []) (rest := [(.int i1)]) (lenOf pd_7 rfl) rfl (by show 2 * 0 + _ ≤ _; exact Nat.le_of_eq rfl) (hb hby d_m3_16) (fun _ _ => ⟨rfl, e1, (by decide : 0 + 0 + 0 ≤ _), (by decide : 0 + 0 + 0 ≤ _)⟩)
    refine Wk.back (n := 19) (rc := 0) (rs := 0) (Q := fun v h' L => (v = some (.int (Int32.ofNat (c1 : List Int32).length)) ∧ L = [] ∧ h' = h0)) (cl3_ _ (by rw [hml]; rfl)) fun vn3 T3 L3 X3 hQ3 => ?_
    clear cl3_
    obtain ⟨rfl, rfl, e3⟩ := hQ3
    have N3 := Fr.app N1 (Fr.nil n0)
    show Wk p e below _ T3 (mkF m 19 _ [(.int (Int32.ofNat c1.length)), (.int i1)])
    by_cases hc19 : i1 = (Int32.ofNat c1.length)
    ·
      refine Wk.icmpNo X3 hx (hb hby d_m3_19) (n := 22) rfl (teq hc19).2 ?_
      refine Wk.bipush X3 hx (hb hby d_m3_22) (n := 24) rfl (z := (47 : Int32)) rfl ?_
      exact Wk.leave X3 (v := some (.int (47 : Int32))) (fun h => by rw [Bd.returns] at h; cases h) hlk e3 ⟨(congrArg (fun z => some (Value.int z)) (own_g2 c1 c2 (show iz = c1.length from (own_eqi (by omega) (by omega)).mp (hi ▸ hc19))).symm), N3, rfl⟩ (by decide) (by decide) (fun fs hr => retI X3 hx Bd.returns (hb hby d_m3_24) hr)
    ·
      refine Wk.icmpYes X3 hx (hb hby d_m3_19) (feq hc19).2 (by decide) (n := 25) (by decide) ?_
      refine Wk.iloadN X3 hx (hb hby d_m3_25) (n := 26) rfl rfl ?_
      refine Wk.aloadN X3 hx (hb hby d_m3_26) (n := 27) rfl rfl rfl ?_
      have iy : ¬ iz < c1.length := fun q => hc5 (by rw [hi]; exact (own_lt (by omega) (by omega)).mpr q)
      have iw : ¬ iz = c1.length := fun q => hc19 (by rw [hi, q])
      obtain ⟨cq4, kq4, qn4a, qn4b, qn4c⟩ := isOf hZ e3 Es1
      have cl4_ := fun (Ls : Array Slot) (hLs : Ls.size = c.maxLocals) => X3.virtualBack hx (y := (⟨"java/lang/String", "length", "()I"⟩ : MethodName)) (z := (⟨"java/lang/String", "length", "()I"⟩ : MethodName)) hown (mvT hZ (hw _ (List.mem_of_getElem? (i := 179) rfl))) (mvT hZ (hw _ (List.mem_of_getElem? (i := 97) rfl))) (notFace_of_selects (args := #[]) (mvT hZ (hw _ (List.mem_of_getElem? (i := 99) rfl)))) (mvT hZ (hw _ (List.mem_of_getElem? (i := 99) rfl))) (mvT hZ (hw _ (List.mem_of_getElem? (i := 98) rfl))) (by decide) (StrChars.Road.lenW (W := 1) hZ (fun d hd => hw d (own_wl d hd)) (kI := 4) (hw _ (List.mem_of_getElem? (i := 5) rfl)) Es1 Fv1 Fc1 As1 (StrChars.Road.codOf (cs := c1) (n := c1.length) rfl (fun c hc => (q1 c hc).2)) (own_up q1) (Sta.ext O1.2 S4) hCS (by omega) (by decide) (by decide)) qn4a qn4c (g := mkF m 27 Ls [(.ref x1), (.int i1)]) rfl hLs (Steps.refl _) (argsL := []) (rest := [(.int i1)]) (lenOf pd_7 rfl) rfl (by show 2 * 0 + _ ≤ _; exact Nat.le_of_eq rfl) (hb hby d_m3_27) (fun _ _ => ⟨rfl, e3, (by decide : 0 + 0 + 0 + 0 ≤ _), (by decide : 0 + 0 + 0 + 0 ≤ _)⟩)
      refine Wk.back (n := 30) (rc := 0) (rs := 0) (Q := fun v h' L => (v = some (.int (Int32.ofNat (c1 : List Int32).length)) ∧ L = [] ∧ h' = h0)) (cl4_ _ (by rw [hml]; rfl)) fun vn4 T4 L4 X4 hQ4 => ?_
      clear cl4_
      obtain ⟨rfl, rfl, e4⟩ := hQ4
      have N4 := Fr.app N3 (Fr.nil n0)
      show Wk p e below _ T4 (mkF m 30 _ [(.int (Int32.ofNat c1.length)), (.int i1)])
      refine Wk.isub X4 hx (hb hby d_m3_30) (n := 31) rfl ?_
      refine Wk.iconst X4 hx (hb hby d_m3_31) (n := 32) rfl (z := (1 : Int32)) rfl ?_
      refine Wk.isub X4 hx (hb hby d_m3_32) (n := 33) rfl ?_
      refine Wk.istoreN X4 hx (hb hby d_m3_33) (n := 34) rfl (L' := #[.val (.ref x1), .val (.ref x2), .val (.int i1), .val (.int ((i1 - (Int32.ofNat c1.length)) - (1 : Int32)))]) rfl ?_
      refine Wk.iloadN X4 hx (hb hby d_m3_34) (n := 35) rfl rfl ?_
      refine Wk.aloadN X4 hx (hb hby d_m3_35) (n := 36) rfl rfl rfl ?_
      obtain ⟨cq5, kq5, qn5a, qn5b, qn5c⟩ := isOf hZ e4 Es2
      have cl5_ := fun (Ls : Array Slot) (hLs : Ls.size = c.maxLocals) => X4.virtualBack hx (y := (⟨"java/lang/String", "length", "()I"⟩ : MethodName)) (z := (⟨"java/lang/String", "length", "()I"⟩ : MethodName)) hown (mvT hZ (hw _ (List.mem_of_getElem? (i := 179) rfl))) (mvT hZ (hw _ (List.mem_of_getElem? (i := 97) rfl))) (notFace_of_selects (args := #[]) (mvT hZ (hw _ (List.mem_of_getElem? (i := 99) rfl)))) (mvT hZ (hw _ (List.mem_of_getElem? (i := 99) rfl))) (mvT hZ (hw _ (List.mem_of_getElem? (i := 98) rfl))) (by decide) (StrChars.Road.lenW (W := 1) hZ (fun d hd => hw d (own_wl d hd)) (kI := 4) (hw _ (List.mem_of_getElem? (i := 5) rfl)) Es2 Fv2 Fc2 As2 (StrChars.Road.codOf (cs := c2) (n := c2.length) rfl (fun c hc => (q2 c hc).2)) (own_up q2) (Sta.ext O1.2 S4) hCS (by omega) (by decide) (by decide)) qn5a qn5c (g := mkF m 36 Ls [(.ref x2), (.int ((i1 - (Int32.ofNat c1.length)) - (1 : Int32)))]) rfl hLs (Steps.refl _) (argsL := []) (rest := [(.int ((i1 - (Int32.ofNat c1.length)) - (1 : Int32)))]) (lenOf pd_7 rfl) rfl (by show 2 * 0 + _ ≤ _; exact Nat.le_of_eq rfl) (hb hby d_m3_36) (fun _ _ => ⟨rfl, e4, (by decide : 0 + 0 + 0 + 0 + 0 ≤ _), (by decide : 0 + 0 + 0 + 0 + 0 ≤ _)⟩)
      refine Wk.back (n := 39) (rc := 0) (rs := 0) (Q := fun v h' L => (v = some (.int (Int32.ofNat (c2 : List Int32).length)) ∧ L = [] ∧ h' = h0)) (cl5_ _ (by rw [hml]; rfl)) fun vn5 T5 L5 X5 hQ5 => ?_
      clear cl5_
      obtain ⟨rfl, rfl, e5⟩ := hQ5
      have N5 := Fr.app N4 (Fr.nil n0)
      show Wk p e below _ T5 (mkF m 39 _ [(.int (Int32.ofNat c2.length)), (.int ((i1 - (Int32.ofNat c1.length)) - (1 : Int32)))])
      have ij : i1 - (Int32.ofNat c1.length) - (1 : Int32) = Int32.ofNat (iz - c1.length - 1) := by rw [hi, own_ofsub (by omega)]; exact own_ofsub (b := 1) (by omega)
      have hc39_6 : ((i1 - (Int32.ofNat c1.length)) - (1 : Int32)) < (Int32.ofNat c2.length) := by rw [ij]; exact (own_lt (by omega) (by omega)).mpr (by omega)
      refine Wk.icmpNo X5 hx (hb hby d_m3_39) (n := 42) rfl (tlt hc39_6).2.1 ?_
      refine Wk.aloadN X5 hx (hb hby d_m3_42) (n := 43) rfl rfl rfl ?_
      refine Wk.iloadN X5 hx (hb hby d_m3_43) (n := 44) rfl rfl ?_
      obtain ⟨cq7, kq7, qn7a, qn7b, qn7c⟩ := isOf hZ e5 Es2
      have cl7_ := fun (Ls : Array Slot) (hLs : Ls.size = c.maxLocals) => X5.virtualBack hx (y := (⟨"java/lang/String", "charAt", "(I)C"⟩ : MethodName)) (z := (⟨"java/lang/String", "charAt", "(I)C"⟩ : MethodName)) hown (mvT hZ (hw _ (List.mem_of_getElem? (i := 183) rfl))) (mvT hZ (hw _ (List.mem_of_getElem? (i := 184) rfl))) (notFace_of_selects (args := #[]) (mvT hZ (hw _ (List.mem_of_getElem? (i := 186) rfl)))) (mvT hZ (hw _ (List.mem_of_getElem? (i := 186) rfl))) (mvT hZ (hw _ (List.mem_of_getElem? (i := 185) rfl))) (by decide) (StrChars.Road.chN (W := 0) hZ (fun d hd => hw d (own_wc d hd)) (kI := 4) (hw _ (List.mem_of_getElem? (i := 5) rfl)) Es2 Fv2 Fc2 As2 (StrChars.Road.codOf (cs := c2) (n := c2.length) rfl (fun c hc => (q2 c hc).2)) (own_up q2) (Sta.ext O1.2 S4) hCS (Sta.ext O1.2 S5) hFM (by omega) (i := (iz - c1.length - 1)) (by omega) (j := ((i1 - (Int32.ofNat c1.length)) - (1 : Int32))) ij (by decide) (by decide)) qn7a qn7c (g := mkF m 44 Ls [(.int ((i1 - (Int32.ofNat c1.length)) - (1 : Int32))), (.ref x2)]) rfl hLs (Steps.refl _) (argsL := [(.int ((i1 - (Int32.ofNat c1.length)) - (1 : Int32)))]) (rest := []) (lenOf pd_22 rfl) rfl (by show 2 * 0 + _ ≤ _; exact Nat.le_of_eq rfl) (hb hby d_m3_44) (fun _ _ => ⟨rfl, e5, (by decide : 0 + 0 + 0 + 0 + 0 + 0 ≤ _), (by decide : 0 + 0 + 0 + 0 + 0 + 0 ≤ _)⟩)
      refine Wk.back (n := 47) (rc := 0) (rs := 0) (Q := fun v h' L => (v = some (.int ((c2 : List Int32).getD (iz - c1.length - 1) 0)) ∧ L = [] ∧ h' = h0)) (cl7_ _ (by rw [hml]; rfl)) fun vn7 T7 L7 X7 hQ7 => ?_
      clear cl7_
      obtain ⟨rfl, rfl, e7⟩ := hQ7
      have N7 := Fr.app N5 (Fr.nil n0)
      show Wk p e below _ T7 (mkF m 47 _ [(.int (c2.getD (iz - c1.length - 1) 0))])
      exact Wk.leave X7 (v := some (.int (c2.getD (iz - c1.length - 1) 0))) (fun h => by rw [Bd.returns] at h; cases h) hlk e7 ⟨(congrArg (fun z => some (Value.int z)) (own_g3 c1 c2 (i := iz) (by omega)).symm), N7, rfl⟩ (by decide) (by decide) (fun fs hr => retI X7 hx Bd.returns (hb hby d_m3_47) hr)
def Q_rmAT (Z : State) (x3 : Addr) (t3 : Addr) (k3 : ClassId) (x1 : Addr) (t1 : Addr) (k1 : ClassId) (c1 : List Int32) (x2 : Addr) (t2 : Addr) (k2 : ClassId) (c2 : List Int32) (i1 : Int32) (iz : Nat) (zc : Int32) (fm : Value) (h0 : Heap) (n0 : Nat) (v : Option Value) (h : Heap) (L : List Loc) : Prop := v = some (.int (1 : Int32)) ∧ Fr n0 L ∧ h = h0
theorem ef_rmAT (m : MethodId) (x0 : Addr) (x1 : Addr) (x2 : Addr) (x3 : Int32) : entryFrame m #[(.ref x0), (.ref x1), (.ref x2), (.int x3)] 4 = mkF m 0 #[.val (.ref x0), .val (.ref x1), .val (.ref x2), .val (.int x3)] [] := by first | (simp [entryFrame, mkF, argsToLocals, Value.category]; done) | rfl
theorem d_m4_0 : decode method_4_code 0 = .ok (.iload_n 3, 1) := by decide +kernel
theorem d_m4_1 : decode method_4_code 1 = .ok (.aload_n 0, 1) := by decide +kernel
theorem d_m4_2 : decode method_4_code 2 = .ok (.invokevirtual 12, 3) := by decide +kernel
theorem d_m4_5 : decode method_4_code 5 = .ok (.if_icmp .ge 17, 3) := by decide +kernel
theorem d_m4_8 : decode method_4_code 8 = .ok (.aload_n 0, 1) := by decide +kernel
theorem d_m4_9 : decode method_4_code 9 = .ok (.iload_n 3, 1) := by decide +kernel
theorem d_m4_10 : decode method_4_code 10 = .ok (.invokevirtual 16, 3) := by decide +kernel
theorem d_m4_13 : decode method_4_code 13 = .ok (.aload_n 1, 1) := by decide +kernel
theorem d_m4_14 : decode method_4_code 14 = .ok (.aload_n 2, 1) := by decide +kernel
theorem d_m4_15 : decode method_4_code 15 = .ok (.iload_n 3, 1) := by decide +kernel
theorem d_m4_16 : decode method_4_code 16 = .ok (.invokestatic 20, 3) := by decide +kernel
theorem pd_23 : parseMethodDescriptor "(Ljava/lang/String;Ljava/lang/String;I)I" = some ⟨[(.object "java/lang/String"), (.object "java/lang/String"), .int], some .int⟩ := by decide +kernel
theorem d_m4_19 : decode method_4_code 19 = .ok (.if_icmp .ne 7, 3) := by decide +kernel
theorem d_m4_22 : decode method_4_code 22 = .ok (.iconst 1, 1) := by decide +kernel
theorem d_m4_23 : decode method_4_code 23 = .ok (.goto 4, 3) := by decide +kernel
theorem d_m4_27 : decode method_4_code 27 = .ok (.ireturn, 1) := by decide +kernel
set_option maxRecDepth 65536 in
set_option maxHeartbeats 40000000 in
theorem rmAT (l : Launch) (Z : State) (a0 : Array Value) (hw : ∀ d ∈ tables_1, d.before a0 Z = true) (ws : List Jvm.Cond) (x3 : Addr) (t3 : Addr) (k3 : ClassId) (x1 : Addr) (t1 : Addr) (k1 : ClassId) (c1 : List Int32) (x2 : Addr) (t2 : Addr) (k2 : ClassId) (c2 : List Int32) (i1 : Int32) (iz : Nat) (zc : Int32) (fm : Value) (h0 : Heap) (n0 : Nat) (Z0 : n0 ≤ h0.size) (Es3 : Exa Z h0 x3 "java/lang/String") (Fv3 : Fld Z h0 x3 "java/lang/String" "value" "[B" (.ref t3)) (Fc3 : Fld Z h0 x3 "java/lang/String" "coder" "B" (.int (0 : Int32))) (As3 : Arv Z h0 t3 k3 .byte (Int32.ofNat (c1 ++ 47 :: c2).length) (bsV (c1 ++ 47 :: c2)) (.int (0 : Int32))) (Es1 : Exa Z h0 x1 "java/lang/String") (Fv1 : Fld Z h0 x1 "java/lang/String" "value" "[B" (.ref t1)) (Fc1 : Fld Z h0 x1 "java/lang/String" "coder" "B" (.int (0 : Int32))) (As1 : Arv Z h0 t1 k1 .byte (Int32.ofNat c1.length) (bsV c1) (.int (0 : Int32))) (Es2 : Exa Z h0 x2 "java/lang/String") (Fv2 : Fld Z h0 x2 "java/lang/String" "value" "[B" (.ref t2)) (Fc2 : Fld Z h0 x2 "java/lang/String" "coder" "B" (.int (0 : Int32))) (As2 : Arv Z h0 t2 k2 .byte (Int32.ofNat c2.length) (bsV c2) (.int (0 : Int32))) (S4 : Sta Z Z.heap "java/lang/String" "COMPACT_STRINGS" "Z" (.int zc)) (O1 : Old Z n0 h0) (S5 : Sta Z Z.heap "jdk/internal/util/Preconditions" "SIOOBE_FORMATTER" "Ljava/util/function/BiFunction;" fm) (hCS : ¬ zc = 0) (hFM : fm.isRef = true) (l1 : c1.length ≤ 3) (l2 : c2.length ≤ 3) (q1 : ∀ c ∈ c1, ¬ c < 0 ∧ ¬ (255 : Int32) < c) (q2 : ∀ c ∈ c2, ¬ c < 0 ∧ ¬ (255 : Int32) < c) (hi : i1 = Int32.ofNat iz) (hz6 : iz ≤ 6) :
    MetFree l (⟨"com/example/mulock/mulock/zookeeper/ContenderPathPinLaw", "at", "(Ljava/lang/String;Ljava/lang/String;Ljava/lang/String;I)Z"⟩ : MethodName) (head1 (Jvm.Cond.code (⟨"com/example/mulock/mulock/zookeeper/ContenderPathPinLaw", "at", "(Ljava/lang/String;Ljava/lang/String;Ljava/lang/String;I)Z"⟩ : MethodName) method_4_code 4 (some .boolean) :: ws) ({ frames := 5, cells := 0, slots := 0, locals := 70 } : Room)) (fun a U => a = #[(.ref x3), (.ref x1), (.ref x2), (.int i1)] ∧ Z.Warmed39 U.vm ∧ U.heap = h0) (fun _ _ _ _ _ => True) (fun _ U o U' => ∃ v L, o = .returned v ∧ Q_rmAT Z x3 t3 k3 x1 t1 k1 c1 x2 t2 k2 c2 i1 iz zc fm h0 n0 v U'.heap L ∧ FrameEnd U o U' L ({ frames := 5, cells := 0, slots := 0, locals := 70 } : Room).cells ({ frames := 5, cells := 0, slots := 0, locals := 70 } : Room).slots) := by
  refine MetFree.of_bodySF (plainFor_of_name pn_com_example_mulock_mulock_zookeeper_ContenderPathPinLaw) hisR ?_
  intro p e s m args below meth c s₁ Bd hml0 hP hK
  obtain ⟨rfl, hZ, hh⟩ := hP
  have hx := Bd.exec
  have hby := Bd.bytes
  have hlk := BodyLoose.notSynchronized Bd
  have hml : c.maxLocals = 4 := hml0
  have hown : s.vm.findClass "com/example/mulock/mulock/zookeeper/ContenderPathPinLaw" = some m.cls := findClass_of_methodNamed Bd.named
  have hnm := (name_of_methodNamed Bd.named Bd.method).1
  have X0 : Stand p l e ({ frames := 5, cells := 0, slots := 0, locals := 70 } : Room) s m #[(.ref x3), (.ref x1), (.ref x2), (.int i1)] below meth c s₁ [] 0 0 := Stand.of_body Bd
  have e0 : s₁.heap = h0 := by rw [← hh, Bd.state]; rfl
  have N0 := Fr.nil n0
  have K0 := Keep.refl h0 []
  clear hh
  show Wk p e below (EndN s (Q_rmAT Z x3 t3 k3 x1 t1 k1 c1 x2 t2 k2 c2 i1 iz zc fm h0 n0) ({ frames := 5, cells := 0, slots := 0, locals := 70 } : Room).cells ({ frames := 5, cells := 0, slots := 0, locals := 70 } : Room).slots) s₁ (entryFrame m #[(.ref x3), (.ref x1), (.ref x2), (.int i1)] 4)
  rw [ef_rmAT]
  have lt_Es3 := ny Es3.lt
  have lt_Fv3 := ny Fv3.lt
  have lt_Fc3 := ny Fc3.lt
  have lt_As3 := ny As3.lt
  have lt_Es1 := ny Es1.lt
  have lt_Fv1 := ny Fv1.lt
  have lt_Fc1 := ny Fc1.lt
  have lt_As1 := ny As1.lt
  have lt_Es2 := ny Es2.lt
  have lt_Fv2 := ny Fv2.lt
  have lt_Fc2 := ny Fc2.lt
  have lt_As2 := ny As2.lt
  have q3 : ∀ c ∈ (c1 ++ 47 :: c2), ¬ c < 0 ∧ ¬ (255 : Int32) < c := own_r3 q1 q2
  have l3 : (c1 ++ 47 :: c2).length = c1.length + 1 + c2.length := own_l3 c1 c2
  refine Wk.iloadN X0 hx (hb hby d_m4_0) (n := 1) rfl rfl ?_
  refine Wk.aloadN X0 hx (hb hby d_m4_1) (n := 2) rfl rfl rfl ?_
  obtain ⟨cq1, kq1, qn1a, qn1b, qn1c⟩ := isOf hZ e0 Es3
  have cl1_ := fun (Ls : Array Slot) (hLs : Ls.size = c.maxLocals) => X0.virtualBack hx (y := (⟨"java/lang/String", "length", "()I"⟩ : MethodName)) (z := (⟨"java/lang/String", "length", "()I"⟩ : MethodName)) hown (mvT hZ (hw _ (List.mem_of_getElem? (i := 179) rfl))) (mvT hZ (hw _ (List.mem_of_getElem? (i := 97) rfl))) (notFace_of_selects (args := #[]) (mvT hZ (hw _ (List.mem_of_getElem? (i := 99) rfl)))) (mvT hZ (hw _ (List.mem_of_getElem? (i := 99) rfl))) (mvT hZ (hw _ (List.mem_of_getElem? (i := 98) rfl))) (by decide) (StrChars.Road.lenW (W := 1) hZ (fun d hd => hw d (own_wl d hd)) (kI := 4) (hw _ (List.mem_of_getElem? (i := 5) rfl)) Es3 Fv3 Fc3 As3 (StrChars.Road.codOf (cs := (c1 ++ 47 :: c2)) (n := (c1 ++ 47 :: c2).length) rfl (fun c hc => (q3 c hc).2)) (own_up q3) (Sta.ext O1.2 S4) hCS (by omega) (by decide) (by decide)) qn1a qn1c (g := mkF m 2 Ls [(.ref x3), (.int i1)]) rfl hLs (Steps.refl _) (argsL := []) (rest := [(.int i1)]) (lenOf pd_7 rfl) rfl (by show 2 * 0 + _ ≤ _; exact Nat.le_of_eq rfl) (hb hby d_m4_2) (fun _ _ => ⟨rfl, e0, (by decide : 0 + 0 ≤ _), (by decide : 0 + 0 ≤ _)⟩)
  refine Wk.back (n := 5) (rc := 0) (rs := 0) (Q := fun v h' L => (v = some (.int (Int32.ofNat ((c1 ++ 47 :: c2) : List Int32).length)) ∧ L = [] ∧ h' = h0)) (cl1_ _ (by rw [hml]; rfl)) fun vn1 T1 L1 X1 hQ1 => ?_
  clear cl1_
  obtain ⟨rfl, rfl, e1⟩ := hQ1
  have N1 := Fr.app N0 (Fr.nil n0)
  show Wk p e below _ T1 (mkF m 5 _ [(.int (Int32.ofNat (c1 ++ 47 :: c2).length)), (.int i1)])
  by_cases hc5 : i1 < (Int32.ofNat (c1 ++ 47 :: c2).length)
  ·
    refine Wk.icmpNo X1 hx (hb hby d_m4_5) (n := 8) rfl (tlt hc5).2.1 ?_
    refine Wk.aloadN X1 hx (hb hby d_m4_8) (n := 9) rfl rfl rfl ?_
    refine Wk.iloadN X1 hx (hb hby d_m4_9) (n := 10) rfl rfl ?_
    have iy : iz < (c1 ++ 47 :: c2).length := by rw [hi] at hc5; exact (own_lt (by omega) (by omega)).mp hc5
    obtain ⟨cq2, kq2, qn2a, qn2b, qn2c⟩ := isOf hZ e1 Es3
    have cl2_ := fun (Ls : Array Slot) (hLs : Ls.size = c.maxLocals) => X1.virtualBack hx (y := (⟨"java/lang/String", "charAt", "(I)C"⟩ : MethodName)) (z := (⟨"java/lang/String", "charAt", "(I)C"⟩ : MethodName)) hown (mvT hZ (hw _ (List.mem_of_getElem? (i := 183) rfl))) (mvT hZ (hw _ (List.mem_of_getElem? (i := 184) rfl))) (notFace_of_selects (args := #[]) (mvT hZ (hw _ (List.mem_of_getElem? (i := 186) rfl)))) (mvT hZ (hw _ (List.mem_of_getElem? (i := 186) rfl))) (mvT hZ (hw _ (List.mem_of_getElem? (i := 185) rfl))) (by decide) (StrChars.Road.chN (W := 0) hZ (fun d hd => hw d (own_wc d hd)) (kI := 4) (hw _ (List.mem_of_getElem? (i := 5) rfl)) Es3 Fv3 Fc3 As3 (StrChars.Road.codOf (cs := (c1 ++ 47 :: c2)) (n := (c1 ++ 47 :: c2).length) rfl (fun c hc => (q3 c hc).2)) (own_up q3) (Sta.ext O1.2 S4) hCS (Sta.ext O1.2 S5) hFM (by omega) (i := iz) iy (j := i1) hi (by decide) (by decide)) qn2a qn2c (g := mkF m 10 Ls [(.int i1), (.ref x3)]) rfl hLs (Steps.refl _) (argsL := [(.int i1)]) (rest := []) (lenOf pd_22 rfl) rfl (by show 2 * 0 + _ ≤ _; exact Nat.le_of_eq rfl) (hb hby d_m4_10) (fun _ _ => ⟨rfl, e1, (by decide : 0 + 0 + 0 ≤ _), (by decide : 0 + 0 + 0 ≤ _)⟩)
    refine Wk.back (n := 13) (rc := 0) (rs := 0) (Q := fun v h' L => (v = some (.int (((c1 ++ 47 :: c2) : List Int32).getD iz 0)) ∧ L = [] ∧ h' = h0)) (cl2_ _ (by rw [hml]; rfl)) fun vn2 T2 L2 X2 hQ2 => ?_
    clear cl2_
    obtain ⟨rfl, rfl, e2⟩ := hQ2
    have N2 := Fr.app N1 (Fr.nil n0)
    show Wk p e below _ T2 (mkF m 13 _ [(.int ((c1 ++ 47 :: c2).getD iz 0))])
    refine Wk.aloadN X2 hx (hb hby d_m4_13) (n := 14) rfl rfl rfl ?_
    refine Wk.aloadN X2 hx (hb hby d_m4_14) (n := 15) rfl rfl rfl ?_
    refine Wk.iloadN X2 hx (hb hby d_m4_15) (n := 16) rfl rfl ?_
    have cl3_ := fun (Ls : Array Slot) (hLs : Ls.size = c.maxLocals) => Jvm.LawKit.callS X2 hx (y := (⟨"com/example/mulock/mulock/zookeeper/ContenderPathPinLaw", "expAt", "(Ljava/lang/String;Ljava/lang/String;I)I"⟩ : MethodName)) hown (mvT hZ (hw _ (List.mem_of_getElem? (i := 204) rfl))) (mvT hZ (hw _ (List.mem_of_getElem? (i := 205) rfl))) (mvT hZ (hw _ (List.mem_of_getElem? (i := 2) rfl))) (mvT hZ (hw _ (List.mem_of_getElem? (i := 206) rfl))) (by decide) (backOf (W := 1) (rmEA l Z a0 hw [] x1 t1 k1 c1 x2 t2 k2 c2 i1 iz zc fm h0 n0 (by omega) Es1 Fv1 Fc1 As1 Es2 Fv2 Fc2 As2 S4 O1 S5 hCS hFM (by omega) (by omega) q1 q2 hi (by omega)) hZ (hw _ (List.mem_of_getElem? (i := 206) rfl)) (hw _ (List.mem_of_getElem? (i := 2) rfl)) (by decide) (by decide)) (g := mkF m 16 Ls [(.int i1), (.ref x2), (.ref x1), (.int ((c1 ++ 47 :: c2).getD iz 0))]) rfl hLs (argsL := [(.ref x1), (.ref x2), (.int i1)]) (rest := [(.int ((c1 ++ 47 :: c2).getD iz 0))]) (lenOf pd_23 rfl) rfl (by show 2 * 0 + _ ≤ _; exact Nat.le_of_eq rfl) (hb hby d_m4_16) (fun _ _ => ⟨rfl, e2, (by decide : 0 + 0 + 0 + 0 ≤ _), (by decide : 0 + 0 + 0 + 0 ≤ _)⟩)
    refine Wk.backS (n := 19) (rc := 0) (rs := 0) (Q := Q_rmEA Z x1 t1 k1 c1 x2 t2 k2 c2 i1 iz zc fm h0 n0) (cl3_ _ (by rw [hml]; rfl)) fun vn3 T3 L3 X3 hQ3 => ?_
    clear cl3_
    obtain ⟨rfl, M3, e3⟩ := hQ3
    have N3 := Fr.app N2 M3
    show Wk p e below _ T3 (mkF m 19 _ [(.int ((c1 ++ 47 :: c2).getD iz 0)), (.int ((c1 ++ 47 :: c2).getD iz 0))])
    have hc19_4 : ((c1 ++ 47 :: c2).getD iz 0) = ((c1 ++ 47 :: c2).getD iz 0) := rfl
    refine Wk.icmpNo X3 hx (hb hby d_m4_19) (n := 22) rfl (teq hc19_4).2 ?_
    refine Wk.iconst X3 hx (hb hby d_m4_22) (n := 23) rfl (z := (1 : Int32)) rfl ?_
    refine Wk.goto X3 hx (hb hby d_m4_23) (by decide) (n := 27) (by decide) ?_
    exact Wk.leave X3 (v := some (.int (1 : Int32))) (fun h => by rw [Bd.returns] at h; cases h) hlk e3 ⟨rfl, N3, rfl⟩ (by decide) (by decide) (fun fs hr => retNz X3 hx (t := .boolean) rfl Bd.returns (by simp) (hb hby d_m4_27) hr)
  ·
    refine Wk.icmpYes X1 hx (hb hby d_m4_5) (flt hc5).2.1 (by decide) (n := 22) (by decide) ?_
    refine Wk.iconst X1 hx (hb hby d_m4_22) (n := 23) rfl (z := (1 : Int32)) rfl ?_
    refine Wk.goto X1 hx (hb hby d_m4_23) (by decide) (n := 27) (by decide) ?_
    exact Wk.leave X1 (v := some (.int (1 : Int32))) (fun h => by rw [Bd.returns] at h; cases h) hlk e1 ⟨rfl, N1, rfl⟩ (by decide) (by decide) (fun fs hr => retNz X1 hx (t := .boolean) rfl Bd.returns (by simp) (hb hby d_m4_27) hr)
def Q_rm0 (Z : State) (p1 : Int32) (p2 : Int32) (p3 : Int32) (j1 : Int64) (j2 : Int64) (zc : Int32) (fm : Value) (h0 : Heap) (n0 : Nat) (v : Option Value) (h : Heap) (L : List Loc) : Prop := v = some (.int (1 : Int32)) ∧ Fr n0 L ∧ Keep h0 h []
theorem ef_rm0 (m : MethodId) (x0 : Int32) (x1 : Int32) (x2 : Int32) (x3 : Int64) (x4 : Int64) : entryFrame m #[(.int x0), (.int x1), (.int x2), (.long x3), (.long x4)] maxLocals = mkF m 0 #[.val (.int x0), .val (.int x1), .val (.int x2), .val (.long x3), .second, .val (.long x4), .second, .unset, .unset, .unset, .unset, .unset] [] := by first | (simp [entryFrame, mkF, argsToLocals, Value.category, maxLocals]; done) | rfl
theorem pd_24 : parseMethodDescriptor "(I)Ljava/lang/String;" = some ⟨[.int], some (.object "java/lang/String")⟩ := by decide +kernel
theorem pd_25 : parseMethodDescriptor "(C)Ljava/lang/String;" = some ⟨[.char], some (.object "java/lang/String")⟩ := by decide +kernel
theorem pd_26 : parseMethodDescriptor "(Ljava/lang/String;Ljava/lang/String;Ljava/lang/String;JJ)V" = some ⟨[(.object "java/lang/String"), (.object "java/lang/String"), (.object "java/lang/String"), .long, .long], none⟩ := by decide +kernel
theorem pd_27 : parseMethodDescriptor "(Ljava/lang/String;Ljava/lang/String;Ljava/lang/String;I)Z" = some ⟨[(.object "java/lang/String"), (.object "java/lang/String"), (.object "java/lang/String"), .int], some .boolean⟩ := by decide +kernel
set_option maxRecDepth 65536 in
set_option maxHeartbeats 40000000 in
theorem rm0 (l : Launch) (Z : State) (a0 : Array Value) (hw : ∀ d ∈ tables_1, d.before a0 Z = true) (ws : List Jvm.Cond) (p1 : Int32) (p2 : Int32) (p3 : Int32) (j1 : Int64) (j2 : Int64) (zc : Int32) (fm : Value) (h0 : Heap) (n0 : Nat) (Z0 : n0 ≤ h0.size) (S4 : Sta Z Z.heap "java/lang/String" "COMPACT_STRINGS" "Z" (.int zc)) (O1 : Old Z n0 h0) (S5 : Sta Z Z.heap "jdk/internal/util/Preconditions" "SIOOBE_FORMATTER" "Ljava/util/function/BiFunction;" fm) (hCS : ¬ zc = 0) (hFM : fm.isRef = true) :
    MetFree l x (head1 (Jvm.Cond.code x code maxLocals ret :: ws) room_1) (fun a U => a = #[(.int p1), (.int p2), (.int p3), (.long j1), (.long j2)] ∧ Z.Warmed39 U.vm ∧ U.heap = h0 ∧ CHv Z own_EL U.vm h0 ∧ ∀ x ∈ ([] : List Addr), Safe Z own_EL U.vm h0 x) (fun _ _ _ _ _ => True) (fun _ U o U' => ∃ v L, o = .returned v ∧ Q_rm0 Z p1 p2 p3 j1 j2 zc fm h0 n0 v U'.heap L ∧ CHr Z own_EL U.vm U.heap U'.vm U'.heap ∧ ReturnedEndW U o U' L room_1.cells room_1.slots) := by
  refine MetFree.of_bodySF (plainFor_of_name pn_com_example_mulock_mulock_zookeeper_ContenderPathPinLaw) hisR ?_
  intro p e s m args below meth c s₁ Bd hml0 hP hK
  obtain ⟨rfl, hZ, hh, hCH, hSf⟩ := hP
  have hx := Bd.exec
  have hby := Bd.bytes
  have hlk := BodyLoose.notSynchronized Bd
  have hml : c.maxLocals = 12 := hml0
  have hown : s.vm.findClass "com/example/mulock/mulock/zookeeper/ContenderPathPinLaw" = some m.cls := findClass_of_methodNamed Bd.named
  have hnm := (name_of_methodNamed Bd.named Bd.method).1
  have X0 : Stand p l e room_1 s m #[(.int p1), (.int p2), (.int p3), (.long j1), (.long j2)] below meth c s₁ [] 0 0 := Stand.of_body Bd
  have e0 : s₁.heap = h0 := by rw [← hh, Bd.state]; rfl
  have N0 := Fr.nil n0
  have K0 := Keep.refl h0 []
  skip
  show Wk p e below (EndW Z own_EL s (Q_rm0 Z p1 p2 p3 j1 j2 zc fm h0 n0) room_1.cells room_1.slots) s₁ (entryFrame m #[(.int p1), (.int p2), (.int p3), (.long j1), (.long j2)] maxLocals)
  rw [ef_rm0]
  have Bs0 := Base.start s h0.size
  have R0 := CHr.refl hCH
  have hELw := own_ew hw
  refine Wk.iloadN X0 hx (hb hby at_0) (n := 1) rfl rfl ?_
  have cl1_ := fun (Ls : Array Slot) (hLs : Ls.size = c.maxLocals) => callSS X0 hx (y := (⟨"com/example/mulock/mulock/zookeeper/ContenderPathPinLaw", "str", "(I)Ljava/lang/String;"⟩ : MethodName)) hown (mvT hZ (hw _ (List.mem_of_getElem? (i := 0) rfl))) (mvT hZ (hw _ (List.mem_of_getElem? (i := 1) rfl))) (mvT hZ (hw _ (List.mem_of_getElem? (i := 2) rfl))) (mvT hZ (hw _ (List.mem_of_getElem? (i := 3) rfl))) (by decide) (backWd (W := 0) (EL := own_EL) (rmStr l Z a0 hw [] p1 zc h0 n0 (by omega) S4 O1 hCS) hZ (hw _ (List.mem_of_getElem? (i := 3) rfl)) (hw _ (List.mem_of_getElem? (i := 2) rfl)) (by decide) (by decide) hELw R0.1 (fun _ q => nomatch q) sf0) (g := mkF m 1 Ls [(.int p1)]) rfl hLs (argsL := [(.int p1)]) (rest := []) (lenOf pd_24 rfl) rfl (by show 2 * 0 + _ ≤ _; exact Nat.le_of_eq rfl) (hb hby at_1) (fun _ _ => ⟨rfl, e0, (by decide : 0 + 6 ≤ _), (by decide : 0 + 16 ≤ _)⟩)
  refine Wk.backW (n := 4) (rc := 6) (rs := 16) (Q := Q_rmStr Z p1 zc h0 n0) e0 Bs0 (by omega) hZ hown R0 (cl1_ _ (by rw [hml]; rfl)) fun vn1 us1 T1 L1 X1 Bs1 hZ hown A_1 R1 hQ1 => ?_
  obtain ⟨r_1, t_1, kb_1, cs_1, rfl, M1, J1, p1_0, p1_1, p1_2, p1_3, gr_1, hn_1, hp_1⟩ := hQ1
  have N1 := Fr.app N0 M1
  have sz1 := J1.1
  have K1 := K0.trans J1 (fun x hx => nomatch hx)
  have lt_p1_0 := ny p1_0.lt
  have lt_p1_3 := ny p1_3.lt
  show Wk p e below _ T1 (mkF m 4 _ [(.ref r_1)])
  refine Wk.astore X1 hx (hb hby at_4) (n := 6) rfl rfl (L' := #[.val (.int p1), .val (.int p2), .val (.int p3), .val (.long j1), .second, .val (.long j2), .second, .val (.ref r_1), .unset, .unset, .unset, .unset]) rfl ?_
  refine Wk.iloadN X1 hx (hb hby at_6) (n := 7) rfl rfl ?_
  have f2 := (O1.keep J1 all0)
  have cl3_ := fun (Ls : Array Slot) (hLs : Ls.size = c.maxLocals) => callSS X1 hx (y := (⟨"com/example/mulock/mulock/zookeeper/ContenderPathPinLaw", "str", "(I)Ljava/lang/String;"⟩ : MethodName)) hown (mvT hZ (hw _ (List.mem_of_getElem? (i := 0) rfl))) (mvT hZ (hw _ (List.mem_of_getElem? (i := 1) rfl))) (mvT hZ (hw _ (List.mem_of_getElem? (i := 2) rfl))) (mvT hZ (hw _ (List.mem_of_getElem? (i := 3) rfl))) (by decide) (backWd (W := 0) (EL := own_EL) (rmStr l Z a0 hw [] p2 zc T1.heap n0 (by omega) S4 f2 hCS) hZ (hw _ (List.mem_of_getElem? (i := 3) rfl)) (hw _ (List.mem_of_getElem? (i := 2) rfl)) (by decide) (by decide) hELw R1.1 (fun _ q => nomatch q) sf0) (g := mkF m 7 Ls [(.int p2)]) rfl hLs (argsL := [(.int p2)]) (rest := []) (lenOf pd_24 rfl) rfl (by show 2 * 0 + _ ≤ _; exact Nat.le_of_eq rfl) (hb hby at_7) (fun _ _ => ⟨rfl, rfl, (by decide : 0 + 6 + 6 ≤ _), (by decide : 0 + 16 + 16 ≤ _)⟩)
  refine Wk.backW (n := 10) (rc := 6) (rs := 16) (Q := Q_rmStr Z p2 zc T1.heap n0) rfl Bs1 (by omega) hZ hown R1 (cl3_ _ (by rw [hml]; rfl)) fun vn3 us3 T3 L3 X3 Bs3 hZ hown A_3 R3 hQ3 => ?_
  obtain ⟨r_3, t_3, kb_3, cs_3, rfl, M3, J3, p3_0, p3_1, p3_2, p3_3, gr_3, hn_3, hp_3⟩ := hQ3
  have N3 := Fr.app N1 M3
  have sz3 := J3.1
  have K3 := K1.trans J3 (fun x hx => nomatch hx)
  have lt_p3_0 := ny p3_0.lt
  have lt_p3_3 := ny p3_3.lt
  show Wk p e below _ T3 (mkF m 10 _ [(.ref r_3)])
  refine Wk.astore X3 hx (hb hby at_10) (n := 12) rfl rfl (L' := #[.val (.int p1), .val (.int p2), .val (.int p3), .val (.long j1), .second, .val (.long j2), .second, .val (.ref r_1), .val (.ref r_3), .unset, .unset, .unset]) rfl ?_
  refine Wk.iloadN X3 hx (hb hby at_12) (n := 13) rfl rfl ?_
  refine Wk.sipush X3 hx (hb hby at_13) (n := 16) rfl (z := (255 : Int32)) rfl ?_
  refine Wk.iand X3 hx (hb hby at_16) (n := 17) rfl ?_
  obtain ⟨c0, q_c0⟩ : ∃ z : Int32, z = ((p3 &&& (255 : Int32)).toUInt32.toUInt16.toUInt32.toInt32) := ⟨_, rfl⟩
  have n_c0 : nar .char c0 = c0 := by rw [q_c0]; exact own_c255 _
  have r_c0 : ¬ c0 < 0 ∧ ¬ (255 : Int32) < c0 := by rw [q_c0]; exact own_r255 _
  refine Wk.i2c X3 hx (hb hby at_17) (n := 18) rfl q_c0.symm ?_
  have f4 := (f2.keep J3 all0)
  have cl5_ := fun (Ls : Array Slot) (hLs : Ls.size = c.maxLocals) => Jvm.LawKit.callS X3 hx (y := (⟨"java/lang/String", "valueOf", "(C)Ljava/lang/String;"⟩ : MethodName)) hown (mvT hZ (hw _ (List.mem_of_getElem? (i := 26) rfl))) (mvT hZ (hw _ (List.mem_of_getElem? (i := 27) rfl))) (mvT hZ (hw _ (List.mem_of_getElem? (i := 6) rfl))) (mvT hZ (hw _ (List.mem_of_getElem? (i := 28) rfl))) (by decide) (backOf (W := 0) (rmSVO l Z a0 hw [] c0 zc T3.heap n0 (by omega) S4 f4 hCS r_c0.2) hZ (hw _ (List.mem_of_getElem? (i := 28) rfl)) (hw _ (List.mem_of_getElem? (i := 6) rfl)) (by decide) (by decide)) (g := mkF m 18 Ls [(.int c0)]) rfl hLs (argsL := [(.int c0)]) (rest := []) (lenOf pd_25 rfl) rfl (by show 2 * 0 + _ ≤ _; exact Nat.le_of_eq rfl) (hb hby at_18) (fun _ _ => ⟨rfl, rfl, (by decide : 0 + 6 + 6 + 2 ≤ _), (by decide : 0 + 16 + 16 + 5 ≤ _)⟩)
  refine Wk.backS (n := 21) (rc := 2) (rs := 5) (Q := Q_rmSVO Z c0 zc T3.heap n0) (cl5_ _ (by rw [hml]; rfl)) fun vn5 T5 L5 X5 hQ5 => ?_
  clear cl5_
  obtain ⟨r_5, t_5, kb_5, rfl, M5, J5, p5_0, p5_1, p5_2, p5_3, gr_5, gt_5⟩ := hQ5
  have N5 := Fr.app N3 M5
  have sz5 := J5.1
  have hs5 : ∀ x ∈ ([] : List Addr), Safe Z own_EL us3.vm T3.heap x := sf0
  have R5 := R3.trans (CHr.keep J5 hs5 R3.1)
  have K5 := K3.trans J5 (fun x hx => nomatch hx)
  have lt_p5_0 := ny p5_0.lt
  have lt_p5_3 := ny p5_3.lt
  show Wk p e below _ T5 (mkF m 21 _ [(.ref r_5)])
  refine Wk.astore X5 hx (hb hby at_21) (n := 23) rfl rfl (L' := #[.val (.int p1), .val (.int p2), .val (.int p3), .val (.long j1), .second, .val (.long j2), .second, .val (.ref r_1), .val (.ref r_3), .val (.ref r_5), .unset, .unset]) rfl ?_
  refine Wk.newO X5 hx hZ hown (hw _ (List.mem_of_getElem? (i := 41) rfl)) (hw _ (List.mem_of_getElem? (i := 42) rfl)) (hw _ (List.mem_of_getElem? (i := 43) rfl)) rfl (hb hby at_23) (n := 26) rfl (by decide) (by decide) fun T6 H6 b6 gn6 X6 e6 Ex6 An6 Dn6 Yn6 => ?_
  have gn6 := nx gn6
  have sz6 := Ex6.1
  have lt6 := ny An6.lt
  have K6 := K5.ext Ex6
  have R6 := R5.trans (CHr.ext Ex6 R5.1)
  have Fn6_lock : Fld Z H6 b6 "com/example/mulock/mulock/zookeeper/Contender" "lock" "Ljava/lang/String;" .null := Dn6 (Or.inr (hw _ (List.mem_of_getElem? (i := 54) rfl))) (ty := (.object "java/lang/String")) (by decide)
  have Fn6_id : Fld Z H6 b6 "com/example/mulock/mulock/zookeeper/Contender" "id" "Ljava/lang/String;" .null := Dn6 (Or.inr (hw _ (List.mem_of_getElem? (i := 56) rfl))) (ty := (.object "java/lang/String")) (by decide)
  have Fn6_name : Fld Z H6 b6 "com/example/mulock/mulock/zookeeper/Contender" "name" "Ljava/lang/String;" .null := Dn6 (Or.inr (hw _ (List.mem_of_getElem? (i := 58) rfl))) (ty := (.object "java/lang/String")) (by decide)
  have Fn6_token : Fld Z H6 b6 "com/example/mulock/mulock/zookeeper/Contender" "token" "J" (.long (0 : Int64)) := Dn6 (Or.inr (hw _ (List.mem_of_getElem? (i := 60) rfl))) (ty := .long) (by decide)
  have Fn6_session : Fld Z H6 b6 "com/example/mulock/mulock/zookeeper/Contender" "session" "J" (.long (0 : Int64)) := Dn6 (Or.inr (hw _ (List.mem_of_getElem? (i := 62) rfl))) (ty := .long) (by decide)
  refine Wk.dup X6 hx (hb hby at_26) (n := 27) rfl rfl ?_
  refine Wk.aload X6 hx (hb hby at_27) (n := 29) rfl rfl rfl ?_
  refine Wk.aload X6 hx (hb hby at_29) (n := 31) rfl rfl rfl ?_
  refine Wk.aload X6 hx (hb hby at_31) (n := 33) rfl rfl rfl ?_
  refine Wk.lloadN X6 hx (hb hby at_33) (n := 34) rfl rfl ?_
  refine Wk.lload X6 hx (hb hby at_34) (n := 36) rfl rfl ?_
  have cl7_ := fun (Ls : Array Slot) (hLs : Ls.size = c.maxLocals) => X6.specialBack hx (y := (⟨"com/example/mulock/mulock/zookeeper/Contender", "<init>", "(Ljava/lang/String;Ljava/lang/String;Ljava/lang/String;JJ)V"⟩ : MethodName)) rfl hown (mvT hZ (hw _ (List.mem_of_getElem? (i := 44) rfl))) (mvT hZ (hw _ (List.mem_of_getElem? (i := 45) rfl))) (mvT hZ (hw _ (List.mem_of_getElem? (i := 46) rfl))) (by decide) (backOf (W := 1) (rmCI l Z a0 hw [] b6 r_1 r_5 r_3 j1 j2 .null .null .null (.long (0 : Int64)) (.long (0 : Int64)) H6 n0 (by omega) An6 Fn6_lock Fn6_id Fn6_name Fn6_token Fn6_session (by omega)) hZ (hw _ (List.mem_of_getElem? (i := 46) rfl)) (hw _ (List.mem_of_getElem? (i := 43) rfl)) (by decide) (by decide)) (g := mkF m 36 Ls [(.long j2), (.long j1), (.ref r_3), (.ref r_5), (.ref r_1), (.ref b6), (.ref b6)]) rfl hLs (Steps.refl _) (a := b6) (argsL := [(.ref r_1), (.ref r_5), (.ref r_3), (.long j1), (.long j2)]) (rest := [(.ref b6)]) (lenOf pd_26 rfl) rfl (by show 2 * 0 + _ ≤ _; exact Nat.le_of_eq rfl) (hb hby at_36) (fun _ _ => ⟨rfl, e6, (by decide : 0 + 6 + 6 + 2 + 1 + 0 ≤ _), (by decide : 0 + 16 + 16 + 5 + 5 + 0 ≤ _)⟩)
  refine Wk.back (n := 39) (rc := 0) (rs := 0) (Q := Q_rmCI Z b6 r_1 r_5 r_3 j1 j2 .null .null .null (.long (0 : Int64)) (.long (0 : Int64)) H6 n0) (cl7_ _ (by rw [hml]; rfl)) fun vn7 T7 L7 X7 hQ7 => ?_
  clear cl7_
  obtain ⟨rfl, M7, J7, p7_0, p7_1, p7_2⟩ := hQ7
  have N7 := Fr.app N5 M7
  have sz7 := J7.1
  have hs7 : ∀ x ∈ ([b6] : List Addr), Safe Z own_EL us3.vm H6 x := (sfS (Safe.exa (EL := own_EL) hZ.alike An6 (by decide) (by decide)) sf0)
  have R7 := R6.trans (CHr.keep J7 hs7 R6.1)
  have K7 := K6.trans J7 (allS (Or.inr (by omega)) all0)
  have lt_p7_0 := ny p7_0.lt
  show Wk p e below _ T7 (mkF m 39 _ [(.ref b6)])
  refine Wk.astore X7 hx (hb hby at_39) (n := 41) rfl rfl (L' := #[.val (.int p1), .val (.int p2), .val (.int p3), .val (.long j1), .second, .val (.long j2), .second, .val (.ref r_1), .val (.ref r_3), .val (.ref r_5), .val (.ref b6), .unset]) rfl ?_
  refine Wk.aload X7 hx (hb hby at_41) (n := 43) rfl rfl rfl ?_
  have f8 := ((((p1_0.keep J3).keep J5).ext Ex6).keep J7)
  have f9 := ((((p1_1.keep J3 nin0).keep J5 nin0).ext Ex6).keep J7 (ninS (nz (by omega)) nin0))
  have f10 := ((((p1_2.keep J3 nin0).keep J5 nin0).ext Ex6).keep J7 (ninS (nz (by omega)) nin0))
  have f11 := ((((p1_3.keep J3 nin0).keep J5 nin0).ext Ex6).keep J7 (ninS (nz (by omega)) nin0))
  have f12 := (((p3_0.keep J5).ext Ex6).keep J7)
  have f13 := (((p3_1.keep J5 nin0).ext Ex6).keep J7 (ninS (nz (by omega)) nin0))
  have f14 := (((p3_2.keep J5 nin0).ext Ex6).keep J7 (ninS (nz (by omega)) nin0))
  have f15 := (((p3_3.keep J5 nin0).ext Ex6).keep J7 (ninS (nz (by omega)) nin0))
  have f16 := (((f4.keep J5 all0).ext Ex6).keep J7 (allS (by omega) all0))
  obtain ⟨cq17, kq17, qn17a, qn17b, qn17c⟩ := isOf hZ rfl p7_0
  have cl17_ := fun (Ls : Array Slot) (hLs : Ls.size = c.maxLocals) => X7.virtualBackS hx (y := (⟨"com/example/mulock/mulock/zookeeper/Contender", "path", "()Ljava/lang/String;"⟩ : MethodName)) (z := (⟨"com/example/mulock/mulock/zookeeper/Contender", "path", "()Ljava/lang/String;"⟩ : MethodName)) hown (mvT hZ (hw _ (List.mem_of_getElem? (i := 63) rfl))) (mvT hZ (hw _ (List.mem_of_getElem? (i := 64) rfl))) (notFace_of_selects (args := #[]) (mvT hZ (hw _ (List.mem_of_getElem? (i := 66) rfl)))) (mvT hZ (hw _ (List.mem_of_getElem? (i := 66) rfl))) (mvT hZ (hw _ (List.mem_of_getElem? (i := 65) rfl))) (by decide) (backWd (W := 0) (EL := own_EL) (rmPath l Z a0 hw [] b6 r_1 t_1 kb_1 cs_1 r_3 t_3 kb_3 cs_3 zc T7.heap n0 (by omega) p7_0 p7_1 p7_2 f8 f9 f10 f11 f12 f13 f14 f15 S4 f16 hCS (by omega) (by omega) hp_1 hp_3) hZ (hw _ (List.mem_of_getElem? (i := 67) rfl)) (hw _ (List.mem_of_getElem? (i := 43) rfl)) (by decide) (by decide) hELw R7.1 (fun _ q => nomatch q) sf0) qn17a qn17c (g := mkF m 43 Ls [(.ref b6)]) rfl hLs (Steps.refl _) (argsL := []) (rest := []) (lenOf pd_21 rfl) rfl (by show 2 * 0 + _ ≤ _; exact Nat.le_of_eq rfl) (hb hby at_43) (fun _ _ => ⟨rfl, rfl, (by decide : 0 + 6 + 6 + 2 + 1 + 0 + 6 ≤ _), (by decide : 0 + 16 + 16 + 5 + 5 + 0 + 48 ≤ _)⟩)
  refine Wk.backW (n := 46) (rc := 6) (rs := 48) (Q := Q_rmPath Z b6 r_1 t_1 kb_1 cs_1 r_3 t_3 kb_3 cs_3 zc T7.heap n0) rfl Bs3 (by omega) hZ hown R7 (cl17_ _ (by rw [hml]; rfl)) fun vn17 us17 T17 L17 X17 Bs17 hZ hown A_17 R17 hQ17 => ?_
  obtain ⟨r_17, t_17, kb_17, rfl, M17, J17, p17_0, p17_1, p17_2, p17_3⟩ := hQ17
  have N17 := Fr.app N7 M17
  have sz17 := J17.1
  have K17 := K7.trans J17 (fun x hx => nomatch hx)
  have lt_p17_0 := ny p17_0.lt
  have lt_p17_3 := ny p17_3.lt
  show Wk p e below _ T17 (mkF m 46 _ [(.ref r_17)])
  have qp := own_r3 hp_1 hp_3
  have lp : (cs_1 ++ 47 :: cs_3).length = cs_1.length + 1 + cs_3.length := own_l3 _ _
  refine Wk.astore X17 hx (hb hby at_46) (n := 48) rfl rfl (L' := #[.val (.int p1), .val (.int p2), .val (.int p3), .val (.long j1), .second, .val (.long j2), .second, .val (.ref r_1), .val (.ref r_3), .val (.ref r_5), .val (.ref b6), .val (.ref r_17)]) rfl ?_
  refine Wk.aload X17 hx (hb hby at_48) (n := 50) rfl rfl rfl ?_
  refine Wk.ifnonnullYes X17 hx (hb hby at_50) (by decide) (n := 55) (by decide) ?_
  refine Wk.aload X17 hx (hb hby at_55) (n := 57) rfl rfl rfl ?_
  have f19 := (f16.keep J17 all0)
  obtain ⟨cq18, kq18, qn18a, qn18b, qn18c⟩ := isOf hZ rfl p17_0
  have cl18_ := fun (Ls : Array Slot) (hLs : Ls.size = c.maxLocals) => X17.virtualBack hx (y := (⟨"java/lang/String", "length", "()I"⟩ : MethodName)) (z := (⟨"java/lang/String", "length", "()I"⟩ : MethodName)) hown (mvT hZ (hw _ (List.mem_of_getElem? (i := 179) rfl))) (mvT hZ (hw _ (List.mem_of_getElem? (i := 97) rfl))) (notFace_of_selects (args := #[]) (mvT hZ (hw _ (List.mem_of_getElem? (i := 99) rfl)))) (mvT hZ (hw _ (List.mem_of_getElem? (i := 99) rfl))) (mvT hZ (hw _ (List.mem_of_getElem? (i := 98) rfl))) (by decide) (StrChars.Road.lenW (W := 0) hZ (fun d hd => hw d (own_wl d hd)) (kI := 4) (hw _ (List.mem_of_getElem? (i := 5) rfl)) p17_0 p17_1 p17_2 p17_3 (StrChars.Road.codOf (cs := (cs_1 ++ 47 :: cs_3)) (n := (cs_1 ++ 47 :: cs_3).length) rfl (fun c hc => (qp c hc).2)) (own_up qp) (Sta.ext f19.2 S4) hCS (by omega) (by decide) (by decide)) qn18a qn18c (g := mkF m 57 Ls [(.ref r_17)]) rfl hLs (Steps.refl _) (argsL := []) (rest := []) (lenOf pd_7 rfl) rfl (by show 2 * 0 + _ ≤ _; exact Nat.le_of_eq rfl) (hb hby at_57) (fun _ _ => ⟨rfl, rfl, (by decide : 0 + 6 + 6 + 2 + 1 + 0 + 6 + 0 ≤ _), (by decide : 0 + 16 + 16 + 5 + 5 + 0 + 48 + 0 ≤ _)⟩)
  refine Wk.back (n := 60) (rc := 0) (rs := 0) (Q := fun v h' L => (v = some (.int (Int32.ofNat ((cs_1 ++ 47 :: cs_3) : List Int32).length)) ∧ L = [] ∧ h' = T17.heap)) (cl18_ _ (by rw [hml]; rfl)) fun vn18 T18 L18 X18 hQ18 => ?_
  clear cl18_
  obtain ⟨rfl, rfl, e18⟩ := hQ18
  have N18 := Fr.app N17 (Fr.nil n0)
  show Wk p e below _ T18 (mkF m 60 _ [(.int (Int32.ofNat (cs_1 ++ 47 :: cs_3).length))])
  refine Wk.aload X18 hx (hb hby at_60) (n := 62) rfl rfl rfl ?_
  have f21 := (f8.keep J17)
  have f22 := (f9.keep J17 nin0)
  have f23 := (f10.keep J17 nin0)
  have f24 := (f11.keep J17 nin0)
  obtain ⟨cq20, kq20, qn20a, qn20b, qn20c⟩ := isOf hZ e18 f21
  have cl20_ := fun (Ls : Array Slot) (hLs : Ls.size = c.maxLocals) => X18.virtualBack hx (y := (⟨"java/lang/String", "length", "()I"⟩ : MethodName)) (z := (⟨"java/lang/String", "length", "()I"⟩ : MethodName)) hown (mvT hZ (hw _ (List.mem_of_getElem? (i := 179) rfl))) (mvT hZ (hw _ (List.mem_of_getElem? (i := 97) rfl))) (notFace_of_selects (args := #[]) (mvT hZ (hw _ (List.mem_of_getElem? (i := 99) rfl)))) (mvT hZ (hw _ (List.mem_of_getElem? (i := 99) rfl))) (mvT hZ (hw _ (List.mem_of_getElem? (i := 98) rfl))) (by decide) (StrChars.Road.lenW (W := 1) hZ (fun d hd => hw d (own_wl d hd)) (kI := 4) (hw _ (List.mem_of_getElem? (i := 5) rfl)) f21 f22 f23 f24 (StrChars.Road.codOf (cs := cs_1) (n := cs_1.length) rfl (fun c hc => (hp_1 c hc).2)) (own_up hp_1) (Sta.ext f19.2 S4) hCS (by omega) (by decide) (by decide)) qn20a qn20c (g := mkF m 62 Ls [(.ref r_1), (.int (Int32.ofNat (cs_1 ++ 47 :: cs_3).length))]) rfl hLs (Steps.refl _) (argsL := []) (rest := [(.int (Int32.ofNat (cs_1 ++ 47 :: cs_3).length))]) (lenOf pd_7 rfl) rfl (by show 2 * 0 + _ ≤ _; exact Nat.le_of_eq rfl) (hb hby at_62) (fun _ _ => ⟨rfl, e18, (by decide : 0 + 6 + 6 + 2 + 1 + 0 + 6 + 0 + 0 ≤ _), (by decide : 0 + 16 + 16 + 5 + 5 + 0 + 48 + 0 + 0 ≤ _)⟩)
  refine Wk.back (n := 65) (rc := 0) (rs := 0) (Q := fun v h' L => (v = some (.int (Int32.ofNat (cs_1 : List Int32).length)) ∧ L = [] ∧ h' = T17.heap)) (cl20_ _ (by rw [hml]; rfl)) fun vn20 T20 L20 X20 hQ20 => ?_
  clear cl20_
  obtain ⟨rfl, rfl, e20⟩ := hQ20
  have N20 := Fr.app N18 (Fr.nil n0)
  show Wk p e below _ T20 (mkF m 65 _ [(.int (Int32.ofNat cs_1.length)), (.int (Int32.ofNat (cs_1 ++ 47 :: cs_3).length))])
  refine Wk.iconst X20 hx (hb hby at_65) (n := 66) rfl (z := (1 : Int32)) rfl ?_
  refine Wk.iadd X20 hx (hb hby at_66) (n := 67) rfl ?_
  refine Wk.aload X20 hx (hb hby at_67) (n := 69) rfl rfl rfl ?_
  have f26 := (f12.keep J17)
  have f27 := (f13.keep J17 nin0)
  have f28 := (f14.keep J17 nin0)
  have f29 := (f15.keep J17 nin0)
  obtain ⟨cq25, kq25, qn25a, qn25b, qn25c⟩ := isOf hZ e20 f26
  have cl25_ := fun (Ls : Array Slot) (hLs : Ls.size = c.maxLocals) => X20.virtualBack hx (y := (⟨"java/lang/String", "length", "()I"⟩ : MethodName)) (z := (⟨"java/lang/String", "length", "()I"⟩ : MethodName)) hown (mvT hZ (hw _ (List.mem_of_getElem? (i := 179) rfl))) (mvT hZ (hw _ (List.mem_of_getElem? (i := 97) rfl))) (notFace_of_selects (args := #[]) (mvT hZ (hw _ (List.mem_of_getElem? (i := 99) rfl)))) (mvT hZ (hw _ (List.mem_of_getElem? (i := 99) rfl))) (mvT hZ (hw _ (List.mem_of_getElem? (i := 98) rfl))) (by decide) (StrChars.Road.lenW (W := 2) hZ (fun d hd => hw d (own_wl d hd)) (kI := 4) (hw _ (List.mem_of_getElem? (i := 5) rfl)) f26 f27 f28 f29 (StrChars.Road.codOf (cs := cs_3) (n := cs_3.length) rfl (fun c hc => (hp_3 c hc).2)) (own_up hp_3) (Sta.ext f19.2 S4) hCS (by omega) (by decide) (by decide)) qn25a qn25c (g := mkF m 69 Ls [(.ref r_3), (.int ((Int32.ofNat cs_1.length) + (1 : Int32))), (.int (Int32.ofNat (cs_1 ++ 47 :: cs_3).length))]) rfl hLs (Steps.refl _) (argsL := []) (rest := [(.int ((Int32.ofNat cs_1.length) + (1 : Int32))), (.int (Int32.ofNat (cs_1 ++ 47 :: cs_3).length))]) (lenOf pd_7 rfl) rfl (by show 2 * 0 + _ ≤ _; exact Nat.le_of_eq rfl) (hb hby at_69) (fun _ _ => ⟨rfl, e20, (by decide : 0 + 6 + 6 + 2 + 1 + 0 + 6 + 0 + 0 + 0 ≤ _), (by decide : 0 + 16 + 16 + 5 + 5 + 0 + 48 + 0 + 0 + 0 ≤ _)⟩)
  refine Wk.back (n := 72) (rc := 0) (rs := 0) (Q := fun v h' L => (v = some (.int (Int32.ofNat (cs_3 : List Int32).length)) ∧ L = [] ∧ h' = T17.heap)) (cl25_ _ (by rw [hml]; rfl)) fun vn25 T25 L25 X25 hQ25 => ?_
  clear cl25_
  obtain ⟨rfl, rfl, e25⟩ := hQ25
  have N25 := Fr.app N20 (Fr.nil n0)
  show Wk p e below _ T25 (mkF m 72 _ [(.int (Int32.ofNat cs_3.length)), (.int ((Int32.ofNat cs_1.length) + (1 : Int32))), (.int (Int32.ofNat (cs_1 ++ 47 :: cs_3).length))])
  refine Wk.iadd X25 hx (hb hby at_72) (n := 73) rfl ?_
  have hc73_30 : (Int32.ofNat (cs_1 ++ 47 :: cs_3).length) = (((Int32.ofNat cs_1.length) + (1 : Int32)) + (Int32.ofNat cs_3.length)) := by rw [lp]; exact own_s3 _ _
  refine Wk.icmpYes X25 hx (hb hby at_73) (teq hc73_30).1 (by decide) (n := 78) (by decide) ?_
  refine Wk.aload X25 hx (hb hby at_78) (n := 80) rfl rfl rfl ?_
  refine Wk.aload X25 hx (hb hby at_80) (n := 82) rfl rfl rfl ?_
  refine Wk.aload X25 hx (hb hby at_82) (n := 84) rfl rfl rfl ?_
  refine Wk.iconst X25 hx (hb hby at_84) (n := 85) rfl (z := (0 : Int32)) rfl ?_
  have cl31_ := fun (Ls : Array Slot) (hLs : Ls.size = c.maxLocals) => Jvm.LawKit.callS X25 hx (y := (⟨"com/example/mulock/mulock/zookeeper/ContenderPathPinLaw", "at", "(Ljava/lang/String;Ljava/lang/String;Ljava/lang/String;I)Z"⟩ : MethodName)) hown (mvT hZ (hw _ (List.mem_of_getElem? (i := 180) rfl))) (mvT hZ (hw _ (List.mem_of_getElem? (i := 181) rfl))) (mvT hZ (hw _ (List.mem_of_getElem? (i := 2) rfl))) (mvT hZ (hw _ (List.mem_of_getElem? (i := 182) rfl))) (by decide) (backOf (W := 0) (rmAT l Z a0 hw [] r_17 t_17 kb_17 r_1 t_1 kb_1 cs_1 r_3 t_3 kb_3 cs_3 (0 : Int32) 0 zc fm T17.heap n0 (by omega) p17_0 p17_1 p17_2 p17_3 f21 f22 f23 f24 f26 f27 f28 f29 S4 f19 S5 hCS hFM (by omega) (by omega) hp_1 hp_3 rfl (by decide)) hZ (hw _ (List.mem_of_getElem? (i := 182) rfl)) (hw _ (List.mem_of_getElem? (i := 2) rfl)) (by decide) (by decide)) (g := mkF m 85 Ls [(.int (0 : Int32)), (.ref r_3), (.ref r_1), (.ref r_17)]) rfl hLs (argsL := [(.ref r_17), (.ref r_1), (.ref r_3), (.int (0 : Int32))]) (rest := []) (lenOf pd_27 rfl) rfl (by show 2 * 0 + _ ≤ _; exact Nat.le_of_eq rfl) (hb hby at_85) (fun _ _ => ⟨rfl, e25, (by decide : 0 + 6 + 6 + 2 + 1 + 0 + 6 + 0 + 0 + 0 + 0 ≤ _), (by decide : 0 + 16 + 16 + 5 + 5 + 0 + 48 + 0 + 0 + 0 + 0 ≤ _)⟩)
  refine Wk.backS (n := 88) (rc := 0) (rs := 0) (Q := Q_rmAT Z r_17 t_17 kb_17 r_1 t_1 kb_1 cs_1 r_3 t_3 kb_3 cs_3 (0 : Int32) 0 zc fm T17.heap n0) (cl31_ _ (by rw [hml]; rfl)) fun vn31 T31 L31 X31 hQ31 => ?_
  clear cl31_
  obtain ⟨rfl, M31, e31⟩ := hQ31
  have N31 := Fr.app N25 M31
  show Wk p e below _ T31 (mkF m 88 _ [(.int (1 : Int32))])
  have hc88_32 : ¬ ((1 : Int32) = (0 : Int32)) := by decide
  refine Wk.ifNo X31 hx (hb hby at_88) (n := 91) rfl ((if0 _ _).trans (feq hc88_32).1) ?_
  refine Wk.aload X31 hx (hb hby at_91) (n := 93) rfl rfl rfl ?_
  refine Wk.aload X31 hx (hb hby at_93) (n := 95) rfl rfl rfl ?_
  refine Wk.aload X31 hx (hb hby at_95) (n := 97) rfl rfl rfl ?_
  refine Wk.iconst X31 hx (hb hby at_97) (n := 98) rfl (z := (1 : Int32)) rfl ?_
  have cl33_ := fun (Ls : Array Slot) (hLs : Ls.size = c.maxLocals) => Jvm.LawKit.callS X31 hx (y := (⟨"com/example/mulock/mulock/zookeeper/ContenderPathPinLaw", "at", "(Ljava/lang/String;Ljava/lang/String;Ljava/lang/String;I)Z"⟩ : MethodName)) hown (mvT hZ (hw _ (List.mem_of_getElem? (i := 180) rfl))) (mvT hZ (hw _ (List.mem_of_getElem? (i := 181) rfl))) (mvT hZ (hw _ (List.mem_of_getElem? (i := 2) rfl))) (mvT hZ (hw _ (List.mem_of_getElem? (i := 182) rfl))) (by decide) (backOf (W := 0) (rmAT l Z a0 hw [] r_17 t_17 kb_17 r_1 t_1 kb_1 cs_1 r_3 t_3 kb_3 cs_3 (1 : Int32) 1 zc fm T17.heap n0 (by omega) p17_0 p17_1 p17_2 p17_3 f21 f22 f23 f24 f26 f27 f28 f29 S4 f19 S5 hCS hFM (by omega) (by omega) hp_1 hp_3 rfl (by decide)) hZ (hw _ (List.mem_of_getElem? (i := 182) rfl)) (hw _ (List.mem_of_getElem? (i := 2) rfl)) (by decide) (by decide)) (g := mkF m 98 Ls [(.int (1 : Int32)), (.ref r_3), (.ref r_1), (.ref r_17)]) rfl hLs (argsL := [(.ref r_17), (.ref r_1), (.ref r_3), (.int (1 : Int32))]) (rest := []) (lenOf pd_27 rfl) rfl (by show 2 * 0 + _ ≤ _; exact Nat.le_of_eq rfl) (hb hby at_98) (fun _ _ => ⟨rfl, e31, (by decide : 0 + 6 + 6 + 2 + 1 + 0 + 6 + 0 + 0 + 0 + 0 + 0 ≤ _), (by decide : 0 + 16 + 16 + 5 + 5 + 0 + 48 + 0 + 0 + 0 + 0 + 0 ≤ _)⟩)
  refine Wk.backS (n := 101) (rc := 0) (rs := 0) (Q := Q_rmAT Z r_17 t_17 kb_17 r_1 t_1 kb_1 cs_1 r_3 t_3 kb_3 cs_3 (1 : Int32) 1 zc fm T17.heap n0) (cl33_ _ (by rw [hml]; rfl)) fun vn33 T33 L33 X33 hQ33 => ?_
  clear cl33_
  obtain ⟨rfl, M33, e33⟩ := hQ33
  have N33 := Fr.app N31 M33
  show Wk p e below _ T33 (mkF m 101 _ [(.int (1 : Int32))])
  have hc101_34 : ¬ ((1 : Int32) = (0 : Int32)) := by decide
  refine Wk.ifNo X33 hx (hb hby at_101) (n := 104) rfl ((if0 _ _).trans (feq hc101_34).1) ?_
  refine Wk.aload X33 hx (hb hby at_104) (n := 106) rfl rfl rfl ?_
  refine Wk.aload X33 hx (hb hby at_106) (n := 108) rfl rfl rfl ?_
  refine Wk.aload X33 hx (hb hby at_108) (n := 110) rfl rfl rfl ?_
  refine Wk.iconst X33 hx (hb hby at_110) (n := 111) rfl (z := (2 : Int32)) rfl ?_
  have cl35_ := fun (Ls : Array Slot) (hLs : Ls.size = c.maxLocals) => Jvm.LawKit.callS X33 hx (y := (⟨"com/example/mulock/mulock/zookeeper/ContenderPathPinLaw", "at", "(Ljava/lang/String;Ljava/lang/String;Ljava/lang/String;I)Z"⟩ : MethodName)) hown (mvT hZ (hw _ (List.mem_of_getElem? (i := 180) rfl))) (mvT hZ (hw _ (List.mem_of_getElem? (i := 181) rfl))) (mvT hZ (hw _ (List.mem_of_getElem? (i := 2) rfl))) (mvT hZ (hw _ (List.mem_of_getElem? (i := 182) rfl))) (by decide) (backOf (W := 0) (rmAT l Z a0 hw [] r_17 t_17 kb_17 r_1 t_1 kb_1 cs_1 r_3 t_3 kb_3 cs_3 (2 : Int32) 2 zc fm T17.heap n0 (by omega) p17_0 p17_1 p17_2 p17_3 f21 f22 f23 f24 f26 f27 f28 f29 S4 f19 S5 hCS hFM (by omega) (by omega) hp_1 hp_3 rfl (by decide)) hZ (hw _ (List.mem_of_getElem? (i := 182) rfl)) (hw _ (List.mem_of_getElem? (i := 2) rfl)) (by decide) (by decide)) (g := mkF m 111 Ls [(.int (2 : Int32)), (.ref r_3), (.ref r_1), (.ref r_17)]) rfl hLs (argsL := [(.ref r_17), (.ref r_1), (.ref r_3), (.int (2 : Int32))]) (rest := []) (lenOf pd_27 rfl) rfl (by show 2 * 0 + _ ≤ _; exact Nat.le_of_eq rfl) (hb hby at_111) (fun _ _ => ⟨rfl, e33, (by decide : 0 + 6 + 6 + 2 + 1 + 0 + 6 + 0 + 0 + 0 + 0 + 0 + 0 ≤ _), (by decide : 0 + 16 + 16 + 5 + 5 + 0 + 48 + 0 + 0 + 0 + 0 + 0 + 0 ≤ _)⟩)
  refine Wk.backS (n := 114) (rc := 0) (rs := 0) (Q := Q_rmAT Z r_17 t_17 kb_17 r_1 t_1 kb_1 cs_1 r_3 t_3 kb_3 cs_3 (2 : Int32) 2 zc fm T17.heap n0) (cl35_ _ (by rw [hml]; rfl)) fun vn35 T35 L35 X35 hQ35 => ?_
  clear cl35_
  obtain ⟨rfl, M35, e35⟩ := hQ35
  have N35 := Fr.app N33 M35
  show Wk p e below _ T35 (mkF m 114 _ [(.int (1 : Int32))])
  have hc114_36 : ¬ ((1 : Int32) = (0 : Int32)) := by decide
  refine Wk.ifNo X35 hx (hb hby at_114) (n := 117) rfl ((if0 _ _).trans (feq hc114_36).1) ?_
  refine Wk.aload X35 hx (hb hby at_117) (n := 119) rfl rfl rfl ?_
  refine Wk.aload X35 hx (hb hby at_119) (n := 121) rfl rfl rfl ?_
  refine Wk.aload X35 hx (hb hby at_121) (n := 123) rfl rfl rfl ?_
  refine Wk.iconst X35 hx (hb hby at_123) (n := 124) rfl (z := (3 : Int32)) rfl ?_
  have cl37_ := fun (Ls : Array Slot) (hLs : Ls.size = c.maxLocals) => Jvm.LawKit.callS X35 hx (y := (⟨"com/example/mulock/mulock/zookeeper/ContenderPathPinLaw", "at", "(Ljava/lang/String;Ljava/lang/String;Ljava/lang/String;I)Z"⟩ : MethodName)) hown (mvT hZ (hw _ (List.mem_of_getElem? (i := 180) rfl))) (mvT hZ (hw _ (List.mem_of_getElem? (i := 181) rfl))) (mvT hZ (hw _ (List.mem_of_getElem? (i := 2) rfl))) (mvT hZ (hw _ (List.mem_of_getElem? (i := 182) rfl))) (by decide) (backOf (W := 0) (rmAT l Z a0 hw [] r_17 t_17 kb_17 r_1 t_1 kb_1 cs_1 r_3 t_3 kb_3 cs_3 (3 : Int32) 3 zc fm T17.heap n0 (by omega) p17_0 p17_1 p17_2 p17_3 f21 f22 f23 f24 f26 f27 f28 f29 S4 f19 S5 hCS hFM (by omega) (by omega) hp_1 hp_3 rfl (by decide)) hZ (hw _ (List.mem_of_getElem? (i := 182) rfl)) (hw _ (List.mem_of_getElem? (i := 2) rfl)) (by decide) (by decide)) (g := mkF m 124 Ls [(.int (3 : Int32)), (.ref r_3), (.ref r_1), (.ref r_17)]) rfl hLs (argsL := [(.ref r_17), (.ref r_1), (.ref r_3), (.int (3 : Int32))]) (rest := []) (lenOf pd_27 rfl) rfl (by show 2 * 0 + _ ≤ _; exact Nat.le_of_eq rfl) (hb hby at_124) (fun _ _ => ⟨rfl, e35, (by decide : 0 + 6 + 6 + 2 + 1 + 0 + 6 + 0 + 0 + 0 + 0 + 0 + 0 + 0 ≤ _), (by decide : 0 + 16 + 16 + 5 + 5 + 0 + 48 + 0 + 0 + 0 + 0 + 0 + 0 + 0 ≤ _)⟩)
  refine Wk.backS (n := 127) (rc := 0) (rs := 0) (Q := Q_rmAT Z r_17 t_17 kb_17 r_1 t_1 kb_1 cs_1 r_3 t_3 kb_3 cs_3 (3 : Int32) 3 zc fm T17.heap n0) (cl37_ _ (by rw [hml]; rfl)) fun vn37 T37 L37 X37 hQ37 => ?_
  clear cl37_
  obtain ⟨rfl, M37, e37⟩ := hQ37
  have N37 := Fr.app N35 M37
  show Wk p e below _ T37 (mkF m 127 _ [(.int (1 : Int32))])
  have hc127_38 : ¬ ((1 : Int32) = (0 : Int32)) := by decide
  refine Wk.ifNo X37 hx (hb hby at_127) (n := 130) rfl ((if0 _ _).trans (feq hc127_38).1) ?_
  refine Wk.aload X37 hx (hb hby at_130) (n := 132) rfl rfl rfl ?_
  refine Wk.aload X37 hx (hb hby at_132) (n := 134) rfl rfl rfl ?_
  refine Wk.aload X37 hx (hb hby at_134) (n := 136) rfl rfl rfl ?_
  refine Wk.iconst X37 hx (hb hby at_136) (n := 137) rfl (z := (4 : Int32)) rfl ?_
  have cl39_ := fun (Ls : Array Slot) (hLs : Ls.size = c.maxLocals) => Jvm.LawKit.callS X37 hx (y := (⟨"com/example/mulock/mulock/zookeeper/ContenderPathPinLaw", "at", "(Ljava/lang/String;Ljava/lang/String;Ljava/lang/String;I)Z"⟩ : MethodName)) hown (mvT hZ (hw _ (List.mem_of_getElem? (i := 180) rfl))) (mvT hZ (hw _ (List.mem_of_getElem? (i := 181) rfl))) (mvT hZ (hw _ (List.mem_of_getElem? (i := 2) rfl))) (mvT hZ (hw _ (List.mem_of_getElem? (i := 182) rfl))) (by decide) (backOf (W := 0) (rmAT l Z a0 hw [] r_17 t_17 kb_17 r_1 t_1 kb_1 cs_1 r_3 t_3 kb_3 cs_3 (4 : Int32) 4 zc fm T17.heap n0 (by omega) p17_0 p17_1 p17_2 p17_3 f21 f22 f23 f24 f26 f27 f28 f29 S4 f19 S5 hCS hFM (by omega) (by omega) hp_1 hp_3 rfl (by decide)) hZ (hw _ (List.mem_of_getElem? (i := 182) rfl)) (hw _ (List.mem_of_getElem? (i := 2) rfl)) (by decide) (by decide)) (g := mkF m 137 Ls [(.int (4 : Int32)), (.ref r_3), (.ref r_1), (.ref r_17)]) rfl hLs (argsL := [(.ref r_17), (.ref r_1), (.ref r_3), (.int (4 : Int32))]) (rest := []) (lenOf pd_27 rfl) rfl (by show 2 * 0 + _ ≤ _; exact Nat.le_of_eq rfl) (hb hby at_137) (fun _ _ => ⟨rfl, e37, (by decide : 0 + 6 + 6 + 2 + 1 + 0 + 6 + 0 + 0 + 0 + 0 + 0 + 0 + 0 + 0 ≤ _), (by decide : 0 + 16 + 16 + 5 + 5 + 0 + 48 + 0 + 0 + 0 + 0 + 0 + 0 + 0 + 0 ≤ _)⟩)
  refine Wk.backS (n := 140) (rc := 0) (rs := 0) (Q := Q_rmAT Z r_17 t_17 kb_17 r_1 t_1 kb_1 cs_1 r_3 t_3 kb_3 cs_3 (4 : Int32) 4 zc fm T17.heap n0) (cl39_ _ (by rw [hml]; rfl)) fun vn39 T39 L39 X39 hQ39 => ?_
  clear cl39_
  obtain ⟨rfl, M39, e39⟩ := hQ39
  have N39 := Fr.app N37 M39
  show Wk p e below _ T39 (mkF m 140 _ [(.int (1 : Int32))])
  have hc140_40 : ¬ ((1 : Int32) = (0 : Int32)) := by decide
  refine Wk.ifNo X39 hx (hb hby at_140) (n := 143) rfl ((if0 _ _).trans (feq hc140_40).1) ?_
  refine Wk.aload X39 hx (hb hby at_143) (n := 145) rfl rfl rfl ?_
  refine Wk.aload X39 hx (hb hby at_145) (n := 147) rfl rfl rfl ?_
  refine Wk.aload X39 hx (hb hby at_147) (n := 149) rfl rfl rfl ?_
  refine Wk.iconst X39 hx (hb hby at_149) (n := 150) rfl (z := (5 : Int32)) rfl ?_
  have cl41_ := fun (Ls : Array Slot) (hLs : Ls.size = c.maxLocals) => Jvm.LawKit.callS X39 hx (y := (⟨"com/example/mulock/mulock/zookeeper/ContenderPathPinLaw", "at", "(Ljava/lang/String;Ljava/lang/String;Ljava/lang/String;I)Z"⟩ : MethodName)) hown (mvT hZ (hw _ (List.mem_of_getElem? (i := 180) rfl))) (mvT hZ (hw _ (List.mem_of_getElem? (i := 181) rfl))) (mvT hZ (hw _ (List.mem_of_getElem? (i := 2) rfl))) (mvT hZ (hw _ (List.mem_of_getElem? (i := 182) rfl))) (by decide) (backOf (W := 0) (rmAT l Z a0 hw [] r_17 t_17 kb_17 r_1 t_1 kb_1 cs_1 r_3 t_3 kb_3 cs_3 (5 : Int32) 5 zc fm T17.heap n0 (by omega) p17_0 p17_1 p17_2 p17_3 f21 f22 f23 f24 f26 f27 f28 f29 S4 f19 S5 hCS hFM (by omega) (by omega) hp_1 hp_3 rfl (by decide)) hZ (hw _ (List.mem_of_getElem? (i := 182) rfl)) (hw _ (List.mem_of_getElem? (i := 2) rfl)) (by decide) (by decide)) (g := mkF m 150 Ls [(.int (5 : Int32)), (.ref r_3), (.ref r_1), (.ref r_17)]) rfl hLs (argsL := [(.ref r_17), (.ref r_1), (.ref r_3), (.int (5 : Int32))]) (rest := []) (lenOf pd_27 rfl) rfl (by show 2 * 0 + _ ≤ _; exact Nat.le_of_eq rfl) (hb hby at_150) (fun _ _ => ⟨rfl, e39, (by decide : 0 + 6 + 6 + 2 + 1 + 0 + 6 + 0 + 0 + 0 + 0 + 0 + 0 + 0 + 0 + 0 ≤ _), (by decide : 0 + 16 + 16 + 5 + 5 + 0 + 48 + 0 + 0 + 0 + 0 + 0 + 0 + 0 + 0 + 0 ≤ _)⟩)
  refine Wk.backS (n := 153) (rc := 0) (rs := 0) (Q := Q_rmAT Z r_17 t_17 kb_17 r_1 t_1 kb_1 cs_1 r_3 t_3 kb_3 cs_3 (5 : Int32) 5 zc fm T17.heap n0) (cl41_ _ (by rw [hml]; rfl)) fun vn41 T41 L41 X41 hQ41 => ?_
  clear cl41_
  obtain ⟨rfl, M41, e41⟩ := hQ41
  have N41 := Fr.app N39 M41
  show Wk p e below _ T41 (mkF m 153 _ [(.int (1 : Int32))])
  have hc153_42 : ¬ ((1 : Int32) = (0 : Int32)) := by decide
  refine Wk.ifNo X41 hx (hb hby at_153) (n := 156) rfl ((if0 _ _).trans (feq hc153_42).1) ?_
  refine Wk.aload X41 hx (hb hby at_156) (n := 158) rfl rfl rfl ?_
  refine Wk.aload X41 hx (hb hby at_158) (n := 160) rfl rfl rfl ?_
  refine Wk.aload X41 hx (hb hby at_160) (n := 162) rfl rfl rfl ?_
  refine Wk.bipush X41 hx (hb hby at_162) (n := 164) rfl (z := (6 : Int32)) rfl ?_
  have cl43_ := fun (Ls : Array Slot) (hLs : Ls.size = c.maxLocals) => Jvm.LawKit.callS X41 hx (y := (⟨"com/example/mulock/mulock/zookeeper/ContenderPathPinLaw", "at", "(Ljava/lang/String;Ljava/lang/String;Ljava/lang/String;I)Z"⟩ : MethodName)) hown (mvT hZ (hw _ (List.mem_of_getElem? (i := 180) rfl))) (mvT hZ (hw _ (List.mem_of_getElem? (i := 181) rfl))) (mvT hZ (hw _ (List.mem_of_getElem? (i := 2) rfl))) (mvT hZ (hw _ (List.mem_of_getElem? (i := 182) rfl))) (by decide) (backOf (W := 0) (rmAT l Z a0 hw [] r_17 t_17 kb_17 r_1 t_1 kb_1 cs_1 r_3 t_3 kb_3 cs_3 (6 : Int32) 6 zc fm T17.heap n0 (by omega) p17_0 p17_1 p17_2 p17_3 f21 f22 f23 f24 f26 f27 f28 f29 S4 f19 S5 hCS hFM (by omega) (by omega) hp_1 hp_3 rfl (by decide)) hZ (hw _ (List.mem_of_getElem? (i := 182) rfl)) (hw _ (List.mem_of_getElem? (i := 2) rfl)) (by decide) (by decide)) (g := mkF m 164 Ls [(.int (6 : Int32)), (.ref r_3), (.ref r_1), (.ref r_17)]) rfl hLs (argsL := [(.ref r_17), (.ref r_1), (.ref r_3), (.int (6 : Int32))]) (rest := []) (lenOf pd_27 rfl) rfl (by show 2 * 0 + _ ≤ _; exact Nat.le_of_eq rfl) (hb hby at_164) (fun _ _ => ⟨rfl, e41, (by decide : 0 + 6 + 6 + 2 + 1 + 0 + 6 + 0 + 0 + 0 + 0 + 0 + 0 + 0 + 0 + 0 + 0 ≤ _), (by decide : 0 + 16 + 16 + 5 + 5 + 0 + 48 + 0 + 0 + 0 + 0 + 0 + 0 + 0 + 0 + 0 + 0 ≤ _)⟩)
  refine Wk.backS (n := 167) (rc := 0) (rs := 0) (Q := Q_rmAT Z r_17 t_17 kb_17 r_1 t_1 kb_1 cs_1 r_3 t_3 kb_3 cs_3 (6 : Int32) 6 zc fm T17.heap n0) (cl43_ _ (by rw [hml]; rfl)) fun vn43 T43 L43 X43 hQ43 => ?_
  clear cl43_
  obtain ⟨rfl, M43, e43⟩ := hQ43
  have N43 := Fr.app N41 M43
  show Wk p e below _ T43 (mkF m 167 _ [(.int (1 : Int32))])
  have hc167_44 : ¬ ((1 : Int32) = (0 : Int32)) := by decide
  refine Wk.ifNo X43 hx (hb hby at_167) (n := 170) rfl ((if0 _ _).trans (feq hc167_44).1) ?_
  refine Wk.iconst X43 hx (hb hby at_170) (n := 171) rfl (z := (1 : Int32)) rfl ?_
  refine Wk.goto X43 hx (hb hby at_171) (by decide) (n := 175) (by decide) ?_
  exact Wk.leaveW X43 Bs17 (by omega) (v := some (.int (1 : Int32))) (fun h => by rw [Bd.returns] at h; cases h) hlk e43 hh ⟨rfl, N43, K17⟩ hZ hELw R17 (by decide) (by decide) (fun fs hr => retNz X43 hx (t := .boolean) rfl Bd.returns (by simp) (hb hby at_175) hr)
set_option maxRecDepth 65536 in
set_option maxHeartbeats 40000000 in
theorem comes_1 {Post : Tables → Env → Array Value → State → Outcome → State → Prop} (hpost : ∀ tb e args s v u, (limb_1_1.after args s (.returned v) u = true ∧ limb_1_2.after args s (.returned v) u = true ∧ True) → FramedW s (.returned v) u (Jvm.fieldLocs frame_1_writes args s ++ Jvm.arrayLocs frame_1_arrays args s ++ Jvm.staticLocs frame_1_statics s) 40 2304 → Post tb e args s (.returned v) u) :
    ArmFor flags0 classFile x code maxLocals ret World_1 tables_1 room_1 Calls_1 rest_1 Pre_1 Post := by
  intro l hfl _ _ p e ha hc hk s m args below hf hA hF happ hP
  obtain ⟨hcalls, hrest, hpre⟩ := hP
  obtain ⟨-, -, -, hnamed, -, -, -, hat⟩ := (Spec.applies_iff hf).mp happ
  obtain ⟨hg, hn⟩ := and_e (Cond.before_iff.mp (show (Jvm.Cond.and given_1 narrow_1).before args s = true from hpre))
  obtain ⟨gc, gr⟩ := and_e hg
  obtain ⟨w0, w1, w2, w3, w4, rfl⟩ : ∃ w0 w1 w2 w3 w4 : Value, args = #[w0, w1, w2, w3, w4] := by
    have hs : args.size = 5 := by simpa [Cond.value, given_1] using gc
    obtain ⟨L⟩ := args
    match L, hs with
    | [w0, w1, w2, w3, w4], _ => exact ⟨w0, w1, w2, w3, w4, rfl⟩
  have hw := fun d (hd : d ∈ tables_1) => atoms_spec (ws := Jvm.Cond.code x code maxLocals ret :: tables_1) hat d (List.mem_cons_of_mem _ hd)
  have hfit : Fit s := fun {y c} hc i hi => by
    obtain ⟨ha, rfl⟩ := Array.getElem?_eq_some_iff.mp hc
    have q := List.all_eq_true.mp ((Array.all_eq_true_iff_forall_mem.mp hF) _ (Array.getElem_mem ha)) i (List.mem_range.mpr hi)
    simpa [Array.getElem?_eq_getElem hi] using q
  obtain ⟨hsets, hown0⟩ := atoms_of _ (rest_1_c_eq ▸ (show rest_1_c.before _ s = true from hrest))
  have hr0 := Cond.before_iff.mp hown0
  obtain ⟨g0, gr⟩ := and_e gr
  obtain ⟨i0, ei0⟩ := is_v g0
  obtain rfl : w0 = (.int i0) := Option.some.inj ei0
  obtain ⟨g1, gr⟩ := and_e gr
  obtain ⟨i1, ei1⟩ := is_v g1
  obtain rfl : w1 = (.int i1) := Option.some.inj ei1
  obtain ⟨g2, gr⟩ := and_e gr
  obtain ⟨i2, ei2⟩ := is_v g2
  obtain rfl : w2 = (.int i2) := Option.some.inj ei2
  obtain ⟨g3, gr⟩ := and_e gr
  obtain ⟨i3, ei3⟩ := isL_v g3
  obtain rfl : w3 = (.long i3) := Option.some.inj ei3
  obtain ⟨i4, ei4⟩ := isL_v gr
  obtain rfl : w4 = (.long i4) := Option.some.inj ei4
  obtain ⟨zc, ez⟩ := is_v (Cond.before_iff.mp (hsets _ (List.mem_of_getElem? (i := 1) rfl)))
  have S4 := Sta.start ez (Or.inl (hsets _ (List.mem_of_getElem? (i := 0) rfl)))
  have hCS : ¬ zc = 0 := own_ne0 ez (Cond.before_iff.mp (hsets _ (List.mem_of_getElem? (i := 2) rfl)))
  obtain ⟨fm, efm, rfm⟩ := isR_v (Cond.before_iff.mp (hsets _ (List.mem_of_getElem? (i := 8) rfl)))
  have S5 := Sta.start efm (Or.inl (hsets _ (List.mem_of_getElem? (i := 7) rfl)))
  have hCHs : CHv s own_EL s.vm s.heap := CHv.start (own_ew hw) (fun q hq => hcalls.1 q hq) (hsets _ (List.mem_of_getElem? (i := 2) rfl)) (hw _ (List.mem_of_getElem? (i := 19) rfl)) (hw _ (List.mem_of_getElem? (i := 5) rfl))
  obtain ⟨n, o, h1, h2, h3, _, L, rfl, ⟨rfl, N, -⟩, -, hq⟩ := rm0 l s _ hw tables_1 i0 i1 i2 i3 i4 zc fm s.heap s.heap.size (Nat.le_refl _) S4 (Old.start s) S5 hCS rfm p e ha hc hk s m _ below hf ((Spec.applies_iff_loose hf).mp happ).1 ⟨rfl, State.Warmed39.refl s, rfl, hCHs, fun _ q => nomatch q⟩ trivial
  refine ⟨n, _, h1, h2, h3, hpost _ _ _ _ _ _ ⟨Cond.after_iff.mpr rfl, Cond.after_iff.mpr (eq_i res_at (Term.int_eval (1)) rfl), trivial⟩ ⟨hq.1, hq.2.1, hq.2.2.1, (hq.2.2.2.sift fun y hy => Or.inr (N y hy)).mono (by decide) (by decide)⟩⟩
theorem main_1_1 : Claimed_1_1 := comes_1 fun _ _ _ _ _ _ h hF => ⟨h.1, hF⟩
theorem main_1_2 : Claimed_1_2 := comes_1 fun _ _ _ _ _ _ h hF => ⟨h.2.1, hF⟩
end Jvm.Pilot.@@N@@
namespace Jvm.Pilot.@@N@@
open Jvm Jvm.ClassFile Sem Op Lib Jvm.Free Jvm.Stand Jvm.Pilot.@@N@@.Jvm.D
/-! MADE BY PROGRAM (witnessworld.py) out of the Statement's table words and the real class files: 27 classes; the members and pool entries that the words name. The judged class is class 1, her method 4. -/
namespace start1
open Jvm.ClassFile
def u (s : String) : CpInfo := .utf8 (stringToUtf16 s)
/-- a pool by its gaps: so many unusable entries, then the entry; so many at the end -/
def gap : Nat → List CpInfo → List CpInfo
  | 0, r => r
  | n + 1, r => .unusable :: gap n r
def poolList (es : List (Nat × CpInfo)) (last : Nat) : List CpInfo := es.foldr (fun e r => gap e.1 (e.2 :: r)) (gap last [])
def pool (es : List (Nat × CpInfo)) (last : Nat) : Array CpInfo := ⟨poolList es last⟩
def fileOf (pool : Array CpInfo) (this : Nat) (attrs : Array Attribute := #[]) (ms : Array MethodInfo := #[]) (fl : Nat := 33) (sup : Nat := 0) (ifs : Array Nat := #[]) (fds : Array FieldInfo := #[]) : ClassFile where
  minorVersion := 0
  majorVersion := 65
  constantPool := pool
  accessFlags := fl
  thisClass := this
  superClass := sup
  interfaces := ifs
  fields := fds
  methods := ms
  attributes := attrs
def plain (name : String) (sup : Option ClassId) : Class where
  name := name
  kind := .ordinary
  loader := none
  accessFlags := 33
  super := sup
  interfaces := #[]
  cf := none
  fields := #[]
  methods := #[]
  instanceTypes := #[]
  staticTypes := #[]
  resolved := #[]
  callSites := []
  init := .initialized
  statics := none
  mirror := none

def pool0 : Array CpInfo := pool [(5, u "<init>"), (0, u "()V"), (1, .class_ 10), (1, u "java/lang/Object")] 113

def k0c0 : Code := { maxStack := 0, maxLocals := 1, code := object_method_1_code, exceptionTable := #[], attributes := #[] }
def k0m0 : Method := { name := "<init>", desc := "()V", sig := { parameters := [], returnType := none }, accessFlags := 1, code := some k0c0 }
/-- java/lang/Object -/
def k0 : Class := { plain "java/lang/Object" none with
  accessFlags := 33
  interfaces := #[]
  cf := some (fileOf pool0 8 #[] #[{ accessFlags := 1, nameIndex := 5, descriptorIndex := 6, attributes := #[] }] 33 0 #[] #[])
  fields := #[]
  methods := #[k0m0]
  instanceTypes := #[]
  staticTypes := #[]
  resolved := Array.replicate 124 none
  statics := none }

def pool1 : Array CpInfo := pool [(2, .class_ 4), (1, u "java/lang/Object"), (0, u "<init>"), (0, u "()V"), (0, .class_ 8), (0, u "java/lang/String"), (0, .methodref 7 10), (0, .nameAndType 5 11), (0, u "([C)V"), (0, .methodref 7 13), (0, .nameAndType 14 15), (0, u "length"), (0, u "()I"), (0, .methodref 7 17), (0, .nameAndType 18 19), (0, u "charAt"), (0, u "(I)C"), (0, .methodref 21 22), (0, .class_ 23), (0, .nameAndType 24 25), (0, u "com/example/mulock/mulock/zookeeper/ContenderPathPinLaw"), (0, u "expAt"), (0, u "(Ljava/lang/String;Ljava/lang/String;I)I"), (0, .methodref 21 27), (0, .nameAndType 28 29), (0, u "str"), (0, u "(I)Ljava/lang/String;"), (0, .methodref 7 31), (0, .nameAndType 32 33), (0, u "valueOf"), (0, u "(C)Ljava/lang/String;"), (0, .class_ 35), (0, u "com/example/mulock/mulock/zookeeper/Contender"), (0, .methodref 34 37), (0, .nameAndType 5 38), (0, u "(Ljava/lang/String;Ljava/lang/String;Ljava/lang/String;JJ)V"), (0, .methodref 34 40), (0, .nameAndType 41 42), (0, u "path"), (0, u "()Ljava/lang/String;"), (0, .methodref 21 44), (0, .nameAndType 45 46), (0, u "at"), (0, u "(Ljava/lang/String;Ljava/lang/String;Ljava/lang/String;I)Z"), (3, u "law"), (0, u "(IIIJJ)Z")] 2

def k1m0 : Method := { name := "<init>", desc := "()V", sig := { parameters := [], returnType := none }, accessFlags := 1, code := none }
def k1c1 : Code := { maxStack := 6, maxLocals := 5, code := method_2_code, exceptionTable := #[], attributes := #[] }
def k1m1 : Method := { name := "str", desc := "(I)Ljava/lang/String;", sig := { parameters := [.int], returnType := some (.object "java/lang/String") }, accessFlags := 10, code := some k1c1 }
def k1c2 : Code := { maxStack := 2, maxLocals := 4, code := method_3_code, exceptionTable := #[], attributes := #[] }
def k1m2 : Method := { name := "expAt", desc := "(Ljava/lang/String;Ljava/lang/String;I)I", sig := { parameters := [(.object "java/lang/String"), (.object "java/lang/String"), .int], returnType := some .int }, accessFlags := 10, code := some k1c2 }
def k1c3 : Code := { maxStack := 4, maxLocals := 4, code := method_4_code, exceptionTable := #[], attributes := #[] }
def k1m3 : Method := { name := "at", desc := "(Ljava/lang/String;Ljava/lang/String;Ljava/lang/String;I)Z", sig := { parameters := [(.object "java/lang/String"), (.object "java/lang/String"), (.object "java/lang/String"), .int], returnType := some .boolean }, accessFlags := 10, code := some k1c3 }
def k1c4 : Code := { maxStack := 9, maxLocals := 12, code := code, exceptionTable := #[], attributes := #[] }
def k1m4 : Method := { name := "law", desc := "(IIIJJ)Z", sig := { parameters := [.int, .int, .int, .long, .long], returnType := some .boolean }, accessFlags := 9, code := some k1c4 }
/-- com/example/mulock/mulock/zookeeper/ContenderPathPinLaw -/
def k1 : Class := { plain "com/example/mulock/mulock/zookeeper/ContenderPathPinLaw" (some 0) with
  accessFlags := 49
  interfaces := #[]
  cf := some (fileOf pool1 21 #[] #[{ accessFlags := 1, nameIndex := 5, descriptorIndex := 6, attributes := #[] }, { accessFlags := 10, nameIndex := 28, descriptorIndex := 29, attributes := #[] }, { accessFlags := 10, nameIndex := 24, descriptorIndex := 25, attributes := #[] }, { accessFlags := 10, nameIndex := 45, descriptorIndex := 46, attributes := #[] }, { accessFlags := 9, nameIndex := 50, descriptorIndex := 51, attributes := #[] }] 49 2 #[] #[])
  fields := #[]
  methods := #[k1m0, k1m1, k1m2, k1m3, k1m4]
  instanceTypes := #[]
  staticTypes := #[]
  resolved := Array.replicate 54 none
  statics := none }

def pool2 : Array CpInfo := pool [(1, .class_ 2), (0, u "java/io/Serializable"), (0, .class_ 4), (0, u "java/lang/Object")] 2

/-- java/io/Serializable -/
def k2 : Class := { plain "java/io/Serializable" (some 0) with
  accessFlags := 1537
  interfaces := #[]
  cf := some (fileOf pool2 1 #[] #[] 1537 3 #[] #[])
  fields := #[]
  methods := #[]
  instanceTypes := #[]
  staticTypes := #[]
  resolved := Array.replicate 7 none
  statics := none }

def pool3 : Array CpInfo := pool [(1, .class_ 2), (0, u "java/lang/Comparable"), (0, .class_ 4), (0, u "java/lang/Object")] 7

/-- java/lang/Comparable -/
def k3 : Class := { plain "java/lang/Comparable" (some 0) with
  accessFlags := 1537
  interfaces := #[]
  cf := some (fileOf pool3 1 #[] #[] 1537 3 #[] #[])
  fields := #[]
  methods := #[]
  instanceTypes := #[]
  staticTypes := #[]
  resolved := Array.replicate 12 none
  statics := none }

def pool4 : Array CpInfo := pool [(2, .class_ 4), (1, u "java/lang/CharSequence"), (42, .class_ 48), (0, u "java/lang/CharSequence$1CodePointIterator"), (10, .class_ 60), (0, u "java/lang/CharSequence$1CharIterator"), (5, .class_ 67), (0, u "java/lang/Object")] 63

/-- java/lang/CharSequence -/
def k4 : Class := { plain "java/lang/CharSequence" (some 0) with
  accessFlags := 1537
  interfaces := #[]
  cf := some (fileOf pool4 2 #[.nestMembers #[47, 59]] #[] 1537 66 #[] #[])
  fields := #[]
  methods := #[]
  instanceTypes := #[]
  staticTypes := #[]
  resolved := Array.replicate 131 none
  statics := none }

def pool5 : Array CpInfo := pool [(1, .class_ 2), (0, u "java/lang/constant/Constable"), (0, .class_ 4), (0, u "java/lang/Object")] 6

/-- java/lang/constant/Constable -/
def k5 : Class := { plain "java/lang/constant/Constable" (some 0) with
  accessFlags := 1537
  interfaces := #[]
  cf := some (fileOf pool5 1 #[] #[] 1537 3 #[] #[])
  fields := #[]
  methods := #[]
  instanceTypes := #[]
  staticTypes := #[]
  resolved := Array.replicate 11 none
  statics := none }

def pool6 : Array CpInfo := pool [(1, .class_ 2), (0, u "java/lang/constant/ConstantDesc"), (0, .class_ 4), (0, u "java/lang/Object")] 32

/-- java/lang/constant/ConstantDesc -/
def k6 : Class := { plain "java/lang/constant/ConstantDesc" (some 0) with
  accessFlags := 1537
  interfaces := #[]
  cf := some (fileOf pool6 1 #[] #[] 1537 3 #[] #[])
  fields := #[]
  methods := #[]
  instanceTypes := #[]
  staticTypes := #[]
  resolved := Array.replicate 37 none
  statics := none }

def pool7 : Array CpInfo := pool [(1, .methodref 2 3), (0, .class_ 4), (0, .nameAndType 5 6), (0, u "java/lang/Object"), (0, u "<init>"), (0, u "()V"), (0, .string 8), (0, u ""), (0, .fieldref 10 11), (0, .class_ 12), (0, .nameAndType 13 14), (0, u "java/lang/String"), (0, u "value"), (0, u "[B"), (0, .fieldref 10 16), (0, .nameAndType 17 18), (0, u "coder"), (0, u "B"), (2, u "hash"), (0, u "I"), (2, u "hashIsZero"), (0, u "Z"), (0, .methodref 10 28), (0, .nameAndType 5 29), (0, u "([CIILjava/lang/Void;)V"), (8, .fieldref 10 39), (0, .nameAndType 40 26), (0, u "COMPACT_STRINGS"), (1, .class_ 44), (1, u "java/lang/StringUTF16"), (0, u "compress"), (1, .methodref 42 48), (0, .nameAndType 49 50), (0, u "coderFromArrayLen"), (0, u "([BI)B"), (2, u "toBytes"), (0, .methodref 55 56), (0, .class_ 57), (0, .nameAndType 58 59), (0, u "java/util/Arrays"), (0, u "copyOfRange"), (0, u "([BII)[B"), (47, .class_ 109), (1, u "java/lang/StringLatin1"), (32, u "()Z"), (34, .methodref 42 178), (0, .nameAndType 45 179), (0, u "([CII)[B"), (13, .class_ 195), (1, u "java/lang/System"), (13, .methodref 10 210), (0, .nameAndType 5 211), (0, u "([BB)V"), (0, .methodref 193 213), (0, .nameAndType 214 215), (0, u "arraycopy"), (0, u "(Ljava/lang/Object;ILjava/lang/Object;II)V"), (118, u "()I"), (0, .methodref 10 336), (0, .nameAndType 17 337), (0, u "()B"), (2, u "()[B"), (22, u "([BI)C"), (5, u "(C)Z"), (21, u "(II)V"), (35, u "(I)C"), (61, .methodref 10 490), (0, .nameAndType 5 491), (0, u "(Ljava/lang/AbstractStringBuilder;Ljava/lang/Void;)V"), (0, .methodref 10 493), (0, .nameAndType 494 142), (0, u "isLatin1"), (0, .methodref 107 496), (0, .nameAndType 497 363), (0, u "charAt"), (3, u "checkIndex"), (4, .nameAndType 507 334), (0, u "length"), (24, u "getBytes"), (16, .methodref 550 506), (0, .class_ 551), (0, u "java/lang/AbstractStringBuilder"), (0, .methodref 550 553), (0, .nameAndType 554 340), (0, u "getValue"), (20, .class_ 576), (0, u "java/lang/CharSequence"), (22, u "CASE_INSENSITIVE_ORDER"), (0, u "Ljava/util/Comparator;"), (181, u "valueOf"), (0, u "(C)Ljava/lang/String;"), (37, u "([BIB)V"), (188, u "([C)V"), (4, .methodref 107 1016), (0, .nameAndType 1017 369), (0, u "canEncode"), (0, .methodref 107 1019), (0, .nameAndType 53 1020), (0, u "(C)[B"), (26, .methodref 550 493), (5, .fieldref 1054 1055), (0, .class_ 1056), (0, .nameAndType 1057 1058), (0, u "jdk/internal/util/Preconditions"), (0, u "SIOOBE_FORMATTER"), (0, u "Ljava/util/function/BiFunction;"), (0, .methodref 1054 1060), (0, .nameAndType 501 1061), (0, u "(IILjava/util/function/BiFunction;)I"), (39, u "serialPersistentFields"), (0, u "[Ljava/io/ObjectStreamField;"), (0, .class_ 1104), (0, u "java/lang/String$CaseInsensitiveComparator"), (1, .class_ 1107), (0, u "java/io/Serializable"), (0, .class_ 1109), (0, u "java/lang/Comparable"), (0, .class_ 1111), (0, u "java/lang/constant/Constable"), (0, .class_ 1113), (0, u "java/lang/constant/ConstantDesc"), (2, u "serialVersionUID"), (0, u "J"), (3, u "REPL"), (0, u "C"), (2, u "LATIN1"), (1, u "UTF16"), (105, u "(Ljava/lang/StringBuilder;)V")] 217

def k7m0 : Method := { name := "<init>", desc := "()V", sig := { parameters := [], returnType := none }, accessFlags := 1, code := none }
def k7c1 : Code := { maxStack := 5, maxLocals := 2, code := jdk_42_method_3_code, exceptionTable := #[], attributes := #[] }
def k7m1 : Method := { name := "<init>", desc := "([C)V", sig := { parameters := [(.array .char)], returnType := none }, accessFlags := 1, code := some k7c1 }
def k7c2 : Code := { maxStack := 3, maxLocals := 2, code := jdk_42_method_53_code, exceptionTable := #[], attributes := #[] }
def k7m2 : Method := { name := "<init>", desc := "(Ljava/lang/StringBuilder;)V", sig := { parameters := [(.object "java/lang/StringBuilder")], returnType := none }, accessFlags := 1, code := some k7c2 }
def k7c3 : Code := { maxStack := 2, maxLocals := 1, code := jdk_42_method_54_code, exceptionTable := #[], attributes := #[] }
def k7m3 : Method := { name := "length", desc := "()I", sig := { parameters := [], returnType := some .int }, accessFlags := 1, code := some k7c3 }
def k7c4 : Code := { maxStack := 2, maxLocals := 2, code := jdk_42_method_56_code, exceptionTable := #[], attributes := #[] }
def k7m4 : Method := { name := "charAt", desc := "(I)C", sig := { parameters := [.int], returnType := some .char }, accessFlags := 1, code := some k7c4 }
def k7c5 : Code := { maxStack := 4, maxLocals := 1, code := jdk_42_method_139_code, exceptionTable := #[], attributes := #[] }
def k7m5 : Method := { name := "valueOf", desc := "(C)Ljava/lang/String;", sig := { parameters := [.char], returnType := some (.object "java/lang/String") }, accessFlags := 9, code := some k7c5 }
def k7c6 : Code := { maxStack := 5, maxLocals := 4, code := jdk_42_method_147_code, exceptionTable := #[], attributes := #[] }
def k7m6 : Method := { name := "getBytes", desc := "([BIB)V", sig := { parameters := [(.array .byte), .int, .byte], returnType := none }, accessFlags := 0, code := some k7c6 }
def k7c7 : Code := { maxStack := 4, maxLocals := 6, code := jdk_42_method_149_code, exceptionTable := #[], attributes := #[] }
def k7m7 : Method := { name := "<init>", desc := "([CIILjava/lang/Void;)V", sig := { parameters := [(.array .char), .int, .int, (.object "java/lang/Void")], returnType := none }, accessFlags := 2, code := some k7c7 }
def k7c8 : Code := { maxStack := 5, maxLocals := 5, code := jdk_42_method_150_code, exceptionTable := #[], attributes := #[] }
def k7m8 : Method := { name := "<init>", desc := "(Ljava/lang/AbstractStringBuilder;Ljava/lang/Void;)V", sig := { parameters := [(.object "java/lang/AbstractStringBuilder"), (.object "java/lang/Void")], returnType := none }, accessFlags := 0, code := some k7c8 }
def k7c9 : Code := { maxStack := 2, maxLocals := 3, code := jdk_42_method_151_code, exceptionTable := #[], attributes := #[] }
def k7m9 : Method := { name := "<init>", desc := "([BB)V", sig := { parameters := [(.array .byte), .byte], returnType := none }, accessFlags := 0, code := some k7c9 }
def k7c10 : Code := { maxStack := 1, maxLocals := 1, code := jdk_42_method_152_code, exceptionTable := #[], attributes := #[] }
def k7m10 : Method := { name := "coder", desc := "()B", sig := { parameters := [], returnType := some .byte }, accessFlags := 0, code := some k7c10 }
def k7c11 : Code := { maxStack := 1, maxLocals := 1, code := jdk_42_method_154_code, exceptionTable := #[], attributes := #[] }
def k7m11 : Method := { name := "isLatin1", desc := "()Z", sig := { parameters := [], returnType := some .boolean }, accessFlags := 0, code := some k7c11 }
def k7c12 : Code := { maxStack := 3, maxLocals := 2, code := jdk_42_method_155_code, exceptionTable := #[], attributes := #[] }
def k7m12 : Method := { name := "checkIndex", desc := "(II)V", sig := { parameters := [.int, .int], returnType := none }, accessFlags := 8, code := some k7c12 }
/-- java/lang/String -/
def k7 : Class := { plain "java/lang/String" (some 0) with
  accessFlags := 49
  interfaces := #[2, 3, 4, 5, 6]
  cf := some (fileOf pool7 10 #[.nestMembers #[1103]] #[{ accessFlags := 1, nameIndex := 5, descriptorIndex := 6, attributes := #[] }, { accessFlags := 1, nameIndex := 5, descriptorIndex := 1010, attributes := #[] }, { accessFlags := 1, nameIndex := 5, descriptorIndex := 1233, attributes := #[] }, { accessFlags := 1, nameIndex := 507, descriptorIndex := 334, attributes := #[] }, { accessFlags := 1, nameIndex := 497, descriptorIndex := 427, attributes := #[] }, { accessFlags := 9, nameIndex := 782, descriptorIndex := 783, attributes := #[] }, { accessFlags := 0, nameIndex := 532, descriptorIndex := 821, attributes := #[] }, { accessFlags := 2, nameIndex := 5, descriptorIndex := 29, attributes := #[] }, { accessFlags := 0, nameIndex := 5, descriptorIndex := 491, attributes := #[] }, { accessFlags := 0, nameIndex := 5, descriptorIndex := 211, attributes := #[] }, { accessFlags := 0, nameIndex := 17, descriptorIndex := 337, attributes := #[] }, { accessFlags := 0, nameIndex := 494, descriptorIndex := 142, attributes := #[] }, { accessFlags := 8, nameIndex := 501, descriptorIndex := 391, attributes := #[] }] 49 2 #[1106, 1108, 575, 1110, 1112] #[{ accessFlags := 18, nameIndex := 13, descriptorIndex := 14, attributes := #[] }, { accessFlags := 18, nameIndex := 17, descriptorIndex := 18, attributes := #[] }, { accessFlags := 2, nameIndex := 21, descriptorIndex := 22, attributes := #[] }, { accessFlags := 2, nameIndex := 25, descriptorIndex := 26, attributes := #[] }, { accessFlags := 26, nameIndex := 1116, descriptorIndex := 1117, attributes := #[] }, { accessFlags := 24, nameIndex := 40, descriptorIndex := 26, attributes := #[] }, { accessFlags := 26, nameIndex := 1101, descriptorIndex := 1102, attributes := #[] }, { accessFlags := 26, nameIndex := 1121, descriptorIndex := 1122, attributes := #[] }, { accessFlags := 25, nameIndex := 599, descriptorIndex := 600, attributes := #[] }, { accessFlags := 24, nameIndex := 1125, descriptorIndex := 18, attributes := #[] }, { accessFlags := 24, nameIndex := 1127, descriptorIndex := 18, attributes := #[] }])
  fields := #[{ name := "value", type := (.array .byte), accessFlags := 18, slot := 0, constantValue := 0 }, { name := "coder", type := .byte, accessFlags := 18, slot := 1, constantValue := 0 }, { name := "hash", type := .int, accessFlags := 2, slot := 2, constantValue := 0 }, { name := "hashIsZero", type := .boolean, accessFlags := 2, slot := 3, constantValue := 0 }, { name := "serialVersionUID", type := .long, accessFlags := 26, slot := 0, constantValue := 0 }, { name := "COMPACT_STRINGS", type := .boolean, accessFlags := 24, slot := 1, constantValue := 0 }, { name := "serialPersistentFields", type := (.array (.object "java/io/ObjectStreamField")), accessFlags := 26, slot := 2, constantValue := 0 }, { name := "REPL", type := .char, accessFlags := 26, slot := 3, constantValue := 0 }, { name := "CASE_INSENSITIVE_ORDER", type := (.object "java/util/Comparator"), accessFlags := 25, slot := 4, constantValue := 0 }, { name := "LATIN1", type := .byte, accessFlags := 24, slot := 5, constantValue := 0 }, { name := "UTF16", type := .byte, accessFlags := 24, slot := 6, constantValue := 0 }]
  methods := #[k7m0, k7m1, k7m2, k7m3, k7m4, k7m5, k7m6, k7m7, k7m8, k7m9, k7m10, k7m11, k7m12]
  instanceTypes := #[(.array .byte), .byte, .int, .boolean]
  staticTypes := #[.long, .boolean, (.array (.object "java/io/ObjectStreamField")), .char, (.object "java/util/Comparator"), .byte, .byte]
  resolved := Array.replicate 1451 none
  statics := some 0 }

def pool8 : Array CpInfo := pool [(1, .class_ 2), (0, u "java/lang/String"), (1, .class_ 6), (1, u "java/lang/Object"), (0, u "<init>"), (0, u "()V"), (0, .methodref 1 10), (0, .nameAndType 11 12), (0, u "checkIndex"), (0, u "(II)V"), (1, .class_ 16), (1, u "java/lang/StringLatin1"), (36, u "([BI)C"), (36, u "canEncode"), (14, u "(C)Z"), (15, u "$assertionsDisabled"), (0, u "Z"), (98, .class_ 223), (1, u "java/lang/StringLatin1$LinesSpliterator"), (28, u "charAt"), (127, u "toBytes"), (1, u "(C)[B"), (7, .class_ 391), (0, u "java/lang/StringLatin1$CharsSpliterator")] 3

def k8m0 : Method := { name := "<init>", desc := "()V", sig := { parameters := [], returnType := none }, accessFlags := 0, code := none }
def k8c1 : Code := { maxStack := 2, maxLocals := 2, code := jdk_43_method_2_code, exceptionTable := #[], attributes := #[] }
def k8m1 : Method := { name := "charAt", desc := "([BI)C", sig := { parameters := [(.array .byte), .int], returnType := some .char }, accessFlags := 9, code := some k8c1 }
def k8c2 : Code := { maxStack := 2, maxLocals := 1, code := jdk_43_method_3_code, exceptionTable := #[], attributes := #[] }
def k8m2 : Method := { name := "canEncode", desc := "(C)Z", sig := { parameters := [.char], returnType := some .boolean }, accessFlags := 9, code := some k8c2 }
def k8c3 : Code := { maxStack := 4, maxLocals := 1, code := jdk_43_method_46_code, exceptionTable := #[], attributes := #[] }
def k8m3 : Method := { name := "toBytes", desc := "(C)[B", sig := { parameters := [.char], returnType := some (.array .byte) }, accessFlags := 9, code := some k8c3 }
/-- java/lang/StringLatin1 -/
def k8 : Class := { plain "java/lang/StringLatin1" (some 0) with
  accessFlags := 48
  interfaces := #[]
  cf := some (fileOf pool8 14 #[.nestMembers #[390, 221]] #[{ accessFlags := 0, nameIndex := 7, descriptorIndex := 8, attributes := #[] }, { accessFlags := 9, nameIndex := 252, descriptorIndex := 53, attributes := #[] }, { accessFlags := 9, nameIndex := 90, descriptorIndex := 105, attributes := #[] }, { accessFlags := 9, nameIndex := 380, descriptorIndex := 382, attributes := #[] }] 48 4 #[] #[{ accessFlags := 4120, nameIndex := 121, descriptorIndex := 122, attributes := #[] }])
  fields := #[{ name := "$assertionsDisabled", type := .boolean, accessFlags := 4120, slot := 0, constantValue := 0 }]
  methods := #[k8m0, k8m1, k8m2, k8m3]
  instanceTypes := #[]
  staticTypes := #[.boolean]
  resolved := Array.replicate 395 none
  statics := none }

def pool9 : Array CpInfo := pool [(1, .methodref 2 3), (0, .class_ 4), (0, .nameAndType 5 6), (0, u "java/lang/Object"), (0, u "<init>"), (0, u "()V"), (0, .class_ 8), (0, u "java/lang/Record")] 13

def k9c0 : Code := { maxStack := 1, maxLocals := 1, code := jdk_30_method_1_code, exceptionTable := #[], attributes := #[] }
def k9m0 : Method := { name := "<init>", desc := "()V", sig := { parameters := [], returnType := none }, accessFlags := 4, code := some k9c0 }
/-- java/lang/Record -/
def k9 : Class := { plain "java/lang/Record" (some 0) with
  accessFlags := 1057
  interfaces := #[]
  cf := some (fileOf pool9 7 #[] #[{ accessFlags := 4, nameIndex := 5, descriptorIndex := 6, attributes := #[] }] 1057 2 #[] #[])
  fields := #[]
  methods := #[k9m0]
  instanceTypes := #[]
  staticTypes := #[]
  resolved := Array.replicate 22 none
  statics := none }

def pool10 : Array CpInfo := pool [(1, .methodref 2 3), (0, .class_ 4), (0, .nameAndType 5 6), (0, u "java/lang/Record"), (0, u "<init>"), (0, u "()V"), (0, .fieldref 8 9), (0, .class_ 10), (0, .nameAndType 11 12), (0, u "com/example/mulock/mulock/zookeeper/Contender"), (0, u "lock"), (0, u "Ljava/lang/String;"), (0, .fieldref 8 14), (0, .nameAndType 15 12), (0, u "id"), (0, .fieldref 8 17), (0, .nameAndType 18 12), (0, u "name"), (0, .fieldref 8 20), (0, .nameAndType 21 22), (0, u "token"), (0, u "J"), (0, .fieldref 8 24), (0, .nameAndType 25 22), (0, u "session"), (0, .class_ 27), (0, u "java/lang/StringBuilder"), (0, .methodref 26 3), (0, .methodref 26 30), (0, .nameAndType 31 32), (0, u "append"), (0, u "(Ljava/lang/String;)Ljava/lang/StringBuilder;"), (0, .string 34), (0, u "/"), (2, .methodref 26 38), (0, .nameAndType 39 40), (0, u "toString"), (0, u "()Ljava/lang/String;"), (76, u "MARK"), (1, u "(Ljava/lang/String;Ljava/lang/String;Ljava/lang/String;JJ)V"), (7, u "path")] 46

def k10c0 : Code := { maxStack := 3, maxLocals := 8, code := prog_22_method_1_code, exceptionTable := #[], attributes := #[] }
def k10m0 : Method := { name := "<init>", desc := "(Ljava/lang/String;Ljava/lang/String;Ljava/lang/String;JJ)V", sig := { parameters := [(.object "java/lang/String"), (.object "java/lang/String"), (.object "java/lang/String"), .long, .long], returnType := none }, accessFlags := 0, code := some k10c0 }
def k10c1 : Code := { maxStack := 2, maxLocals := 1, code := prog_22_method_4_code, exceptionTable := #[], attributes := #[] }
def k10m1 : Method := { name := "path", desc := "()Ljava/lang/String;", sig := { parameters := [], returnType := some (.object "java/lang/String") }, accessFlags := 0, code := some k10c1 }
/-- com/example/mulock/mulock/zookeeper/Contender -/
def k10 : Class := { plain "com/example/mulock/mulock/zookeeper/Contender" (some 9) with
  accessFlags := 48
  interfaces := #[]
  cf := some (fileOf pool10 8 #[] #[{ accessFlags := 0, nameIndex := 5, descriptorIndex := 119, attributes := #[] }, { accessFlags := 0, nameIndex := 127, descriptorIndex := 40, attributes := #[] }] 48 2 #[] #[{ accessFlags := 18, nameIndex := 11, descriptorIndex := 12, attributes := #[] }, { accessFlags := 18, nameIndex := 15, descriptorIndex := 12, attributes := #[] }, { accessFlags := 18, nameIndex := 18, descriptorIndex := 12, attributes := #[] }, { accessFlags := 18, nameIndex := 21, descriptorIndex := 22, attributes := #[] }, { accessFlags := 18, nameIndex := 25, descriptorIndex := 22, attributes := #[] }, { accessFlags := 26, nameIndex := 117, descriptorIndex := 12, attributes := #[] }])
  fields := #[{ name := "lock", type := (.object "java/lang/String"), accessFlags := 18, slot := 0, constantValue := 0 }, { name := "id", type := (.object "java/lang/String"), accessFlags := 18, slot := 1, constantValue := 0 }, { name := "name", type := (.object "java/lang/String"), accessFlags := 18, slot := 2, constantValue := 0 }, { name := "token", type := .long, accessFlags := 18, slot := 3, constantValue := 0 }, { name := "session", type := .long, accessFlags := 18, slot := 4, constantValue := 0 }, { name := "MARK", type := (.object "java/lang/String"), accessFlags := 26, slot := 0, constantValue := 0 }]
  methods := #[k10m0, k10m1]
  instanceTypes := #[(.object "java/lang/String"), (.object "java/lang/String"), (.object "java/lang/String"), .long, .long]
  staticTypes := #[(.object "java/lang/String")]
  resolved := Array.replicate 174 none
  statics := none }

def pool11 : Array CpInfo := pool [(1, .class_ 2), (0, u "java/lang/Appendable"), (0, .class_ 4), (0, u "java/lang/Object")] 9

/-- java/lang/Appendable -/
def k11 : Class := { plain "java/lang/Appendable" (some 0) with
  accessFlags := 1537
  interfaces := #[]
  cf := some (fileOf pool11 1 #[] #[] 1537 3 #[] #[])
  fields := #[]
  methods := #[]
  instanceTypes := #[]
  staticTypes := #[]
  resolved := Array.replicate 14 none
  statics := none }

def pool12 : Array CpInfo := pool [(1, .class_ 2), (0, u "java/lang/String"), (0, .methodref 4 5), (0, .class_ 6), (0, .nameAndType 7 8), (0, u "java/lang/Object"), (0, u "<init>"), (0, u "()V"), (1, .class_ 12), (1, u "java/lang/AbstractStringBuilder"), (0, u "EMPTYVALUE"), (0, u "[B"), (0, .fieldref 10 16), (0, .nameAndType 17 14), (0, u "value"), (0, .fieldref 1 19), (0, .nameAndType 20 21), (0, u "COMPACT_STRINGS"), (0, u "Z"), (0, .fieldref 10 23), (0, .nameAndType 24 25), (0, u "coder"), (0, u "B"), (6, .methodref 1 33), (0, .nameAndType 34 35), (0, u "length"), (0, u "()I"), (4, .methodref 1 41), (0, .nameAndType 24 42), (0, u "()B"), (2, u "append"), (0, u "(Ljava/lang/String;)Ljava/lang/AbstractStringBuilder;"), (1, .class_ 49), (0, u "java/lang/CharSequence"), (19, u "(Ljava/lang/String;)V"), (5, u "maybeLatin1"), (3, .fieldref 10 80), (0, .nameAndType 81 82), (0, u "count"), (0, u "I"), (2, u "isLatin1"), (0, u "()Z"), (13, .methodref 10 101), (0, .nameAndType 102 103), (0, u "ensureCapacityInternal"), (0, u "(I)V"), (104, .methodref 10 209), (0, .nameAndType 210 211), (0, u "putStringAt"), (0, u "(ILjava/lang/String;)V"), (5, u "inflateIfNeededFor"), (2, .nameAndType 221 222), (0, u "getBytes"), (0, u "([BIB)V"), (174, .methodref 10 398), (0, .nameAndType 217 69), (0, .methodref 1 220), (3, u "()[B"), (40, .class_ 445), (0, u "java/lang/Appendable"), (106, u "getValue")] 56

def k12m0 : Method := { name := "<init>", desc := "()V", sig := { parameters := [], returnType := none }, accessFlags := 0, code := none }
def k12c1 : Code := { maxStack := 2, maxLocals := 2, code := jdk_68_method_2_code, exceptionTable := #[], attributes := #[] }
def k12m1 : Method := { name := "<init>", desc := "(I)V", sig := { parameters := [.int], returnType := none }, accessFlags := 0, code := some k12c1 }
def k12c2 : Code := { maxStack := 1, maxLocals := 1, code := jdk_68_method_6_code, exceptionTable := #[], attributes := #[] }
def k12m2 : Method := { name := "length", desc := "()I", sig := { parameters := [], returnType := some .int }, accessFlags := 1, code := some k12c2 }
def k12c3 : Code := { maxStack := 4, maxLocals := 3, code := jdk_68_method_9_code, exceptionTable := #[], attributes := #[] }
def k12m3 : Method := { name := "ensureCapacityInternal", desc := "(I)V", sig := { parameters := [.int], returnType := none }, accessFlags := 2, code := some k12c3 }
def k12c4 : Code := { maxStack := 3, maxLocals := 3, code := jdk_68_method_22_code, exceptionTable := #[], attributes := #[] }
def k12m4 : Method := { name := "append", desc := "(Ljava/lang/String;)Ljava/lang/AbstractStringBuilder;", sig := { parameters := [(.object "java/lang/String")], returnType := some (.object "java/lang/AbstractStringBuilder") }, accessFlags := 1, code := some k12c4 }
def k12c5 : Code := { maxStack := 1, maxLocals := 1, code := jdk_68_method_64_code, exceptionTable := #[], attributes := #[] }
def k12m5 : Method := { name := "getValue", desc := "()[B", sig := { parameters := [], returnType := some (.array .byte) }, accessFlags := 16, code := some k12c5 }
def k12c6 : Code := { maxStack := 1, maxLocals := 1, code := jdk_68_method_68_code, exceptionTable := #[], attributes := #[] }
def k12m6 : Method := { name := "isLatin1", desc := "()Z", sig := { parameters := [], returnType := some .boolean }, accessFlags := 16, code := some k12c6 }
def k12c7 : Code := { maxStack := 2, maxLocals := 2, code := jdk_68_method_71_code, exceptionTable := #[], attributes := #[] }
def k12m7 : Method := { name := "inflateIfNeededFor", desc := "(Ljava/lang/String;)V", sig := { parameters := [(.object "java/lang/String")], returnType := none }, accessFlags := 2, code := some k12c7 }
def k12c8 : Code := { maxStack := 4, maxLocals := 3, code := jdk_68_method_73_code, exceptionTable := #[], attributes := #[] }
def k12m8 : Method := { name := "putStringAt", desc := "(ILjava/lang/String;)V", sig := { parameters := [.int, (.object "java/lang/String")], returnType := none }, accessFlags := 2, code := some k12c8 }
/-- java/lang/AbstractStringBuilder -/
def k12 : Class := { plain "java/lang/AbstractStringBuilder" (some 0) with
  accessFlags := 1056
  interfaces := #[11, 4]
  cf := some (fileOf pool12 10 #[] #[{ accessFlags := 0, nameIndex := 7, descriptorIndex := 8, attributes := #[] }, { accessFlags := 0, nameIndex := 7, descriptorIndex := 103, attributes := #[] }, { accessFlags := 1, nameIndex := 34, descriptorIndex := 35, attributes := #[] }, { accessFlags := 2, nameIndex := 102, descriptorIndex := 103, attributes := #[] }, { accessFlags := 1, nameIndex := 45, descriptorIndex := 46, attributes := #[] }, { accessFlags := 16, nameIndex := 552, descriptorIndex := 403, attributes := #[] }, { accessFlags := 16, nameIndex := 85, descriptorIndex := 86, attributes := #[] }, { accessFlags := 2, nameIndex := 217, descriptorIndex := 69, attributes := #[] }, { accessFlags := 2, nameIndex := 210, descriptorIndex := 211, attributes := #[] }] 1056 4 #[444, 48] #[{ accessFlags := 0, nameIndex := 17, descriptorIndex := 14, attributes := #[] }, { accessFlags := 0, nameIndex := 24, descriptorIndex := 25, attributes := #[] }, { accessFlags := 0, nameIndex := 75, descriptorIndex := 21, attributes := #[] }, { accessFlags := 0, nameIndex := 81, descriptorIndex := 82, attributes := #[] }, { accessFlags := 26, nameIndex := 13, descriptorIndex := 14, attributes := #[] }])
  fields := #[{ name := "value", type := (.array .byte), accessFlags := 0, slot := 0, constantValue := 0 }, { name := "coder", type := .byte, accessFlags := 0, slot := 1, constantValue := 0 }, { name := "maybeLatin1", type := .boolean, accessFlags := 0, slot := 2, constantValue := 0 }, { name := "count", type := .int, accessFlags := 0, slot := 3, constantValue := 0 }, { name := "EMPTYVALUE", type := (.array .byte), accessFlags := 26, slot := 0, constantValue := 0 }]
  methods := #[k12m0, k12m1, k12m2, k12m3, k12m4, k12m5, k12m6, k12m7, k12m8]
  instanceTypes := #[(.array .byte), .byte, .boolean, .int]
  staticTypes := #[(.array .byte)]
  resolved := Array.replicate 609 none
  statics := none }

def pool13 : Array CpInfo := pool [(1, .methodref 2 3), (0, .class_ 4), (0, .nameAndType 5 6), (0, u "java/lang/AbstractStringBuilder"), (0, u "<init>"), (0, u "(I)V"), (11, .class_ 20), (1, u "java/lang/String"), (3, .class_ 26), (1, u "java/lang/StringBuilder"), (0, u "append"), (0, u "(Ljava/lang/String;)Ljava/lang/StringBuilder;"), (0, .methodref 2 30), (0, .nameAndType 27 31), (0, u "(Ljava/lang/String;)Ljava/lang/AbstractStringBuilder;"), (105, .methodref 18 138), (0, .nameAndType 5 139), (0, u "(Ljava/lang/StringBuilder;)V"), (5, u "()V"), (10, u "()I"), (186, .methodref 2 344), (0, .nameAndType 345 156), (0, u "length"), (3, .class_ 350), (0, u "java/lang/Appendable"), (0, .class_ 352), (0, u "java/io/Serializable"), (0, .class_ 354), (0, u "java/lang/Comparable"), (0, .class_ 356), (0, u "java/lang/CharSequence"), (0, u "serialVersionUID"), (0, u "J"), (40, u "toString"), (0, u "()Ljava/lang/String;")] 21

def k13c0 : Code := { maxStack := 2, maxLocals := 1, code := jdk_67_method_1_code, exceptionTable := #[], attributes := #[] }
def k13m0 : Method := { name := "<init>", desc := "()V", sig := { parameters := [], returnType := none }, accessFlags := 1, code := some k13c0 }
def k13c1 : Code := { maxStack := 2, maxLocals := 2, code := jdk_67_method_7_code, exceptionTable := #[], attributes := #[] }
def k13m1 : Method := { name := "append", desc := "(Ljava/lang/String;)Ljava/lang/StringBuilder;", sig := { parameters := [(.object "java/lang/String")], returnType := some (.object "java/lang/StringBuilder") }, accessFlags := 1, code := some k13c1 }
def k13c2 : Code := { maxStack := 3, maxLocals := 1, code := jdk_67_method_42_code, exceptionTable := #[], attributes := #[] }
def k13m2 : Method := { name := "toString", desc := "()Ljava/lang/String;", sig := { parameters := [], returnType := some (.object "java/lang/String") }, accessFlags := 1, code := some k13c2 }
def k13c3 : Code := { maxStack := 1, maxLocals := 1, code := jdk_67_method_93_code, exceptionTable := #[], attributes := #[] }
def k13m3 : Method := { name := "length", desc := "()I", sig := { parameters := [], returnType := some .int }, accessFlags := 4161, code := some k13c3 }
/-- java/lang/StringBuilder -/
def k13 : Class := { plain "java/lang/StringBuilder" (some 12) with
  accessFlags := 49
  interfaces := #[11, 2, 3, 4]
  cf := some (fileOf pool13 24 #[] #[{ accessFlags := 1, nameIndex := 5, descriptorIndex := 145, attributes := #[] }, { accessFlags := 1, nameIndex := 27, descriptorIndex := 28, attributes := #[] }, { accessFlags := 1, nameIndex := 399, descriptorIndex := 400, attributes := #[] }, { accessFlags := 4161, nameIndex := 345, descriptorIndex := 156, attributes := #[] }] 49 2 #[349, 351, 353, 355] #[{ accessFlags := 24, nameIndex := 357, descriptorIndex := 358, attributes := #[] }])
  fields := #[{ name := "serialVersionUID", type := .long, accessFlags := 24, slot := 0, constantValue := 0 }]
  methods := #[k13m0, k13m1, k13m2, k13m3]
  instanceTypes := #[(.array .byte), .byte, .boolean, .int]
  staticTypes := #[.long]
  resolved := Array.replicate 422 none
  statics := none }

def pool14 : Array CpInfo := pool [(2, .class_ 4), (1, u "java/lang/Object"), (0, u "<init>"), (0, u "()V"), (1, .class_ 10), (1, u "java/lang/System"), (0, u "allowSecurityManager"), (0, u "I"), (16, u "cons"), (0, u "Ljava/io/Console;"), (77, .class_ 110), (1, u "java/lang/System$CallersHolder"), (43, u "initialErrStream"), (0, u "Ljava/io/PrintStream;"), (19, u "security"), (0, u "Ljava/lang/SecurityManager;"), (31, .class_ 209), (0, u "java/lang/System$1"), (7, u "props"), (0, u "Ljava/util/Properties;"), (2, u "lineSeparator"), (0, u "Ljava/lang/String;"), (96, .class_ 321), (1, u "java/lang/System$LoggerFinder"), (5, .class_ 328), (0, u "java/lang/System$Logger"), (67, u "err"), (2, u "out"), (91, u "notSupportedJnuEncoding"), (15, u "in"), (17, u "initialIn"), (0, u "Ljava/io/InputStream;"), (35, u "bootLayer"), (0, u "Ljava/lang/ModuleLayer;"), (99, .class_ 664), (0, u "java/lang/System$2"), (9, u "NEVER"), (2, u "MAYBE"), (49, u "arraycopy"), (0, u "(Ljava/lang/Object;ILjava/lang/Object;II)V"), (72, .class_ 802), (0, u "java/lang/System$Logger$Level")] 31

def k14m0 : Method := { name := "<init>", desc := "()V", sig := { parameters := [], returnType := none }, accessFlags := 2, code := none }
def k14m1 : Method := { name := "arraycopy", desc := "(Ljava/lang/Object;ILjava/lang/Object;II)V", sig := { parameters := [(.object "java/lang/Object"), .int, (.object "java/lang/Object"), .int, .int], returnType := none }, accessFlags := 265, code := none }
/-- java/lang/System -/
def k14 : Class := { plain "java/lang/System" (some 0) with
  accessFlags := 49
  interfaces := #[]
  cf := some (fileOf pool14 8 #[.nestMembers #[319, 327, 801, 108, 663, 208]] #[{ accessFlags := 2, nameIndex := 5, descriptorIndex := 6, attributes := #[] }, { accessFlags := 265, nameIndex := 727, descriptorIndex := 728, attributes := #[] }] 49 2 #[] #[{ accessFlags := 25, nameIndex := 507, descriptorIndex := 526, attributes := #[] }, { accessFlags := 25, nameIndex := 399, descriptorIndex := 155, attributes := #[] }, { accessFlags := 25, nameIndex := 396, descriptorIndex := 155, attributes := #[] }, { accessFlags := 10, nameIndex := 525, descriptorIndex := 526, attributes := #[] }, { accessFlags := 26, nameIndex := 674, descriptorIndex := 12, attributes := #[] }, { accessFlags := 26, nameIndex := 677, descriptorIndex := 12, attributes := #[] }, { accessFlags := 10, nameIndex := 11, descriptorIndex := 12, attributes := #[] }, { accessFlags := 74, nameIndex := 175, descriptorIndex := 176, attributes := #[] }, { accessFlags := 10, nameIndex := 491, descriptorIndex := 222, attributes := #[] }, { accessFlags := 74, nameIndex := 29, descriptorIndex := 30, attributes := #[] }, { accessFlags := 74, nameIndex := 154, descriptorIndex := 155, attributes := #[] }, { accessFlags := 10, nameIndex := 217, descriptorIndex := 218, attributes := #[] }, { accessFlags := 10, nameIndex := 221, descriptorIndex := 222, attributes := #[] }, { accessFlags := 8, nameIndex := 562, descriptorIndex := 563, attributes := #[] }])
  fields := #[{ name := "in", type := (.object "java/io/InputStream"), accessFlags := 25, slot := 0, constantValue := 0 }, { name := "out", type := (.object "java/io/PrintStream"), accessFlags := 25, slot := 1, constantValue := 0 }, { name := "err", type := (.object "java/io/PrintStream"), accessFlags := 25, slot := 2, constantValue := 0 }, { name := "initialIn", type := (.object "java/io/InputStream"), accessFlags := 10, slot := 3, constantValue := 0 }, { name := "NEVER", type := .int, accessFlags := 26, slot := 4, constantValue := 0 }, { name := "MAYBE", type := .int, accessFlags := 26, slot := 5, constantValue := 0 }, { name := "allowSecurityManager", type := .int, accessFlags := 10, slot := 6, constantValue := 0 }, { name := "security", type := (.object "java/lang/SecurityManager"), accessFlags := 74, slot := 7, constantValue := 0 }, { name := "notSupportedJnuEncoding", type := (.object "java/lang/String"), accessFlags := 10, slot := 8, constantValue := 0 }, { name := "cons", type := (.object "java/io/Console"), accessFlags := 74, slot := 9, constantValue := 0 }, { name := "initialErrStream", type := (.object "java/io/PrintStream"), accessFlags := 74, slot := 10, constantValue := 0 }, { name := "props", type := (.object "java/util/Properties"), accessFlags := 10, slot := 11, constantValue := 0 }, { name := "lineSeparator", type := (.object "java/lang/String"), accessFlags := 10, slot := 12, constantValue := 0 }, { name := "bootLayer", type := (.object "java/lang/ModuleLayer"), accessFlags := 8, slot := 13, constantValue := 0 }]
  methods := #[k14m0, k14m1]
  instanceTypes := #[]
  staticTypes := #[(.object "java/io/InputStream"), (.object "java/io/PrintStream"), (.object "java/io/PrintStream"), (.object "java/io/InputStream"), .int, .int, .int, (.object "java/lang/SecurityManager"), (.object "java/lang/String"), (.object "java/io/Console"), (.object "java/io/PrintStream"), (.object "java/util/Properties"), (.object "java/lang/String"), (.object "java/lang/ModuleLayer")]
  resolved := Array.replicate 834 none
  statics := none }

def pool15 : Array CpInfo := pool [(2, .class_ 4), (1, u "java/lang/Object"), (0, u "<init>"), (0, u "()V"), (7, .class_ 16), (1, u "java/util/Arrays"), (57, .class_ 76), (1, u "java/util/Arrays$NaturalOrder"), (36, .class_ 115), (1, u "java/util/Arrays$LegacyMergeSort"), (1, u "Z"), (21, u "copyOfRange"), (10, .methodref 151 152), (0, .class_ 153), (0, .nameAndType 154 155), (0, u "java/lang/System"), (0, u "arraycopy"), (0, u "(Ljava/lang/Object;ILjava/lang/Object;II)V"), (148, .methodref 305 306), (0, .class_ 307), (0, .nameAndType 308 309), (0, u "java/lang/Math"), (0, u "min"), (0, u "(II)I"), (29, .methodref 14 340), (0, .nameAndType 341 342), (0, u "copyOfRangeByte"), (0, u "([BII)[B"), (0, .methodref 14 344), (0, .nameAndType 345 346), (0, u "checkLength"), (0, u "(II)V"), (28, .class_ 376), (0, u "java/util/Arrays$ArrayList"), (68, u "$assertionsDisabled"), (269, u "MIN_ARRAY_SORT_GRAN"), (0, u "I"), (2, u "INSERTIONSORT_THRESHOLD"), (255, .class_ 976), (0, u "java/util/Arrays$ArrayItr")] 52

def k15m0 : Method := { name := "<init>", desc := "()V", sig := { parameters := [], returnType := none }, accessFlags := 2, code := none }
def k15c1 : Code := { maxStack := 4, maxLocals := 2, code := jdk_65_method_131_code, exceptionTable := #[], attributes := #[] }
def k15m1 : Method := { name := "checkLength", desc := "(II)V", sig := { parameters := [.int, .int], returnType := none }, accessFlags := 10, code := some k15c1 }
def k15c2 : Code := { maxStack := 3, maxLocals := 3, code := jdk_65_method_132_code, exceptionTable := #[], attributes := #[] }
def k15m2 : Method := { name := "copyOfRange", desc := "([BII)[B", sig := { parameters := [(.array .byte), .int, .int], returnType := some (.array .byte) }, accessFlags := 9, code := some k15c2 }
def k15c3 : Code := { maxStack := 6, maxLocals := 5, code := jdk_65_method_133_code, exceptionTable := #[], attributes := #[] }
def k15m3 : Method := { name := "copyOfRangeByte", desc := "([BII)[B", sig := { parameters := [(.array .byte), .int, .int], returnType := some (.array .byte) }, accessFlags := 10, code := some k15c3 }
/-- java/util/Arrays -/
def k15 : Class := { plain "java/util/Arrays" (some 0) with
  accessFlags := 49
  interfaces := #[]
  cf := some (fileOf pool15 14 #[.nestMembers #[975, 375, 113, 74]] #[{ accessFlags := 2, nameIndex := 5, descriptorIndex := 6, attributes := #[] }, { accessFlags := 10, nameIndex := 345, descriptorIndex := 346, attributes := #[] }, { accessFlags := 9, nameIndex := 139, descriptorIndex := 342, attributes := #[] }, { accessFlags := 10, nameIndex := 341, descriptorIndex := 342, attributes := #[] }] 49 2 #[] #[{ accessFlags := 26, nameIndex := 715, descriptorIndex := 716, attributes := #[] }, { accessFlags := 26, nameIndex := 719, descriptorIndex := 716, attributes := #[] }, { accessFlags := 4120, nameIndex := 445, descriptorIndex := 117, attributes := #[] }])
  fields := #[{ name := "MIN_ARRAY_SORT_GRAN", type := .int, accessFlags := 26, slot := 0, constantValue := 0 }, { name := "INSERTIONSORT_THRESHOLD", type := .int, accessFlags := 26, slot := 1, constantValue := 0 }, { name := "$assertionsDisabled", type := .boolean, accessFlags := 4120, slot := 2, constantValue := 0 }]
  methods := #[k15m0, k15m1, k15m2, k15m3]
  instanceTypes := #[]
  staticTypes := #[.int, .int, .boolean]
  resolved := Array.replicate 1029 none
  statics := none }

def pool16 : Array CpInfo := pool [(1, .class_ 2), (0, u "java/lang/Math"), (1, .class_ 6), (1, u "java/lang/Object"), (0, u "<init>"), (0, u "()V"), (89, .class_ 100), (1, u "java/lang/Math$RandomNumberGeneratorHolder"), (71, u "negativeZeroFloatBits"), (0, u "J"), (2, u "negativeZeroDoubleBits"), (24, u "min"), (43, u "$assertionsDisabled"), (0, u "Z"), (88, u "(II)I"), (2, u "twoToTheDoubleScaleDown"), (0, u "D"), (4, u "twoToTheDoubleScaleUp"), (9, u "E"), (3, u "PI"), (2, u "TAU"), (2, u "DEGREES_TO_RADIANS"), (0, u "RADIANS_TO_DEGREES")] 94

def k16m0 : Method := { name := "<init>", desc := "()V", sig := { parameters := [], returnType := none }, accessFlags := 2, code := none }
def k16c1 : Code := { maxStack := 2, maxLocals := 2, code := jdk_29_method_69_code, exceptionTable := #[], attributes := #[] }
def k16m1 : Method := { name := "min", desc := "(II)I", sig := { parameters := [.int, .int], returnType := some .int }, accessFlags := 9, code := some k16c1 }
/-- java/lang/Math -/
def k16 : Class := { plain "java/lang/Math" (some 0) with
  accessFlags := 49
  interfaces := #[]
  cf := some (fileOf pool16 1 #[.nestMembers #[98]] #[{ accessFlags := 2, nameIndex := 7, descriptorIndex := 8, attributes := #[] }, { accessFlags := 9, nameIndex := 201, descriptorIndex := 335, attributes := #[] }] 49 4 #[] #[{ accessFlags := 25, nameIndex := 354, descriptorIndex := 339, attributes := #[] }, { accessFlags := 25, nameIndex := 358, descriptorIndex := 339, attributes := #[] }, { accessFlags := 25, nameIndex := 361, descriptorIndex := 339, attributes := #[] }, { accessFlags := 26, nameIndex := 364, descriptorIndex := 339, attributes := #[] }, { accessFlags := 26, nameIndex := 365, descriptorIndex := 339, attributes := #[] }, { accessFlags := 26, nameIndex := 172, descriptorIndex := 173, attributes := #[] }, { accessFlags := 26, nameIndex := 176, descriptorIndex := 173, attributes := #[] }, { accessFlags := 8, nameIndex := 344, descriptorIndex := 339, attributes := #[] }, { accessFlags := 8, nameIndex := 338, descriptorIndex := 339, attributes := #[] }, { accessFlags := 4120, nameIndex := 245, descriptorIndex := 246, attributes := #[] }])
  fields := #[{ name := "E", type := .double, accessFlags := 25, slot := 0, constantValue := 0 }, { name := "PI", type := .double, accessFlags := 25, slot := 1, constantValue := 0 }, { name := "TAU", type := .double, accessFlags := 25, slot := 2, constantValue := 0 }, { name := "DEGREES_TO_RADIANS", type := .double, accessFlags := 26, slot := 3, constantValue := 0 }, { name := "RADIANS_TO_DEGREES", type := .double, accessFlags := 26, slot := 4, constantValue := 0 }, { name := "negativeZeroFloatBits", type := .long, accessFlags := 26, slot := 5, constantValue := 0 }, { name := "negativeZeroDoubleBits", type := .long, accessFlags := 26, slot := 6, constantValue := 0 }, { name := "twoToTheDoubleScaleUp", type := .double, accessFlags := 8, slot := 7, constantValue := 0 }, { name := "twoToTheDoubleScaleDown", type := .double, accessFlags := 8, slot := 8, constantValue := 0 }, { name := "$assertionsDisabled", type := .boolean, accessFlags := 4120, slot := 9, constantValue := 0 }]
  methods := #[k16m0, k16m1]
  instanceTypes := #[]
  staticTypes := #[.double, .double, .double, .double, .double, .long, .long, .double, .double, .boolean]
  resolved := Array.replicate 460 none
  statics := none }

def pool17 : Array CpInfo := pool [(2, .class_ 4), (1, u "java/lang/Object"), (0, u "<init>"), (0, u "()V"), (17, .class_ 26), (1, u "jdk/internal/util/Preconditions"), (6, u "checkIndex"), (21, .class_ 56), (0, u "jdk/internal/util/Preconditions$4"), (57, .class_ 115), (0, u "jdk/internal/util/Preconditions$1"), (7, u "SIOOBE_FORMATTER"), (0, u "Ljava/util/function/BiFunction;"), (0, .class_ 126), (0, u "jdk/internal/util/Preconditions$2"), (3, u "AIOOBE_FORMATTER"), (0, .class_ 132), (0, u "jdk/internal/util/Preconditions$3"), (3, u "IOOBE_FORMATTER"), (41, u "(IILjava/util/function/BiFunction;)I")] 15

def k17m0 : Method := { name := "<init>", desc := "()V", sig := { parameters := [], returnType := none }, accessFlags := 1, code := none }
def k17c1 : Code := { maxStack := 3, maxLocals := 3, code := jdk_41_method_11_code, exceptionTable := #[], attributes := #[] }
def k17m1 : Method := { name := "checkIndex", desc := "(IILjava/util/function/BiFunction;)I", sig := { parameters := [.int, .int, (.object "java/util/function/BiFunction")], returnType := some .int }, accessFlags := 9, code := some k17c1 }
/-- jdk/internal/util/Preconditions -/
def k17 : Class := { plain "jdk/internal/util/Preconditions" (some 0) with
  accessFlags := 33
  interfaces := #[]
  cf := some (fileOf pool17 24 #[.nestMembers #[55, 131, 125, 114]] #[{ accessFlags := 1, nameIndex := 5, descriptorIndex := 6, attributes := #[] }, { accessFlags := 9, nameIndex := 33, descriptorIndex := 178, attributes := #[] }] 33 2 #[] #[{ accessFlags := 25, nameIndex := 123, descriptorIndex := 124, attributes := #[] }, { accessFlags := 25, nameIndex := 130, descriptorIndex := 124, attributes := #[] }, { accessFlags := 25, nameIndex := 136, descriptorIndex := 124, attributes := #[] }])
  fields := #[{ name := "SIOOBE_FORMATTER", type := (.object "java/util/function/BiFunction"), accessFlags := 25, slot := 0, constantValue := 0 }, { name := "AIOOBE_FORMATTER", type := (.object "java/util/function/BiFunction"), accessFlags := 25, slot := 1, constantValue := 0 }, { name := "IOOBE_FORMATTER", type := (.object "java/util/function/BiFunction"), accessFlags := 25, slot := 2, constantValue := 0 }]
  methods := #[k17m0, k17m1]
  instanceTypes := #[]
  staticTypes := #[(.object "java/util/function/BiFunction"), (.object "java/util/function/BiFunction"), (.object "java/util/function/BiFunction")]
  resolved := Array.replicate 194 none
  statics := some 1 }

def pool18 : Array CpInfo := pool [(6, .class_ 8), (1, u "java/lang/Object"), (0, u "<init>"), (0, u "()V"), (1, .class_ 14), (1, u "java/lang/StringUTF16"), (31, u "$assertionsDisabled"), (0, u "Z"), (13, u "HI_BYTE_SHIFT"), (0, u "I"), (2, u "LO_BYTE_SHIFT"), (49, .methodref 12 116), (0, .nameAndType 117 118), (0, u "compress"), (0, u "([CI[BII)I"), (3, u "([CII)[B"), (138, u "coderFromArrayLen"), (0, u "([BI)B"), (106, .class_ 371), (1, u "java/lang/StringUTF16$LinesSpliterator"), (58, u "MAX_LENGTH"), (196, .class_ 628), (0, u "java/lang/StringUTF16$CodePointsSpliterator"), (0, .class_ 630), (0, u "java/lang/StringUTF16$CharsSpliterator")] 4

def k18m0 : Method := { name := "<init>", desc := "()V", sig := { parameters := [], returnType := none }, accessFlags := 0, code := none }
def k18c1 : Code := { maxStack := 2, maxLocals := 2, code := jdk_52_method_15_code, exceptionTable := #[], attributes := #[] }
def k18m1 : Method := { name := "coderFromArrayLen", desc := "([BI)B", sig := { parameters := [(.array .byte), .int], returnType := some .byte }, accessFlags := 8, code := some k18c1 }
def k18c2 : Code := { maxStack := 5, maxLocals := 6, code := jdk_52_method_16_code, exceptionTable := #[], attributes := #[] }
def k18m2 : Method := { name := "compress", desc := "([CII)[B", sig := { parameters := [(.array .char), .int, .int], returnType := some (.array .byte) }, accessFlags := 9, code := some k18c2 }
def k18c3 : Code := { maxStack := 3, maxLocals := 7, code := jdk_52_method_21_code, exceptionTable := #[], attributes := #[] }
def k18m3 : Method := { name := "compress", desc := "([CI[BII)I", sig := { parameters := [(.array .char), .int, (.array .byte), .int, .int], returnType := some .int }, accessFlags := 9, code := some k18c3 }
/-- java/lang/StringUTF16 -/
def k18 : Class := { plain "java/lang/StringUTF16" (some 0) with
  accessFlags := 48
  interfaces := #[]
  cf := some (fileOf pool18 12 #[.nestMembers #[627, 629, 369]] #[{ accessFlags := 0, nameIndex := 9, descriptorIndex := 10, attributes := #[] }, { accessFlags := 8, nameIndex := 261, descriptorIndex := 262, attributes := #[] }, { accessFlags := 9, nameIndex := 117, descriptorIndex := 122, attributes := #[] }, { accessFlags := 9, nameIndex := 117, descriptorIndex := 118, attributes := #[] }] 48 6 #[] #[{ accessFlags := 26, nameIndex := 61, descriptorIndex := 62, attributes := #[] }, { accessFlags := 26, nameIndex := 65, descriptorIndex := 62, attributes := #[] }, { accessFlags := 24, nameIndex := 430, descriptorIndex := 62, attributes := #[] }, { accessFlags := 4120, nameIndex := 46, descriptorIndex := 47, attributes := #[] }])
  fields := #[{ name := "HI_BYTE_SHIFT", type := .int, accessFlags := 26, slot := 0, constantValue := 0 }, { name := "LO_BYTE_SHIFT", type := .int, accessFlags := 26, slot := 1, constantValue := 0 }, { name := "MAX_LENGTH", type := .int, accessFlags := 24, slot := 2, constantValue := 0 }, { name := "$assertionsDisabled", type := .boolean, accessFlags := 4120, slot := 3, constantValue := 0 }]
  methods := #[k18m0, k18m1, k18m2, k18m3]
  instanceTypes := #[]
  staticTypes := #[.int, .int, .int, .boolean]
  resolved := Array.replicate 635 none
  statics := none }

def pool19 : Array CpInfo := pool [(9, u "<init>"), (6, .class_ 18), (1, u "java/lang/Object"), (0, u "()V"), (1, .class_ 23), (1, u "jdk/internal/util/ArraysSupport"), (0, u "LOG2_ARRAY_LONG_INDEX_SCALE"), (0, u "I"), (2, u "U"), (0, u "Ljdk/internal/misc/Unsafe;"), (8, u "BIG_ENDIAN"), (0, u "Z"), (8, u "LOG2_BYTE_BIT_SIZE"), (4, u "LOG2_ARRAY_INT_INDEX_SCALE"), (54, u "JLA"), (0, u "Ljdk/internal/access/JavaLangAccess;"), (11, u "LOG2_ARRAY_BOOLEAN_INDEX_SCALE"), (9, u "LOG2_ARRAY_BYTE_INDEX_SCALE"), (5, u "LOG2_ARRAY_CHAR_INDEX_SCALE"), (5, u "LOG2_ARRAY_SHORT_INDEX_SCALE"), (18, u "LOG2_ARRAY_FLOAT_INDEX_SCALE"), (24, u "LOG2_ARRAY_DOUBLE_INDEX_SCALE"), (89, u "T_BOOLEAN"), (2, u "T_CHAR"), (1, u "T_FLOAT"), (1, u "T_DOUBLE"), (1, u "T_BYTE"), (1, u "T_SHORT"), (1, u "T_INT"), (1, u "T_LONG"), (1, u "SOFT_MAX_ARRAY_LENGTH")] 83

def k19m0 : Method := { name := "<init>", desc := "()V", sig := { parameters := [], returnType := none }, accessFlags := 2, code := none }
/-- jdk/internal/util/ArraysSupport -/
def k19 : Class := { plain "jdk/internal/util/ArraysSupport" (some 0) with
  accessFlags := 33
  interfaces := #[]
  cf := some (fileOf pool19 21 #[] #[{ accessFlags := 2, nameIndex := 9, descriptorIndex := 19, attributes := #[] }] 33 16 #[] #[{ accessFlags := 24, nameIndex := 28, descriptorIndex := 29, attributes := #[] }, { accessFlags := 26, nameIndex := 38, descriptorIndex := 39, attributes := #[] }, { accessFlags := 25, nameIndex := 121, descriptorIndex := 25, attributes := #[] }, { accessFlags := 25, nameIndex := 131, descriptorIndex := 25, attributes := #[] }, { accessFlags := 25, nameIndex := 137, descriptorIndex := 25, attributes := #[] }, { accessFlags := 25, nameIndex := 143, descriptorIndex := 25, attributes := #[] }, { accessFlags := 25, nameIndex := 53, descriptorIndex := 25, attributes := #[] }, { accessFlags := 25, nameIndex := 24, descriptorIndex := 25, attributes := #[] }, { accessFlags := 25, nameIndex := 162, descriptorIndex := 25, attributes := #[] }, { accessFlags := 25, nameIndex := 187, descriptorIndex := 25, attributes := #[] }, { accessFlags := 26, nameIndex := 48, descriptorIndex := 25, attributes := #[] }, { accessFlags := 25, nameIndex := 277, descriptorIndex := 25, attributes := #[] }, { accessFlags := 25, nameIndex := 280, descriptorIndex := 25, attributes := #[] }, { accessFlags := 25, nameIndex := 282, descriptorIndex := 25, attributes := #[] }, { accessFlags := 25, nameIndex := 284, descriptorIndex := 25, attributes := #[] }, { accessFlags := 25, nameIndex := 286, descriptorIndex := 25, attributes := #[] }, { accessFlags := 25, nameIndex := 288, descriptorIndex := 25, attributes := #[] }, { accessFlags := 25, nameIndex := 290, descriptorIndex := 25, attributes := #[] }, { accessFlags := 25, nameIndex := 292, descriptorIndex := 25, attributes := #[] }, { accessFlags := 26, nameIndex := 108, descriptorIndex := 109, attributes := #[] }, { accessFlags := 25, nameIndex := 294, descriptorIndex := 25, attributes := #[] }])
  fields := #[{ name := "U", type := (.object "jdk/internal/misc/Unsafe"), accessFlags := 24, slot := 0, constantValue := 0 }, { name := "BIG_ENDIAN", type := .boolean, accessFlags := 26, slot := 1, constantValue := 0 }, { name := "LOG2_ARRAY_BOOLEAN_INDEX_SCALE", type := .int, accessFlags := 25, slot := 2, constantValue := 0 }, { name := "LOG2_ARRAY_BYTE_INDEX_SCALE", type := .int, accessFlags := 25, slot := 3, constantValue := 0 }, { name := "LOG2_ARRAY_CHAR_INDEX_SCALE", type := .int, accessFlags := 25, slot := 4, constantValue := 0 }, { name := "LOG2_ARRAY_SHORT_INDEX_SCALE", type := .int, accessFlags := 25, slot := 5, constantValue := 0 }, { name := "LOG2_ARRAY_INT_INDEX_SCALE", type := .int, accessFlags := 25, slot := 6, constantValue := 0 }, { name := "LOG2_ARRAY_LONG_INDEX_SCALE", type := .int, accessFlags := 25, slot := 7, constantValue := 0 }, { name := "LOG2_ARRAY_FLOAT_INDEX_SCALE", type := .int, accessFlags := 25, slot := 8, constantValue := 0 }, { name := "LOG2_ARRAY_DOUBLE_INDEX_SCALE", type := .int, accessFlags := 25, slot := 9, constantValue := 0 }, { name := "LOG2_BYTE_BIT_SIZE", type := .int, accessFlags := 26, slot := 10, constantValue := 0 }, { name := "T_BOOLEAN", type := .int, accessFlags := 25, slot := 11, constantValue := 0 }, { name := "T_CHAR", type := .int, accessFlags := 25, slot := 12, constantValue := 0 }, { name := "T_FLOAT", type := .int, accessFlags := 25, slot := 13, constantValue := 0 }, { name := "T_DOUBLE", type := .int, accessFlags := 25, slot := 14, constantValue := 0 }, { name := "T_BYTE", type := .int, accessFlags := 25, slot := 15, constantValue := 0 }, { name := "T_SHORT", type := .int, accessFlags := 25, slot := 16, constantValue := 0 }, { name := "T_INT", type := .int, accessFlags := 25, slot := 17, constantValue := 0 }, { name := "T_LONG", type := .int, accessFlags := 25, slot := 18, constantValue := 0 }, { name := "JLA", type := (.object "jdk/internal/access/JavaLangAccess"), accessFlags := 26, slot := 19, constantValue := 0 }, { name := "SOFT_MAX_ARRAY_LENGTH", type := .int, accessFlags := 25, slot := 20, constantValue := 0 }]
  methods := #[k19m0]
  instanceTypes := #[]
  staticTypes := #[(.object "jdk/internal/misc/Unsafe"), .boolean, .int, .int, .int, .int, .int, .int, .int, .int, .int, .int, .int, .int, .int, .int, .int, .int, .int, (.object "jdk/internal/access/JavaLangAccess"), .int]
  resolved := Array.replicate 378 none
  statics := none }

def pool20 : Array CpInfo := pool [(1, u "java/lang/Cloneable"), (0, .class_ 1), (0, u "java/lang/Object"), (0, .class_ 3)] 3

/-- java/lang/Cloneable -/
def k20 : Class := { plain "java/lang/Cloneable" (some 0) with
  accessFlags := 1537
  interfaces := #[]
  cf := some (fileOf pool20 2 #[] #[] 1537 4 #[] #[])
  fields := #[]
  methods := #[]
  instanceTypes := #[]
  staticTypes := #[]
  resolved := Array.replicate 8 none
  statics := none }

/-- the primitive byte -/
def k21 : Class := { plain "byte" none with kind := .primitive 'B', accessFlags := 0x411 }
/-- [B -/
def k22 : Class := { plain "[B" (some 0) with kind := .array 21 .byte, interfaces := #[20, 2], accessFlags := 1041 }

/-- the primitive char -/
def k23 : Class := { plain "char" none with kind := .primitive 'C', accessFlags := 0x411 }
/-- [C -/
def k24 : Class := { plain "[C" (some 0) with kind := .array 23 .char, interfaces := #[20, 2], accessFlags := 1041 }

/-- the primitive int -/
def k25 : Class := { plain "int" none with kind := .primitive 'I', accessFlags := 0x411 }
/-- [I -/
def k26 : Class := { plain "[I" (some 0) with kind := .array 25 .int, interfaces := #[20, 2], accessFlags := 1041 }

def heap : Heap := #[{ cls := 7, slots := #[.long 0, .int 1, .null, .int 0, .null, .int 0, .int 0], vm := .statics 7 },
  { cls := 17, slots := #[.null, .null, .null], vm := .statics 17 }]
def classes : Array Class := #[k0, k1, k2, k3, k4, k5, k6, k7, k8, k9, k10, k11, k12, k13, k14, k15, k16, k17, k18, k19, k20, k21, k22, k23, k24, k25, k26]
def interned : List (Array UInt16 × Addr) := []
def slotsUsed : Nat := 10
def theMethod : MethodId := ⟨1, 4⟩
def args0 : Array Value := #[.int 5, .int 6, .int 7, .long 8, .long 9]
def aboutOver (below : List Frame) : State where
  vm := { classes := classes, interned := interned.toArray }
  heap := heap
  slotsUsed := slotsUsed
  threads := #[{ frames := .invoking theMethod args0 :: below }]
def below0 : List Frame := [.native { method := ⟨0, 0⟩, args := #[] }]
def about1 : State := aboutOver below0
def p0 : Program := .bare "" "" ""
def e0 : Env := launch0.env 0 0 0
theorem w_frames : about1.frames = Frame.invoking theMethod args0 :: below0 := rfl
set_option maxRecDepth 65536 in
theorem w_args : argsFit about1.vm theMethod args0 = true := by decide +kernel
set_option maxRecDepth 65536 in
theorem w_heap : heapFits about1 = true := by decide +kernel
set_option maxRecDepth 65536 in
theorem w_runnable : about1.curStatus? = some .runnable := by decide +kernel
set_option maxRecDepth 65536 in
theorem w_alone : about1.alone = true := by decide +kernel
set_option maxRecDepth 65536 in
theorem w_named : about1.methodNamed? x = some theMethod := by decide +kernel
set_option maxRecDepth 65536 in
theorem w_hears : about1.hears theMethod below0 = true := by decide +kernel
set_option maxRecDepth 65536 in
theorem w_ripe : about1.ripe theMethod args0 below0 = true := by decide +kernel
theorem w_running : about1.status = .running := rfl
set_option maxRecDepth 65536 in
theorem w_room : about1.hasRoom e0.platform room_1 = true :=
  launch0.hasRoom_least _ room_1 (by decide +kernel) (by decide +kernel) (by decide +kernel) (by decide +kernel) (by decide +kernel) (by decide +kernel)
theorem allAtoms_all (ts : List Jvm.Cond) (a : Array Jvm.Value) (st : Jvm.State) : (allAtoms ts).before a st = ts.all (fun c => c.before a st) := by
  induction ts with
  | nil => rfl
  | cons c t ih =>
    show (Jvm.Cond.and c (allAtoms t)).before a st = _
    rw [Jvm.Cond.before_and, ih, List.all_cons]
def words1 : List Jvm.Cond := Jvm.Cond.code x code maxLocals ret :: tables_1
/-- a 'code' word, met by the world's own term for the bytes: nothing is compared byte by byte -/
theorem code_word {y : MethodName} {bytes : ByteArray} {mx : Nat} {rt : Option FieldType} {a : Array Value} {s : State} {m : MethodId} {meth : Method} {c : Code} (h1 : s.methodNamed? y = some m) (h2 : s.vm.method? m = some meth) (h3 : meth.code = some c) (h4 : c.code = bytes)
    (h5 : (c.maxLocals == mx && c.exceptionTable.isEmpty && decide (c.maxStack ≤ mostOperands) && decide (meth.sig.returnType = rt) && !meth.locks && decide (parseMethodDescriptor y.desc = some meth.sig)) = true) : (Jvm.Cond.code y bytes mx rt).before a s = true := by
  simp only [Bool.and_eq_true, beq_iff_eq, Bool.not_eq_true', decide_eq_true_eq] at h5
  obtain ⟨⟨⟨⟨⟨g1, g2⟩, g3⟩, g4⟩, g5⟩, g6⟩ := h5
  simp [Cond.before, Cond.holds, Cond.value, h1, h2, h3, h4, g1, g2, g3, g4, g5, g6]
def isCode : Jvm.Cond → Bool
  | .code _ _ _ _ => true
  | _ => false
theorem all_split {L : List Jvm.Cond} {P : Jvm.Cond → Bool} (h1 : L.all (fun c => isCode c || P c) = true) (h2 : ∀ c ∈ L.filter isCode, P c = true) : L.all P = true := by
  refine List.all_eq_true.mpr fun c hc => ?_
  have h := List.all_eq_true.mp h1 c hc
  rcases Bool.eq_false_or_eq_true (isCode c) with hi | hi
  · exact h2 c (List.mem_filter.mpr ⟨hc, hi⟩)
  · simpa [hi] using h
set_option maxRecDepth 65536 in
theorem w_c0 : (Jvm.Cond.code x code maxLocals ret).before args0 about1 = true := code_word (m := ⟨1, 4⟩) (meth := k1m4) (c := k1c4) (by decide +kernel) rfl rfl rfl (by decide +kernel)
set_option maxRecDepth 65536 in
theorem w_c1 : (Jvm.Cond.code ({ cls := "com/example/mulock/mulock/zookeeper/ContenderPathPinLaw", name := "str", desc := "(I)Ljava/lang/String;" } : Jvm.MethodName) method_2_code (5 : Nat) (Option.some (Jvm.ClassFile.FieldType.object "java/lang/String"))).before args0 about1 = true := code_word (m := ⟨1, 1⟩) (meth := k1m1) (c := k1c1) (by decide +kernel) rfl rfl rfl (by decide +kernel)
set_option maxRecDepth 65536 in
theorem w_c2 : (Jvm.Cond.code ({ cls := "java/lang/String", name := "<init>", desc := "([C)V" } : Jvm.MethodName) jdk_42_method_3_code (2 : Nat) (Option.none : Option Jvm.ClassFile.FieldType)).before args0 about1 = true := code_word (m := ⟨7, 1⟩) (meth := k7m1) (c := k7c1) (by decide +kernel) rfl rfl rfl (by decide +kernel)
set_option maxRecDepth 65536 in
theorem w_c3 : (Jvm.Cond.code ({ cls := "java/lang/String", name := "<init>", desc := "([CIILjava/lang/Void;)V" } : Jvm.MethodName) jdk_42_method_149_code (6 : Nat) (Option.none : Option Jvm.ClassFile.FieldType)).before args0 about1 = true := code_word (m := ⟨7, 7⟩) (meth := k7m7) (c := k7c7) (by decide +kernel) rfl rfl rfl (by decide +kernel)
set_option maxRecDepth 65536 in
theorem w_c4 : (Jvm.Cond.code ({ cls := "java/lang/Object", name := "<init>", desc := "()V" } : Jvm.MethodName) object_method_1_code (1 : Nat) (Option.none : Option Jvm.ClassFile.FieldType)).before args0 about1 = true := code_word (m := ⟨0, 0⟩) (meth := k0m0) (c := k0c0) (by decide +kernel) rfl rfl rfl (by decide +kernel)
set_option maxRecDepth 65536 in
theorem w_c5 : (Jvm.Cond.code ({ cls := "java/lang/String", name := "valueOf", desc := "(C)Ljava/lang/String;" } : Jvm.MethodName) jdk_42_method_139_code (1 : Nat) (Option.some (Jvm.ClassFile.FieldType.object "java/lang/String"))).before args0 about1 = true := code_word (m := ⟨7, 5⟩) (meth := k7m5) (c := k7c5) (by decide +kernel) rfl rfl rfl (by decide +kernel)
set_option maxRecDepth 65536 in
theorem w_c6 : (Jvm.Cond.code ({ cls := "java/lang/StringLatin1", name := "canEncode", desc := "(C)Z" } : Jvm.MethodName) jdk_43_method_3_code (1 : Nat) (Option.some Jvm.ClassFile.FieldType.boolean)).before args0 about1 = true := code_word (m := ⟨8, 2⟩) (meth := k8m2) (c := k8c2) (by decide +kernel) rfl rfl rfl (by decide +kernel)
set_option maxRecDepth 65536 in
theorem w_c7 : (Jvm.Cond.code ({ cls := "java/lang/StringLatin1", name := "toBytes", desc := "(C)[B" } : Jvm.MethodName) jdk_43_method_46_code (1 : Nat) (Option.some (Jvm.ClassFile.FieldType.array Jvm.ClassFile.FieldType.byte))).before args0 about1 = true := code_word (m := ⟨8, 3⟩) (meth := k8m3) (c := k8c3) (by decide +kernel) rfl rfl rfl (by decide +kernel)
set_option maxRecDepth 65536 in
theorem w_c8 : (Jvm.Cond.code ({ cls := "java/lang/String", name := "<init>", desc := "([BB)V" } : Jvm.MethodName) jdk_42_method_151_code (3 : Nat) (Option.none : Option Jvm.ClassFile.FieldType)).before args0 about1 = true := code_word (m := ⟨7, 9⟩) (meth := k7m9) (c := k7c9) (by decide +kernel) rfl rfl rfl (by decide +kernel)
set_option maxRecDepth 65536 in
theorem w_c9 : (Jvm.Cond.code ({ cls := "com/example/mulock/mulock/zookeeper/Contender", name := "<init>", desc := "(Ljava/lang/String;Ljava/lang/String;Ljava/lang/String;JJ)V" } : Jvm.MethodName) prog_22_method_1_code (8 : Nat) (Option.none : Option Jvm.ClassFile.FieldType)).before args0 about1 = true := code_word (m := ⟨10, 0⟩) (meth := k10m0) (c := k10c0) (by decide +kernel) rfl rfl rfl (by decide +kernel)
set_option maxRecDepth 65536 in
theorem w_c10 : (Jvm.Cond.code ({ cls := "java/lang/Record", name := "<init>", desc := "()V" } : Jvm.MethodName) jdk_30_method_1_code (1 : Nat) (Option.none : Option Jvm.ClassFile.FieldType)).before args0 about1 = true := code_word (m := ⟨9, 0⟩) (meth := k9m0) (c := k9c0) (by decide +kernel) rfl rfl rfl (by decide +kernel)
set_option maxRecDepth 65536 in
theorem w_c11 : (Jvm.Cond.code ({ cls := "com/example/mulock/mulock/zookeeper/Contender", name := "path", desc := "()Ljava/lang/String;" } : Jvm.MethodName) prog_22_method_4_code (1 : Nat) (Option.some (Jvm.ClassFile.FieldType.object "java/lang/String"))).before args0 about1 = true := code_word (m := ⟨10, 1⟩) (meth := k10m1) (c := k10c1) (by decide +kernel) rfl rfl rfl (by decide +kernel)
set_option maxRecDepth 65536 in
theorem w_c12 : (Jvm.Cond.code ({ cls := "java/lang/StringBuilder", name := "<init>", desc := "()V" } : Jvm.MethodName) jdk_67_method_1_code (1 : Nat) (Option.none : Option Jvm.ClassFile.FieldType)).before args0 about1 = true := code_word (m := ⟨13, 0⟩) (meth := k13m0) (c := k13c0) (by decide +kernel) rfl rfl rfl (by decide +kernel)
set_option maxRecDepth 65536 in
theorem w_c13 : (Jvm.Cond.code ({ cls := "java/lang/AbstractStringBuilder", name := "<init>", desc := "(I)V" } : Jvm.MethodName) jdk_68_method_2_code (2 : Nat) (Option.none : Option Jvm.ClassFile.FieldType)).before args0 about1 = true := code_word (m := ⟨12, 1⟩) (meth := k12m1) (c := k12c1) (by decide +kernel) rfl rfl rfl (by decide +kernel)
set_option maxRecDepth 65536 in
theorem w_c14 : (Jvm.Cond.code ({ cls := "java/lang/StringBuilder", name := "append", desc := "(Ljava/lang/String;)Ljava/lang/StringBuilder;" } : Jvm.MethodName) jdk_67_method_7_code (2 : Nat) (Option.some (Jvm.ClassFile.FieldType.object "java/lang/StringBuilder"))).before args0 about1 = true := code_word (m := ⟨13, 1⟩) (meth := k13m1) (c := k13c1) (by decide +kernel) rfl rfl rfl (by decide +kernel)
set_option maxRecDepth 65536 in
theorem w_c15 : (Jvm.Cond.code ({ cls := "java/lang/AbstractStringBuilder", name := "append", desc := "(Ljava/lang/String;)Ljava/lang/AbstractStringBuilder;" } : Jvm.MethodName) jdk_68_method_22_code (3 : Nat) (Option.some (Jvm.ClassFile.FieldType.object "java/lang/AbstractStringBuilder"))).before args0 about1 = true := code_word (m := ⟨12, 4⟩) (meth := k12m4) (c := k12c4) (by decide +kernel) rfl rfl rfl (by decide +kernel)
set_option maxRecDepth 65536 in
theorem w_c16 : (Jvm.Cond.code ({ cls := "java/lang/String", name := "length", desc := "()I" } : Jvm.MethodName) jdk_42_method_54_code (1 : Nat) (Option.some Jvm.ClassFile.FieldType.int)).before args0 about1 = true := code_word (m := ⟨7, 3⟩) (meth := k7m3) (c := k7c3) (by decide +kernel) rfl rfl rfl (by decide +kernel)
set_option maxRecDepth 65536 in
theorem w_c17 : (Jvm.Cond.code ({ cls := "java/lang/String", name := "coder", desc := "()B" } : Jvm.MethodName) jdk_42_method_152_code (1 : Nat) (Option.some Jvm.ClassFile.FieldType.byte)).before args0 about1 = true := code_word (m := ⟨7, 10⟩) (meth := k7m10) (c := k7c10) (by decide +kernel) rfl rfl rfl (by decide +kernel)
set_option maxRecDepth 65536 in
theorem w_c18 : (Jvm.Cond.code ({ cls := "java/lang/AbstractStringBuilder", name := "ensureCapacityInternal", desc := "(I)V" } : Jvm.MethodName) jdk_68_method_9_code (3 : Nat) (Option.none : Option Jvm.ClassFile.FieldType)).before args0 about1 = true := code_word (m := ⟨12, 3⟩) (meth := k12m3) (c := k12c3) (by decide +kernel) rfl rfl rfl (by decide +kernel)
set_option maxRecDepth 65536 in
theorem w_c19 : (Jvm.Cond.code ({ cls := "java/lang/AbstractStringBuilder", name := "putStringAt", desc := "(ILjava/lang/String;)V" } : Jvm.MethodName) jdk_68_method_73_code (3 : Nat) (Option.none : Option Jvm.ClassFile.FieldType)).before args0 about1 = true := code_word (m := ⟨12, 8⟩) (meth := k12m8) (c := k12c8) (by decide +kernel) rfl rfl rfl (by decide +kernel)
set_option maxRecDepth 65536 in
theorem w_c20 : (Jvm.Cond.code ({ cls := "java/lang/AbstractStringBuilder", name := "inflateIfNeededFor", desc := "(Ljava/lang/String;)V" } : Jvm.MethodName) jdk_68_method_71_code (2 : Nat) (Option.none : Option Jvm.ClassFile.FieldType)).before args0 about1 = true := code_word (m := ⟨12, 7⟩) (meth := k12m7) (c := k12c7) (by decide +kernel) rfl rfl rfl (by decide +kernel)
set_option maxRecDepth 65536 in
theorem w_c21 : (Jvm.Cond.code ({ cls := "java/lang/String", name := "getBytes", desc := "([BIB)V" } : Jvm.MethodName) jdk_42_method_147_code (4 : Nat) (Option.none : Option Jvm.ClassFile.FieldType)).before args0 about1 = true := code_word (m := ⟨7, 6⟩) (meth := k7m6) (c := k7c6) (by decide +kernel) rfl rfl rfl (by decide +kernel)
set_option maxRecDepth 65536 in
theorem w_c22 : (Jvm.Cond.code ({ cls := "java/lang/StringBuilder", name := "toString", desc := "()Ljava/lang/String;" } : Jvm.MethodName) jdk_67_method_42_code (1 : Nat) (Option.some (Jvm.ClassFile.FieldType.object "java/lang/String"))).before args0 about1 = true := code_word (m := ⟨13, 2⟩) (meth := k13m2) (c := k13c2) (by decide +kernel) rfl rfl rfl (by decide +kernel)
set_option maxRecDepth 65536 in
theorem w_c23 : (Jvm.Cond.code ({ cls := "java/lang/String", name := "<init>", desc := "(Ljava/lang/StringBuilder;)V" } : Jvm.MethodName) jdk_42_method_53_code (2 : Nat) (Option.none : Option Jvm.ClassFile.FieldType)).before args0 about1 = true := code_word (m := ⟨7, 2⟩) (meth := k7m2) (c := k7c2) (by decide +kernel) rfl rfl rfl (by decide +kernel)
set_option maxRecDepth 65536 in
theorem w_c24 : (Jvm.Cond.code ({ cls := "java/lang/String", name := "<init>", desc := "(Ljava/lang/AbstractStringBuilder;Ljava/lang/Void;)V" } : Jvm.MethodName) jdk_42_method_150_code (5 : Nat) (Option.none : Option Jvm.ClassFile.FieldType)).before args0 about1 = true := code_word (m := ⟨7, 8⟩) (meth := k7m8) (c := k7c8) (by decide +kernel) rfl rfl rfl (by decide +kernel)
set_option maxRecDepth 65536 in
theorem w_c25 : (Jvm.Cond.code ({ cls := "java/lang/AbstractStringBuilder", name := "getValue", desc := "()[B" } : Jvm.MethodName) jdk_68_method_64_code (1 : Nat) (Option.some (Jvm.ClassFile.FieldType.array Jvm.ClassFile.FieldType.byte))).before args0 about1 = true := code_word (m := ⟨12, 5⟩) (meth := k12m5) (c := k12c5) (by decide +kernel) rfl rfl rfl (by decide +kernel)
set_option maxRecDepth 65536 in
theorem w_c26 : (Jvm.Cond.code ({ cls := "java/lang/StringBuilder", name := "length", desc := "()I" } : Jvm.MethodName) jdk_67_method_93_code (1 : Nat) (Option.some Jvm.ClassFile.FieldType.int)).before args0 about1 = true := code_word (m := ⟨13, 3⟩) (meth := k13m3) (c := k13c3) (by decide +kernel) rfl rfl rfl (by decide +kernel)
set_option maxRecDepth 65536 in
theorem w_c27 : (Jvm.Cond.code ({ cls := "java/lang/AbstractStringBuilder", name := "length", desc := "()I" } : Jvm.MethodName) jdk_68_method_6_code (1 : Nat) (Option.some Jvm.ClassFile.FieldType.int)).before args0 about1 = true := code_word (m := ⟨12, 2⟩) (meth := k12m2) (c := k12c2) (by decide +kernel) rfl rfl rfl (by decide +kernel)
set_option maxRecDepth 65536 in
theorem w_c28 : (Jvm.Cond.code ({ cls := "java/lang/AbstractStringBuilder", name := "isLatin1", desc := "()Z" } : Jvm.MethodName) jdk_68_method_68_code (1 : Nat) (Option.some Jvm.ClassFile.FieldType.boolean)).before args0 about1 = true := code_word (m := ⟨12, 6⟩) (meth := k12m6) (c := k12c6) (by decide +kernel) rfl rfl rfl (by decide +kernel)
set_option maxRecDepth 65536 in
theorem w_c29 : (Jvm.Cond.code ({ cls := "java/util/Arrays", name := "copyOfRange", desc := "([BII)[B" } : Jvm.MethodName) jdk_65_method_132_code (3 : Nat) (Option.some (Jvm.ClassFile.FieldType.array Jvm.ClassFile.FieldType.byte))).before args0 about1 = true := code_word (m := ⟨15, 2⟩) (meth := k15m2) (c := k15c2) (by decide +kernel) rfl rfl rfl (by decide +kernel)
set_option maxRecDepth 65536 in
theorem w_c30 : (Jvm.Cond.code ({ cls := "java/util/Arrays", name := "copyOfRangeByte", desc := "([BII)[B" } : Jvm.MethodName) jdk_65_method_133_code (5 : Nat) (Option.some (Jvm.ClassFile.FieldType.array Jvm.ClassFile.FieldType.byte))).before args0 about1 = true := code_word (m := ⟨15, 3⟩) (meth := k15m3) (c := k15c3) (by decide +kernel) rfl rfl rfl (by decide +kernel)
set_option maxRecDepth 65536 in
theorem w_c31 : (Jvm.Cond.code ({ cls := "java/util/Arrays", name := "checkLength", desc := "(II)V" } : Jvm.MethodName) jdk_65_method_131_code (2 : Nat) (Option.none : Option Jvm.ClassFile.FieldType)).before args0 about1 = true := code_word (m := ⟨15, 1⟩) (meth := k15m1) (c := k15c1) (by decide +kernel) rfl rfl rfl (by decide +kernel)
set_option maxRecDepth 65536 in
theorem w_c32 : (Jvm.Cond.code ({ cls := "java/lang/Math", name := "min", desc := "(II)I" } : Jvm.MethodName) jdk_29_method_69_code (2 : Nat) (Option.some Jvm.ClassFile.FieldType.int)).before args0 about1 = true := code_word (m := ⟨16, 1⟩) (meth := k16m1) (c := k16c1) (by decide +kernel) rfl rfl rfl (by decide +kernel)
set_option maxRecDepth 65536 in
theorem w_c33 : (Jvm.Cond.code ({ cls := "com/example/mulock/mulock/zookeeper/ContenderPathPinLaw", name := "at", desc := "(Ljava/lang/String;Ljava/lang/String;Ljava/lang/String;I)Z" } : Jvm.MethodName) method_4_code (4 : Nat) (Option.some Jvm.ClassFile.FieldType.boolean)).before args0 about1 = true := code_word (m := ⟨1, 3⟩) (meth := k1m3) (c := k1c3) (by decide +kernel) rfl rfl rfl (by decide +kernel)
set_option maxRecDepth 65536 in
theorem w_c34 : (Jvm.Cond.code ({ cls := "java/lang/String", name := "charAt", desc := "(I)C" } : Jvm.MethodName) jdk_42_method_56_code (2 : Nat) (Option.some Jvm.ClassFile.FieldType.char)).before args0 about1 = true := code_word (m := ⟨7, 4⟩) (meth := k7m4) (c := k7c4) (by decide +kernel) rfl rfl rfl (by decide +kernel)
set_option maxRecDepth 65536 in
theorem w_c35 : (Jvm.Cond.code ({ cls := "java/lang/String", name := "isLatin1", desc := "()Z" } : Jvm.MethodName) jdk_42_method_154_code (1 : Nat) (Option.some Jvm.ClassFile.FieldType.boolean)).before args0 about1 = true := code_word (m := ⟨7, 11⟩) (meth := k7m11) (c := k7c11) (by decide +kernel) rfl rfl rfl (by decide +kernel)
set_option maxRecDepth 65536 in
theorem w_c36 : (Jvm.Cond.code ({ cls := "java/lang/StringLatin1", name := "charAt", desc := "([BI)C" } : Jvm.MethodName) jdk_43_method_2_code (2 : Nat) (Option.some Jvm.ClassFile.FieldType.char)).before args0 about1 = true := code_word (m := ⟨8, 1⟩) (meth := k8m1) (c := k8c1) (by decide +kernel) rfl rfl rfl (by decide +kernel)
set_option maxRecDepth 65536 in
theorem w_c37 : (Jvm.Cond.code ({ cls := "java/lang/String", name := "checkIndex", desc := "(II)V" } : Jvm.MethodName) jdk_42_method_155_code (2 : Nat) (Option.none : Option Jvm.ClassFile.FieldType)).before args0 about1 = true := code_word (m := ⟨7, 12⟩) (meth := k7m12) (c := k7c12) (by decide +kernel) rfl rfl rfl (by decide +kernel)
set_option maxRecDepth 65536 in
theorem w_c38 : (Jvm.Cond.code ({ cls := "jdk/internal/util/Preconditions", name := "checkIndex", desc := "(IILjava/util/function/BiFunction;)I" } : Jvm.MethodName) jdk_41_method_11_code (3 : Nat) (Option.some Jvm.ClassFile.FieldType.int)).before args0 about1 = true := code_word (m := ⟨17, 1⟩) (meth := k17m1) (c := k17c1) (by decide +kernel) rfl rfl rfl (by decide +kernel)
set_option maxRecDepth 65536 in
theorem w_c39 : (Jvm.Cond.code ({ cls := "com/example/mulock/mulock/zookeeper/ContenderPathPinLaw", name := "expAt", desc := "(Ljava/lang/String;Ljava/lang/String;I)I" } : Jvm.MethodName) method_3_code (4 : Nat) (Option.some Jvm.ClassFile.FieldType.int)).before args0 about1 = true := code_word (m := ⟨1, 2⟩) (meth := k1m2) (c := k1c2) (by decide +kernel) rfl rfl rfl (by decide +kernel)
set_option maxRecDepth 65536 in
theorem w_c40 : (Jvm.Cond.code ({ cls := "java/lang/StringUTF16", name := "compress", desc := "([CII)[B" } : Jvm.MethodName) jdk_52_method_16_code (6 : Nat) (Option.some (Jvm.ClassFile.FieldType.array Jvm.ClassFile.FieldType.byte))).before args0 about1 = true := code_word (m := ⟨18, 2⟩) (meth := k18m2) (c := k18c2) (by decide +kernel) rfl rfl rfl (by decide +kernel)
set_option maxRecDepth 65536 in
theorem w_c41 : (Jvm.Cond.code ({ cls := "java/lang/StringUTF16", name := "compress", desc := "([CI[BII)I" } : Jvm.MethodName) jdk_52_method_21_code (7 : Nat) (Option.some Jvm.ClassFile.FieldType.int)).before args0 about1 = true := code_word (m := ⟨18, 3⟩) (meth := k18m3) (c := k18c3) (by decide +kernel) rfl rfl rfl (by decide +kernel)
set_option maxRecDepth 65536 in
theorem w_c42 : (Jvm.Cond.code ({ cls := "java/lang/StringUTF16", name := "coderFromArrayLen", desc := "([BI)B" } : Jvm.MethodName) jdk_52_method_15_code (2 : Nat) (Option.some Jvm.ClassFile.FieldType.byte)).before args0 about1 = true := code_word (m := ⟨18, 1⟩) (meth := k18m1) (c := k18c1) (by decide +kernel) rfl rfl rfl (by decide +kernel)
def codes1 : List Jvm.Cond := [Jvm.Cond.code x code maxLocals ret, Jvm.Cond.code ({ cls := "com/example/mulock/mulock/zookeeper/ContenderPathPinLaw", name := "str", desc := "(I)Ljava/lang/String;" } : Jvm.MethodName) method_2_code (5 : Nat) (Option.some (Jvm.ClassFile.FieldType.object "java/lang/String")), Jvm.Cond.code ({ cls := "java/lang/String", name := "<init>", desc := "([C)V" } : Jvm.MethodName) jdk_42_method_3_code (2 : Nat) (Option.none : Option Jvm.ClassFile.FieldType), Jvm.Cond.code ({ cls := "java/lang/String", name := "<init>", desc := "([CIILjava/lang/Void;)V" } : Jvm.MethodName) jdk_42_method_149_code (6 : Nat) (Option.none : Option Jvm.ClassFile.FieldType), Jvm.Cond.code ({ cls := "java/lang/Object", name := "<init>", desc := "()V" } : Jvm.MethodName) object_method_1_code (1 : Nat) (Option.none : Option Jvm.ClassFile.FieldType), Jvm.Cond.code ({ cls := "java/lang/String", name := "valueOf", desc := "(C)Ljava/lang/String;" } : Jvm.MethodName) jdk_42_method_139_code (1 : Nat) (Option.some (Jvm.ClassFile.FieldType.object "java/lang/String")), Jvm.Cond.code ({ cls := "java/lang/StringLatin1", name := "canEncode", desc := "(C)Z" } : Jvm.MethodName) jdk_43_method_3_code (1 : Nat) (Option.some Jvm.ClassFile.FieldType.boolean), Jvm.Cond.code ({ cls := "java/lang/StringLatin1", name := "toBytes", desc := "(C)[B" } : Jvm.MethodName) jdk_43_method_46_code (1 : Nat) (Option.some (Jvm.ClassFile.FieldType.array Jvm.ClassFile.FieldType.byte)), Jvm.Cond.code ({ cls := "java/lang/String", name := "<init>", desc := "([BB)V" } : Jvm.MethodName) jdk_42_method_151_code (3 : Nat) (Option.none : Option Jvm.ClassFile.FieldType), Jvm.Cond.code ({ cls := "com/example/mulock/mulock/zookeeper/Contender", name := "<init>", desc := "(Ljava/lang/String;Ljava/lang/String;Ljava/lang/String;JJ)V" } : Jvm.MethodName) prog_22_method_1_code (8 : Nat) (Option.none : Option Jvm.ClassFile.FieldType), Jvm.Cond.code ({ cls := "java/lang/Record", name := "<init>", desc := "()V" } : Jvm.MethodName) jdk_30_method_1_code (1 : Nat) (Option.none : Option Jvm.ClassFile.FieldType), Jvm.Cond.code ({ cls := "com/example/mulock/mulock/zookeeper/Contender", name := "path", desc := "()Ljava/lang/String;" } : Jvm.MethodName) prog_22_method_4_code (1 : Nat) (Option.some (Jvm.ClassFile.FieldType.object "java/lang/String")), Jvm.Cond.code ({ cls := "java/lang/StringBuilder", name := "<init>", desc := "()V" } : Jvm.MethodName) jdk_67_method_1_code (1 : Nat) (Option.none : Option Jvm.ClassFile.FieldType), Jvm.Cond.code ({ cls := "java/lang/AbstractStringBuilder", name := "<init>", desc := "(I)V" } : Jvm.MethodName) jdk_68_method_2_code (2 : Nat) (Option.none : Option Jvm.ClassFile.FieldType), Jvm.Cond.code ({ cls := "java/lang/StringBuilder", name := "append", desc := "(Ljava/lang/String;)Ljava/lang/StringBuilder;" } : Jvm.MethodName) jdk_67_method_7_code (2 : Nat) (Option.some (Jvm.ClassFile.FieldType.object "java/lang/StringBuilder")), Jvm.Cond.code ({ cls := "java/lang/AbstractStringBuilder", name := "append", desc := "(Ljava/lang/String;)Ljava/lang/AbstractStringBuilder;" } : Jvm.MethodName) jdk_68_method_22_code (3 : Nat) (Option.some (Jvm.ClassFile.FieldType.object "java/lang/AbstractStringBuilder")), Jvm.Cond.code ({ cls := "java/lang/String", name := "length", desc := "()I" } : Jvm.MethodName) jdk_42_method_54_code (1 : Nat) (Option.some Jvm.ClassFile.FieldType.int), Jvm.Cond.code ({ cls := "java/lang/String", name := "coder", desc := "()B" } : Jvm.MethodName) jdk_42_method_152_code (1 : Nat) (Option.some Jvm.ClassFile.FieldType.byte), Jvm.Cond.code ({ cls := "java/lang/AbstractStringBuilder", name := "ensureCapacityInternal", desc := "(I)V" } : Jvm.MethodName) jdk_68_method_9_code (3 : Nat) (Option.none : Option Jvm.ClassFile.FieldType), Jvm.Cond.code ({ cls := "java/lang/AbstractStringBuilder", name := "putStringAt", desc := "(ILjava/lang/String;)V" } : Jvm.MethodName) jdk_68_method_73_code (3 : Nat) (Option.none : Option Jvm.ClassFile.FieldType), Jvm.Cond.code ({ cls := "java/lang/AbstractStringBuilder", name := "inflateIfNeededFor", desc := "(Ljava/lang/String;)V" } : Jvm.MethodName) jdk_68_method_71_code (2 : Nat) (Option.none : Option Jvm.ClassFile.FieldType), Jvm.Cond.code ({ cls := "java/lang/String", name := "getBytes", desc := "([BIB)V" } : Jvm.MethodName) jdk_42_method_147_code (4 : Nat) (Option.none : Option Jvm.ClassFile.FieldType), Jvm.Cond.code ({ cls := "java/lang/StringBuilder", name := "toString", desc := "()Ljava/lang/String;" } : Jvm.MethodName) jdk_67_method_42_code (1 : Nat) (Option.some (Jvm.ClassFile.FieldType.object "java/lang/String")), Jvm.Cond.code ({ cls := "java/lang/String", name := "<init>", desc := "(Ljava/lang/StringBuilder;)V" } : Jvm.MethodName) jdk_42_method_53_code (2 : Nat) (Option.none : Option Jvm.ClassFile.FieldType), Jvm.Cond.code ({ cls := "java/lang/String", name := "<init>", desc := "(Ljava/lang/AbstractStringBuilder;Ljava/lang/Void;)V" } : Jvm.MethodName) jdk_42_method_150_code (5 : Nat) (Option.none : Option Jvm.ClassFile.FieldType), Jvm.Cond.code ({ cls := "java/lang/AbstractStringBuilder", name := "getValue", desc := "()[B" } : Jvm.MethodName) jdk_68_method_64_code (1 : Nat) (Option.some (Jvm.ClassFile.FieldType.array Jvm.ClassFile.FieldType.byte)), Jvm.Cond.code ({ cls := "java/lang/StringBuilder", name := "length", desc := "()I" } : Jvm.MethodName) jdk_67_method_93_code (1 : Nat) (Option.some Jvm.ClassFile.FieldType.int), Jvm.Cond.code ({ cls := "java/lang/AbstractStringBuilder", name := "length", desc := "()I" } : Jvm.MethodName) jdk_68_method_6_code (1 : Nat) (Option.some Jvm.ClassFile.FieldType.int), Jvm.Cond.code ({ cls := "java/lang/AbstractStringBuilder", name := "isLatin1", desc := "()Z" } : Jvm.MethodName) jdk_68_method_68_code (1 : Nat) (Option.some Jvm.ClassFile.FieldType.boolean), Jvm.Cond.code ({ cls := "java/util/Arrays", name := "copyOfRange", desc := "([BII)[B" } : Jvm.MethodName) jdk_65_method_132_code (3 : Nat) (Option.some (Jvm.ClassFile.FieldType.array Jvm.ClassFile.FieldType.byte)), Jvm.Cond.code ({ cls := "java/util/Arrays", name := "copyOfRangeByte", desc := "([BII)[B" } : Jvm.MethodName) jdk_65_method_133_code (5 : Nat) (Option.some (Jvm.ClassFile.FieldType.array Jvm.ClassFile.FieldType.byte)), Jvm.Cond.code ({ cls := "java/util/Arrays", name := "checkLength", desc := "(II)V" } : Jvm.MethodName) jdk_65_method_131_code (2 : Nat) (Option.none : Option Jvm.ClassFile.FieldType), Jvm.Cond.code ({ cls := "java/lang/Math", name := "min", desc := "(II)I" } : Jvm.MethodName) jdk_29_method_69_code (2 : Nat) (Option.some Jvm.ClassFile.FieldType.int), Jvm.Cond.code ({ cls := "com/example/mulock/mulock/zookeeper/ContenderPathPinLaw", name := "at", desc := "(Ljava/lang/String;Ljava/lang/String;Ljava/lang/String;I)Z" } : Jvm.MethodName) method_4_code (4 : Nat) (Option.some Jvm.ClassFile.FieldType.boolean), Jvm.Cond.code ({ cls := "java/lang/String", name := "charAt", desc := "(I)C" } : Jvm.MethodName) jdk_42_method_56_code (2 : Nat) (Option.some Jvm.ClassFile.FieldType.char), Jvm.Cond.code ({ cls := "java/lang/String", name := "isLatin1", desc := "()Z" } : Jvm.MethodName) jdk_42_method_154_code (1 : Nat) (Option.some Jvm.ClassFile.FieldType.boolean), Jvm.Cond.code ({ cls := "java/lang/StringLatin1", name := "charAt", desc := "([BI)C" } : Jvm.MethodName) jdk_43_method_2_code (2 : Nat) (Option.some Jvm.ClassFile.FieldType.char), Jvm.Cond.code ({ cls := "java/lang/String", name := "checkIndex", desc := "(II)V" } : Jvm.MethodName) jdk_42_method_155_code (2 : Nat) (Option.none : Option Jvm.ClassFile.FieldType), Jvm.Cond.code ({ cls := "jdk/internal/util/Preconditions", name := "checkIndex", desc := "(IILjava/util/function/BiFunction;)I" } : Jvm.MethodName) jdk_41_method_11_code (3 : Nat) (Option.some Jvm.ClassFile.FieldType.int), Jvm.Cond.code ({ cls := "com/example/mulock/mulock/zookeeper/ContenderPathPinLaw", name := "expAt", desc := "(Ljava/lang/String;Ljava/lang/String;I)I" } : Jvm.MethodName) method_3_code (4 : Nat) (Option.some Jvm.ClassFile.FieldType.int), Jvm.Cond.code ({ cls := "java/lang/StringUTF16", name := "compress", desc := "([CII)[B" } : Jvm.MethodName) jdk_52_method_16_code (6 : Nat) (Option.some (Jvm.ClassFile.FieldType.array Jvm.ClassFile.FieldType.byte)), Jvm.Cond.code ({ cls := "java/lang/StringUTF16", name := "compress", desc := "([CI[BII)I" } : Jvm.MethodName) jdk_52_method_21_code (7 : Nat) (Option.some Jvm.ClassFile.FieldType.int), Jvm.Cond.code ({ cls := "java/lang/StringUTF16", name := "coderFromArrayLen", desc := "([BI)B" } : Jvm.MethodName) jdk_52_method_15_code (2 : Nat) (Option.some Jvm.ClassFile.FieldType.byte)]
set_option maxRecDepth 65536 in
theorem codes_eq : words1.filter isCode = codes1 := rfl
theorem w_codes : ∀ c ∈ words1.filter isCode, c.before args0 about1 = true := by
  rw [codes_eq]
  intro c hc
  simp only [codes1, List.mem_cons, List.not_mem_nil, or_false] at hc
  rcases hc with rfl | rfl | rfl | rfl | rfl | rfl | rfl | rfl | rfl | rfl | rfl | rfl | rfl | rfl | rfl | rfl | rfl | rfl | rfl | rfl | rfl | rfl | rfl | rfl | rfl | rfl | rfl | rfl | rfl | rfl | rfl | rfl | rfl | rfl | rfl | rfl | rfl | rfl | rfl | rfl | rfl | rfl | rfl
  · exact w_c0
  · exact w_c1
  · exact w_c2
  · exact w_c3
  · exact w_c4
  · exact w_c5
  · exact w_c6
  · exact w_c7
  · exact w_c8
  · exact w_c9
  · exact w_c10
  · exact w_c11
  · exact w_c12
  · exact w_c13
  · exact w_c14
  · exact w_c15
  · exact w_c16
  · exact w_c17
  · exact w_c18
  · exact w_c19
  · exact w_c20
  · exact w_c21
  · exact w_c22
  · exact w_c23
  · exact w_c24
  · exact w_c25
  · exact w_c26
  · exact w_c27
  · exact w_c28
  · exact w_c29
  · exact w_c30
  · exact w_c31
  · exact w_c32
  · exact w_c33
  · exact w_c34
  · exact w_c35
  · exact w_c36
  · exact w_c37
  · exact w_c38
  · exact w_c39
  · exact w_c40
  · exact w_c41
  · exact w_c42
set_option maxRecDepth 65536 in
theorem w_t1 : (words1.take 24).all (fun c => isCode c || c.before args0 about1) = true := by decide +kernel
set_option maxRecDepth 65536 in
theorem w_t2 : ((words1.drop 24).take 24).all (fun c => isCode c || c.before args0 about1) = true := by decide +kernel
set_option maxRecDepth 65536 in
theorem w_t3 : (((words1.drop 24).drop 24).take 24).all (fun c => isCode c || c.before args0 about1) = true := by decide +kernel
set_option maxRecDepth 65536 in
theorem w_t4 : ((((words1.drop 24).drop 24).drop 24).take 24).all (fun c => isCode c || c.before args0 about1) = true := by decide +kernel
set_option maxRecDepth 65536 in
theorem w_t5 : (((((words1.drop 24).drop 24).drop 24).drop 24).take 24).all (fun c => isCode c || c.before args0 about1) = true := by decide +kernel
set_option maxRecDepth 65536 in
theorem w_t6 : ((((((words1.drop 24).drop 24).drop 24).drop 24).drop 24).take 24).all (fun c => isCode c || c.before args0 about1) = true := by decide +kernel
set_option maxRecDepth 65536 in
theorem w_t7 : (((((((words1.drop 24).drop 24).drop 24).drop 24).drop 24).drop 24).take 24).all (fun c => isCode c || c.before args0 about1) = true := by decide +kernel
set_option maxRecDepth 65536 in
theorem w_t8 : ((((((((words1.drop 24).drop 24).drop 24).drop 24).drop 24).drop 24).drop 24).take 24).all (fun c => isCode c || c.before args0 about1) = true := by decide +kernel
set_option maxRecDepth 65536 in
theorem w_t9 : (((((((((words1.drop 24).drop 24).drop 24).drop 24).drop 24).drop 24).drop 24).drop 24).take 24).all (fun c => isCode c || c.before args0 about1) = true := by decide +kernel
set_option maxRecDepth 65536 in
theorem w_t10 : (((((((((words1.drop 24).drop 24).drop 24).drop 24).drop 24).drop 24).drop 24).drop 24).drop 24).all (fun c => isCode c || c.before args0 about1) = true := by decide +kernel
theorem w_tables : (allAtoms (Jvm.Cond.code x code maxLocals ret :: tables_1)).before args0 about1 = true := by
  rw [allAtoms_all]
  show words1.all (fun c => c.before args0 about1) = true
  refine all_split ?_ w_codes
  rw [← List.take_append_drop 24 words1, List.all_append, w_t1, ← List.take_append_drop 24 (words1.drop 24), List.all_append, w_t2, ← List.take_append_drop 24 ((words1.drop 24).drop 24), List.all_append, w_t3, ← List.take_append_drop 24 (((words1.drop 24).drop 24).drop 24), List.all_append, w_t4, ← List.take_append_drop 24 ((((words1.drop 24).drop 24).drop 24).drop 24), List.all_append, w_t5, ← List.take_append_drop 24 (((((words1.drop 24).drop 24).drop 24).drop 24).drop 24), List.all_append, w_t6, ← List.take_append_drop 24 ((((((words1.drop 24).drop 24).drop 24).drop 24).drop 24).drop 24), List.all_append, w_t7, ← List.take_append_drop 24 (((((((words1.drop 24).drop 24).drop 24).drop 24).drop 24).drop 24).drop 24), List.all_append, w_t8, ← List.take_append_drop 24 ((((((((words1.drop 24).drop 24).drop 24).drop 24).drop 24).drop 24).drop 24).drop 24), List.all_append, w_t9, w_t10]
  rfl
set_option maxRecDepth 65536 in
theorem w_rest : rest_1_c.before args0 about1 = true := by decide +kernel
set_option maxRecDepth 65536 in
theorem w_case : (Jvm.Cond.and given_1 narrow_1).before args0 about1 = true := by decide +kernel
set_option maxRecDepth 65536 in
theorem w_consts : constsHeld consts_1 about1 := Jvm.Lit.constsHeldB_iff.mp (by decide +kernel)
theorem w_applies : (headSpec (Jvm.Cond.code x code maxLocals ret :: tables_1) room_1).applies x e0.platform about1 = true :=
  (Spec.applies_iff w_frames).mpr ⟨w_running, w_runnable, w_alone, w_named, w_hears, w_ripe, w_room, w_tables⟩
theorem atStart : AtStart classFile x code maxLocals ret World_1 tables_1 room_1 Calls_1 rest_1 Pre_1 launch0 p0 e0 about1 theMethod args0 below0 :=
  ⟨lists_1, trivial, launch0.admits_env _ _ _, launch0.least_env, fairChoices_fair.cas, fairChoices_fair.clock, w_frames, w_args, w_heap, w_applies, ⟨w_consts, trivial⟩, w_rest, w_case⟩
end start1
theorem witness_1 : WitnessClaimed_1 := ⟨start1.p0, start1.e0, start1.about1, start1.theMethod, start1.args0, start1.below0, start1.atStart⟩
end Jvm.Pilot.@@N@@
