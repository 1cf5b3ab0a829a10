import JvmDerived
import JvmDerived.Pilot.@@N@@Statement
import JvmDerived.Pilot.@@N@@Code
set_option linter.unusedVariables false
set_option linter.unusedSimpArgs false
namespace Jvm.RoadKit
open Sem ClassFile Op Lib Jvm.Stand Jvm.Free Jvm.LawKit
section Own
variable {p : Program} {l : Launch} {e : Env} {R : Room} {s : State} {m : MethodId} {args : Array Value} {below : List Frame} {meth : Method} {c : Code} {T T' : State} {locs : List Loc} {cells slots : Nat} {g g' : JFrame} {Qf : Option Value → Heap → List Loc → Prop} {E : Outcome → State → Prop} {C S : Nat} {Z : State} {a0 : Array Value} {h : Heap} {pc n : Nat} {Ls : Array Slot} {sk : List Value}
theorem nz {a b : Addr} (h : ¬ @Eq Nat a b) : a ≠ b := h
theorem ny {a b : Nat} (h : a < b) : a < b := h
theorem nx {a b : Nat} (h : a = b) : a = b := h
theorem nw {a b : Nat} (h : ¬ a = b) : ¬ a = b := h
theorem own_nn {z : Int32} {i : Nat} (h : z = Int32.ofNat i) (hi : i < 2 ^ 31) : z.toNatClampNeg = i ∧ ¬ z < 0 := by
  subst h
  have e : (Int32.ofNat i).toInt = i := Int32.toInt_ofNat_of_lt hi
  refine ⟨by rw [Int32.toNatClampNeg, e]; rfl, ?_⟩
  rw [Int32.lt_iff_toInt_lt, e]
  have : (0 : Int32).toInt = 0 := rfl
  omega
theorem retI (X : Stand p l e R s m args below meth c T locs cells slots) (hx : p.tables.exec = Jvm.exec) {z : Int32} {rest : List Value} (hret : meth.sig.returnType = some .int) (hd : decode c.code pc = .ok (.ireturn, 1)) {fs : List Frame}
    (hl : ∀ (f : JFrame) (acts : List Action), f.method = m → f.locked = none → f.entered = [] → (doReturn e (T.setTop f) acts (some (.int z))).1 = T.setFrames fs) : Steps p.tables e below (T.setTop (mkF m pc Ls (.int z :: rest))) (T.setFrames fs) := by
  have hm' : T.vm.method? m = some meth := X.method'
  have hn : narrow .int (.int z) = .int z := rfl
  show Steps p.tables e below (T.setTop { method := m, pc := pc, locals := Ls, stack := _ :: rest, locked := none }) _
  jvm_step X.here [X.here.top, hx, hd, hm', hret, hn]
  first | (intro acts; rw [hl _ acts rfl rfl rfl]) | rw [hl _ _ rfl rfl rfl]
  exact Steps.refl _
theorem retL (X : Stand p l e R s m args below meth c T locs cells slots) (hx : p.tables.exec = Jvm.exec) {z : Int64} {rest : List Value} (hret : meth.sig.returnType = some .long) (hd : decode c.code pc = .ok (.lreturn, 1)) {fs : List Frame}
    (hl : ∀ (f : JFrame) (acts : List Action), f.method = m → f.locked = none → f.entered = [] → (doReturn e (T.setTop f) acts (some (.long z))).1 = T.setFrames fs) : Steps p.tables e below (T.setTop (mkF m pc Ls (.long z :: rest))) (T.setFrames fs) := by
  have hm' : T.vm.method? m = some meth := X.method'
  show Steps p.tables e below (T.setTop { method := m, pc := pc, locals := Ls, stack := _ :: rest, locked := none }) _
  jvm_step X.here [X.here.top, hx, hd, hm', hret, narrow]
  first | (intro acts; rw [hl _ acts rfl rfl rfl]) | rw [hl _ _ rfl rfl rfl]
  exact Steps.refl _
theorem retA (X : Stand p l e R s m args below meth c T locs cells slots) (hx : p.tables.exec = Jvm.exec) {z : Value} {t : FieldType} {rest : List Value} (hz : z.isRef = true) (hret : meth.sig.returnType = some t) (ht : t.isReference = true) (hd : decode c.code pc = .ok (.areturn, 1)) {fs : List Frame}
    (hl : ∀ (f : JFrame) (acts : List Action), f.method = m → f.locked = none → f.entered = [] → (doReturn e (T.setTop f) acts (some z)).1 = T.setFrames fs) : Steps p.tables e below (T.setTop (mkF m pc Ls (z :: rest))) (T.setFrames fs) := by
  have hm' : T.vm.method? m = some meth := X.method'
  show Steps p.tables e below (T.setTop { method := m, pc := pc, locals := Ls, stack := _ :: rest, locked := none }) _
  jvm_step X.here [X.here.top, hx, hd, hm', hret, hz, ht]
  first | (intro acts; rw [hl _ acts rfl rfl rfl]) | rw [hl _ _ rfl rfl rfl]
  exact Steps.refl _
theorem retNz (X : Stand p l e R s m args below meth c T locs cells slots) (hx : p.tables.exec = Jvm.exec) {z z' : Int32} {t : FieldType} {rest : List Value} (hz : nar t z = z') (hret : meth.sig.returnType = some t) (ht : t = .boolean ∨ t = .byte ∨ t = .char ∨ t = .short)
    (hd : decode c.code pc = .ok (.ireturn, 1)) {fs : List Frame} (hl : ∀ (f : JFrame) (acts : List Action), f.method = m → f.locked = none → f.entered = [] → (doReturn e (T.setTop f) acts (some (.int z'))).1 = T.setFrames fs) :
    Steps p.tables e below (T.setTop (mkF m pc Ls (.int z :: rest))) (T.setFrames fs) := by
  subst hz
  exact retN X hx hret ht hd hl
/-- from here the body comes back, with what Qf says of the value, the heap and the places written -/
def Wk (p : Program) (e : Env) (below : List Frame) (E : Outcome → State → Prop) (T : State) (g : JFrame) : Prop :=
  ∃ s₂ o, Steps p.tables e below (T.setTop g) s₂ ∧ s₂.status = .running ∧ Ended s₂ below o ∧ E o s₂
def EndN (s : State) (Qf : Option Value → Heap → List Loc → Prop) (C S : Nat) : Outcome → State → Prop := fun o s₂ => ∃ v L, o = .returned v ∧ Qf v s₂.heap L ∧ FrameEnd s o s₂ L C S
theorem Wk.go (k : ∀ t, Steps p.tables e below (T'.setTop g') t → Steps p.tables e below (T.setTop g) t) (w : Wk p e below E T' g') : Wk p e below E T g := by
  obtain ⟨s₂, o, a, r⟩ := w
  exact ⟨s₂, o, k _ a, r⟩
theorem Wk.leave (X : Stand p l e R s m args below meth c T locs cells slots) {v : Option Value} (hv : meth.sig.returnType = none → v = none) (hlocks : meth.locks = false) (eT : T.heap = h) (hQ : Qf v h locs) (hC : cells ≤ C) (hS : slots ≤ S)
    (k : ∀ fs, (∀ (f : JFrame) (acts : List Action), f.method = m → f.locked = none → f.entered = [] → (doReturn e (T.setTop f) acts v).1 = T.setFrames fs) → Steps p.tables e below (T.setTop g) (T.setFrames fs)) : Wk p e below (EndN s Qf C S) T g := by
  obtain ⟨fs, hr, hrun, hended, hW, hsame⟩ := X.leave hv hlocks
  subst eT
  exact ⟨_, _, k fs hr, hrun, hended, _, _, rfl, hQ, ⟨_, rfl⟩, hW, hsame.mono hC hS⟩
theorem Wk.aloadN (X : Stand p l e R s m args below meth c T locs cells slots) (hx : p.tables.exec = Jvm.exec) {k : Fin 4} {v : Value} (hd : decode c.code pc = .ok (.aload_n k, 1)) (hp : pc + 1 = n) (hl : Ls[k.val]? = some (.val v)) (hv : v.isRef = true) (w : Wk p e below E T (mkF m n Ls (v :: sk))) : Wk p e below E T (mkF m pc Ls sk) := by
  subst hp
  exact Wk.go (fun _ k => XS.aloadN X.here hx rfl hd hl hv k) w
theorem Wk.iloadN (X : Stand p l e R s m args below meth c T locs cells slots) (hx : p.tables.exec = Jvm.exec) {k : Fin 4} {v : Int32} (hd : decode c.code pc = .ok (.iload_n k, 1)) (hp : pc + 1 = n) (hl : Ls[k.val]? = some (.val (.int v))) (w : Wk p e below E T (mkF m n Ls (.int v :: sk))) : Wk p e below E T (mkF m pc Ls sk) := by
  subst hp
  exact Wk.go (fun _ k => XS.iloadN X.here hx rfl hd hl k) w
theorem Wk.lloadN (X : Stand p l e R s m args below meth c T locs cells slots) (hx : p.tables.exec = Jvm.exec) {k : Fin 4} {v : Int64} (hd : decode c.code pc = .ok (.lload_n k, 1)) (hp : pc + 1 = n) (hl : Ls[k.val]? = some (.val (.long v))) (w : Wk p e below E T (mkF m n Ls (.long v :: sk))) : Wk p e below E T (mkF m pc Ls sk) := by
  subst hp
  exact Wk.go (fun _ k => XS.lloadN X.here hx rfl hd hl k) w
theorem Wk.istoreN (X : Stand p l e R s m args below meth c T locs cells slots) (hx : p.tables.exec = Jvm.exec) {k : Fin 4} {v : Int32} {L' : Array Slot} (hd : decode c.code pc = .ok (.istore_n k, 1)) (hp : pc + 1 = n) (hl : storeLocals Ls k.val (.int v) = some L') (w : Wk p e below E T (mkF m n L' sk)) : Wk p e below E T (mkF m pc Ls (.int v :: sk)) := by
  subst hp
  exact Wk.go (fun _ k => XS.istoreN X.here hx rfl hd rfl hl k) w
theorem Wk.astoreN (X : Stand p l e R s m args below meth c T locs cells slots) (hx : p.tables.exec = Jvm.exec) {k : Fin 4} {v : Value} {L' : Array Slot} (hd : decode c.code pc = .ok (.astore_n k, 1)) (hp : pc + 1 = n) (hv : v.isRef = true) (hl : storeLocals Ls k.val v = some L') (w : Wk p e below E T (mkF m n L' sk)) : Wk p e below E T (mkF m pc Ls (v :: sk)) := by
  subst hp
  exact Wk.go (fun _ k => XS.astoreN X.here hx rfl hd rfl hv hl k) w
theorem Wk.aload (X : Stand p l e R s m args below meth c T locs cells slots) (hx : p.tables.exec = Jvm.exec) {k : Nat} {v : Value} (hd : decode c.code pc = .ok (.aload k, 2)) (hp : pc + 2 = n) (hl : Ls[k]? = some (.val v)) (hv : v.isRef = true) (w : Wk p e below E T (mkF m n Ls (v :: sk))) : Wk p e below E T (mkF m pc Ls sk) := by
  subst hp
  exact Wk.go (fun _ k => XS.aload X.here hx rfl hd hl hv k) w
theorem Wk.iload (X : Stand p l e R s m args below meth c T locs cells slots) (hx : p.tables.exec = Jvm.exec) {k : Nat} {v : Int32} (hd : decode c.code pc = .ok (.iload k, 2)) (hp : pc + 2 = n) (hl : Ls[k]? = some (.val (.int v))) (w : Wk p e below E T (mkF m n Ls (.int v :: sk))) : Wk p e below E T (mkF m pc Ls sk) := by
  subst hp
  exact Wk.go (fun _ k => XS.iload X.here hx rfl hd hl k) w
theorem Wk.lload (X : Stand p l e R s m args below meth c T locs cells slots) (hx : p.tables.exec = Jvm.exec) {k : Nat} {v : Int64} (hd : decode c.code pc = .ok (.lload k, 2)) (hp : pc + 2 = n) (hl : Ls[k]? = some (.val (.long v))) (w : Wk p e below E T (mkF m n Ls (.long v :: sk))) : Wk p e below E T (mkF m pc Ls sk) := by
  subst hp
  exact Wk.go (fun _ k => XS.lload X.here hx rfl hd hl k) w
theorem Wk.istore (X : Stand p l e R s m args below meth c T locs cells slots) (hx : p.tables.exec = Jvm.exec) {k : Nat} {v : Int32} {L' : Array Slot} (hd : decode c.code pc = .ok (.istore k, 2)) (hp : pc + 2 = n) (hl : storeLocals Ls k (.int v) = some L') (w : Wk p e below E T (mkF m n L' sk)) : Wk p e below E T (mkF m pc Ls (.int v :: sk)) := by
  subst hp
  exact Wk.go (fun _ k => XS.istore X.here hx rfl hd rfl hl k) w
theorem Wk.lstore (X : Stand p l e R s m args below meth c T locs cells slots) (hx : p.tables.exec = Jvm.exec) {k : Nat} {v : Int64} {L' : Array Slot} (hd : decode c.code pc = .ok (.lstore k, 2)) (hp : pc + 2 = n) (hl : storeLocals Ls k (.long v) = some L') (w : Wk p e below E T (mkF m n L' sk)) : Wk p e below E T (mkF m pc Ls (.long v :: sk)) := by
  subst hp
  exact Wk.go (fun _ k => XS.lstore X.here hx rfl hd rfl hl k) w
theorem Wk.astore (X : Stand p l e R s m args below meth c T locs cells slots) (hx : p.tables.exec = Jvm.exec) {k : Nat} {v : Value} {L' : Array Slot} (hd : decode c.code pc = .ok (.astore k, 2)) (hp : pc + 2 = n) (hv : v.isRef = true) (hl : storeLocals Ls k v = some L') (w : Wk p e below E T (mkF m n L' sk)) : Wk p e below E T (mkF m pc Ls (v :: sk)) := by
  subst hp
  exact Wk.go (fun _ k => XS.astore X.here hx rfl hd rfl hv hl k) w
theorem Wk.iconst (X : Stand p l e R s m args below meth c T locs cells slots) (hx : p.tables.exec = Jvm.exec) {i : Int} {z : Int32} (hd : decode c.code pc = .ok (.iconst i, 1)) (hp : pc + 1 = n) (hz : Int32.ofInt i = z) (w : Wk p e below E T (mkF m n Ls (.int z :: sk))) : Wk p e below E T (mkF m pc Ls sk) := by
  subst hp; subst hz
  exact Wk.go (fun _ k => XS.iconst X.here hx rfl hd  k) w
theorem Wk.bipush (X : Stand p l e R s m args below meth c T locs cells slots) (hx : p.tables.exec = Jvm.exec) {i : Int} {z : Int32} (hd : decode c.code pc = .ok (.bipush i, 2)) (hp : pc + 2 = n) (hz : (Int8.ofInt i).toInt32 = z) (w : Wk p e below E T (mkF m n Ls (.int z :: sk))) : Wk p e below E T (mkF m pc Ls sk) := by
  subst hp; subst hz
  exact Wk.go (fun _ k => XS.bipush X.here hx rfl hd  k) w
theorem Wk.sipush (X : Stand p l e R s m args below meth c T locs cells slots) (hx : p.tables.exec = Jvm.exec) {i : Int} {z : Int32} (hd : decode c.code pc = .ok (.sipush i, 3)) (hp : pc + 3 = n) (hz : (Int16.ofInt i).toInt32 = z) (w : Wk p e below E T (mkF m n Ls (.int z :: sk))) : Wk p e below E T (mkF m pc Ls sk) := by
  subst hp; subst hz
  exact Wk.go (fun _ k => XS.sipush X.here hx rfl hd  k) w
theorem Wk.lconst (X : Stand p l e R s m args below meth c T locs cells slots) (hx : p.tables.exec = Jvm.exec) {k : Fin 2} {z : Int64} (hd : decode c.code pc = .ok (.lconst k, 1)) (hp : pc + 1 = n) (hz : Int64.ofNat k = z) (w : Wk p e below E T (mkF m n Ls (.long z :: sk))) : Wk p e below E T (mkF m pc Ls sk) := by
  subst hp; subst hz
  exact Wk.go (fun _ k => XS.lconst X.here hx rfl hd  k) w
theorem Wk.aconstNull (X : Stand p l e R s m args below meth c T locs cells slots) (hx : p.tables.exec = Jvm.exec)  (hd : decode c.code pc = .ok (.aconst_null, 1)) (hp : pc + 1 = n)  (w : Wk p e below E T (mkF m n Ls (.null :: sk))) : Wk p e below E T (mkF m pc Ls sk) := by
  subst hp
  exact Wk.go (fun _ k => XS.aconstNull X.here hx rfl hd  k) w
theorem Wk.iadd (X : Stand p l e R s m args below meth c T locs cells slots) (hx : p.tables.exec = Jvm.exec) {x y : Int32} (hd : decode c.code pc = .ok (.iadd, 1)) (hp : pc + 1 = n)  (w : Wk p e below E T (mkF m n Ls (.int (x + y) :: sk))) : Wk p e below E T (mkF m pc Ls (.int y :: .int x :: sk)) := by
  subst hp
  exact Wk.go (fun _ k => XS.iadd X.here hx rfl hd rfl k) w
theorem Wk.isub (X : Stand p l e R s m args below meth c T locs cells slots) (hx : p.tables.exec = Jvm.exec) {x y : Int32} (hd : decode c.code pc = .ok (.isub, 1)) (hp : pc + 1 = n)  (w : Wk p e below E T (mkF m n Ls (.int (x - y) :: sk))) : Wk p e below E T (mkF m pc Ls (.int y :: .int x :: sk)) := by
  subst hp
  exact Wk.go (fun _ k => XS.isub X.here hx rfl hd rfl k) w
theorem Wk.imul (X : Stand p l e R s m args below meth c T locs cells slots) (hx : p.tables.exec = Jvm.exec) {x y : Int32} (hd : decode c.code pc = .ok (.imul, 1)) (hp : pc + 1 = n)  (w : Wk p e below E T (mkF m n Ls (.int (x * y) :: sk))) : Wk p e below E T (mkF m pc Ls (.int y :: .int x :: sk)) := by
  subst hp
  exact Wk.go (fun _ k => XS.imul X.here hx rfl hd rfl k) w
theorem Wk.iand (X : Stand p l e R s m args below meth c T locs cells slots) (hx : p.tables.exec = Jvm.exec) {x y : Int32} (hd : decode c.code pc = .ok (.iand, 1)) (hp : pc + 1 = n)  (w : Wk p e below E T (mkF m n Ls (.int (x &&& y) :: sk))) : Wk p e below E T (mkF m pc Ls (.int y :: .int x :: sk)) := by
  subst hp
  exact Wk.go (fun _ k => XS.iand X.here hx rfl hd rfl k) w
theorem Wk.ineg (X : Stand p l e R s m args below meth c T locs cells slots) (hx : p.tables.exec = Jvm.exec) {x : Int32} (hd : decode c.code pc = .ok (.ineg, 1)) (hp : pc + 1 = n)  (w : Wk p e below E T (mkF m n Ls (.int (-x) :: sk))) : Wk p e below E T (mkF m pc Ls (.int x :: sk)) := by
  subst hp
  exact Wk.go (fun _ k => XS.ineg X.here hx rfl hd rfl k) w
theorem Wk.lneg (X : Stand p l e R s m args below meth c T locs cells slots) (hx : p.tables.exec = Jvm.exec) {x : Int64} (hd : decode c.code pc = .ok (.lneg, 1)) (hp : pc + 1 = n)  (w : Wk p e below E T (mkF m n Ls (.long (-x) :: sk))) : Wk p e below E T (mkF m pc Ls (.long x :: sk)) := by
  subst hp
  exact Wk.go (fun _ k => XS.lneg X.here hx rfl hd rfl k) w
theorem Wk.i2l (X : Stand p l e R s m args below meth c T locs cells slots) (hx : p.tables.exec = Jvm.exec) {x : Int32} (hd : decode c.code pc = .ok (.i2l, 1)) (hp : pc + 1 = n)  (w : Wk p e below E T (mkF m n Ls (.long (x.toInt64) :: sk))) : Wk p e below E T (mkF m pc Ls (.int x :: sk)) := by
  subst hp
  exact Wk.go (fun _ k => XS.i2l X.here hx rfl hd rfl k) w
theorem Wk.l2i (X : Stand p l e R s m args below meth c T locs cells slots) (hx : p.tables.exec = Jvm.exec) {x : Int64} (hd : decode c.code pc = .ok (.l2i, 1)) (hp : pc + 1 = n)  (w : Wk p e below E T (mkF m n Ls (.int (x.toInt32) :: sk))) : Wk p e below E T (mkF m pc Ls (.long x :: sk)) := by
  subst hp
  exact Wk.go (fun _ k => XS.l2i X.here hx rfl hd rfl k) w
theorem Wk.i2b (X : Stand p l e R s m args below meth c T locs cells slots) (hx : p.tables.exec = Jvm.exec) {x : Int32} (hd : decode c.code pc = .ok (.i2b, 1)) (hp : pc + 1 = n)  (w : Wk p e below E T (mkF m n Ls (.int (x.toInt8.toInt32) :: sk))) : Wk p e below E T (mkF m pc Ls (.int x :: sk)) := by
  subst hp
  exact Wk.go (fun _ k => XS.i2b X.here hx rfl hd rfl k) w
theorem Wk.i2c (X : Stand p l e R s m args below meth c T locs cells slots) (hx : p.tables.exec = Jvm.exec) {x z : Int32} (hd : decode c.code pc = .ok (.i2c, 1)) (hp : pc + 1 = n) (hz : x.toUInt32.toUInt16.toUInt32.toInt32 = z) (w : Wk p e below E T (mkF m n Ls (.int z :: sk))) : Wk p e below E T (mkF m pc Ls (.int x :: sk)) := by
  subst hp; subst hz
  exact Wk.go (fun _ k => XS.i2c X.here hx rfl hd rfl k) w
theorem Wk.ishl (X : Stand p l e R s m args below meth c T locs cells slots) (hx : p.tables.exec = Jvm.exec) {x y : Int32} (hd : decode c.code pc = .ok (.ishl, 1)) (hp : pc + 1 = n)  (w : Wk p e below E T (mkF m n Ls (.int (x <<< (y &&& 31)) :: sk))) : Wk p e below E T (mkF m pc Ls (.int y :: .int x :: sk)) := by
  subst hp
  exact Wk.go (fun _ k => XS.ishl X.here hx rfl hd rfl k) w
theorem Wk.ishr (X : Stand p l e R s m args below meth c T locs cells slots) (hx : p.tables.exec = Jvm.exec) {x y : Int32} (hd : decode c.code pc = .ok (.ishr, 1)) (hp : pc + 1 = n)  (w : Wk p e below E T (mkF m n Ls (.int (x >>> (y &&& 31)) :: sk))) : Wk p e below E T (mkF m pc Ls (.int y :: .int x :: sk)) := by
  subst hp
  exact Wk.go (fun _ k => XS.ishr X.here hx rfl hd rfl k) w
theorem Wk.iushr (X : Stand p l e R s m args below meth c T locs cells slots) (hx : p.tables.exec = Jvm.exec) {x y : Int32} (hd : decode c.code pc = .ok (.iushr, 1)) (hp : pc + 1 = n)  (w : Wk p e below E T (mkF m n Ls (.int ((x.toUInt32 >>> (y &&& 31).toUInt32).toInt32) :: sk))) : Wk p e below E T (mkF m pc Ls (.int y :: .int x :: sk)) := by
  subst hp
  exact Wk.go (fun _ k => XS.iushr X.here hx rfl hd rfl k) w
theorem Wk.lcmp (X : Stand p l e R s m args below meth c T locs cells slots) (hx : p.tables.exec = Jvm.exec) {x y : Int64} (hd : decode c.code pc = .ok (.lcmp, 1)) (hp : pc + 1 = n)  (w : Wk p e below E T (mkF m n Ls (.int (lcmpW x y) :: sk))) : Wk p e below E T (mkF m pc Ls (.long y :: .long x :: sk)) := by
  subst hp
  exact Wk.go (fun _ k => XS.lcmp X.here hx rfl hd rfl k) w
theorem Wk.idiv (X : Stand p l e R s m args below meth c T locs cells slots) (hx : p.tables.exec = Jvm.exec) {x y : Int32} (hd : decode c.code pc = .ok (.idiv, 1)) (hp : pc + 1 = n) (hy : y ≠ 0) (w : Wk p e below E T (mkF m n Ls (.int (x / y) :: sk))) : Wk p e below E T (mkF m pc Ls (.int y :: .int x :: sk)) := by
  subst hp
  exact Wk.go (fun _ k => XS.idiv X.here hx rfl hd rfl hy k) w
theorem Wk.ldiv (X : Stand p l e R s m args below meth c T locs cells slots) (hx : p.tables.exec = Jvm.exec) {x y : Int64} (hd : decode c.code pc = .ok (.ldiv, 1)) (hp : pc + 1 = n) (hy : y ≠ 0) (w : Wk p e below E T (mkF m n Ls (.long (x / y) :: sk))) : Wk p e below E T (mkF m pc Ls (.long y :: .long x :: sk)) := by
  subst hp
  exact Wk.go (fun _ k => XS.ldiv X.here hx rfl hd rfl hy k) w
theorem Wk.lrem (X : Stand p l e R s m args below meth c T locs cells slots) (hx : p.tables.exec = Jvm.exec) {x y : Int64} (hd : decode c.code pc = .ok (.lrem, 1)) (hp : pc + 1 = n) (hy : y ≠ 0) (w : Wk p e below E T (mkF m n Ls (.long (x - (x / y) * y) :: sk))) : Wk p e below E T (mkF m pc Ls (.long y :: .long x :: sk)) := by
  subst hp
  exact Wk.go (fun _ k => XS.lrem X.here hx rfl hd rfl hy k) w
theorem Wk.iinc (X : Stand p l e R s m args below meth c T locs cells slots) (hx : p.tables.exec = Jvm.exec) {k : Nat} {cst : Int} {x : Int32} {L' : Array Slot} (hd : decode c.code pc = .ok (.iinc k cst, 3)) (hp : pc + 3 = n) (hl : Ls[k]? = some (.val (.int x))) (hl' : storeLocals Ls k (.int (x + Int32.ofInt cst)) = some L') (w : Wk p e below E T (mkF m n L' sk)) : Wk p e below E T (mkF m pc Ls sk) := by
  subst hp
  exact Wk.go (fun _ k => XS.iinc X.here hx rfl hd hl hl' k) w
theorem Wk.dup (X : Stand p l e R s m args below meth c T locs cells slots) (hx : p.tables.exec = Jvm.exec) {x : Value} (hd : decode c.code pc = .ok (.dup, 1)) (hp : pc + 1 = n) (hc : x.category = 1) (w : Wk p e below E T (mkF m n Ls (x :: x :: sk))) : Wk p e below E T (mkF m pc Ls (x :: sk)) := by
  subst hp
  exact Wk.go (fun _ k => XS.dup X.here hx rfl hd rfl hc k) w
theorem Wk.pop (X : Stand p l e R s m args below meth c T locs cells slots) (hx : p.tables.exec = Jvm.exec) {x : Value} (hd : decode c.code pc = .ok (.pop, 1)) (hp : pc + 1 = n) (hc : x.category = 1) (w : Wk p e below E T (mkF m n Ls sk)) : Wk p e below E T (mkF m pc Ls (x :: sk)) := by
  subst hp
  exact Wk.go (fun _ k => XS.pop X.here hx rfl hd rfl hc k) w
theorem Wk.goto (X : Stand p l e R s m args below meth c T locs cells slots) (hx : p.tables.exec = Jvm.exec)  {o : Int} (hd : decode c.code pc = .ok (.goto o, 3))  (ho : 0 ≤ (pc : Int) + o) (hp : ((pc : Int) + o).toNat = n) (w : Wk p e below E T (mkF m n Ls sk)) : Wk p e below E T (mkF m pc Ls sk) := Wk.go (fun _ k => XS.goto X.here hx rfl rfl hd  ho hp k) w
theorem Wk.ifYes (X : Stand p l e R s m args below meth c T locs cells slots) (hx : p.tables.exec = Jvm.exec) {cd : ClassFile.Cond} {x : Int32} {o : Int} (hd : decode c.code pc = .ok (.ifCond cd o, 3)) (hc : ifCond.holds cd x = true) (ho : 0 ≤ (pc : Int) + o) (hp : ((pc : Int) + o).toNat = n) (w : Wk p e below E T (mkF m n Ls sk)) : Wk p e below E T (mkF m pc Ls (.int x :: sk)) := Wk.go (fun _ k => XS.ifYes X.here hx rfl rfl hd rfl hc ho hp k) w
theorem Wk.icmpYes (X : Stand p l e R s m args below meth c T locs cells slots) (hx : p.tables.exec = Jvm.exec) {cd : ClassFile.Cond} {x y : Int32} {o : Int} (hd : decode c.code pc = .ok (.if_icmp cd o, 3)) (hc : if_icmp.holds cd x y = true) (ho : 0 ≤ (pc : Int) + o) (hp : ((pc : Int) + o).toNat = n) (w : Wk p e below E T (mkF m n Ls sk)) : Wk p e below E T (mkF m pc Ls (.int y :: .int x :: sk)) := Wk.go (fun _ k => XS.icmpYes X.here hx rfl rfl hd rfl hc ho hp k) w
theorem Wk.ifnonnullYes (X : Stand p l e R s m args below meth c T locs cells slots) (hx : p.tables.exec = Jvm.exec) {b : Addr} {o : Int} (hd : decode c.code pc = .ok (.ifnonnull o, 3))  (ho : 0 ≤ (pc : Int) + o) (hp : ((pc : Int) + o).toNat = n) (w : Wk p e below E T (mkF m n Ls sk)) : Wk p e below E T (mkF m pc Ls (.ref b :: sk)) := Wk.go (fun _ k => XS.ifnonnullYes X.here hx rfl rfl hd rfl ho hp k) w
theorem Wk.ifNo (X : Stand p l e R s m args below meth c T locs cells slots) (hx : p.tables.exec = Jvm.exec) {cd : ClassFile.Cond} {o : Int} {x : Int32} (hd : decode c.code pc = .ok (.ifCond cd o, 3)) (hp : pc + 3 = n) (hc : ifCond.holds cd x = false) (w : Wk p e below E T (mkF m n Ls sk)) : Wk p e below E T (mkF m pc Ls (.int x :: sk)) := by
  subst hp
  exact Wk.go (fun _ k => XS.ifNo X.here hx rfl hd rfl hc k) w
theorem Wk.icmpNo (X : Stand p l e R s m args below meth c T locs cells slots) (hx : p.tables.exec = Jvm.exec) {cd : ClassFile.Cond} {o : Int} {x y : Int32} (hd : decode c.code pc = .ok (.if_icmp cd o, 3)) (hp : pc + 3 = n) (hc : if_icmp.holds cd x y = false) (w : Wk p e below E T (mkF m n Ls sk)) : Wk p e below E T (mkF m pc Ls (.int y :: .int x :: sk)) := by
  subst hp
  exact Wk.go (fun _ k => XS.icmpNo X.here hx rfl hd rfl hc k) w
theorem Wk.ifnullNo (X : Stand p l e R s m args below meth c T locs cells slots) (hx : p.tables.exec = Jvm.exec) {o : Int} {b : Addr} (hd : decode c.code pc = .ok (.ifnull o, 3)) (hp : pc + 3 = n)  (w : Wk p e below E T (mkF m n Ls sk)) : Wk p e below E T (mkF m pc Ls (.ref b :: sk)) := by
  subst hp
  exact Wk.go (fun _ k => XS.ifnullNo X.here hx rfl hd rfl k) w
theorem Wk.ldcInt (X : Stand p l e R s m args below meth c T locs cells slots) (hx : p.tables.exec = Jvm.exec) {own : String} {index : Nat} {v : Int32} (hown : s.vm.findClass own = some m.cls) (hc : (Cond.constant own index v).before args s = true) (hd : decode c.code pc = .ok (.ldc index, 2)) (hp : pc + 2 = n) (w : Wk p e below E T (mkF m n Ls (.int v :: sk))) : Wk p e below E T (mkF m pc Ls sk) := by
  subst hp
  exact Wk.go (X.ldcInt hx hown hc (g := mkF m pc Ls sk) rfl hd) w
theorem Wk.ldc2Long (X : Stand p l e R s m args below meth c T locs cells slots) (hx : p.tables.exec = Jvm.exec) {own : String} {index : Nat} {v : Int64} (hown : s.vm.findClass own = some m.cls) (hc : (Cond.constantLong own index v).before args s = true) (hd : decode c.code pc = .ok (.ldc2_w index, 3)) (hp : pc + 3 = n) (w : Wk p e below E T (mkF m n Ls (.long v :: sk))) : Wk p e below E T (mkF m pc Ls sk) := by
  subst hp
  exact Wk.go (X.ldc2Long hx hown hc (g := mkF m pc Ls sk) rfl hd) w
theorem Wk.newO (X : Stand p l e R s m args below meth c T locs cells slots) (hx : p.tables.exec = Jvm.exec) (hZ : Z.Warmed39 s.vm) {own K : String} {index k : Nat} (hown : s.vm.findClass own = some m.cls) (w : (Cond.classLink own index K).before a0 Z = true) (wi : (Cond.instantiable K k).before a0 Z = true) (wz : (Cond.initialized K).before a0 Z = true) (eT : T.heap = h) (hd : decode c.code pc = .ok (.new index, 3)) (hp : pc + 3 = n) (hc : cells + 1 ≤ R.cells) (hl : slots + k ≤ R.slots)
    (kk : ∀ (T' : State) (h' : Heap) (b : Addr), b = h.size → Stand p l e R s m args below meth c T' locs (cells + 1) (slots + k) → T'.heap = h' → Ext h h' → Exa Z h' b K → (∀ {O nm d : String} {ty : FieldType}, Laid Z a0 K O nm d → parseFieldDescriptor d = some ty → Fld Z h' b O nm d (defaultValue ty)) → Unt h' b → Wk p e below E T' (mkF m n Ls (.ref b :: sk))) : Wk p e below E T (mkF m pc Ls sk) := by
  subst hp
  obtain ⟨T', h', X', e', E', A', D', Y', st'⟩ := RoadKit.newO X hx hZ hown w wi wz eT (g := mkF m pc Ls sk) rfl hd hc hl
  exact Wk.go st' (kk T' h' _ rfl X' e' E' A' (fun L q => D' L q) Y')
theorem Wk.getF (X : Stand p l e R s m args below meth c T locs cells slots) (hx : p.tables.exec = Jvm.exec) (hZ : Z.Warmed39 s.vm) {own R0 O f d host : String} {index : Nat} (hown : s.vm.findClass own = some m.cls) (w : (Cond.fieldLink own index R0 f d).before a0 Z = true ∨ (Cond.fieldLinkNest own index R0 f d host).before a0 Z = true) (via : Via Z R0 O f d) (eT : T.heap = h) {a : Addr} {v : Value} (F : Fld Z h a O f d v) (hd : decode c.code pc = .ok (.getfield index, 3)) (hp : pc + 3 = n) (kk : ∀ T' : State, Stand p l e R s m args below meth c T' locs cells slots → T'.heap = h → Wk p e below E T' (mkF m n Ls (v :: sk))) : Wk p e below E T (mkF m pc Ls (.ref a :: sk)) := by
  subst hp
  obtain ⟨T', X', e', st'⟩ := RoadKit.getF X hx hZ hown w via eT F (g := mkF m pc Ls (.ref a :: sk)) rfl rfl hd
  exact Wk.go st' (kk T' X' e')
theorem Wk.getS (X : Stand p l e R s m args below meth c T locs cells slots) (hx : p.tables.exec = Jvm.exec) (hZ : Z.Warmed39 s.vm) {own R0 O f d host : String} {index : Nat} (hown : s.vm.findClass own = some m.cls) (w : (Cond.fieldLink own index R0 f d).before a0 Z = true ∨ (Cond.fieldLinkNest own index R0 f d host).before a0 Z = true) (via : Via Z R0 O f d) (eT : T.heap = h) {v : Value} (F : Sta Z h O f d v) (hd : decode c.code pc = .ok (.getstatic index, 3)) (hp : pc + 3 = n) (kk : ∀ T' : State, Stand p l e R s m args below meth c T' locs cells slots → T'.heap = h → Wk p e below E T' (mkF m n Ls (v :: sk))) : Wk p e below E T (mkF m pc Ls sk) := by
  subst hp
  obtain ⟨T', X', e', st'⟩ := RoadKit.getS2 X hx hZ hown w via eT F (g := mkF m pc Ls sk) rfl hd
  exact Wk.go st' (kk T' X' e')
theorem Wk.putF (X : Stand p l e R s m args below meth c T locs cells slots) (hx : p.tables.exec = Jvm.exec) (hZ : Z.Warmed39 s.vm) {own R0 O f d host : String} {index : Nat} (hown : s.vm.findClass own = some m.cls) (w : (Cond.fieldLink own index R0 f d).before a0 Z = true ∨ (Cond.fieldLinkNest own index R0 f d host).before a0 Z = true) (via : Via Z R0 O f d) (eT : T.heap = h) {K : String} {kk' : Nat} {ty : FieldType} {a : Addr} {v old : Value} (F : Fld Z h a O f d old) (Ea : Exa Z h a K) (L : (Cond.lays K O f d).before a0 Z = true ∨ ((Cond.laysFinal K O f d).before a0 Z = true ∧ own = O ∧ meth.name = "<init>")) (wi : (Cond.instantiable K kk').before a0 Z = true) (hty : parseFieldDescriptor d = some ty) (hn : narrow ty v = v) (hf : fits ty v = true) (hd : decode c.code pc = .ok (.putfield index, 3)) (hp : pc + 3 = n) (kk : ∀ (T' : State) (h' : Heap), Stand p l e R s m args below meth c T' (locs ++ [⟨a, slotOf Z O f d⟩]) cells slots → T'.heap = h' → Wr h h' a (slotOf Z O f d) v → Wk p e below E T' (mkF m n Ls sk)) : Wk p e below E T (mkF m pc Ls (v :: .ref a :: sk)) := by
  subst hp
  obtain ⟨T', h', X', e', W', st'⟩ := RoadKit.putF X hx hZ hown w via eT F Ea L wi hty hn hf (g := mkF m pc Ls (v :: .ref a :: sk)) rfl rfl hd
  exact Wk.go st' (kk T' h' X' e' W')
theorem Wk.putFN (X : Stand p l e R s m args below meth c T locs cells slots) (hx : p.tables.exec = Jvm.exec) (hZ : Z.Warmed39 s.vm) {own R0 O f d : String} {index : Nat} (hown : s.vm.findClass own = some m.cls) (w : (Cond.fieldLink own index R0 f d).before a0 Z = true) (via : Via Z R0 O f d) (eT : T.heap = h) {K : String} {kk' : Nat} {ty : FieldType} {a : Addr} {v old : Value} (F : Fld Z h a O f d old) (Ea : Exa Z h a K) (L : (Cond.lays K O f d).before a0 Z = true ∨ ((Cond.laysFinal K O f d).before a0 Z = true ∧ own = O ∧ meth.name = "<init>")) (wi : (Cond.instantiable K kk').before a0 Z = true) (hty : parseFieldDescriptor d = some ty) {v' : Value} (hn : narrow ty v = v') (hf : fits ty v' = true) (hd : decode c.code pc = .ok (.putfield index, 3)) (hp : pc + 3 = n) (kk : ∀ (T' : State) (h' : Heap), Stand p l e R s m args below meth c T' (locs ++ [⟨a, slotOf Z O f d⟩]) cells slots → T'.heap = h' → Wr h h' a (slotOf Z O f d) v' → Wk p e below E T' (mkF m n Ls sk)) : Wk p e below E T (mkF m pc Ls (v :: .ref a :: sk)) := by
  subst hp
  obtain ⟨T', h', X', e', W', st'⟩ := RoadKit.putFN X hx hZ hown w via eT F Ea L wi hty hn hf (g := mkF m pc Ls (v :: .ref a :: sk)) rfl rfl hd
  exact Wk.go st' (kk T' h' X' e' W')
theorem Wk.initO (X : Stand p l e R s m args below meth c T locs cells slots) (hx : p.tables.exec = Jvm.exec) (hZ : Z.Warmed39 s.vm) {own : String} {idx : Nat} (hown : s.vm.findClass own = some m.cls) (w1 : (Cond.methodLink own idx Lib.objectInit).before a0 Z = true) (w2 : (Cond.instanceMethod Lib.objectInit).before a0 Z = true) (w3 : (Cond.code Lib.objectInit ⟨#[0xb1]⟩ 1 none).before a0 Z = true) (eT : T.heap = h) (hsz : Ls.size = c.maxLocals) {a : Addr} (hd : decode c.code pc = .ok (.invokespecial idx, 3)) (hp : pc + 3 = n) (hf : 1 ≤ R.frames) {w : Nat} (hw : (sk.map fun v => v.category).sum ≤ w) (hl : w + 12 ≤ R.locals) (kk : ∀ T' : State, Stand p l e R s m args below meth c T' locs cells slots → T'.heap = h → Wk p e below E T' (mkF m n Ls sk)) : Wk p e below E T (mkF m pc Ls (.ref a :: sk)) := by
  subst hp
  obtain ⟨T', X', e', st'⟩ := RoadKit.initO X hx hZ hown w1 w2 w3 eT (g := mkF m pc Ls (.ref a :: sk)) rfl hsz rfl hd hf (W := w) (by show 2 * 0 + _ ≤ _; omega) hl
  exact Wk.go st' (kk T' X' e')
theorem Wk.newP (X : Stand p l e R s m args below meth c T locs cells slots) (hx : p.tables.exec = Jvm.exec) (hZ : Z.Warmed39 s.vm) {aty : ArrayType} (w : (Cond.arrayClass (newarray.typeOf aty)).before a0 Z = true) (eT : T.heap = h) (hd : decode c.code pc = .ok (.newarray aty, 2)) (hp : pc + 2 = n) {z : Int32} (hz : ¬ z < 0) {cap : Nat} (hcap : z.toNatClampNeg ≤ cap) (hb : cap * 8 ≤ 536870912) (hc : cells + 1 ≤ R.cells) (hl : slots + cap ≤ R.slots)
    (kk : ∀ (T' : State) (h' : Heap) (b : Addr) (cA : ClassId), b = h.size → Stand p l e R s m args below meth c T' locs (cells + 1) (slots + cap) → T'.heap = h' → Ext h h' → Arr Z h' b (newA cA (newarray.typeOf aty) z) (newarray.typeOf aty) → Wk p e below E T' (mkF m n Ls (.ref b :: sk))) : Wk p e below E T (mkF m pc Ls (.int z :: sk)) := by
  subst hp
  obtain ⟨T', h', cA, X', e', E', A', st'⟩ := RoadKit.newP X hx hZ w eT (g := mkF m pc Ls (.int z :: sk)) rfl hd rfl hz hcap hb hc hl
  exact Wk.go st' (kk T' h' _ cA rfl X' e' E' A')
theorem Wk.newPE (X : Stand p l e R s m args below meth c T locs cells slots) (hx : p.tables.exec = Jvm.exec) (hZ : Z.Warmed39 s.vm) {aty : ArrayType} (w : (Cond.arrayClass (newarray.typeOf aty)).before a0 Z = true) (eT : T.heap = h) (hd : decode c.code pc = .ok (.newarray aty, 2)) (hp : pc + 2 = n) {z : Int32} (hz : ¬ z < 0) {cap : Nat} (hcap : z.toNatClampNeg ≤ cap) (hb : cap * 8 ≤ 536870912) (hc : cells + 1 ≤ R.cells) (hl : slots + cap ≤ R.slots)
    {ad : String} (had : "[" ++ (newarray.typeOf aty).toString = ad)
    (kk : ∀ (T' : State) (h' : Heap) (b : Addr) (cA : ClassId), b = h.size → Stand p l e R s m args below meth c T' locs (cells + 1) (slots + cap) → T'.heap = h' → Ext h h' → Arr Z h' b (newA cA (newarray.typeOf aty) z) (newarray.typeOf aty) → Exa Z h' b ad → Wk p e below E T' (mkF m n Ls (.ref b :: sk))) : Wk p e below E T (mkF m pc Ls (.int z :: sk)) := by
  subst hp
  obtain ⟨T', h', cA, X', e', E', A', Q', st'⟩ := RoadKit.newPE X hx hZ w eT (g := mkF m pc Ls (.int z :: sk)) rfl hd rfl hz hcap hb hc hl had
  exact Wk.go st' (kk T' h' _ cA rfl X' e' E' A' Q')
theorem Wk.stC (X : Stand p l e R s m args below meth c T locs cells slots) (hx : p.tables.exec = Jvm.exec) (hZ : Z.Warmed39 s.vm) (eT : T.heap = h) {a : Addr} {cl : Cell} (A : Arr Z h a cl .char) {j : Int32} {x : Int32} (hj : ¬ (j < 0 ∨ cl.slots.size ≤ j.toNatClampNeg)) (hd : decode c.code pc = .ok (.castore, 1)) (hp : pc + 1 = n) (kk : ∀ (T' : State) (h' : Heap), Stand p l e R s m args below meth c T' (locs ++ [⟨a, j.toNatClampNeg⟩]) cells slots → T'.heap = h' → Wr h h' a j.toNatClampNeg (.int (nar .char x)) → Wk p e below E T' (mkF m n Ls sk)) : Wk p e below E T (mkF m pc Ls ((.int x) :: .int j :: .ref a :: sk)) := by
  subst hp
  obtain ⟨T', h', X', e', W', st'⟩ := RoadKit.stC X hx hZ eT A hj (g := mkF m pc Ls ((.int x) :: .int j :: .ref a :: sk)) rfl rfl hd
  exact Wk.go st' (kk T' h' X' e' W')
theorem Wk.stB (X : Stand p l e R s m args below meth c T locs cells slots) (hx : p.tables.exec = Jvm.exec) (hZ : Z.Warmed39 s.vm) (eT : T.heap = h) {a : Addr} {cl : Cell} (A : Arr Z h a cl .byte) {j : Int32} {x : Int32} (hj : ¬ (j < 0 ∨ cl.slots.size ≤ j.toNatClampNeg)) (hd : decode c.code pc = .ok (.bastore, 1)) (hp : pc + 1 = n) (kk : ∀ (T' : State) (h' : Heap), Stand p l e R s m args below meth c T' (locs ++ [⟨a, j.toNatClampNeg⟩]) cells slots → T'.heap = h' → Wr h h' a j.toNatClampNeg (.int (nar .byte x)) → Wk p e below E T' (mkF m n Ls sk)) : Wk p e below E T (mkF m pc Ls ((.int x) :: .int j :: .ref a :: sk)) := by
  subst hp
  obtain ⟨T', h', X', e', W', st'⟩ := RoadKit.stB X hx hZ eT A hj (g := mkF m pc Ls ((.int x) :: .int j :: .ref a :: sk)) rfl rfl hd
  exact Wk.go st' (kk T' h' X' e' W')
theorem Wk.caload (X : Stand p l e R s m args below meth c T locs cells slots) (hx : p.tables.exec = Jvm.exec) (hZ : Z.Warmed39 s.vm) (eT : T.heap = h) {a : Addr} {cl : Cell} (A : Arr Z h a cl .char) {j : Int32} {v : Value} (hj : ¬ (j < 0 ∨ cl.slots.size ≤ j.toNatClampNeg)) (ha : cl.slots[j.toNatClampNeg]? = some v) (hd : decode c.code pc = .ok (.caload, 1)) (hp : pc + 1 = n) (w : Wk p e below E T (mkF m n Ls (v :: sk))) : Wk p e below E T (mkF m pc Ls (.int j :: .ref a :: sk)) := by
  subst hp
  exact Wk.go (X.caload hx (by rw [eT]; exact A.1) (State.isArrayOf_alike hZ.alike A.2.1) A.2.2 hj ha (g := mkF m pc Ls (.int j :: .ref a :: sk)) rfl rfl hd) w
theorem Wk.baloadBytes (X : Stand p l e R s m args below meth c T locs cells slots) (hx : p.tables.exec = Jvm.exec) (hZ : Z.Warmed39 s.vm) (eT : T.heap = h) {a : Addr} {cl : Cell} (A : Arr Z h a cl .byte) {j : Int32} {v : Value} (hj : ¬ (j < 0 ∨ cl.slots.size ≤ j.toNatClampNeg)) (ha : cl.slots[j.toNatClampNeg]? = some v) (hd : decode c.code pc = .ok (.baload, 1)) (hp : pc + 1 = n) (w : Wk p e below E T (mkF m n Ls (v :: sk))) : Wk p e below E T (mkF m pc Ls (.int j :: .ref a :: sk)) := by
  subst hp
  exact Wk.go (X.baloadBytes hx (by rw [eT]; exact A.1) (State.isArrayOf_alike hZ.alike A.2.1) A.2.2 hj ha (g := mkF m pc Ls (.int j :: .ref a :: sk)) rfl rfl hd) w
theorem Wk.arrlen (X : Stand p l e R s m args below meth c T locs cells slots) (hx : p.tables.exec = Jvm.exec) (hZ : Z.Warmed39 s.vm) (eT : T.heap = h) {a : Addr} {cl : Cell} {ty : FieldType} {z : Int32} (A : Arr Z h a cl ty) (S' : cl.slots.size = z.toNatClampNeg) (hz : ¬ z < 0) (hd : decode c.code pc = .ok (.arraylength, 1)) (hp : pc + 1 = n) (w : Wk p e below E T (mkF m n Ls (.int z :: sk))) : Wk p e below E T (mkF m pc Ls (.ref a :: sk)) := by
  subst hp
  have q := X.arraylength hx (by rw [eT]; exact A.1) (State.isArrayOf_alike hZ.alike A.2.1) (g := mkF m pc Ls (.ref a :: sk)) rfl rfl hd
  rw [len_of S' hz] at q
  exact Wk.go q w
theorem Wk.castY (X : Stand p l e R s m args below meth c T locs cells slots) (hx : p.tables.exec = Jvm.exec) (hZ : Z.Warmed39 s.vm) {own K : String} {index : Nat} (hown : s.vm.findClass own = some m.cls) (w : (Cond.classLink own index K).before a0 Z = true) (eT : T.heap = h) {a : Addr} (F : Ins Z h a K true) (hd : decode c.code pc = .ok (.checkcast index, 3)) (hp : pc + 3 = n) (kk : ∀ T' : State, Stand p l e R s m args below meth c T' locs cells slots → T'.heap = h → Wk p e below E T' (mkF m n Ls (.ref a :: sk))) : Wk p e below E T (mkF m pc Ls (.ref a :: sk)) := by
  subst hp
  obtain ⟨T', X', e', st'⟩ := RoadKit.castY X hx hZ hown w eT F (g := mkF m pc Ls (.ref a :: sk)) rfl rfl hd
  exact Wk.go st' (kk T' X' e')
theorem Wk.back {rc rs : Nat} {Q : Option Value → Heap → List Loc → Prop} {rest : List Value} (call : ∃ (v : Option Value) (vm₁ : Vm) (B : Pt), s.WarmedH vm₁ ∧ Stand p l e R s m args below meth c B.U B.locs B.cells B.slots ∧ (∃ L, Q v B.U.heap L ∧ B.locs = locs ++ L ∧ B.cells = cells + rc ∧ B.slots = slots + rs) ∧ Steps p.tables e below (T.setTop (mkF m pc Ls sk)) (B.U.setTop (mkF m n Ls (v.toList ++ rest)))) (kk : ∀ (v : Option Value) (T' : State) (L : List Loc), Stand p l e R s m args below meth c T' (locs ++ L) (cells + rc) (slots + rs) → Q v T'.heap L → Wk p e below E T' (mkF m n Ls (v.toList ++ rest))) : Wk p e below E T (mkF m pc Ls sk) := by
  obtain ⟨v, _, ⟨T', L', c', s'⟩, -, X', ⟨L, hQ, h1, h2, h3⟩, k⟩ := call
  dsimp only [Pt.U, Pt.locs, Pt.cells, Pt.slots] at X' h1 h2 h3 k hQ
  subst h1 h2 h3
  exact Wk.go (fun _ r => k.trans r) (kk v T' L X' hQ)
theorem Wk.backS {rc rs : Nat} {Q : Option Value → Heap → List Loc → Prop} {rest : List Value} (call : ∃ (v : Option Value) (vm₁ : Vm) (B : Pt), s.WarmedH vm₁ ∧ Stand p l e R s m args below meth c B.U B.locs B.cells B.slots ∧ (∃ L, Q v B.U.heap L ∧ B.locs = locs ++ L ∧ B.cells = cells + rc ∧ B.slots = slots + rs) ∧ ∀ target, Steps p.tables e below (B.U.setTop (mkF m n Ls (v.toList ++ rest))) target → Steps p.tables e below (T.setTop (mkF m pc Ls sk)) target) (kk : ∀ (v : Option Value) (T' : State) (L : List Loc), Stand p l e R s m args below meth c T' (locs ++ L) (cells + rc) (slots + rs) → Q v T'.heap L → Wk p e below E T' (mkF m n Ls (v.toList ++ rest))) : Wk p e below E T (mkF m pc Ls sk) := by
  obtain ⟨v, _, ⟨T', L', c', s'⟩, -, X', ⟨L, hQ, h1, h2, h3⟩, k⟩ := call
  dsimp only [Pt.U, Pt.locs, Pt.cells, Pt.slots] at X' h1 h2 h3 k hQ
  subst h1 h2 h3
  exact Wk.go k (kk v T' L X' hQ)
theorem Wk.cpA (X : Stand p l e R s m args below meth c T locs cells slots) (hx : p.tables.exec = Jvm.exec) (hZ : Z.Warmed39 s.vm) {own : String} {index : Nat} (hown : s.vm.findClass own = some m.cls) (w1 : (Cond.methodLink own index Jvm.Stand.acN).before a0 Z = true) (w2 : (Cond.native Jvm.Stand.acN).before a0 Z = true) (w3 : (Cond.static Jvm.Stand.acN).before a0 Z = true) (w4 : (Cond.initialized "java/lang/System").before a0 Z = true) (eT : T.heap = h) {a b : Addr} {k k' : ClassId} {ty ty' : FieldType} {z z' sp dp nn : Int32} {vs vd us vn : List Value} {dv dd : Value} (A : Arv Z h a k ty z vs dv) (B : Arv Z h b k' ty' z' vd dd) (hty : (ty = ty' ∧ refKind ty = false) ∨ (refKind ty = true ∧ refKind ty' = true ∧ StoL Z h b us)) {i j q : Nat} (h1 : sp = Int32.ofNat i) (h2 : dp = Int32.ofNat j) (h3 : nn = Int32.ofNat q) (hi : i < 2 ^ 31) (hj : j < 2 ^ 31) (hq : q < 2 ^ 31) (h4 : i + q ≤ z.toNatClampNeg) (h5 : j + q ≤ z'.toNatClampNeg) (hus : us = (List.range q).map fun y => vs.getD (i + y) dv) (hl : j + q ≤ vd.length) {n0 : Nat} (N : Fr n0 locs) (ge : n0 ≤ b) (hvn : vd.take j ++ us ++ vd.drop (j + q) = vn) (hsz : Ls.size = c.maxLocals) (hd : decode c.code pc = .ok (.invokestatic index, 3)) (hp : pc + 3 = n) (hf : 1 ≤ R.frames) {w : Nat} (hw : (sk.map fun v => v.category).sum ≤ w) (hlo : w + (nativeFrameWords "java/lang/System" "arraycopy" 5 + 11) ≤ R.locals)
    (kk : ∀ (T' : State) (h' : Heap) (L : List Loc), Stand p l e R s m args below meth c T' L cells slots → T'.heap = h' → Fr n0 L → Keep h h' [b] → Arv Z h' b k' ty' z' vn dd → Wk p e below E T' (mkF m n Ls sk)) : Wk p e below E T (mkF m pc Ls (.int nn :: .int dp :: .ref b :: .int sp :: .ref a :: sk)) := by
  subst hp hvn
  obtain ⟨e1, e1'⟩ := own_nn h1 hi
  obtain ⟨e2, e2'⟩ := own_nn h2 hj
  obtain ⟨e3, e3'⟩ := own_nn h3 hq
  obtain ⟨T', h', L, X', e', N', K', A', st'⟩ := RoadKit.cpA X hx hZ hown w1 w2 w3 w4 eT A B hty e1' e2' e3' (by rw [e1, e3]; exact h4) (by rw [e2, e3]; exact h5) (by rw [e1, e3]; exact hus) (by rw [e2, e3]; exact hl) N ge (g := mkF m pc Ls (.int nn :: .int dp :: .ref b :: .int sp :: .ref a :: sk)) rfl hsz rfl hd hf (W := w) (by show 2 * 0 + _ ≤ _; omega) hlo
  rw [e2, e3] at A'
  exact Wk.go st' (kk T' h' L X' e' N' K' A')
end Own
end Jvm.RoadKit
namespace Jvm.RoadKit
open Sem ClassFile Op Lib Bundle Jvm.Stand Jvm.Free Jvm.LawKit
section OwnEnter
variable {l : Launch} {Z : State} {h0 : Heap} {Q : Option Value → Heap → List Loc → Prop} {EL : List (String × Nat)}
abbrev rM (a b c d : Nat) : Room := { frames := a, cells := b, slots := c, locals := d }
abbrev MetN (l : Launch) (Z : State) (y : MethodName) (bytes : ByteArray) (maxL : Nat) (ret : Option FieldType) (ws : List Cond) (rm : Room) (A : Array Value) (h0 : Heap) (Q : Option Value → Heap → List Loc → Prop) : Prop := MetFree l y (head1 (Cond.code y bytes maxL ret :: ws) rm) (fun a U => a = A ∧ Z.Warmed39 U.vm ∧ U.heap = h0) (fun _ _ _ _ _ => True) (fun _ U o U' => ∃ v L, o = .returned v ∧ Q v U'.heap L ∧ FrameEnd U o U' L rm.cells rm.slots)
theorem enterN {y : MethodName} {bytes : ByteArray} {maxL : Nat} {ret : Option FieldType} {ws : List Cond} {rm : Room} {A : Array Value} {Ls : Array Slot} (hp : plainFor y = true) (ef : ∀ m, entryFrame m A maxL = mkF m 0 Ls [])
    (k : ∀ (p : Program) (e : Env) (s : State) (m : MethodId) (below : List Frame) (meth : Method) (c : Code) (s₁ : State), BodyLoose p l y (head1 (Cond.code y bytes maxL ret :: ws) rm) bytes maxL ret e s m A below meth c s₁ → Z.Warmed39 s.vm → p.tables.exec = Jvm.exec → (∀ {pc : Nat} {r : Except DecodeError (Instr × Nat)}, decode bytes pc = r → decode c.code pc = r) → meth.locks = false → c.maxLocals = maxL → s.vm.findClass y.cls = some m.cls → meth.name = y.name → Stand p l e rm s m A below meth c s₁ [] 0 0 → s₁.heap = h0 → Wk p e below (EndN s Q rm.cells rm.slots) s₁ (mkF m 0 Ls [])) :
    MetFree l y (head1 (Cond.code y bytes maxL ret :: ws) rm) (fun a U => a = A ∧ Z.Warmed39 U.vm ∧ U.heap = h0) (fun _ _ _ _ _ => True) (fun _ U o U' => ∃ v L, o = .returned v ∧ Q v U'.heap L ∧ FrameEnd U o U' L rm.cells rm.slots) := by
  refine MetFree.of_bodySF hp hisR ?_
  intro p e s m args below meth c s₁ Bd hml0 hP hK
  obtain ⟨rfl, hZ, hh⟩ := hP
  have q := k p e s m below meth c s₁ Bd hZ Bd.exec (fun q => hb Bd.bytes q) (BodyLoose.notSynchronized Bd) hml0 (findClass_of_methodNamed Bd.named) (name_of_methodNamed Bd.named Bd.method).1 (Stand.of_body Bd) (by rw [← hh, Bd.state]; rfl)
  rw [← ef] at q
  exact q
abbrev LsOk (c : Code) (Ls : Array Slot) : Prop := Ls.size = c.maxLocals
theorem lsok {c : Code} {Ls : Array Slot} {n : Nat} (h : c.maxLocals = n) (q : Ls.size = n) : LsOk c Ls := q.trans h.symm
theorem leq0 {a b : Nat} (h : a = b) : 2 * 0 + a ≤ b := by omega
end OwnEnter
end Jvm.RoadKit
namespace Jvm.RoadKit
open Sem ClassFile Op Lib Bundle Jvm.Stand Jvm.Free Jvm.LawKit Jvm.Free.SB Jvm.Free.SBG
section OwnWide
variable {p : Program} {l : Launch} {e : Env} {R : Room} {s u : State} {m : MethodId} {args : Array Value} {below : List Frame} {meth : Method} {c : Code} {T T' : State} {locs : List Loc} {cells slots : Nat} {g g' : JFrame} {Qf : Option Value → Heap → List Loc → Prop} {E : Outcome → State → Prop} {C S : Nat} {Z : State} {a0 : Array Value} {h h0 : Heap} {pc n : Nat} {Ls : Array Slot} {sk : List Value} {EL : List (String × Nat)} {own text : String} {index k0 : Nat}
/-- the base of the Stand at hand: the true start with the tables at hand -/
def Base (s u : State) (k : Nat) : Prop := u = s.setVm u.vm ∧ s.Since u.vm k
theorem Base.start (s : State) (k : Nat) : Base s s k := ⟨rfl, (State.WarmedH.refl s).since k⟩
def EndW (Z : State) (EL : List (String × Nat)) (s : State) (Qf : Option Value → Heap → List Loc → Prop) (C S : Nat) : Outcome → State → Prop := fun o s₂ => ∃ v L, o = .returned v ∧ Qf v s₂.heap L ∧ CHr Z EL s.vm s.heap s₂.vm s₂.heap ∧ ReturnedEndW s o s₂ L C S
theorem Wk.leaveW (X : Stand p l e R u m args below meth c T locs cells slots) (hB : Base s u k0) (hk : k0 ≤ h.size) {v : Option Value} (hv : meth.sig.returnType = none → v = none) (hlocks : meth.locks = false) (eT : T.heap = h) (hh : s.heap = h0) (hQ : Qf v h locs) (hZ : Z.Warmed39 u.vm) (hEL : EW Z a0 EL) (hR : CHr Z EL s.vm h0 u.vm h) (hC : cells ≤ C) (hS : slots ≤ S)
    (k : ∀ fs, (∀ (f : JFrame) (acts : List Action), f.method = m → f.locked = none → f.entered = [] → (doReturn e (T.setTop f) acts v).1 = T.setFrames fs) → Steps p.tables e below (T.setTop g) (T.setFrames fs)) : Wk p e below (EndW Z EL s Qf C S) T g := by
  subst eT hh
  obtain ⟨hu, hSi⟩ := hB
  have X2 : Stand p l e R (s.setVm u.vm) m args below meth c T locs cells slots := hu ▸ X
  obtain ⟨fs, hr, hrun, hended, h1, h2, h3, h4⟩ := X2.leaveW hSi hk hv hlocks
  have q : CHr Z EL s.vm s.heap T.vm T.heap := hR.trans (CHv.at X2 hZ hEL hR.1)
  exact ⟨_, _, k fs hr, hrun, hended, _, _, rfl, hQ, q, h1, h2, h3, h4.mono hC hS⟩
/-- ldc of a constant of EL, read -/
theorem Wk.ldcL (X : Stand p l e R u m args below meth c T locs cells slots) (hx : p.tables.exec = Jvm.exec) (hZ : Z.Warmed39 u.vm) (hown : u.vm.findClass own = some m.cls) (w : (Cond.stringLink own index text).before a0 Z = true) (wS : ∀ a ∈ Bundle.stringAtoms, a.before a0 Z = true)
    (eT : T.heap = h) (hB : Base s u k0) (hk : k0 ≤ h.size) (hEL : EW Z a0 EL) (hmem : (own, index) ∈ EL) (hR : CHr Z EL s.vm h0 u.vm h)
    {vs : List Value} {z : Int32} (ht : (∀ c ∈ text.toList, c.toNat < 256) ∧ text.toList.map (fun c => Value.int (Jvm.Lit.byteI c.toNat.toUInt16)) = vs) (hz : ¬ z < 0) (hl : z.toNatClampNeg = vs.length)
    (hd : decode c.code pc = .ok (.ldc index, 2)) (hp : pc + 2 = n) {nn : Nat} (hn : 4 * text.toList.length ≤ nn) (hbig : nn ≤ 536870912) (hc : cells + 2 ≤ R.cells) (hl' : slots + (nn + 4) ≤ R.slots)
    (kk : ∀ (u' T' : State) (h' : Heap) (a b : Addr) (k : ClassId), Stand p l e R u' m args below meth c T' locs (cells + 2) (slots + (nn + 4)) → T'.heap = h' → Ext h h' → Base s u' h'.size → Z.Warmed39 u'.vm → u'.vm.findClass own = some m.cls →
      Exa Z h' a "java/lang/String" → Fld Z h' a "java/lang/String" "coder" "B" (.int 0) → Fld Z h' a "java/lang/String" "value" "[B" (.ref b) → Arv Z h' b k .byte z vs (.int 0) → CHr Z EL u.vm h u'.vm h' → CHr Z EL s.vm h0 u'.vm h' → (∀ x, Safe Z EL u'.vm h' x → x ≠ a ∧ x ≠ b) → Wk p e below E T' (mkF m n Ls (.ref a :: sk))) :
    Wk p e below E T (mkF m pc Ls sk) := by
  subst hp
  obtain ⟨hu, hSi⟩ := hB
  have X2 : Stand p l e R (s.setVm u.vm) m args below meth c T locs cells slots := hu ▸ X
  obtain ⟨a, T', h', k1, b, k, X', e', Ex, hS', hk', hZ', hf', A, F1, F2, V, -, -, hC, -, hne, st⟩ := ldcCH X2 hx hZ hown w wS eT hSi hk hEL hmem hR.1 ht hz hl (g := mkF m pc Ls sk) rfl hd hn hbig hc hl'
  exact Wk.go st (kk (s.setVm T'.vm) T' h' a b k X' e' Ex ⟨rfl, hS'.1, fun j q h1 h2 => ⟨(hS'.2 j q h1 h2).1, Nat.lt_of_lt_of_le (hS'.2 j q h1 h2).2 hk'⟩⟩ hZ' hf' A F1 F2 V hC (hR.trans hC) hne)
/-- a callee that may load constants and keeps the invariant; what it may write is safe -/
theorem backWd {y : MethodName} {bytes : ByteArray} {maxL : Nat} {ret : Option FieldType} {rm : Room} {len W : Nat} {as' : Array Value} {Q : Option Value → Heap → List Loc → Prop} {ss : List Addr}
    (hM : MetFree l y (head1 [Cond.code y bytes maxL ret] rm) (fun a U => a = as' ∧ Z.Warmed39 U.vm ∧ U.heap = h ∧ CHv Z EL U.vm h ∧ ∀ x ∈ ss, Safe Z EL U.vm h x) (fun _ _ _ _ _ => True) (fun _ U o U' => ∃ v L, o = .returned v ∧ Q v U'.heap L ∧ CHr Z EL U.vm U.heap U'.vm U'.heap ∧ ReturnedEndW U o U' L rm.cells rm.slots))
    (hZ : Z.Warmed39 u.vm) (wc : (Cond.code y bytes maxL ret).before a0 Z = true) (wz : (Cond.initialized y.cls).before a0 Z = true) (hf : rm.frames + 1 ≤ R.frames) (hl : W + (maxL + 11) + rm.locals ≤ R.locals) (hEL : EW Z a0 EL) (H : CHv Z EL u.vm h) (hlt : ∀ x ∈ ss, x < h.size) (hs : ∀ x ∈ ss, Safe Z EL u.vm h x) :
    BackS l R p e below u args y len W (fun A a => a = as' ∧ A.U.heap = h ∧ A.cells + rm.cells ≤ R.cells ∧ A.slots + rm.slots ≤ R.slots)
      (fun A _ v B => ∃ L, Q v B.U.heap L ∧ B.locs = A.locs ++ L ∧ B.cells = A.cells + rm.cells ∧ B.slots = A.slots + rm.slots ∧ CHr Z EL u.vm h B.U.vm B.U.heap) :=
  BackS.of_freeW (bytes := bytes) (maxL := maxL) (ret := ret) (E := fun _ first o t L k n => k = rm.cells ∧ n = rm.slots ∧ (∃ v, o = .returned v ∧ Q v t.heap L) ∧ CHr Z EL first.vm first.heap t.vm t.heap) hM hf hl
    (fun m meth c A a Y hp => have hU : Z.Warmed39 A.U.vm := wtrans hZ Y.warmed
      ⟨by show (Cond.and _ .tt).before a A.U = true; rw [Cond.before_and, mv hU wc]; rfl, mv hU wc, mv hU wz, hp.2.2.1, hp.2.2.2⟩)
    (fun m meth c A a g mk Y hp => have q := CHv.at (s := u) (vm0 := u.vm) Y hZ hEL H
      ⟨hp.1, wtrans hZ Y.warmed, hp.2.1, q.1, fun x hx => q.safe (hlt x hx) (hs x hx)⟩) (fun _ _ _ _ _ _ _ _ _ => trivial)
    (fun _ _ _ _ ⟨v, L, h1, h2, h3, h4⟩ => ⟨L, _, _, h4, rfl, rfl, ⟨v, h1, h2⟩, h3⟩)
    (fun m meth c A a g mk v t L k n Y hp _ _ ⟨e1, e2, ⟨v', e3, e4⟩, e5⟩ => by
      cases e3; subst e1 e2
      refine ⟨L, e4, rfl, rfl, rfl, (CHv.at (s := u) (vm0 := u.vm) Y hZ hEL H).trans ?_⟩
      rw [← hp.2.1]; exact e5)
theorem Wk.backW {rc rs : Nat} {Q : Option Value → Heap → List Loc → Prop} {rest : List Value} (eT : T.heap = h) (hB : Base s u k0) (hk : k0 ≤ h.size) (hZ : Z.Warmed39 u.vm) (hown : u.vm.findClass own = some m.cls) (hR : CHr Z EL s.vm h0 u.vm h)
    (call : ∃ (v : Option Value) (vm₁ : Vm) (B : Pt), u.WarmedH vm₁ ∧ Stand p l e R (u.setVm B.U.vm) m args below meth c B.U B.locs B.cells B.slots ∧ u.Since B.U.vm B.U.heap.size ∧ T.heap.size ≤ B.U.heap.size ∧ (∃ L, Q v B.U.heap L ∧ B.locs = locs ++ L ∧ B.cells = cells + rc ∧ B.slots = slots + rs ∧ CHr Z EL u.vm h B.U.vm B.U.heap) ∧ Steps p.tables e below (T.setTop (mkF m pc Ls sk)) (B.U.setTop (mkF m n Ls (v.toList ++ rest))))
    (kk : ∀ (v : Option Value) (u' T' : State) (L : List Loc), Stand p l e R u' m args below meth c T' (locs ++ L) (cells + rc) (slots + rs) → Base s u' T'.heap.size → Z.Warmed39 u'.vm → u'.vm.findClass own = some m.cls → CHr Z EL u.vm h u'.vm T'.heap → CHr Z EL s.vm h0 u'.vm T'.heap → Q v T'.heap L → Wk p e below E T' (mkF m n Ls (v.toList ++ rest))) :
    Wk p e below E T (mkF m pc Ls sk) := by
  obtain ⟨v, _, ⟨T', L', c', s'⟩, -, X', h2, hg, ⟨L, hQ, q1, q2, q3, hA⟩, k⟩ := call
  dsimp only [Pt.U, Pt.locs, Pt.cells, Pt.slots] at X' h2 hg q1 q2 q3 k hQ hA
  subst q1 q2 q3 eT
  obtain ⟨hu, hSi⟩ := hB
  have X2 : Stand p l e R ((s.setVm u.vm).setVm T'.vm) m args below meth c T' (locs ++ L) (cells + rc) (slots + rs) := hu ▸ X'
  have h3 : (s.setVm u.vm).Since T'.vm T'.heap.size := hu ▸ h2
  obtain ⟨X3, hS3, hZ3, ho3⟩ := rebS hSi hk X2 h3 hg (Z := Z) (own := own) hZ hown
  exact Wk.go (fun _ r => k.trans r) (kk v (s.setVm T'.vm) T' L X3 ⟨rfl, hS3⟩ hZ3 ho3 hA (hR.trans hA) hQ)
abbrev MetW (l : Launch) (Z : State) (y : MethodName) (bytes : ByteArray) (maxL : Nat) (ret : Option FieldType) (ws : List Cond) (rm : Room) (A : Array Value) (h0 : Heap) (Q : Option Value → Heap → List Loc → Prop) (EL : List (String × Nat)) (ss : List Addr) : Prop := MetFree l y (head1 (Cond.code y bytes maxL ret :: ws) rm) (fun a U => a = A ∧ Z.Warmed39 U.vm ∧ U.heap = h0 ∧ CHv Z EL U.vm h0 ∧ ∀ x ∈ ss, Safe Z EL U.vm h0 x) (fun _ _ _ _ _ => True) (fun _ U o U' => ∃ v L, o = .returned v ∧ Q v U'.heap L ∧ CHr Z EL U.vm U.heap U'.vm U'.heap ∧ ReturnedEndW U o U' L rm.cells rm.slots)
theorem enterW {Q : Option Value → Heap → List Loc → Prop} {y : MethodName} {bytes : ByteArray} {maxL : Nat} {ret : Option FieldType} {ws : List Cond} {rm : Room} {A : Array Value} {Ls : Array Slot} {ss : List Addr} (hp : plainFor y = true) (ef : ∀ m, entryFrame m A maxL = mkF m 0 Ls [])
    (k : ∀ (p : Program) (e : Env) (s : State) (m : MethodId) (below : List Frame) (meth : Method) (c : Code) (s₁ : State), BodyLoose p l y (head1 (Cond.code y bytes maxL ret :: ws) rm) bytes maxL ret e s m A below meth c s₁ → Z.Warmed39 s.vm → p.tables.exec = Jvm.exec → (∀ {pc : Nat} {r : Except DecodeError (Instr × Nat)}, decode bytes pc = r → decode c.code pc = r) → meth.locks = false → c.maxLocals = maxL → s.vm.findClass y.cls = some m.cls → meth.name = y.name → Stand p l e rm s m A below meth c s₁ [] 0 0 → s₁.heap = h0 → s.heap = h0 → CHv Z EL s.vm h0 → (∀ x ∈ ss, Safe Z EL s.vm h0 x) → Wk p e below (EndW Z EL s Q rm.cells rm.slots) s₁ (mkF m 0 Ls [])) :
    MetFree l y (head1 (Cond.code y bytes maxL ret :: ws) rm) (fun a U => a = A ∧ Z.Warmed39 U.vm ∧ U.heap = h0 ∧ CHv Z EL U.vm h0 ∧ ∀ x ∈ ss, Safe Z EL U.vm h0 x) (fun _ _ _ _ _ => True) (fun _ U o U' => ∃ v L, o = .returned v ∧ Q v U'.heap L ∧ CHr Z EL U.vm U.heap U'.vm U'.heap ∧ ReturnedEndW U o U' L rm.cells rm.slots) := by
  refine MetFree.of_bodySF hp hisR ?_
  intro p e s m args below meth c s₁ Bd hml0 hP hK
  obtain ⟨rfl, hZ, hh, hCH, hSf⟩ := hP
  have q := k p e s m below meth c s₁ Bd hZ Bd.exec (fun q => hb Bd.bytes q) (BodyLoose.notSynchronized Bd) hml0 (findClass_of_methodNamed Bd.named) (name_of_methodNamed Bd.named Bd.method).1 (Stand.of_body Bd) (by rw [← hh, Bd.state]; rfl) hh hCH hSf
  rw [← ef] at q
  exact q
end OwnWide
end Jvm.RoadKit
/- laws to paste: Road.backV, Road.lenW, Road.chN, Road.codOf (cut by pick.py; bodies as the Statement names them) -/
namespace Jvm.Pilot.@@N@@
namespace StrChars
open Jvm Sem ClassFile Op Lib Jvm.Stand Jvm.Free.XT Jvm.Free.ALB Jvm.Free.JM Jvm.Free
open Jvm.Lib.Cold (StaticIs)
/-- a char array whose places are chars -/
def Ch (a : Addr) (A : Cell) (U : State) : Prop := Arr .char a A U ∧ Typed .char A
theorem Ch.mv {a : Addr} {A : Cell} {U U' : State} (h : Ch a A U) (hal : U.vm.Alike U'.vm) (hh : U'.heap = U.heap) : Ch a A U' := ⟨h.1.mv hal hh, h.2⟩
theorem Ch.keep {a : Addr} {A : Cell} {U U' : State} (h : Ch a A U) (hal : U.vm.Alike U'.vm) (hk : U'.heap[a]? = some A) : Ch a A U' := ⟨h.1.keep hal hk, h.2⟩
/-- what place i of a char[]'s cell holds -/
def cv (A : Cell) (i : Nat) : Int32 := match A.slots[i]? with | some (.int x) => x | _ => 0
theorem Ch.get {a : Addr} {A : Cell} {U : State} (h : Ch a A U) {i : Nat} (hi : i < A.slots.size) : A.slots[i]? = some (.int (cv A i)) := by
  have e := Array.getElem?_eq_getElem hi
  have f := h.2 i _ e
  unfold cv; rw [e]
  generalize A.slots[i] = v at f
  cases v <;> simp [fits] at f ⊢
/-- the byte that i2b leaves of a char -/
def lo8 (x : Int32) : Int32 := x.toInt8.toInt32
theorem fits_lo8 (y : Int32) : fits .byte (.int (lo8 y)) = true := by
  have h1 := y.toInt8.le_toInt
  have h2 := y.toInt8.toInt_lt
  simp only [lo8, fits, Bool.and_eq_true, decide_eq_true_eq, Int32.le_iff_toInt_le, Int8.toInt_toInt32, show (-128 : Int32).toInt = -128 from by decide, show (127 : Int32).toInt = 127 from by decide]
  omega
/-- A' is A but that each place j of lo .. hi - 1 holds f j -/
def Laid (A A' : Cell) (lo hi : Nat) (f : Nat → Value) : Prop := A'.cls = A.cls ∧ A'.vm = A.vm ∧ A'.slots.size = A.slots.size ∧ ∀ i, A'.slots[i]? = if lo ≤ i ∧ i < hi then some (f i) else A.slots[i]?
theorem Laid.zero (A : Cell) (lo : Nat) (f : Nat → Value) : Laid A A lo (lo + 0) f := ⟨rfl, rfl, rfl, fun i => by rw [if_neg (by omega)]⟩
theorem Laid.step {A Ak : Cell} {lo k : Nat} {f : Nat → Value} {v : Value} (h : Laid A Ak lo k f) (hlo : lo ≤ k) (hk : k < Ak.slots.size) (hv : v = f k) : Laid A (Ak.setSlot k v) lo (k + 1) f := by
  refine ⟨h.1, h.2.1, by simpa [Cell.setSlot] using h.2.2.1, fun i => ?_⟩
  by_cases e : k = i
  · subst e; rw [Cell.slots_setSlot_self v hk, if_pos (by omega), hv]
  · rw [Cell.slots_setSlot_ne v e, h.2.2.2 i]
    by_cases q : lo ≤ i ∧ i < k
    · rw [if_pos q, if_pos (by omega)]
    · rw [if_neg q, if_neg (by omega)]
def U16 : String := "java/lang/StringUTF16"
namespace Cmp5
def yN : MethodName := ⟨"java/lang/StringUTF16", "compress", "([CI[BII)I"⟩
abbrev yB : ByteArray := jdk_52_method_21_code
theorem d0 : decode yB 0 = .ok (.iconst 0, 1) := by decide +kernel
theorem d1 : decode yB 1 = .ok (.istore 5, 2) := by decide +kernel
theorem d3 : decode yB 3 = .ok (.iload 5, 2) := by decide +kernel
theorem d5 : decode yB 5 = .ok (.iload 4, 2) := by decide +kernel
theorem d7 : decode yB 7 = .ok (.if_icmp (.ge) 37, 3) := by decide +kernel
theorem d10 : decode yB 10 = .ok (.aload_n 0, 1) := by decide +kernel
theorem d11 : decode yB 11 = .ok (.iload_n 1, 1) := by decide +kernel
theorem d12 : decode yB 12 = .ok (.caload, 1) := by decide +kernel
theorem d13 : decode yB 13 = .ok (.istore 6, 2) := by decide +kernel
theorem d15 : decode yB 15 = .ok (.iload 6, 2) := by decide +kernel
theorem d17 : decode yB 17 = .ok (.sipush 255, 3) := by decide +kernel
theorem d20 : decode yB 20 = .ok (.if_icmp (.le) 6, 3) := by decide +kernel
theorem d26 : decode yB 26 = .ok (.aload_n 2, 1) := by decide +kernel
theorem d27 : decode yB 27 = .ok (.iload_n 3, 1) := by decide +kernel
theorem d28 : decode yB 28 = .ok (.iload 6, 2) := by decide +kernel
theorem d30 : decode yB 30 = .ok (.i2b, 1) := by decide +kernel
theorem d31 : decode yB 31 = .ok (.bastore, 1) := by decide +kernel
theorem d32 : decode yB 32 = .ok (.iinc 1 1, 3) := by decide +kernel
theorem d35 : decode yB 35 = .ok (.iinc 3 1, 3) := by decide +kernel
theorem d38 : decode yB 38 = .ok (.iinc 5 1, 3) := by decide +kernel
theorem d41 : decode yB 41 = .ok (.goto (-38), 3) := by decide +kernel
theorem d44 : decode yB 44 = .ok (.iload 4, 2) := by decide +kernel
theorem d46 : decode yB 46 = .ok (.ireturn, 1) := by decide +kernel
def site : List Cond := []
def tab : Cond := tabOf yN yB 7 (some .int) site
def P (b : Addr) (A : Cell) (d : Addr) (B : Cell) (o q len : Nat) (args : Array Value) (s : State) : Prop := args = #[.ref b, .int (Int32.ofNat o), .ref d, .int (Int32.ofNat q), .int (Int32.ofNat len)] ∧ Ch b A s ∧ Arr .byte d B s ∧ b ≠ d ∧ o + len ≤ A.slots.size ∧ q + len ≤ B.slots.size ∧ ∀ i, i < len → ¬ 255 < cv A (o + i)
def E (b : Addr) (A : Cell) (d : Addr) (B : Cell) (o q len : Nat) (r : Option Value) (s u : State) : Prop := r = some (.int (Int32.ofNat len)) ∧ ∃ B', Put d B' s u ∧ Laid B B' q (q + len) (fun j => Value.int (lo8 (cv A (o + (j - q)))))
/-- no char of the range above 255: len; the places written hold each char's low byte -/
theorem law (l : Launch) (b : Addr) (A : Cell) (d : Addr) (B : Cell) (o q len : Nat) : Law l yN 5 5 0 0 yB 7 (some .int) site (P b A d B o q len) (E b A d B o q len) (copyLocs d q len) 0 0 := by
  refine Law.of_walk (plainFor_of_name (by decide +kernel)) (by decide +kernel) (by decide +kernel) (by decide) (fun _ _ h => by rw [h.1]; rfl) (fun _ U U' hal hh h => ⟨h.1, h.2.1.mv hal hh, h.2.2.1.mv hal hh, h.2.2.2⟩) (fun r U U' V V' h1 hal h2 h => ⟨h.1, h.2.elim fun B' q => ⟨B', q.1.mv h1 h2, q.2⟩⟩) ?_
  intro p e s m args below meth c s₁ X0 hexec hbytes hml hret hlk hnm hown hh0 W hP
  obtain ⟨rfl, hA, hB, hne, l1, l2, hp⟩ := hP
  have c1 : Steps p.tables e below (s₁.setTop (entryFrame m #[.ref b, .int (Int32.ofNat o), .ref d, .int (Int32.ofNat q), .int (Int32.ofNat len)] 7)) (s₁.setTop (mkF m 0 #[.val (.ref b), .val (.int (Int32.ofNat o)), .val (.ref d), .val (.int (Int32.ofNat q)), .val (.int (Int32.ofNat len)), .unset, .unset] [])) := entry rfl
  have hA0 := hA.1.mv X0.warmed.alike hh0
  have hB0 := hB.mv X0.warmed.alike hh0
  have a31 := hA.1.2.2.2
  have c2 : Steps p.tables e below (s₁.setTop (entryFrame m #[.ref b, .int (Int32.ofNat o), .ref d, .int (Int32.ofNat q), .int (Int32.ofNat len)] 7)) (s₁.setTop (mkF m 3 #[.val (.ref b), .val (.int (Int32.ofNat o)), .val (.ref d), .val (.int (Int32.ofNat q)), .val (.int (Int32.ofNat len)), .val (.int 0), .unset] [])) := c1.trans (by
    refine iconstV X0.here hexec rfl 0 (hb hbytes d0) (by decide) ?_
    refine XS.istore X0.here hexec rfl (hb hbytes d1) rfl rfl ?_
    exact Steps.refl _)
  have loop : ∀ (r i : Nat), i + r = len → ∀ (z : Slot), (z = .unset ∨ ∃ w, z = .val w ∧ w.category = 1) → ∀ (Tl : State) (Bk : Cell), Stand p l e { frames := 0, locals := 0, cells := 0, slots := 0 } s m #[.ref b, .int (Int32.ofNat o), .ref d, .int (Int32.ofNat q), .int (Int32.ofNat len)] below meth c Tl ([] ++ copyLocs d q i) 0 0 → Put d Bk s₁ Tl → Laid B Bk q (q + i) (fun j => Value.int (lo8 (cv A (o + (j - q))))) →
      Steps p.tables e below (s₁.setTop (entryFrame m #[.ref b, .int (Int32.ofNat o), .ref d, .int (Int32.ofNat q), .int (Int32.ofNat len)] 7)) (Tl.setTop (mkF m 3 #[.val (.ref b), .val (.int (Int32.ofNat (o + i))), .val (.ref d), .val (.int (Int32.ofNat (q + i))), .val (.int (Int32.ofNat len)), .val (.int (Int32.ofNat i)), z] [])) → ∃ (T' : State) (B' : Cell) (z' : Slot), Stand p l e { frames := 0, locals := 0, cells := 0, slots := 0 } s m #[.ref b, .int (Int32.ofNat o), .ref d, .int (Int32.ofNat q), .int (Int32.ofNat len)] below meth c T' ([] ++ copyLocs d q len) 0 0 ∧ Put d B' s₁ T' ∧ Laid B B' q (q + len) (fun j => Value.int (lo8 (cv A (o + (j - q))))) ∧
      Steps p.tables e below (s₁.setTop (entryFrame m #[.ref b, .int (Int32.ofNat o), .ref d, .int (Int32.ofNat q), .int (Int32.ofNat len)] 7)) (T'.setTop (mkF m 3 #[.val (.ref b), .val (.int (Int32.ofNat (o + len))), .val (.ref d), .val (.int (Int32.ofNat (q + len))), .val (.int (Int32.ofNat len)), .val (.int (Int32.ofNat len)), z'] [])) := by
    intro r
    induction r with
    | zero =>
      intro i hi z hz Tl Bk Xl pl fl cl
      have hil : i = len := by omega
      rw [hil] at Xl fl cl
      exact ⟨Tl, Bk, z, Xl, pl, fl, cl⟩
    | succ r ih =>
      intro i hi z hz Tl Bk Xl pl fl cl
      have all := X0.warmed.alike.symm.trans Xl.warmed.alike
      have hAl := hA0.keep all (pl.other hne hA0.1)
      have hBk := hB0.like all pl.1 fl.1 fl.2.1 fl.2.2.1
      have hlt : q + i < Bk.slots.size := by rw [fl.2.2.1]; omega
      have c3 : Steps p.tables e below (s₁.setTop (entryFrame m #[.ref b, .int (Int32.ofNat o), .ref d, .int (Int32.ofNat q), .int (Int32.ofNat len)] 7)) (Tl.setTop (mkF m 12 #[.val (.ref b), .val (.int (Int32.ofNat (o + i))), .val (.ref d), .val (.int (Int32.ofNat (q + i))), .val (.int (Int32.ofNat len)), .val (.int (Int32.ofNat i)), z] [.int (Int32.ofNat (o + i)), .ref b])) := cl.trans (by
        refine XS.iload Xl.here hexec rfl (hb hbytes d3) rfl ?_
        refine XS.iload Xl.here hexec rfl (hb hbytes d5) rfl ?_
        refine XS.icmpNo Xl.here hexec rfl (hb hbytes d7) rfl (ii_ge_f (lt32 (by omega) (by omega))) ?_
        refine XS.aloadN Xl.here hexec rfl (hb hbytes d10) rfl rfl ?_
        refine XS.iloadN Xl.here hexec rfl (hb hbytes d11) rfl ?_
        exact Steps.refl _)
      have c4 : Steps p.tables e below (s₁.setTop (entryFrame m #[.ref b, .int (Int32.ofNat o), .ref d, .int (Int32.ofNat q), .int (Int32.ofNat len)] 7)) (Tl.setTop (mkF m 13 #[.val (.ref b), .val (.int (Int32.ofNat (o + i))), .val (.ref d), .val (.int (Int32.ofNat (q + i))), .val (.int (Int32.ofNat len)), .val (.int (Int32.ofNat i)), z] [.int (cv A (o + i))])) := c3.trans (by
        refine Xl.aget hexec hAl rfl (hA.get (i := o + i) (by omega)) rfl rfl (hb hbytes d12) ?_
        exact Steps.refl _)
      have c5 : Steps p.tables e below (s₁.setTop (entryFrame m #[.ref b, .int (Int32.ofNat o), .ref d, .int (Int32.ofNat q), .int (Int32.ofNat len)] 7)) (Tl.setTop (mkF m 15 #[.val (.ref b), .val (.int (Int32.ofNat (o + i))), .val (.ref d), .val (.int (Int32.ofNat (q + i))), .val (.int (Int32.ofNat len)), .val (.int (Int32.ofNat i)), .val (.int (cv A (o + i)))] [])) := c4.trans (by
        refine XS.istoreS Xl.here hexec rfl (hb hbytes d13) rfl rfl hz ?_
        exact Steps.refl _)
      have c6 : Steps p.tables e below (s₁.setTop (entryFrame m #[.ref b, .int (Int32.ofNat o), .ref d, .int (Int32.ofNat q), .int (Int32.ofNat len)] 7)) (Tl.setTop (mkF m 31 #[.val (.ref b), .val (.int (Int32.ofNat (o + i))), .val (.ref d), .val (.int (Int32.ofNat (q + i))), .val (.int (Int32.ofNat len)), .val (.int (Int32.ofNat i)), .val (.int (cv A (o + i)))] [.int (lo8 (cv A (o + i))), .int (Int32.ofNat (q + i)), .ref d])) := c5.trans (by
        refine XS.iload Xl.here hexec rfl (hb hbytes d15) rfl ?_
        refine sipushV Xl.here hexec rfl 255 (hb hbytes d17) (by decide) ?_
        refine XS.icmpYes Xl.here hexec rfl (pc0 := 20) rfl (hb hbytes d20) rfl (ii_le_t (hp i (by omega))) (by decide) rfl ?_
        refine XS.aloadN Xl.here hexec rfl (hb hbytes d26) rfl rfl ?_
        refine XS.iloadN Xl.here hexec rfl (hb hbytes d27) rfl ?_
        refine XS.iload Xl.here hexec rfl (hb hbytes d28) rfl ?_
        refine i2b Xl.here hexec rfl (hb hbytes d30) rfl ?_
        exact Steps.refl _)
      obtain ⟨T7, X7, p7, st7⟩ := Xl.aput hexec hBk rfl hlt rfl (fits_lo8 (cv A (o + i))) (g := (mkF m 31 #[.val (.ref b), .val (.int (Int32.ofNat (o + i))), .val (.ref d), .val (.int (Int32.ofNat (q + i))), .val (.int (Int32.ofNat len)), .val (.int (Int32.ofNat i)), .val (.int (cv A (o + i)))] [.int (lo8 (cv A (o + i))), .int (Int32.ofNat (q + i)), .ref d])) rfl (rest := []) rfl (hb hbytes d31)
      have c8 : Steps p.tables e below (s₁.setTop (entryFrame m #[.ref b, .int (Int32.ofNat o), .ref d, .int (Int32.ofNat q), .int (Int32.ofNat len)] 7)) (T7.setTop (mkF m 32 #[.val (.ref b), .val (.int (Int32.ofNat (o + i))), .val (.ref d), .val (.int (Int32.ofNat (q + i))), .val (.int (Int32.ofNat len)), .val (.int (Int32.ofNat i)), .val (.int (cv A (o + i)))] [])) := c6.trans (st7 _ (Steps.refl _))
      have c9 : Steps p.tables e below (s₁.setTop (entryFrame m #[.ref b, .int (Int32.ofNat o), .ref d, .int (Int32.ofNat q), .int (Int32.ofNat len)] 7)) (T7.setTop (mkF m 3 #[.val (.ref b), .val (.int (Int32.ofNat (o + i) + 1)), .val (.ref d), .val (.int (Int32.ofNat (q + i) + 1)), .val (.int (Int32.ofNat len)), .val (.int (Int32.ofNat i + 1)), .val (.int (cv A (o + i)))] [])) := c8.trans (by
        refine iincV X7.here hexec rfl 1 (hb hbytes d32) (by decide) rfl rfl ?_
        refine iincV X7.here hexec rfl 1 (hb hbytes d35) (by decide) rfl rfl ?_
        refine iincV X7.here hexec rfl 1 (hb hbytes d38) (by decide) rfl rfl ?_
        refine XS.goto X7.here hexec rfl (pc0 := 41) rfl (hb hbytes d41) (by decide) rfl ?_
        exact Steps.refl _)
      have c10 : Steps p.tables e below (s₁.setTop (entryFrame m #[.ref b, .int (Int32.ofNat o), .ref d, .int (Int32.ofNat q), .int (Int32.ofNat len)] 7)) (T7.setTop (mkF m 3 #[.val (.ref b), .val (.int (Int32.ofNat (o + (i + 1)))), .val (.ref d), .val (.int (Int32.ofNat (q + (i + 1)))), .val (.int (Int32.ofNat len)), .val (.int (Int32.ofNat (i + 1))), .val (.int (cv A (o + i)))] [])) := by
        have := c9
        rw [succ32, succ32, succ32] at this
        exact this
      exact ih (i + 1) (by omega) _ (Or.inr ⟨_, rfl, rfl⟩) T7 _ (by rw [copyLocs_step, ← List.append_assoc]; exact X7) (pl.trans p7) (fl.step (by omega) hlt (by simp)) c10
  obtain ⟨T9, B9, z9, X9, p9, f9, g9⟩ := loop len 0 (by omega) .unset (Or.inl rfl) s₁ B (by simpa [copyLocs] using X0) ⟨hB0.1, fun _ _ => rfl, rfl⟩ (Laid.zero _ _ _) c2
  have c11 : Steps p.tables e below (s₁.setTop (entryFrame m #[.ref b, .int (Int32.ofNat o), .ref d, .int (Int32.ofNat q), .int (Int32.ofNat len)] 7)) (T9.setTop (mkF m 46 #[.val (.ref b), .val (.int (Int32.ofNat (o + len))), .val (.ref d), .val (.int (Int32.ofNat (q + len))), .val (.int (Int32.ofNat len)), .val (.int (Int32.ofNat len)), z9] [.int (Int32.ofNat len)])) := g9.trans (by
    refine XS.iload X9.here hexec rfl (hb hbytes d3) rfl ?_
    refine XS.iload X9.here hexec rfl (hb hbytes d5) rfl ?_
    refine XS.icmpYes X9.here hexec rfl (pc0 := 7) rfl (hb hbytes d7) rfl (ii_ge_t (nlt32 (by omega) (Nat.le_refl _))) (by decide) rfl ?_
    refine XS.iload X9.here hexec rfl (hb hbytes d44) rfl ?_
    exact Steps.refl _)
  exact ⟨T9, some (.int (Int32.ofNat len)), _, _, _, X9, by simp, rfl, rfl, (fun h => by cases h), ⟨rfl, B9, p9.from hh0, f9⟩, fun fs hl => c11.trans (X9.ireturnOut hexec hret rfl (Or.inl rfl) (hb hbytes d46) hl)⟩
end Cmp5
namespace Cmp3
def yN : MethodName := ⟨"java/lang/StringUTF16", "compress", "([CII)[B"⟩
abbrev yB : ByteArray := jdk_52_method_16_code
theorem d0 : decode yB 0 = .ok (.iload_n 2, 1) := by decide +kernel
theorem d1 : decode yB 1 = .ok (.newarray .byte, 2) := by decide +kernel
theorem d3 : decode yB 3 = .ok (.astore_n 3, 1) := by decide +kernel
theorem d4 : decode yB 4 = .ok (.aload_n 0, 1) := by decide +kernel
theorem d5 : decode yB 5 = .ok (.iload_n 1, 1) := by decide +kernel
theorem d6 : decode yB 6 = .ok (.aload_n 3, 1) := by decide +kernel
theorem d7 : decode yB 7 = .ok (.iconst 0, 1) := by decide +kernel
theorem d8 : decode yB 8 = .ok (.iload_n 2, 1) := by decide +kernel
theorem d9 : decode yB 9 = .ok (.invokestatic 115, 3) := by decide +kernel
theorem d12 : decode yB 12 = .ok (.istore 4, 2) := by decide +kernel
theorem d14 : decode yB 14 = .ok (.iload 4, 2) := by decide +kernel
theorem d16 : decode yB 16 = .ok (.iload_n 2, 1) := by decide +kernel
theorem d17 : decode yB 17 = .ok (.if_icmp (.eq) 40, 3) := by decide +kernel
theorem d57 : decode yB 57 = .ok (.aload_n 3, 1) := by decide +kernel
theorem d58 : decode yB 58 = .ok (.areturn, 1) := by decide +kernel
def site : List Cond := [.arrayClass .byte, Cmp5.tab] ++ staticW U16 115 Cmp5.yN
def tab : Cond := tabOf yN yB 6 (some (.array .byte)) site
def P (b : Addr) (A : Cell) (o len : Nat) (args : Array Value) (s : State) : Prop := args = #[.ref b, .int (Int32.ofNat o), .int (Int32.ofNat len)] ∧ Ch b A s ∧ o + len ≤ A.slots.size ∧ len ≤ 536870912 ∧ ∀ i, i < len → ¬ 255 < cv A (o + i)
def E (b : Addr) (A : Cell) (o len : Nat) (r : Option Value) (s u : State) : Prop := NewArr .byte "[B" len (fun j => .int (lo8 (cv A (o + j)))) r s u ∧ u.heap.size = s.heap.size + 1
/-- no char of the range above 255: a new byte[] of their low bytes -/
theorem law (l : Launch) (b : Addr) (A : Cell) (o len : Nat) : Law l yN 3 3 1 18 yB 6 (some (.array .byte)) site (P b A o len) (E b A o len) [] 1 len := by
  refine Law.of_walk (plainFor_of_name (by decide +kernel)) (by decide +kernel) (by decide +kernel) (by decide) (fun _ _ h => by rw [h.1]; rfl) (fun _ U U' hal hh h => ⟨h.1, h.2.1.mv hal hh, h.2.2⟩) (fun r U U' V V' h1 hal h2 h => ⟨NewArr.mv r U U' V V' h1 hal h2 h.1, by rw [h1, h2]; exact h.2⟩) ?_
  intro p e s m args below meth c s₁ X0 hexec hbytes hml hret hlk hnm hown hh0 W hP
  obtain ⟨rfl, hA, l1, l2, hp⟩ := hP
  have a31 := hA.1.2.2.2
  have c1 : Steps p.tables e below (s₁.setTop (entryFrame m #[.ref b, .int (Int32.ofNat o), .int (Int32.ofNat len)] 6)) (s₁.setTop (mkF m 0 #[.val (.ref b), .val (.int (Int32.ofNat o)), .val (.int (Int32.ofNat len)), .unset, .unset, .unset] [])) := entry rfl
  have c2 : Steps p.tables e below (s₁.setTop (entryFrame m #[.ref b, .int (Int32.ofNat o), .int (Int32.ofNat len)] 6)) (s₁.setTop (mkF m 1 #[.val (.ref b), .val (.int (Int32.ofNat o)), .val (.int (Int32.ofNat len)), .unset, .unset, .unset] [.int (Int32.ofNat len)])) := c1.trans (by
    refine XS.iloadN X0.here hexec rfl (hb hbytes d0) rfl ?_
    exact Steps.refl _)
  obtain ⟨T3, B3, X3, ba3, bs3, bv3, bh3, bf3, st3⟩ := X0.anew hexec (atype := .byte) (wk W (.arrayClass .byte)) rfl (by show len * 1 ≤ _; omega) (by omega) (g := (mkF m 1 #[.val (.ref b), .val (.int (Int32.ofNat o)), .val (.int (Int32.ofNat len)), .unset, .unset, .unset] [.int (Int32.ofNat len)])) rfl (hb hbytes d1) (rest := []) rfl (Nat.le_refl _) (by show 0 + len ≤ len; omega)
  rw [hh0] at ba3 st3
  have kp3 : XT.Kept s T3 := (XT.Kept.of_eq hh0).push bh3
  have hA3 := hA.keep X3.warmed.alike (kp3 _ _ hA.1.1)
  have hne : b ≠ s.heap.size := hA.1.ne
  have c4 : Steps p.tables e below (s₁.setTop (entryFrame m #[.ref b, .int (Int32.ofNat o), .int (Int32.ofNat len)] 6)) (T3.setTop (mkF m 3 #[.val (.ref b), .val (.int (Int32.ofNat o)), .val (.int (Int32.ofNat len)), .unset, .unset, .unset] [.ref s.heap.size])) := c2.trans (st3 _ (Steps.refl _))
  have c5 : Steps p.tables e below (s₁.setTop (entryFrame m #[.ref b, .int (Int32.ofNat o), .int (Int32.ofNat len)] 6)) (T3.setTop (mkF m 9 #[.val (.ref b), .val (.int (Int32.ofNat o)), .val (.int (Int32.ofNat len)), .val (.ref s.heap.size), .unset, .unset] [.int (Int32.ofNat len), .int 0, .ref s.heap.size, .int (Int32.ofNat o), .ref b])) := c4.trans (by
    refine XS.astoreN X3.here hexec rfl (hb hbytes d3) rfl rfl rfl ?_
    refine XS.aloadN X3.here hexec rfl (hb hbytes d4) rfl rfl ?_
    refine XS.iloadN X3.here hexec rfl (hb hbytes d5) rfl ?_
    refine XS.aloadN X3.here hexec rfl (hb hbytes d6) rfl rfl ?_
    refine iconstV X3.here hexec rfl 0 (hb hbytes d7) (by decide) ?_
    refine XS.iloadN X3.here hexec rfl (hb hbytes d8) rfl ?_
    exact Steps.refl _)
  obtain ⟨v6, T6, X6, E6, g6⟩ := X3.callS hexec (Cmp5.law l b A s.heap.size B3 o 0 len) hown (wks W (staticW U16 115 Cmp5.yN)) (wk W Cmp5.tab) (W := 0) (Nat.le_of_ble_eq_true rfl) (Nat.le_of_ble_eq_true rfl) (Nat.le_refl _) (by show 0 + len + 0 ≤ len; omega) (g := (mkF m 9 #[.val (.ref b), .val (.int (Int32.ofNat o)), .val (.int (Int32.ofNat len)), .val (.ref s.heap.size), .unset, .unset] [.int (Int32.ofNat len), .int (Int32.ofNat 0), .ref s.heap.size, .int (Int32.ofNat o), .ref b])) rfl (by rw [hml]; rfl) c5 (argsL := [.ref b, .int (Int32.ofNat o), .ref s.heap.size, .int (Int32.ofNat 0), .int (Int32.ofNat len)]) (rest := []) rfl rfl (by show 2 * 0 + 0 ≤ _; decide) (hb hbytes d9) (⟨rfl, hA3, ba3, hne, l1, by rw [bs3]; simp, hp⟩)
  obtain ⟨rfl, B6, p6, f6⟩ := E6
  have c7 : Steps p.tables e below (s₁.setTop (entryFrame m #[.ref b, .int (Int32.ofNat o), .int (Int32.ofNat len)] 6)) (T6.setTop (mkF m 12 #[.val (.ref b), .val (.int (Int32.ofNat o)), .val (.int (Int32.ofNat len)), .val (.ref s.heap.size), .unset, .unset] [.int (Int32.ofNat len)])) := g6
  have c8 : Steps p.tables e below (s₁.setTop (entryFrame m #[.ref b, .int (Int32.ofNat o), .int (Int32.ofNat len)] 6)) (T6.setTop (mkF m 58 #[.val (.ref b), .val (.int (Int32.ofNat o)), .val (.int (Int32.ofNat len)), .val (.ref s.heap.size), .val (.int (Int32.ofNat len)), .unset] [.ref s.heap.size])) := c7.trans (by
    refine XS.istore X6.here hexec rfl (hb hbytes d12) rfl rfl ?_
    refine XS.iload X6.here hexec rfl (hb hbytes d14) rfl ?_
    refine XS.iloadN X6.here hexec rfl (hb hbytes d16) rfl ?_
    refine XS.icmpYes X6.here hexec rfl (pc0 := 17) rfl (hb hbytes d17) rfl (ii_eq_t rfl) (by decide) rfl ?_
    refine XS.aloadN X6.here hexec rfl (hb hbytes d57) rfl rfl ?_
    exact Steps.refl _)
  have X8 := X6.wide (L' := []) (cells' := 1) (slots' := len) (fun x hx hlt => by
    simp only [List.nil_append, copyLocs, List.mem_map, List.mem_range] at hx
    obtain ⟨i, -, rfl⟩ := hx
    exact absurd hlt (Nat.lt_irrefl _)) (Nat.le_refl _) (by omega)
  exact ⟨T6, some (.ref s.heap.size), _, _, _, X8, rfl, rfl, rfl, (fun h => by cases h), ⟨⟨rfl, B6, ba3.like (X3.warmed.alike.symm.trans X6.warmed.alike) p6.1 f6.1 f6.2.1 f6.2.2.1, f6.2.1.trans bv3, by rw [X6.warmed.alike.findClass, f6.1]; exact bf3, by rw [f6.2.2.1, bs3]; simp, fun j hj => by rw [f6.2.2.2 j, if_pos (by omega)]; rfl, kp3.put p6 (Nat.le_refl _)⟩, by rw [p6.2.2, bh3, hh0]; simp⟩, fun fs hl => c8.trans (X8.areturnOut hexec rfl hret rfl (hb hbytes d58) hl)⟩
end Cmp3
namespace CodL
def yN : MethodName := ⟨"java/lang/StringUTF16", "coderFromArrayLen", "([BI)B"⟩
abbrev yB : ByteArray := jdk_52_method_15_code
theorem d0 : decode yB 0 = .ok (.iload_n 1, 1) := by decide +kernel
theorem d1 : decode yB 1 = .ok (.aload_n 0, 1) := by decide +kernel
theorem d2 : decode yB 2 = .ok (.arraylength, 1) := by decide +kernel
theorem d3 : decode yB 3 = .ok (.isub, 1) := by decide +kernel
theorem d4 : decode yB 4 = .ok (.bipush 31, 2) := by decide +kernel
theorem d6 : decode yB 6 = .ok (.iushr, 1) := by decide +kernel
theorem d7 : decode yB 7 = .ok (.i2b, 1) := by decide +kernel
theorem d8 : decode yB 8 = .ok (.ireturn, 1) := by decide +kernel
def site : List Cond := []
def tab : Cond := tabOf yN yB 2 (some .byte) site
def P (d : Addr) (B : Cell) (args : Array Value) (s : State) : Prop := args = #[.ref d, .int (Int32.ofNat B.slots.size)] ∧ Arr .byte d B s
def E (r : Option Value) (s u : State) : Prop := XT.PureE (some (.int 0)) r s u
/-- an array as long as the number of chars: LATIN1 -/
theorem law (l : Launch) (d : Addr) (B : Cell) : Law l yN 2 2 0 0 yB 2 (some .byte) site (P d B) E [] 0 0 := by
  refine Law.of_walk (plainFor_of_name (by decide +kernel)) (by decide +kernel) (by decide +kernel) (by decide) (fun _ _ h => by rw [h.1]; rfl) (fun _ U U' hal hh h => ⟨h.1, h.2.mv hal hh⟩) (fun r U U' V V' h1 hal h2 h => XT.PureE.mv r U U' V V' h1 hal h2 h) ?_
  intro p e s m args below meth c s₁ X0 hexec hbytes hml hret hlk hnm hown hh0 W hP
  obtain ⟨rfl, hB⟩ := hP
  have hB0 := hB.mv X0.warmed.alike hh0
  have c1 : Steps p.tables e below (s₁.setTop (entryFrame m #[.ref d, .int (Int32.ofNat B.slots.size)] 2)) (s₁.setTop (mkF m 0 #[.val (.ref d), .val (.int (Int32.ofNat B.slots.size))] [])) := entry rfl
  have c2 : Steps p.tables e below (s₁.setTop (entryFrame m #[.ref d, .int (Int32.ofNat B.slots.size)] 2)) (s₁.setTop (mkF m 2 #[.val (.ref d), .val (.int (Int32.ofNat B.slots.size))] [.ref d, .int (Int32.ofNat B.slots.size)])) := c1.trans (by
    refine XS.iloadN X0.here hexec rfl (hb hbytes d0) rfl ?_
    refine XS.aloadN X0.here hexec rfl (hb hbytes d1) rfl rfl ?_
    exact Steps.refl _)
  have c3 : Steps p.tables e below (s₁.setTop (entryFrame m #[.ref d, .int (Int32.ofNat B.slots.size)] 2)) (s₁.setTop (mkF m 8 #[.val (.ref d), .val (.int (Int32.ofNat B.slots.size))] [.int (lo8 (ushr (Int32.ofNat B.slots.size - Int32.ofNat B.slots.size) 31))])) := c2.trans (by
    refine X0.alen hexec hB0 rfl rfl (hb hbytes d2) ?_
    refine XS.isub X0.here hexec rfl (hb hbytes d3) rfl ?_
    refine bipushV X0.here hexec rfl 31 (hb hbytes d4) (by decide) ?_
    refine iushr X0.here hexec rfl (hb hbytes d6) rfl ?_
    refine i2b X0.here hexec rfl (hb hbytes d7) rfl ?_
    exact Steps.refl _)
  have e0 : lo8 (ushr (Int32.ofNat B.slots.size - Int32.ofNat B.slots.size) 31) = 0 := by rw [Int32.sub_self]; decide
  rw [e0] at c3
  exact ⟨s₁, some (.int 0), _, _, _, X0, rfl, rfl, rfl, (fun h => by cases h), ⟨rfl, hh0⟩, fun fs hl => c3.trans (X0.ireturnOut hexec hret rfl (Or.inr (Or.inr (Or.inl rfl))) (hb hbytes d8) hl)⟩
end CodL
/-- the String at a is Latin-1 over a new byte[] (the heap's one new cell): the low bytes of the len chars of A from o on; every cell but a is kept -/
def Got (a : Addr) (D : Cell) (fV fC : Field) (A : Cell) (o len : Nat) (r : Option Value) (s u : State) : Prop := r = none ∧ ∃ D' V : Cell, Blank "java/lang/String" a D' u ∧ Same D D' [fV.slot, fC.slot] ∧ D'.slots[fV.slot]? = some (.ref s.heap.size) ∧ D'.slots[fC.slot]? = some (.int 0) ∧ Arr .byte s.heap.size V u ∧ V.vm = .none ∧ u.vm.findClass "[B" = some V.cls ∧ V.slots.size = len ∧ (∀ j, j < len → V.slots[j]? = some (.int (lo8 (cv A (o + j))))) ∧ (∀ (y : Addr) (c : Cell), y ≠ a → s.heap[y]? = some c → u.heap[y]? = some c) ∧ u.heap.size = s.heap.size + 1
theorem Got.mv {a : Addr} {D A : Cell} {fV fC : Field} {o len : Nat} : ∀ r (U U' V V' : State), U'.heap = U.heap → V.vm.Alike V'.vm → V'.heap = V.heap → Got a D fV fC A o len r U V → Got a D fV fC A o len r U' V' :=
  fun r U U' V V' h1 hal h2 ⟨e0, D', X, a1, a2, a3, a4, a5, a6, a7, a8, a9, a10, a11⟩ => ⟨e0, D', X, a1.mv hal h2, a2, by rw [h1]; exact a3, a4, by rw [h1]; exact a5.mv hal h2, a6, by rw [hal.findClass]; exact a7, a8, a9, by rw [h1, h2]; exact a10, by rw [h1, h2]; exact a11⟩
namespace New4
def yN : MethodName := ⟨"java/lang/String", "<init>", "([CIILjava/lang/Void;)V"⟩
abbrev yB : ByteArray := jdk_42_method_149_code
theorem d0 : decode yB 0 = .ok (.aload_n 0, 1) := by decide +kernel
theorem d1 : decode yB 1 = .ok (.invokespecial 1, 3) := by decide +kernel
theorem d4 : decode yB 4 = .ok (.iload_n 3, 1) := by decide +kernel
theorem d5 : decode yB 5 = .ok (.ifCond (.ne) 22, 3) := by decide +kernel
theorem d27 : decode yB 27 = .ok (.getstatic 38, 3) := by decide +kernel
theorem d30 : decode yB 30 = .ok (.ifCond (.eq) 28, 3) := by decide +kernel
theorem d33 : decode yB 33 = .ok (.aload_n 1, 1) := by decide +kernel
theorem d34 : decode yB 34 = .ok (.iload_n 2, 1) := by decide +kernel
theorem d35 : decode yB 35 = .ok (.iload_n 3, 1) := by decide +kernel
theorem d36 : decode yB 36 = .ok (.invokestatic 177, 3) := by decide +kernel
theorem d39 : decode yB 39 = .ok (.astore 5, 2) := by decide +kernel
theorem d41 : decode yB 41 = .ok (.aload_n 0, 1) := by decide +kernel
theorem d42 : decode yB 42 = .ok (.aload 5, 2) := by decide +kernel
theorem d44 : decode yB 44 = .ok (.iload_n 3, 1) := by decide +kernel
theorem d45 : decode yB 45 = .ok (.invokestatic 47, 3) := by decide +kernel
theorem d48 : decode yB 48 = .ok (.putfield 15, 3) := by decide +kernel
theorem d51 : decode yB 51 = .ok (.aload_n 0, 1) := by decide +kernel
theorem d52 : decode yB 52 = .ok (.aload 5, 2) := by decide +kernel
theorem d54 : decode yB 54 = .ok (.putfield 9, 3) := by decide +kernel
theorem d57 : decode yB 57 = .ok (.return_, 1) := by decide +kernel
def site : List Cond := [.fieldLink "java/lang/String" 38 "java/lang/String" "COMPACT_STRINGS" "Z", Cmp3.tab, CodL.tab, .laysFinal "java/lang/String" "java/lang/String" "value" "[B", .fieldLink "java/lang/String" 9 "java/lang/String" "value" "[B", .laysFinal "java/lang/String" "java/lang/String" "coder" "B", .fieldLink "java/lang/String" 15 "java/lang/String" "coder" "B"] ++ objW "java/lang/String" 1 ++ staticW "java/lang/String" 177 Cmp3.yN ++ staticW "java/lang/String" 47 CodL.yN
def tab : Cond := tabOf yN yB 6 none site
def P (a : Addr) (D : Cell) (fV fC : Field) (b : Addr) (A : Cell) (z : Int32) (o len : Nat) (args : Array Value) (s : State) : Prop := args = #[.ref a, .ref b, .int (Int32.ofNat o), .int (Int32.ofNat len), .null] ∧ Blank "java/lang/String" a D s ∧ Found "java/lang/String" "value" "[B" fV s ∧ Found "java/lang/String" "coder" "B" fC s ∧ Ch b A s ∧ StaticIs s "java/lang/String" "COMPACT_STRINGS" "Z" (.int z) ∧ ¬ z = 0 ∧ 0 < len ∧ o + len ≤ A.slots.size ∧ len ≤ 536870912 ∧ ∀ i, i < len → ¬ 255 < cv A (o + i)
def E (a : Addr) (D : Cell) (fV fC : Field) (A : Cell) (o len : Nat) (r : Option Value) (s u : State) : Prop := Got a D fV fC A o len r s u
/-- len > 0, no char of the range above 255: a Latin-1 String of their low bytes -/
theorem law (l : Launch) (a : Addr) (D : Cell) (fV fC : Field) (b : Addr) (A : Cell) (z : Int32) (o len : Nat) : Law l yN 5 4 2 35 yB 6 none site (P a D fV fC b A z o len) (E a D fV fC A o len) [⟨a, fC.slot⟩, ⟨a, fV.slot⟩] 1 len := by
  refine Law.of_walk (plainFor_of_name (by decide +kernel)) (by decide +kernel) (by decide +kernel) (by decide) (fun _ _ h => by rw [h.1]; rfl) (fun _ U U' hal hh h => ⟨h.1, h.2.1.mv hal hh, h.2.2.1.al hal, h.2.2.2.1.al hal, h.2.2.2.2.1.mv hal hh, h.2.2.2.2.2.1.there hal hh, h.2.2.2.2.2.2⟩) (fun r U U' V V' h1 hal h2 h => Got.mv r U U' V V' h1 hal h2 h) ?_
  intro p e s m args below meth c s₁ X0 hexec hbytes hml hret hlk hnm hown hh0 W hP
  obtain ⟨rfl, hB, f1, f2, hA, s1, hz, l0, l1, l2, hp⟩ := hP
  have a31 := hA.1.2.2.2
  have c1 : Steps p.tables e below (s₁.setTop (entryFrame m #[.ref a, .ref b, .int (Int32.ofNat o), .int (Int32.ofNat len), .null] 6)) (s₁.setTop (mkF m 0 #[.val (.ref a), .val (.ref b), .val (.int (Int32.ofNat o)), .val (.int (Int32.ofNat len)), .val .null, .unset] [])) := entry rfl
  have c2 : Steps p.tables e below (s₁.setTop (entryFrame m #[.ref a, .ref b, .int (Int32.ofNat o), .int (Int32.ofNat len), .null] 6)) (s₁.setTop (mkF m 1 #[.val (.ref a), .val (.ref b), .val (.int (Int32.ofNat o)), .val (.int (Int32.ofNat len)), .val .null, .unset] [.ref a])) := c1.trans (by
    refine XS.aloadN X0.here hexec rfl (hb hbytes d0) rfl rfl ?_
    exact Steps.refl _)
  obtain ⟨T3, X3, q3, st3⟩ := X0.oinit hexec hown (wks W (objW "java/lang/String" 1)) (g := (mkF m 1 #[.val (.ref a), .val (.ref b), .val (.int (Int32.ofNat o)), .val (.int (Int32.ofNat len)), .val .null, .unset] [.ref a])) rfl (by rw [hml]; rfl) (rest := []) rfl (hb hbytes d1) (W := 0) (by show 2 * 0 + 0 ≤ _; decide) (Nat.le_of_ble_eq_true rfl) (Nat.le_of_ble_eq_true rfl)
  have hh3 := q3.trans hh0
  have c4 : Steps p.tables e below (s₁.setTop (entryFrame m #[.ref a, .ref b, .int (Int32.ofNat o), .int (Int32.ofNat len), .null] 6)) (T3.setTop (mkF m 27 #[.val (.ref a), .val (.ref b), .val (.int (Int32.ofNat o)), .val (.int (Int32.ofNat len)), .val .null, .unset] [])) := (c2.trans (st3 _ (Steps.refl _))).trans (by
    refine XS.iloadN X3.here hexec rfl (hb hbytes d4) rfl ?_
    refine XS.ifYes X3.here hexec rfl (pc0 := 5) rfl (hb hbytes d5) rfl (i0_ne_t (nz32 (by omega) l0)) (by decide) rfl ?_
    exact Steps.refl _)
  obtain ⟨T5, X5, q5, st5⟩ := X3.sget hexec hown (wk W (.fieldLink "java/lang/String" 38 "java/lang/String" "COMPACT_STRINGS" "Z")) s1 (fun _ _ h => by rw [hh3]; exact h) (g := (mkF m 27 #[.val (.ref a), .val (.ref b), .val (.int (Int32.ofNat o)), .val (.int (Int32.ofNat len)), .val .null, .unset] [])) rfl (hb hbytes d27)
  have hh5 := q5.trans hh3
  have c6 : Steps p.tables e below (s₁.setTop (entryFrame m #[.ref a, .ref b, .int (Int32.ofNat o), .int (Int32.ofNat len), .null] 6)) (T5.setTop (mkF m 30 #[.val (.ref a), .val (.ref b), .val (.int (Int32.ofNat o)), .val (.int (Int32.ofNat len)), .val .null, .unset] [.int z])) := c4.trans (st5 _ (Steps.refl _))
  have c7 : Steps p.tables e below (s₁.setTop (entryFrame m #[.ref a, .ref b, .int (Int32.ofNat o), .int (Int32.ofNat len), .null] 6)) (T5.setTop (mkF m 36 #[.val (.ref a), .val (.ref b), .val (.int (Int32.ofNat o)), .val (.int (Int32.ofNat len)), .val .null, .unset] [.int (Int32.ofNat len), .int (Int32.ofNat o), .ref b])) := c6.trans (by
    refine XS.ifNo X5.here hexec rfl (hb hbytes d30) rfl (i0_eq_f hz) ?_
    refine XS.aloadN X5.here hexec rfl (hb hbytes d33) rfl rfl ?_
    refine XS.iloadN X5.here hexec rfl (hb hbytes d34) rfl ?_
    refine XS.iloadN X5.here hexec rfl (hb hbytes d35) rfl ?_
    exact Steps.refl _)
  obtain ⟨v8, T8, X8, E8, g8⟩ := X5.callS hexec (Cmp3.law l b A o len) hown (wks W (staticW "java/lang/String" 177 Cmp3.yN)) (wk W Cmp3.tab) (W := 0) (Nat.le_of_ble_eq_true rfl) (Nat.le_of_ble_eq_true rfl) (Nat.le_refl _) (by show 0 + len ≤ len; omega) (g := (mkF m 36 #[.val (.ref a), .val (.ref b), .val (.int (Int32.ofNat o)), .val (.int (Int32.ofNat len)), .val .null, .unset] [.int (Int32.ofNat len), .int (Int32.ofNat o), .ref b])) rfl (by rw [hml]; rfl) c7 (argsL := [.ref b, .int (Int32.ofNat o), .int (Int32.ofNat len)]) (rest := []) rfl rfl (by show 2 * 0 + 0 ≤ _; decide) (hb hbytes d36) (⟨rfl, hA.mv X5.warmed.alike hh5, l1, l2, hp⟩)
  obtain ⟨e8, z8⟩ := E8
  obtain ⟨rfl, N, n1, n2, n3, n4, n5, n6⟩ := NewArr.mv _ T5 s _ _ hh5.symm (Vm.Alike.refl _) rfl e8
  rw [hh5] at z8
  have hB1 := hB.keep X8.warmed.alike (n6 _ _ hB.1)
  have hne : s.heap.size ≠ a := (Nat.ne_of_lt (Array.getElem?_eq_some_iff.mp hB.1).1).symm
  have c9 : Steps p.tables e below (s₁.setTop (entryFrame m #[.ref a, .ref b, .int (Int32.ofNat o), .int (Int32.ofNat len), .null] 6)) (T8.setTop (mkF m 39 #[.val (.ref a), .val (.ref b), .val (.int (Int32.ofNat o)), .val (.int (Int32.ofNat len)), .val .null, .unset] [.ref s.heap.size])) := g8
  have c10 : Steps p.tables e below (s₁.setTop (entryFrame m #[.ref a, .ref b, .int (Int32.ofNat o), .int (Int32.ofNat len), .null] 6)) (T8.setTop (mkF m 45 #[.val (.ref a), .val (.ref b), .val (.int (Int32.ofNat o)), .val (.int (Int32.ofNat len)), .val .null, .val (.ref s.heap.size)] [.int (Int32.ofNat N.slots.size), .ref s.heap.size, .ref a])) := by
    have hc : Steps p.tables e below (s₁.setTop (entryFrame m #[.ref a, .ref b, .int (Int32.ofNat o), .int (Int32.ofNat len), .null] 6)) (T8.setTop (mkF m 45 #[.val (.ref a), .val (.ref b), .val (.int (Int32.ofNat o)), .val (.int (Int32.ofNat len)), .val .null, .val (.ref s.heap.size)] [.int (Int32.ofNat len), .ref s.heap.size, .ref a])) := c9.trans (by
      refine XS.astore X8.here hexec rfl (hb hbytes d39) rfl rfl rfl ?_
      refine XS.aloadN X8.here hexec rfl (hb hbytes d41) rfl rfl ?_
      refine XS.aload X8.here hexec rfl (hb hbytes d42) rfl rfl ?_
      refine XS.iloadN X8.here hexec rfl (hb hbytes d44) rfl ?_
      exact Steps.refl _)
    rw [n4]; exact hc
  obtain ⟨v11, T11, X11, E11, g11⟩ := X8.callS hexec (CodL.law l s.heap.size N) hown (wks W (staticW "java/lang/String" 47 CodL.yN)) (wk W CodL.tab) (W := 1) (Nat.le_of_ble_eq_true rfl) (Nat.le_of_ble_eq_true rfl) (Nat.le_refl _) (by show 0 + len + 0 ≤ len; omega) (g := (mkF m 45 #[.val (.ref a), .val (.ref b), .val (.int (Int32.ofNat o)), .val (.int (Int32.ofNat len)), .val .null, .val (.ref s.heap.size)] [.int (Int32.ofNat N.slots.size), .ref s.heap.size, .ref a])) rfl (by rw [hml]; rfl) c10 (argsL := [.ref s.heap.size, .int (Int32.ofNat N.slots.size)]) (rest := [.ref a]) rfl rfl (by show 2 * 0 + (1 + 0) ≤ _; decide) (hb hbytes d45) (⟨rfl, n1⟩)
  obtain ⟨rfl, q11⟩ := E11
  have hB11 := hB1.mv (X8.warmed.alike.symm.trans X11.warmed.alike) q11
  have c12 : Steps p.tables e below (s₁.setTop (entryFrame m #[.ref a, .ref b, .int (Int32.ofNat o), .int (Int32.ofNat len), .null] 6)) (T11.setTop (mkF m 48 #[.val (.ref a), .val (.ref b), .val (.int (Int32.ofNat o)), .val (.int (Int32.ofNat len)), .val .null, .val (.ref s.heap.size)] [.int 0, .ref a])) := g11
  obtain ⟨T13, X13, p13, bl13, sl13, st13⟩ := X11.finit hexec hown (wk W (.fieldLink "java/lang/String" 15 "java/lang/String" "coder" "B")) (Or.inr ⟨_, (wk W (.laysFinal "java/lang/String" "java/lang/String" "coder" "B"))⟩) (Or.inl ⟨rfl, hnm⟩) f2 (Or.inl rfl) hB11 (t := .byte) (by decide +kernel) rfl (g := (mkF m 48 #[.val (.ref a), .val (.ref b), .val (.int (Int32.ofNat o)), .val (.int (Int32.ofNat len)), .val .null, .val (.ref s.heap.size)] [.int 0, .ref a])) rfl (rest := []) rfl (hb hbytes d48)
  have c14 : Steps p.tables e below (s₁.setTop (entryFrame m #[.ref a, .ref b, .int (Int32.ofNat o), .int (Int32.ofNat len), .null] 6)) (T13.setTop (mkF m 54 #[.val (.ref a), .val (.ref b), .val (.int (Int32.ofNat o)), .val (.int (Int32.ofNat len)), .val .null, .val (.ref s.heap.size)] [.ref s.heap.size, .ref a])) := (c12.trans (st13 _ (Steps.refl _))).trans (by
    refine XS.aloadN X13.here hexec rfl (hb hbytes d51) rfl rfl ?_
    refine XS.aload X13.here hexec rfl (hb hbytes d52) rfl rfl ?_
    exact Steps.refl _)
  obtain ⟨T15, X15, p15, bl15, sl15, st15⟩ := X13.finit hexec hown (wk W (.fieldLink "java/lang/String" 9 "java/lang/String" "value" "[B")) (Or.inr ⟨_, (wk W (.laysFinal "java/lang/String" "java/lang/String" "value" "[B"))⟩) (Or.inl ⟨rfl, hnm⟩) f1 (Or.inl rfl) bl13 (t := (.array .byte)) (by decide +kernel) rfl (g := (mkF m 54 #[.val (.ref a), .val (.ref b), .val (.int (Int32.ofNat o)), .val (.int (Int32.ofNat len)), .val .null, .val (.ref s.heap.size)] [.ref s.heap.size, .ref a])) rfl (rest := []) rfl (hb hbytes d54)
  have c16 : Steps p.tables e below (s₁.setTop (entryFrame m #[.ref a, .ref b, .int (Int32.ofNat o), .int (Int32.ofNat len), .null] 6)) (T15.setTop (mkF m 57 #[.val (.ref a), .val (.ref b), .val (.int (Int32.ofNat o)), .val (.int (Int32.ofNat len)), .val .null, .val (.ref s.heap.size)] [])) := c14.trans (st15 _ (Steps.refl _))
  have ap := apart (Or.inr ⟨_, (wk W (.laysFinal "java/lang/String" "java/lang/String" "value" "[B"))⟩) (Or.inr ⟨_, (wk W (.laysFinal "java/lang/String" "java/lang/String" "coder" "B"))⟩) f1 f2 (t₁ := .array .byte) (t₂ := .byte) (by decide +kernel) (by decide +kernel) (by decide)
  have al := X8.warmed.alike.symm.trans X15.warmed.alike
  have n7 : T11.heap[s.heap.size]? = some N := by rw [q11]; exact n1.1
  exact ⟨T15, none, _, _, _, X15, by simp, rfl, by omega, (fun _ => rfl), ⟨rfl, _, N, bl15, ((Same.refl D _).set _ (by simp)).set _ (by simp), sl15, (Cell.slots_setSlot_ne _ ap).trans sl13, n1.keep al (p15.other hne (p13.other hne n7)), n2, by rw [al.findClass]; exact n3, n4, n5, fun y c h1 h2 => p15.other h1 (p13.other h1 (by rw [q11]; exact n6 y c h2)), by rw [p15.2.2, p13.2.2, q11]; exact z8⟩, fun fs hl => c16.trans (X15.returnOut hexec hret (hb hbytes d57) hl)⟩
end New4
namespace New1
def yN : MethodName := ⟨"java/lang/String", "<init>", "([C)V"⟩
abbrev yB : ByteArray := jdk_42_method_3_code
theorem d0 : decode yB 0 = .ok (.aload_n 0, 1) := by decide +kernel
theorem d1 : decode yB 1 = .ok (.aload_n 1, 1) := by decide +kernel
theorem d2 : decode yB 2 = .ok (.iconst 0, 1) := by decide +kernel
theorem d3 : decode yB 3 = .ok (.aload_n 1, 1) := by decide +kernel
theorem d4 : decode yB 4 = .ok (.arraylength, 1) := by decide +kernel
theorem d5 : decode yB 5 = .ok (.aconst_null, 1) := by decide +kernel
theorem d6 : decode yB 6 = .ok (.invokespecial 27, 3) := by decide +kernel
theorem d9 : decode yB 9 = .ok (.return_, 1) := by decide +kernel
def site : List Cond := [New4.tab] ++ initW "java/lang/String" 27 New4.yN
def tab : Cond := tabOf yN yB 2 none site
def P (a : Addr) (D : Cell) (fV fC : Field) (b : Addr) (A : Cell) (z : Int32) (args : Array Value) (s : State) : Prop := args = #[.ref a, .ref b] ∧ Blank "java/lang/String" a D s ∧ Found "java/lang/String" "value" "[B" fV s ∧ Found "java/lang/String" "coder" "B" fC s ∧ Ch b A s ∧ StaticIs s "java/lang/String" "COMPACT_STRINGS" "Z" (.int z) ∧ ¬ z = 0 ∧ 0 < A.slots.size ∧ A.slots.size ≤ 536870912 ∧ ∀ i, i < A.slots.size → ¬ 255 < cv A i
def E (a : Addr) (D : Cell) (fV fC : Field) (A : Cell) (r : Option Value) (s u : State) : Prop := Got a D fV fC A 0 A.slots.size r s u
/-- new String(chars), not empty, no char above 255: a Latin-1 String of their low bytes -/
theorem law (l : Launch) (a : Addr) (D : Cell) (fV fC : Field) (b : Addr) (A : Cell) (z : Int32) : Law l yN 2 1 3 52 yB 2 none site (P a D fV fC b A z) (E a D fV fC A) [⟨a, fC.slot⟩, ⟨a, fV.slot⟩] 1 A.slots.size := by
  refine Law.of_walk (plainFor_of_name (by decide +kernel)) (by decide +kernel) (by decide +kernel) (by decide) (fun _ _ h => by rw [h.1]; rfl) (fun _ U U' hal hh h => ⟨h.1, h.2.1.mv hal hh, h.2.2.1.al hal, h.2.2.2.1.al hal, h.2.2.2.2.1.mv hal hh, h.2.2.2.2.2.1.there hal hh, h.2.2.2.2.2.2⟩) (fun r U U' V V' h1 hal h2 h => Got.mv r U U' V V' h1 hal h2 h) ?_
  intro p e s m args below meth c s₁ X0 hexec hbytes hml hret hlk hnm hown hh0 W hP
  obtain ⟨rfl, hB, f1, f2, hA, s1, hz, l0, l2, hp⟩ := hP
  have c1 : Steps p.tables e below (s₁.setTop (entryFrame m #[.ref a, .ref b] 2)) (s₁.setTop (mkF m 0 #[.val (.ref a), .val (.ref b)] [])) := entry rfl
  have c2 : Steps p.tables e below (s₁.setTop (entryFrame m #[.ref a, .ref b] 2)) (s₁.setTop (mkF m 6 #[.val (.ref a), .val (.ref b)] [.null, .int (Int32.ofNat A.slots.size), .int 0, .ref b, .ref a])) := c1.trans (by
    refine XS.aloadN X0.here hexec rfl (hb hbytes d0) rfl rfl ?_
    refine XS.aloadN X0.here hexec rfl (hb hbytes d1) rfl rfl ?_
    refine iconstV X0.here hexec rfl 0 (hb hbytes d2) (by decide) ?_
    refine XS.aloadN X0.here hexec rfl (hb hbytes d3) rfl rfl ?_
    refine X0.alen hexec (hA.1.mv X0.warmed.alike hh0) rfl rfl (hb hbytes d4) ?_
    refine XS.aconstNull X0.here hexec rfl (hb hbytes d5) ?_
    exact Steps.refl _)
  obtain ⟨v3, T3, X3, E3, g3⟩ := X0.callN hexec (New4.law l a D fV fC b A z 0 A.slots.size) rfl hown (wks W (initW "java/lang/String" 27 New4.yN)) (W New4.tab (by simp only [site, List.mem_cons, List.mem_append, true_or, or_true])) (W := 0) (Nat.le_of_ble_eq_true rfl) (Nat.le_of_ble_eq_true rfl) (Nat.le_refl _) (by show 0 + A.slots.size ≤ A.slots.size; omega) (g := (mkF m 6 #[.val (.ref a), .val (.ref b)] [.null, .int (Int32.ofNat A.slots.size), .int (Int32.ofNat 0), .ref b, .ref a])) rfl (by rw [hml]; rfl) c2 (argsL := [.ref b, .int (Int32.ofNat 0), .int (Int32.ofNat A.slots.size), .null]) (rest := []) rfl rfl (by show 2 * 0 + 0 ≤ _; decide) (hb hbytes d6) (⟨rfl, hB.mv X0.warmed.alike hh0, f1.al X0.warmed.alike, f2.al X0.warmed.alike, hA.mv X0.warmed.alike hh0, s1.there X0.warmed.alike hh0, hz, l0, by omega, l2, fun i hi => by rw [Nat.zero_add]; exact hp i hi⟩)
  have e0 := Got.mv _ s₁ s _ _ hh0.symm (Vm.Alike.refl _) rfl E3
  obtain rfl := e0.1
  have c4 : Steps p.tables e below (s₁.setTop (entryFrame m #[.ref a, .ref b] 2)) (T3.setTop (mkF m 9 #[.val (.ref a), .val (.ref b)] [])) := g3
  exact ⟨T3, none, _, _, _, X3, by simp, rfl, by omega, (fun _ => rfl), e0, fun fs hl => c4.trans (X3.returnOut hexec hret (hb hbytes d9) hl)⟩
theorem pays {l : Launch} {R : Room} {p : Program} {e : Env} {below : List Frame} {s : State} {sargs : Array Value} {len W : Nat} (a : Addr) (D : Cell) (fV fC : Field) (b : Addr) (A : Cell) (z : Int32) (htab : tab.before sargs s = true) (hfr : 4 ≤ R.frames) (hlo : W + 65 ≤ R.locals) :
    Back l R p e below s sargs yN len W (fun A₁ a₁ => A₁.cells + 1 ≤ R.cells ∧ A₁.slots + A.slots.size ≤ R.slots ∧ P a D fV fC b A z a₁ A₁.U) (fun A₁ _ v₁ B₁ => E a D fV fC A v₁ A₁.U B₁.U ∧ B₁.locs = A₁.locs ++ [⟨a, fC.slot⟩, ⟨a, fV.slot⟩] ∧ B₁.cells = A₁.cells + 1 ∧ B₁.slots = A₁.slots + A.slots.size) :=
  (law l a D fV fC b A z).pays htab hfr (by omega)
end New1
/-- the byte, read back as charAt reads it, is the char -/
theorem lo8_mask {x : Int32} (h0 : ¬ x < 0) (h1 : ¬ 255 < x) : lo8 x &&& 255 = x := by
  have t : ∀ k : Fin 256, lo8 (Int32.ofNat k.val) &&& 255 = Int32.ofNat k.val := by decide +kernel
  rw [Int32.lt_iff_toInt_lt] at h0 h1
  have e0 : (0 : Int32).toInt = 0 := rfl
  have e1 : (255 : Int32).toInt = 255 := rfl
  obtain ⟨k, hk⟩ : ∃ k : Nat, x.toInt = k := ⟨x.toInt.toNat, by omega⟩
  have hx : x = Int32.ofNat k := Int32.toInt_inj.mp (by rw [hk, Int32.toInt_ofNat_small (by omega)])
  rw [hx]
  exact t ⟨k, by omega⟩
end StrChars
namespace StrChars.Road
open Jvm Sem ClassFile Op Lib Jvm.Stand Jvm.Free Jvm.Free.XT
open Jvm.Lib.Cold (StaticIs)
abbrev ST : String := "java/lang/String"
/-- every table word that New1's law asks, flat -/
abbrev words : List Jvm.Cond := [.code New1.yN New1.yB 2 none, .initialized ST, .methodLink ST 27 New4.yN, .instanceMethod New4.yN,
  .code New4.yN New4.yB 6 none, .fieldLink ST 38 ST "COMPACT_STRINGS" "Z", .laysFinal ST ST "value" "[B", .fieldLink ST 9 ST "value" "[B", .laysFinal ST ST "coder" "B", .fieldLink ST 15 ST "coder" "B",
  .methodLink ST 1 Lib.objectInit, .instanceMethod Lib.objectInit, .code Lib.objectInit ⟨#[0xb1]⟩ 1 none, .methodLink ST 177 Cmp3.yN, .static Cmp3.yN, .methodLink ST 47 CodL.yN, .static CodL.yN,
  .code Cmp3.yN Cmp3.yB 6 (some (.array .byte)), .initialized U16, .arrayClass .byte, .methodLink U16 115 Cmp5.yN, .static Cmp5.yN, .code Cmp5.yN Cmp5.yB 7 (some .int), .code CodL.yN CodL.yB 2 (some .byte)]
theorem tab_of {a : Array Value} {s : State} (h : ∀ w ∈ words, w.before a s = true) : New1.tab.before a s = true := by
  have h5 : Cmp5.tab.before a s = true := unparts (wk h (.code Cmp5.yN Cmp5.yB 7 (some .int))) (wks h (.initialized Cmp5.yN.cls :: Cmp5.site))
  have hc : CodL.tab.before a s = true := unparts (wk h (.code CodL.yN CodL.yB 2 (some .byte))) (wks h (.initialized CodL.yN.cls :: CodL.site))
  have q5 : ∀ w ∈ Cmp5.tab :: words, w.before a s = true := fun w hw => (List.mem_cons.mp hw).elim (fun e => e ▸ h5) (h w)
  have h3 : Cmp3.tab.before a s = true := unparts (wk q5 (.code Cmp3.yN Cmp3.yB 6 (some (.array .byte)))) (wks q5 (.initialized Cmp3.yN.cls :: Cmp3.site))
  have q3 : ∀ w ∈ Cmp3.tab :: CodL.tab :: words, w.before a s = true := fun w hw => (List.mem_cons.mp hw).elim (fun e => e ▸ h3) fun hw => (List.mem_cons.mp hw).elim (fun e => e ▸ hc) (h w)
  have h4 : New4.tab.before a s = true := unparts (wk q3 (.code New4.yN New4.yB 6 none)) (wks q3 (.initialized New4.yN.cls :: New4.site))
  have q4 : ∀ w ∈ New4.tab :: words, w.before a s = true := fun w hw => (List.mem_cons.mp hw).elim (fun e => e ▸ h4) (h w)
  exact unparts (wk q4 (.code New1.yN New1.yB 2 none)) (wks q4 (.initialized New1.yN.cls :: New1.site))
/-- the words ride from the start Z to the walk's own state -/
theorem moved {Z s : State} {a0 args : Array Value} (hZ : Z.Warmed39 s.vm) (hw : ∀ d ∈ words, d.before a0 Z = true) : ∀ d ∈ words, d.before args s = true := fun d hd => by
  have q := hw d hd
  have t : ∀ d ∈ words, d = .arrayClass .byte ∨ (d.onTables && d.keepsFace) = true := by decide +kernel
  rcases t d hd with rfl | t
  · exact RoadKit.mvA hZ q
  · exact RoadKit.mv hZ q t
/-- WHAT COMES BACK, over the tables of the start Z: h the heap at the call, h' behind it -/
def Q (Z : State) (x : Addr) (A : Cell) (h : Heap) (v : Option Value) (h' : Heap) (L : List Loc) : Prop := v = none ∧ (∀ y ∈ L, y.base = x) ∧ RoadKit.Keep h h' [x] ∧ h'.size = h.size + 1 ∧ RoadKit.Exa Z h' x ST ∧ RoadKit.Fld Z h' x ST "value" "[B" (.ref h.size) ∧ RoadKit.Fld Z h' x ST "coder" "B" (.int 0) ∧
  (∃ V : Cell, RoadKit.Arr Z h' h.size V .byte ∧ V.vm = .none ∧ Z.vm.findClass "[B" = some V.cls ∧ V.slots.size = A.slots.size ∧ ∀ j, j < A.slots.size → V.slots[j]? = some (.int (lo8 (cv A j)))) ∧
  ∀ (O n d : String) (w : Value), RoadKit.Fld Z h x O n d w → RoadKit.slotOf Z O n d ≠ RoadKit.slotOf Z ST "value" "[B" → RoadKit.slotOf Z O n d ≠ RoadKit.slotOf Z ST "coder" "B" → RoadKit.Fld Z h' x O n d w
/-- **new String(chars) AT A CALL, IN THE ROAD'S FORM**: for specialBack behind newO: x the fresh String, b the char[] with the cell A -/
theorem back {p : Program} {l : Launch} {e : Env} {R : Room} {s : State} {args : Array Value} {below : List Frame} {len W : Nat} {Z : State} {a0 : Array Value} {h : Heap} (hZ : Z.Warmed39 s.vm) (hw : ∀ d ∈ words, d.before a0 Z = true) {kI : Nat} (wi : (Jvm.Cond.instantiable ST kI).before a0 Z = true)
    {x b : Addr} {A : Cell} {z : Int32} {v0 c0 : Value} (E : RoadKit.Exa Z h x ST) (V : RoadKit.Fld Z h x ST "value" "[B" v0) (C : RoadKit.Fld Z h x ST "coder" "B" c0) (K : RoadKit.Arr Z h b A .char) (hty : Typed .char A) (S : RoadKit.Sta Z h ST "COMPACT_STRINGS" "Z" (.int z)) (hz : ¬ z = 0)
    (l0 : 0 < A.slots.size) (l2 : A.slots.size ≤ 536870912) (hp : ∀ i, i < A.slots.size → ¬ 255 < cv A i) (hfr : 4 ≤ R.frames) (hlo : W + 65 ≤ R.locals) :
    Back l R p e below s args New1.yN len W (fun P a => a = #[.ref x, .ref b] ∧ P.U.heap = h ∧ P.cells + 1 ≤ R.cells ∧ P.slots + A.slots.size ≤ R.slots)
      (fun P _ v B => ∃ L, Q Z x A h v B.U.heap L ∧ B.locs = P.locs ++ L ∧ B.cells = P.cells + 1 ∧ B.slots = P.slots + A.slots.size) := by
  intro m meth c P g ig mk a X hg hsize hdg hW hn hp'
  obtain ⟨rfl, rfl, r1, r2⟩ := hp'
  have al : Z.vm.Alike P.U.vm := hZ.alike.trans X.warmed.alike
  obtain ⟨D, cfV, kV, iV, fV, hD, gV, stV, knV, obV, asV, slV⟩ := id V
  obtain ⟨D', cfC, kC, iC, fC, hD', gC, stC, -, -, asC, slC⟩ := id C
  cases hD.symm.trans hD'
  obtain ⟨D2, kD, e1, e2, e3, e4, e5⟩ := id E
  cases hD.symm.trans e1
  obtain ⟨c2, k2, i1, i2, i3, -⟩ := Cond.instantiable_spec wi
  cases e2.symm.trans i1
  cases e3.symm.trans i2
  obtain ⟨kU, u1, u2⟩ := al.2.2 _ _ e3
  have hB : Blank ST x D P.U := ⟨hD, ⟨knV, fun q hq => by rw [hq] at obV; cases obV⟩, by rw [al.findClass]; exact e2, kU, u1, by rw [u2]; exact i3, by rw [u2]; exact e5 i3⟩
  have F1 : Found ST "value" "[B" fV P.U := ⟨SBG.found_only al ⟨cfV, kV, iV, gV⟩, stV⟩
  have F2 : Found ST "coder" "B" fC P.U := ⟨SBG.found_only al ⟨cfC, kC, iC, gC⟩, stC⟩
  have hA : Ch b A P.U := ⟨⟨K.1, State.isArrayOf_alike al K.2.1, K.2.2, by omega⟩, hty⟩
  have hS : StaticIs P.U ST "COMPACT_STRINGS" "Z" (.int z) := by
    obtain ⟨cfS, iS, kS, fS, st, cS, t1, t2, t3, t4, t5, t6, t7⟩ := S
    exact StaticIs.there (s := { Z with heap := P.U.heap }) ⟨cfS, iS, kS, fS, st, cS, t1, t2, t3, t4, t5, (fun q => by rw [q] at t6; cases t6), t7⟩ al rfl
  obtain ⟨v, B, X', ⟨⟨hv, E', V', q1, q2, q3, q4, q5, q6, q7, q8, q9, q10, q11⟩, hl, hc, hs⟩, st⟩ := New1.pays x D fV fC b A z (tab_of (moved hZ hw)) hfr hlo m meth c P g ig mk _ X hg hsize hdg hW hn ⟨r1, r2, rfl, hB, F1, F2, hA, hS, hz, l0, l2, hp⟩
  have al' : Z.vm.Alike B.U.vm := hZ.alike.trans X'.warmed.alike
  have hsz : E'.slots.size = D.slots.size := by
    obtain ⟨-, -, -, kB, w1, w2, w3⟩ := q1
    obtain ⟨kB', y1, y2⟩ := al'.2.2 _ _ e3
    rw [q2.2.1] at w1
    cases w1.symm.trans y1
    rw [w3, e5 i3, y2]
  refine ⟨v, B, X', ⟨_, ⟨hv, ?_, ⟨by omega, fun y cy hy hn' => q10 y cy (by simpa using hn') hy, fun y cy hy => ?_⟩, q11, ⟨E', _, q1.1, by rw [q2.2.1]; exact e2, by rw [q2.2.1]; exact e3, by rw [q2.1]; exact obV, fun _ => by rw [hsz]; exact e5 i3⟩,
    ⟨E', cfV, kV, iV, fV, q1.1, gV, stV, by rw [q2.1]; exact knV, by rw [q2.1]; exact obV, by rw [q2.2.1]; exact asV, q3⟩, ⟨E', cfC, kC, iC, fC, q1.1, gC, stC, by rw [q2.1]; exact knV, by rw [q2.1]; exact obV, by rw [q2.2.1]; exact asC, q4⟩,
    ⟨V', ⟨q5.1, State.isArrayOf_alike al'.symm q5.2.1, q5.2.2.1⟩, q6, by rw [← al'.findClass]; exact q7, q8, fun j hj => by have := q9 j hj; rwa [Nat.zero_add] at this⟩, fun O n d w F n1 n2 => ?_⟩, hl, hc, hs⟩, st⟩
  · intro y hy
    simp only [List.mem_cons, List.not_mem_nil, or_false] at hy
    rcases hy with rfl | rfl <;> rfl
  · by_cases q : y = x
    · subst q
      cases hD.symm.trans hy
      exact ⟨E', q1.1, q2.2.1, q2.1, hsz⟩
    · exact ⟨cy, q10 y cy q hy, rfl, rfl, rfl⟩
  · obtain ⟨D3, cf, k, i, f, g1, g2, g3, g4, g5, g6, g7⟩ := F
    cases hD.symm.trans g1
    simp only [RoadKit.slotOf, g2, gV, gC, Option.map_some, Option.getD_some] at n1 n2
    exact ⟨E', cf, k, i, f, q1.1, g2, g3, by rw [q2.1]; exact g4, by rw [q2.1]; exact g5, by rw [q2.2.1]; exact g6, by rw [q2.2.2 f.slot (by simp [n1, n2])]; exact g7⟩
end StrChars.Road
namespace StrChars.Road
open Jvm Sem ClassFile Op Lib Jvm.Stand Jvm.Free Jvm.Free.XT
/-- WHAT COMES BACK, the byte[] as a list of values -/
def QA (Z : State) (x : Addr) (zn : Int32) (cs : List Int32) (h : Heap) (v : Option Value) (h' : Heap) (L : List Loc) : Prop := v = none ∧ (∀ y ∈ L, y.base = x) ∧ RoadKit.Keep h h' [x] ∧ h'.size = h.size + 1 ∧ RoadKit.Exa Z h' x ST ∧ RoadKit.Fld Z h' x ST "value" "[B" (.ref h.size) ∧ RoadKit.Fld Z h' x ST "coder" "B" (.int 0) ∧
  (∃ kb, Z.vm.findClass "[B" = some kb ∧ RoadKit.Arv Z h' h.size kb .byte zn (cs.map fun c => .int (lo8 c)) (.int 0)) ∧
  ∀ (O n d : String) (w : Value), RoadKit.Fld Z h x O n d w → RoadKit.slotOf Z O n d ≠ RoadKit.slotOf Z ST "value" "[B" → RoadKit.slotOf Z O n d ≠ RoadKit.slotOf Z ST "coder" "B" → RoadKit.Fld Z h' x O n d w
/-- **new String(chars) AT A CALL, THE ARRAYS AS LISTS**: the char[] at b holds cs, not empty, no char above 255 -/
theorem backArv {p : Program} {l : Launch} {e : Env} {R : Room} {s : State} {args : Array Value} {below : List Frame} {len W : Nat} {Z : State} {a0 : Array Value} {h : Heap} (hZ : Z.Warmed39 s.vm) (hw : ∀ d ∈ words, d.before a0 Z = true) {kI : Nat} (wi : (Jvm.Cond.instantiable ST kI).before a0 Z = true)
    {x b : Addr} {k : ClassId} {zn z : Int32} {cs : List Int32} {dv v0 c0 : Value} (E : RoadKit.Exa Z h x ST) (V : RoadKit.Fld Z h x ST "value" "[B" v0) (C : RoadKit.Fld Z h x ST "coder" "B" c0) (K : RoadKit.Arv Z h b k .char zn (cs.map Value.int) dv) (S : RoadKit.Sta Z h ST "COMPACT_STRINGS" "Z" (.int z)) (hz : ¬ z = 0)
    (hlen : zn.toNatClampNeg = cs.length) (h0 : 0 < cs.length) (hbig : cs.length ≤ 536870912) (hall : ∀ c ∈ cs, ¬ 255 < c) (hfr : 4 ≤ R.frames) (hlo : W + 65 ≤ R.locals) :
    Back l R p e below s args New1.yN len W (fun P a => a = #[.ref x, .ref b] ∧ P.U.heap = h ∧ P.cells + 1 ≤ R.cells ∧ P.slots + cs.length ≤ R.slots)
      (fun P _ v B => ∃ L, QA Z x zn cs h v B.U.heap L ∧ B.locs = P.locs ++ L ∧ B.cells = P.cells + 1 ∧ B.slots = P.slots + cs.length) := by
  obtain ⟨A, K1, K2, K3, K4, K5, K6⟩ := K
  have e : A.slots.size = cs.length := K3.trans hlen
  have hat : ∀ (i : Nat) (hi : i < cs.length), A.slots[i]? = some (.int cs[i]) := fun i hi => by rw [K5 i (by omega)]; simp [List.getD_eq_getElem?_getD, hi]
  have hcv : ∀ (i : Nat) (hi : i < cs.length), cv A i = cs[i] := fun i hi => by unfold cv; rw [hat i hi]
  have hty : Typed .char A := fun i v hv => by
    have hi : i < A.slots.size := (Array.getElem?_eq_some_iff.mp hv).1
    have q := K5 i hi
    rw [hv] at q
    rw [Option.some.inj q]
    exact K6 i hi
  refine Back.mono (back hZ hw wi E V C K1 hty S hz (by omega) (by omega) (fun i hi => by rw [hcv i (by omega)]; exact hall _ (List.getElem_mem _)) hfr hlo) (fun P a hp => ⟨hp.1, hp.2.1, hp.2.2.1, by rw [e]; exact hp.2.2.2⟩) (fun P a v B hp hq => ?_)
  obtain ⟨L, ⟨q1, q2, q3, q4, q5, q6, q7, ⟨V', v1, v2, v3, v4, v5⟩, q9⟩, hl, hc, hs⟩ := hq
  refine ⟨L, ⟨q1, q2, q3, q4, q5, q6, q7, ⟨V'.cls, v3, V', v1, rfl, by rw [v4, e, hlen], K4, fun i hi => ?_, fun i hi => ?_⟩, q9⟩, hl, hc, by rw [hs, e]⟩
  · have hi' : i < cs.length := by omega
    rw [v5 i (by omega), hcv i hi']; simp [List.getD_eq_getElem?_getD, hi']
  · have hi' : i < cs.length := by omega
    simp only [List.getD_eq_getElem?_getD, List.getElem?_map, List.getElem?_eq_getElem hi', Option.map_some, Option.getD_some]
    exact fits_lo8 _
end StrChars.Road
namespace StrChars.Road
open Jvm Sem ClassFile Op Lib Jvm.Stand Jvm.Free Jvm.Free.XT
/-- WHAT COMES BACK, in the writer's own shape -/
def QV (Z : State) (x : Addr) (N : Int32) (bs : List Int32) (h : Heap) (n0 : Nat) (v : Option Value) (h' : Heap) (L : List Loc) : Prop := v = none ∧ RoadKit.Fr n0 L ∧ RoadKit.Keep h h' [x] ∧ RoadKit.Exa Z h' x ST ∧ RoadKit.Fld Z h' x ST "coder" "B" (.int 0) ∧
  ∃ (t : Addr) (kb : ClassId), n0 ≤ t ∧ h.size ≤ t ∧ ¬ t = x ∧ RoadKit.Fld Z h' x ST "value" "[B" (.ref t) ∧ RoadKit.Arv Z h' t kb .byte N (bs.map Value.int) (.int 0)
/-- **new String(chars) AT A CALL, FOR THE WRITER**: a char[] of n known ints, each 0 to 255 -/
theorem backV {p : Program} {l : Launch} {e : Env} {R : Room} {s : State} {args : Array Value} {below : List Frame} {len W : Nat} {Z : State} {a0 : Array Value} {h : Heap} (hZ : Z.Warmed39 s.vm) (hw : ∀ d ∈ words, d.before a0 Z = true) {kI : Nat} (wi : (Jvm.Cond.instantiable ST kI).before a0 Z = true)
    {x b : Addr} {kC : ClassId} {cs bs : List Int32} {d v0 c0 : Value} {z N : Int32} {n n0 : Nat} (hx0 : n0 ≤ x) (hh0 : n0 ≤ h.size) (E : RoadKit.Exa Z h x ST) (V : RoadKit.Fld Z h x ST "value" "[B" v0) (C : RoadKit.Fld Z h x ST "coder" "B" c0) (K : RoadKit.Arv Z h b kC .char N (cs.map Value.int) d) (S : RoadKit.Sta Z h ST "COMPACT_STRINGS" "Z" (.int z)) (hz : ¬ z = 0)
    (hn : cs.length = n) (hN : N = Int32.ofNat n) (l0 : 0 < n) (l2 : n ≤ 4000) (hp : ∀ c ∈ cs, ¬ c < 0 ∧ ¬ (255 : Int32) < c) (hb : bs = cs.map (fun c => c.toInt8.toInt32)) (hfr : 4 ≤ R.frames) (hlo : W + 65 ≤ R.locals) :
    Back l R p e below s args (⟨"java/lang/String", "<init>", "([C)V"⟩ : MethodName) len W (fun P a => a = #[.ref x, .ref b] ∧ P.U.heap = h ∧ P.cells + 1 ≤ R.cells ∧ P.slots + n ≤ R.slots)
      (fun P _ v B => ∃ L, QV Z x N bs h n0 v B.U.heap L ∧ B.locs = P.locs ++ L ∧ B.cells = P.cells + 1 ∧ B.slots = P.slots + n) := by
  subst hn hN hb
  refine Back.mono (backArv hZ hw wi E V C K S hz (n32 (by omega)) l0 (by omega) (fun c hc => (hp c hc).2) hfr hlo) (fun P a hp => hp) (fun P a v B hp hq => ?_)
  obtain ⟨L, ⟨q1, q2, q3, q4, q5, q6, q7, ⟨kb, v1, v2⟩, q9⟩, hl, hc, hs⟩ := hq
  exact ⟨L, ⟨q1, fun y hy => by rw [q2 y hy]; exact hx0, q3, q5, q7, h.size, kb, hh0, Nat.le_refl _, Nat.ne_of_gt E.lt, q6, by rw [List.map_map]; exact v2⟩, hl, hc, hs⟩
end StrChars.Road
namespace StrChars
open Jvm Sem ClassFile Op Lib Jvm.Stand Jvm.Free.XT Jvm.Free.ALB Jvm.Free.JM Jvm.Free
open Jvm.Lib.Cold (StaticIs)
def hi8 (x : Int32) : Int32 := lo8 (x >>> ((8 : Int32) &&& 31))
/-- what StringUTF16.getChar makes of two bytes -/
def pairCh (u v : Int32) : Int32 := (((u &&& 255) <<< ((0 : Int32) &&& 31)) ||| ((v &&& 255) <<< ((8 : Int32) &&& 31))).toUInt32.toUInt16.toUInt32.toInt32
theorem shr0 (c : Int32) : c >>> ((0 : Int32) &&& 31) = c := by
  have e : ((0 : Int32) &&& 31) = 0 := by decide
  rw [e]
  apply Int32.toBitVec_inj.mp
  rw [Int32.toBitVec_shiftRight]
  have e1 : ((0 : Int32).toBitVec.smod 32) = 0#32 := by decide
  rw [e1, BitVec.sshiftRight_eq']
  exact BitVec.sshiftRight_zero
theorem lo8_and (x : Int32) : (lo8 x &&& 255).toBitVec.toNat = x.toBitVec.toNat % 256 := by
  have h : (lo8 x).toBitVec = (x.toBitVec.signExtend 8).signExtend 32 := by rw [lo8, Int8.toBitVec_toInt32, Int32.toBitVec_toInt8]
  rw [Int32.toBitVec_and, BitVec.toNat_and, h]
  have e : ((x.toBitVec.signExtend 8).signExtend 32).toNat % 256 = x.toBitVec.toNat % 256 := by
    rw [BitVec.toNat_signExtend]
    have hlt := x.toBitVec.isLt
    simp only [BitVec.toNat_setWidth, BitVec.toNat_signExtend]
    split <;> split <;> omega
  rw [← e]
  exact Nat.and_two_pow_sub_one_eq_mod _ 8
theorem pair_says {c : Int32} (h0 : ¬ c < 0) (h1 : ¬ 65535 < c) : pairCh (lo8 c) (hi8 c) = c := by
  rw [Int32.lt_iff_toInt_lt] at h0 h1
  have e0 : (0 : Int32).toInt = 0 := rfl
  have e1 : (65535 : Int32).toInt = 65535 := rfl
  have hc : c.toInt = c.toBitVec.toNat := by
    have := c.toBitVec.isLt
    have e : c.toInt = c.toBitVec.toInt := rfl
    rw [e] at h0 h1
    rw [e]
    rw [BitVec.toInt_eq_toNat_cond] at h0 h1 ⊢
    split at h0 <;> split <;> omega
  have hn : c.toBitVec.toNat < 65536 := by omega
  have a1 := lo8_and c
  have a2 : (hi8 c &&& 255).toBitVec.toNat = c.toBitVec.toNat / 256 := by
    rw [hi8, lo8_and]
    have e : ((8 : Int32) &&& 31) = 8 := by decide
    rw [e, Int32.toBitVec_shiftRight]
    have e2 : ((8 : Int32).toBitVec.smod 32) = 8#32 := by decide
    rw [e2, BitVec.sshiftRight_eq', BitVec.toNat_sshiftRight_of_msb_false (by rw [BitVec.msb_eq_false_iff_two_mul_lt]; omega)]
    show c.toBitVec.toNat >>> 8 % 256 = _
    rw [Nat.shiftRight_eq_div_pow]
    omega
  unfold pairCh
  apply Int32.toBitVec_inj.mp
  apply BitVec.eq_of_toNat_eq
  have f0 : ((0 : Int32) &&& 31) = 0 := by decide
  have f8 : ((8 : Int32) &&& 31) = 8 := by decide
  rw [f0, f8]
  have g : (((lo8 c &&& 255) <<< (0 : Int32)) ||| ((hi8 c &&& 255) <<< (8 : Int32))).toBitVec.toNat = c.toBitVec.toNat := by
    rw [Int32.toBitVec_or, Int32.toBitVec_shiftLeft, Int32.toBitVec_shiftLeft]
    have s0 : ((0 : Int32).toBitVec.smod 32) = 0#32 := by decide
    have s8 : ((8 : Int32).toBitVec.smod 32) = 8#32 := by decide
    rw [s0, s8, BitVec.toNat_or]
    simp only [BitVec.shiftLeft_eq', BitVec.toNat_shiftLeft, a1, a2]
    show (c.toBitVec.toNat % 256) <<< 0 % 2 ^ 32 ||| (c.toBitVec.toNat / 256) <<< 8 % 2 ^ 32 = _
    rw [Nat.shiftLeft_zero, Nat.mod_eq_of_lt (show c.toBitVec.toNat % 256 < 2 ^ 32 by omega), Nat.mod_eq_of_lt (show (c.toBitVec.toNat / 256) <<< 8 < 2 ^ 32 by rw [Nat.shiftLeft_eq]; omega), Nat.or_comm, ← Nat.shiftLeft_add_eq_or_of_lt (by omega), Nat.shiftLeft_eq]
    omega
  show BitVec.toNat (((((lo8 c &&& 255) <<< (0 : Int32)) ||| ((hi8 c &&& 255) <<< (8 : Int32))).toBitVec.setWidth 16).setWidth 32) = _
  rw [BitVec.toNat_setWidth, BitVec.toNat_setWidth, g]
  omega
end StrChars
namespace StrChars
open Jvm Sem ClassFile Op Lib Jvm.Stand Jvm.Free.XT Jvm.Free.ALB Jvm.Free.JM Jvm.Free
open Jvm.Lib.Cold (StaticIs)
theorem shr1 {n : Nat} (h : 2 * n < 2 ^ 31) : Int32.ofNat (2 * n) >>> ((1 : Int32) &&& 31) = Int32.ofNat n := by
  have e : ((1 : Int32) &&& 31) = 1 := by decide
  rw [e]
  apply Int32.toBitVec_inj.mp
  rw [Int32.toBitVec_shiftRight]
  have e1 : ((1 : Int32).toBitVec.smod 32) = 1#32 := by decide
  have hm : (BitVec.ofNat 32 (2 * n)).toNat = 2 * n := by rw [BitVec.toNat_ofNat, Nat.mod_eq_of_lt (by omega)]
  rw [e1, BitVec.sshiftRight_eq']
  apply BitVec.eq_of_toNat_eq
  show ((BitVec.ofNat 32 (2 * n)).sshiftRight 1).toNat = (BitVec.ofNat 32 n).toNat
  rw [BitVec.toNat_sshiftRight_of_msb_false (by rw [BitVec.msb_eq_false_iff_two_mul_lt, hm]; omega), hm, BitVec.toNat_ofNat, Nat.shiftRight_eq_div_pow]
  omega
/-- charAt's cast of a byte read back -/
def chr8 (u : Int32) : Int32 := (u &&& 255).toUInt32.toUInt16.toUInt32.toInt32
theorem chr8_lo8 {c : Int32} (h0 : ¬ c < 0) (h1 : ¬ 255 < c) : chr8 (lo8 c) = c := by
  have t : ∀ k : Fin 256, (Int32.ofNat k.val).toUInt32.toUInt16.toUInt32.toInt32 = Int32.ofNat k.val := by decide +kernel
  unfold chr8
  rw [lo8_mask h0 h1]
  rw [Int32.lt_iff_toInt_lt] at h0 h1
  have e0 : (0 : Int32).toInt = 0 := rfl
  have e1 : (255 : Int32).toInt = 255 := rfl
  obtain ⟨k, hk⟩ : ∃ k : Nat, c.toInt = k := ⟨c.toInt.toNat, by omega⟩
  have hx : c = Int32.ofNat k := Int32.toInt_inj.mp (by rw [hk, Int32.toInt_ofNat_small (by omega)])
  rw [hx]
  exact t ⟨k, by omega⟩
theorem narrow_ch {c : Int32} (h0 : ¬ c < 0) (h1 : ¬ 65535 < c) : narrow .char (.int c) = .int c := by
  have q : narrow .char (.int (pairCh (lo8 c) (hi8 c))) = .int (pairCh (lo8 c) (hi8 c)) := narrow_c _
  rwa [pair_says h0 h1] at q
/-- the array's cell V codes the n chars f 0 .. f (n - 1) by the coder cd, as the JDK does: coder 1 just where some char is above 255 -/
def Cod (cd : Int32) (n : Nat) (f : Nat → Int32) (V : Cell) : Prop := (cd = 0 ∧ V.slots.size = n ∧ ∀ j, j < n → V.slots[j]? = some (.int (lo8 (f j))) ∧ ¬ 255 < f j) ∨ (cd = 1 ∧ V.slots.size = 2 * n ∧ (∀ j, j < n → V.slots[2 * j]? = some (.int (lo8 (f j))) ∧ V.slots[2 * j + 1]? = some (.int (hi8 (f j)))) ∧ ∃ j, j < n ∧ 255 < f j)
theorem Cod.cd {cd : Int32} {n : Nat} {f : Nat → Int32} {V : Cell} (h : Cod cd n f V) : cd = 0 ∨ cd = 1 := h.imp (fun q => q.1) fun q => q.1
theorem Cod.len {cd : Int32} {n : Nat} {f : Nat → Int32} {V : Cell} (h : Cod cd n f V) (hs : V.slots.size < 2 ^ 31) : Int32.ofNat V.slots.size >>> (cd &&& 31) = Int32.ofNat n := by
  rcases h with ⟨rfl, h, -⟩ | ⟨rfl, h, -⟩
  · rw [shr0, h]
  · rw [h, shr1 (by omega)]
/-- **x is a String of the n chars f 0 .. f (n - 1)**, Latin-1 or UTF-16; its array at t has the cell V -/
def Txt (x t : Addr) (V : Cell) (cd : Int32) (n : Nat) (f : Nat → Int32) (U : State) : Prop := Exact "java/lang/String" x U ∧ Has x "java/lang/String" "value" "[B" (.ref t) U ∧ Has x "java/lang/String" "coder" "B" (.int cd) U ∧ XT.Arr .byte t V U ∧ Cod cd n f V ∧ ∀ j, j < n → ¬ f j < 0 ∧ ¬ 65535 < f j
theorem Txt.mv {x t : Addr} {V : Cell} {cd : Int32} {n : Nat} {f : Nat → Int32} {U U' : State} (h : Txt x t V cd n f U) (hal : U.vm.Alike U'.vm) (hh : U'.heap = U.heap) : Txt x t V cd n f U' := ⟨h.1.mv hal hh, h.2.1.mv hal hh, h.2.2.1.mv hal hh, h.2.2.2.1.mv hal hh, h.2.2.2.2⟩
namespace Cdr
def yN : MethodName := ⟨"java/lang/String", "coder", "()B"⟩
abbrev yB : ByteArray := jdk_42_method_152_code
theorem d0 : decode yB 0 = .ok (.getstatic 38, 3) := by decide +kernel
theorem d3 : decode yB 3 = .ok (.ifCond (.eq) 10, 3) := by decide +kernel
theorem d6 : decode yB 6 = .ok (.aload_n 0, 1) := by decide +kernel
theorem d7 : decode yB 7 = .ok (.getfield 15, 3) := by decide +kernel
theorem d10 : decode yB 10 = .ok (.goto 4, 3) := by decide +kernel
theorem d14 : decode yB 14 = .ok (.ireturn, 1) := by decide +kernel
def site : List Cond := [.fieldLink "java/lang/String" 38 "java/lang/String" "COMPACT_STRINGS" "Z", .fieldLink "java/lang/String" 15 "java/lang/String" "coder" "B"]
def tab : Cond := tabOf yN yB 1 (some .byte) site
def P (x : Addr) (cd z : Int32) (args : Array Value) (s : State) : Prop := args = #[.ref x] ∧ Has x "java/lang/String" "coder" "B" (.int cd) s ∧ (cd = 0 ∨ cd = 1) ∧ StaticIs s "java/lang/String" "COMPACT_STRINGS" "Z" (.int z) ∧ ¬ z = 0
def E (cd : Int32) (r : Option Value) (s u : State) : Prop := XT.PureE (some (.int cd)) r s u
theorem law (l : Launch) (x : Addr) (cd z : Int32) : Law l yN 1 0 0 0 yB 1 (some .byte) site (P x cd z) (E cd) [] 0 0 := by
  refine Law.of_walk (plainFor_of_name (by decide +kernel)) (by decide +kernel) (by decide +kernel) (by decide) (fun _ _ h => by rw [h.1]; rfl) (fun _ U U' hal hh h => ⟨h.1, h.2.1.mv hal hh, h.2.2.1, h.2.2.2.1.there hal hh, h.2.2.2.2⟩) (fun r U U' V V' h1 hal h2 h => XT.PureE.mv r U U' V V' h1 hal h2 h) ?_
  intro p e s m args below meth c s₁ X0 hexec hbytes hml hret hlk hnm hown hh0 W hP
  obtain ⟨rfl, hx, hc, s1, hz⟩ := hP
  have c1 : Steps p.tables e below (s₁.setTop (entryFrame m #[.ref x] 1)) (s₁.setTop (mkF m 0 #[.val (.ref x)] [])) := entry rfl
  obtain ⟨T2, X2, q2, st2⟩ := X0.sget hexec hown (wk W (.fieldLink "java/lang/String" 38 "java/lang/String" "COMPACT_STRINGS" "Z")) s1 (fun _ _ h => by rw [hh0]; exact h) (g := (mkF m 0 #[.val (.ref x)] [])) rfl (hb hbytes d0)
  have hh2 := q2.trans hh0
  have c3 : Steps p.tables e below (s₁.setTop (entryFrame m #[.ref x] 1)) (T2.setTop (mkF m 7 #[.val (.ref x)] [.ref x])) := (c1.trans (st2 _ (Steps.refl _))).trans (by
    refine XS.ifNo X2.here hexec rfl (hb hbytes d3) rfl (i0_eq_f hz) ?_
    refine XS.aloadN X2.here hexec rfl (hb hbytes d6) rfl rfl ?_
    exact Steps.refl _)
  obtain ⟨T4, X4, q4, st4⟩ := X2.hget hexec hown (wk W (.fieldLink "java/lang/String" 15 "java/lang/String" "coder" "B")) (hx.mv X2.warmed.alike hh2) (g := (mkF m 7 #[.val (.ref x)] [.ref x])) rfl (rest := []) rfl (hb hbytes d7)
  have c5 : Steps p.tables e below (s₁.setTop (entryFrame m #[.ref x] 1)) (T4.setTop (mkF m 14 #[.val (.ref x)] [.int cd])) := (c3.trans (st4 _ (Steps.refl _))).trans (by
    refine XS.goto X4.here hexec rfl (pc0 := 10) rfl (hb hbytes d10) (by decide) rfl ?_
    exact Steps.refl _)
  exact ⟨T4, some (.int cd), _, _, _, X4, rfl, rfl, rfl, (fun h => by cases h), ⟨rfl, q4.trans hh2⟩, fun fs hl => c5.trans (X4.ireturnOut hexec hret (by rcases hc with rfl | rfl <;> rfl) (Or.inr (Or.inr (Or.inl rfl))) (hb hbytes d14) hl)⟩
end Cdr
namespace Len
def yN : MethodName := ⟨"java/lang/String", "length", "()I"⟩
abbrev yB : ByteArray := jdk_42_method_54_code
theorem d0 : decode yB 0 = .ok (.aload_n 0, 1) := by decide +kernel
theorem d1 : decode yB 1 = .ok (.getfield 9, 3) := by decide +kernel
theorem d4 : decode yB 4 = .ok (.arraylength, 1) := by decide +kernel
theorem d5 : decode yB 5 = .ok (.aload_n 0, 1) := by decide +kernel
theorem d6 : decode yB 6 = .ok (.invokevirtual 335, 3) := by decide +kernel
theorem d9 : decode yB 9 = .ok (.ishr, 1) := by decide +kernel
theorem d10 : decode yB 10 = .ok (.ireturn, 1) := by decide +kernel
def site : List Cond := [.fieldLink "java/lang/String" 9 "java/lang/String" "value" "[B", Cdr.tab] ++ virtW "java/lang/String" 335 "java/lang/String" Cdr.yN Cdr.yN
def tab : Cond := tabOf yN yB 1 (some .int) site
def P (x t : Addr) (V : Cell) (cd : Int32) (n : Nat) (f : Nat → Int32) (z : Int32) (args : Array Value) (s : State) : Prop := args = #[.ref x] ∧ Txt x t V cd n f s ∧ StaticIs s "java/lang/String" "COMPACT_STRINGS" "Z" (.int z) ∧ ¬ z = 0
def E (n : Nat) (r : Option Value) (s u : State) : Prop := XT.PureE (some (.int (Int32.ofNat n))) r s u
/-- length() of a String of n chars, in either coding -/
theorem law (l : Launch) (x t : Addr) (V : Cell) (cd : Int32) (n : Nat) (f : Nat → Int32) (z : Int32) : Law l yN 1 0 1 13 yB 1 (some .int) site (P x t V cd n f z) (E n) [] 0 0 := by
  refine Law.of_walk (plainFor_of_name (by decide +kernel)) (by decide +kernel) (by decide +kernel) (by decide) (fun _ _ h => by rw [h.1]; rfl) (fun _ U U' hal hh h => ⟨h.1, h.2.1.mv hal hh, h.2.2.1.there hal hh, h.2.2.2⟩) (fun r U U' V V' h1 hal h2 h => XT.PureE.mv r U U' V V' h1 hal h2 h) ?_
  intro p e s m args below meth c s₁ X0 hexec hbytes hml hret hlk hnm hown hh0 W hP
  obtain ⟨rfl, hx, s1, hz⟩ := hP
  have v31 := hx.2.2.2.1.2.2.2
  have c1 : Steps p.tables e below (s₁.setTop (entryFrame m #[.ref x] 1)) (s₁.setTop (mkF m 1 #[.val (.ref x)] [.ref x])) := Steps.trans (entry rfl) (by
    show Steps p.tables e below (s₁.setTop (mkF m 0 #[.val (.ref x)] [])) _
    refine XS.aloadN X0.here hexec rfl (hb hbytes d0) rfl rfl ?_
    exact Steps.refl _)
  obtain ⟨T2, X2, q2, st2⟩ := X0.hget hexec hown (wk W (.fieldLink "java/lang/String" 9 "java/lang/String" "value" "[B")) (hx.mv X0.warmed.alike hh0).2.1 (g := (mkF m 1 #[.val (.ref x)] [.ref x])) rfl (rest := []) rfl (hb hbytes d1)
  have hh2 := q2.trans hh0
  have hx2 := hx.mv X2.warmed.alike hh2
  have c3 : Steps p.tables e below (s₁.setTop (entryFrame m #[.ref x] 1)) (T2.setTop (mkF m 6 #[.val (.ref x)] [.ref x, .int (Int32.ofNat V.slots.size)])) := (c1.trans (st2 _ (Steps.refl _))).trans (by
    refine X2.alen hexec hx2.2.2.2.1 rfl rfl (hb hbytes d4) ?_
    refine XS.aloadN X2.here hexec rfl (hb hbytes d5) rfl rfl ?_
    exact Steps.refl _)
  obtain ⟨v4, T4, X4, E4, g4⟩ := X2.callV hexec (Cdr.law l x cd z) hown (wks W (virtW "java/lang/String" 335 "java/lang/String" Cdr.yN Cdr.yN)) rfl (by decide) (wk W Cdr.tab) (W := 1) (Nat.le_of_ble_eq_true rfl) (Nat.le_of_ble_eq_true rfl) (Nat.le_refl _) (Nat.le_refl _) (hx2.1.fc X2.warmed.alike) hx2.1.is (g := (mkF m 6 #[.val (.ref x)] [.ref x, .int (Int32.ofNat V.slots.size)])) rfl (by rw [hml]; rfl) c3 (argsL := []) (rest := [.int (Int32.ofNat V.slots.size)]) rfl rfl (by show 2 * 0 + (1 + 0) ≤ _; decide) (hb hbytes d6) (⟨rfl, hx2.2.2.1, hx.2.2.2.2.1.cd, s1.there X2.warmed.alike hh2, hz⟩)
  obtain ⟨rfl, q4⟩ := E4
  have c5 : Steps p.tables e below (s₁.setTop (entryFrame m #[.ref x] 1)) (T4.setTop (mkF m 10 #[.val (.ref x)] [.int (Int32.ofNat V.slots.size >>> (cd &&& 31))])) := Steps.trans g4 (by
    refine ishr X4.here hexec rfl (hb hbytes d9) rfl ?_
    exact Steps.refl _)
  rw [hx.2.2.2.2.1.len v31] at c5
  exact ⟨T4, some (.int (Int32.ofNat n)), _, _, _, X4, rfl, rfl, rfl, (fun h => by cases h), ⟨rfl, q4.trans hh2⟩, fun fs hl => c5.trans (X4.ireturnOut hexec hret rfl (Or.inl rfl) (hb hbytes d10) hl)⟩
theorem pays {l : Launch} {R : Room} {p : Program} {e : Env} {below : List Frame} {s : State} {sargs : Array Value} {len W : Nat} (x t : Addr) (V : Cell) (cd : Int32) (n : Nat) (f : Nat → Int32) (z : Int32) (htab : tab.before sargs s = true) (hfr : 2 ≤ R.frames) (hlo : W + 25 ≤ R.locals) :
    Back l R p e below s sargs yN len W (fun A₁ a₁ => A₁.cells + 0 ≤ R.cells ∧ A₁.slots + 0 ≤ R.slots ∧ P x t V cd n f z a₁ A₁.U) (fun A₁ _ v₁ B₁ => E n v₁ A₁.U B₁.U ∧ B₁.locs = A₁.locs ++ [] ∧ B₁.cells = A₁.cells + 0 ∧ B₁.slots = A₁.slots + 0) :=
  (law l x t V cd n f z).pays htab hfr (by omega)
end Len
namespace IsL
def yN : MethodName := ⟨"java/lang/String", "isLatin1", "()Z"⟩
abbrev yB : ByteArray := jdk_42_method_154_code
theorem d0 : decode yB 0 = .ok (.getstatic 38, 3) := by decide +kernel
theorem d3 : decode yB 3 = .ok (.ifCond (.eq) 14, 3) := by decide +kernel
theorem d6 : decode yB 6 = .ok (.aload_n 0, 1) := by decide +kernel
theorem d7 : decode yB 7 = .ok (.getfield 15, 3) := by decide +kernel
theorem d10 : decode yB 10 = .ok (.ifCond (.ne) 7, 3) := by decide +kernel
theorem d13 : decode yB 13 = .ok (.iconst 1, 1) := by decide +kernel
theorem d14 : decode yB 14 = .ok (.goto 4, 3) := by decide +kernel
theorem d17 : decode yB 17 = .ok (.iconst 0, 1) := by decide +kernel
theorem d18 : decode yB 18 = .ok (.ireturn, 1) := by decide +kernel
def site : List Cond := [.fieldLink "java/lang/String" 38 "java/lang/String" "COMPACT_STRINGS" "Z", .fieldLink "java/lang/String" 15 "java/lang/String" "coder" "B"]
def tab : Cond := tabOf yN yB 1 (some .boolean) site
def P (x : Addr) (cd z : Int32) (args : Array Value) (s : State) : Prop := args = #[.ref x] ∧ Has x "java/lang/String" "coder" "B" (.int cd) s ∧ (cd = 0 ∨ cd = 1) ∧ StaticIs s "java/lang/String" "COMPACT_STRINGS" "Z" (.int z) ∧ ¬ z = 0
def E (cd : Int32) (r : Option Value) (s u : State) : Prop := XT.PureE (some (.int (1 - cd))) r s u
theorem law (l : Launch) (x : Addr) (cd z : Int32) : Law l yN 1 0 0 0 yB 1 (some .boolean) site (P x cd z) (E cd) [] 0 0 := by
  refine Law.of_walk (plainFor_of_name (by decide +kernel)) (by decide +kernel) (by decide +kernel) (by decide) (fun _ _ h => by rw [h.1]; rfl) (fun _ U U' hal hh h => ⟨h.1, h.2.1.mv hal hh, h.2.2.1, h.2.2.2.1.there hal hh, h.2.2.2.2⟩) (fun r U U' V V' h1 hal h2 h => XT.PureE.mv r U U' V V' h1 hal h2 h) ?_
  intro p e s m args below meth c s₁ X0 hexec hbytes hml hret hlk hnm hown hh0 W hP
  obtain ⟨rfl, hx, hc, s1, hz⟩ := hP
  have c1 : Steps p.tables e below (s₁.setTop (entryFrame m #[.ref x] 1)) (s₁.setTop (mkF m 0 #[.val (.ref x)] [])) := entry rfl
  obtain ⟨T2, X2, q2, st2⟩ := X0.sget hexec hown (wk W (.fieldLink "java/lang/String" 38 "java/lang/String" "COMPACT_STRINGS" "Z")) s1 (fun _ _ h => by rw [hh0]; exact h) (g := (mkF m 0 #[.val (.ref x)] [])) rfl (hb hbytes d0)
  have hh2 := q2.trans hh0
  have c3 : Steps p.tables e below (s₁.setTop (entryFrame m #[.ref x] 1)) (T2.setTop (mkF m 7 #[.val (.ref x)] [.ref x])) := (c1.trans (st2 _ (Steps.refl _))).trans (by
    refine XS.ifNo X2.here hexec rfl (hb hbytes d3) rfl (i0_eq_f hz) ?_
    refine XS.aloadN X2.here hexec rfl (hb hbytes d6) rfl rfl ?_
    exact Steps.refl _)
  obtain ⟨T4, X4, q4, st4⟩ := X2.hget hexec hown (wk W (.fieldLink "java/lang/String" 15 "java/lang/String" "coder" "B")) (hx.mv X2.warmed.alike hh2) (g := (mkF m 7 #[.val (.ref x)] [.ref x])) rfl (rest := []) rfl (hb hbytes d7)
  have c5 : Steps p.tables e below (s₁.setTop (entryFrame m #[.ref x] 1)) (T4.setTop (mkF m 10 #[.val (.ref x)] [.int cd])) := c3.trans (st4 _ (Steps.refl _))
  have c6 : Steps p.tables e below (s₁.setTop (entryFrame m #[.ref x] 1)) (T4.setTop (mkF m 18 #[.val (.ref x)] [.int (1 - cd)])) := by
    rcases hc with rfl | rfl
    · exact c5.trans (by
        refine XS.ifNo X4.here hexec rfl (hb hbytes d10) rfl (i0_ne_f rfl) ?_
        refine iconstV X4.here hexec rfl 1 (hb hbytes d13) (by decide) ?_
        refine XS.goto X4.here hexec rfl (pc0 := 14) rfl (hb hbytes d14) (by decide) rfl ?_
        exact Steps.refl _)
    · exact c5.trans (by
        refine XS.ifYes X4.here hexec rfl (pc0 := 10) rfl (hb hbytes d10) rfl (i0_ne_t (by decide)) (by decide) rfl ?_
        refine iconstV X4.here hexec rfl 0 (hb hbytes d17) (by decide) ?_
        exact Steps.refl _)
  exact ⟨T4, some (.int (1 - cd)), _, _, _, X4, rfl, rfl, rfl, (fun h => by cases h), ⟨rfl, q4.trans hh2⟩, fun fs hl => c6.trans (X4.ireturnOut hexec hret (by rcases hc with rfl | rfl <;> rfl) (Or.inr (Or.inl rfl)) (hb hbytes d18) hl)⟩
end IsL
namespace LChA
def yN : MethodName := ⟨"java/lang/StringLatin1", "charAt", "([BI)C"⟩
abbrev yB : ByteArray := jdk_43_method_2_code
theorem d0 : decode yB 0 = .ok (.iload_n 1, 1) := by decide +kernel
theorem d1 : decode yB 1 = .ok (.aload_n 0, 1) := by decide +kernel
theorem d2 : decode yB 2 = .ok (.arraylength, 1) := by decide +kernel
theorem d3 : decode yB 3 = .ok (.invokestatic 9, 3) := by decide +kernel
theorem d6 : decode yB 6 = .ok (.aload_n 0, 1) := by decide +kernel
theorem d7 : decode yB 7 = .ok (.iload_n 1, 1) := by decide +kernel
theorem d8 : decode yB 8 = .ok (.baload, 1) := by decide +kernel
theorem d9 : decode yB 9 = .ok (.sipush 255, 3) := by decide +kernel
theorem d12 : decode yB 12 = .ok (.iand, 1) := by decide +kernel
theorem d13 : decode yB 13 = .ok (.i2c, 1) := by decide +kernel
theorem d14 : decode yB 14 = .ok (.ireturn, 1) := by decide +kernel
def site : List Cond := [JO.Str_checkIndex.tab] ++ staticW "java/lang/StringLatin1" 9 JO.Str_checkIndex.yN
def tab : Cond := tabOf yN yB 2 (some .char) site
def P (t : Addr) (V : Cell) (i : Nat) (u : Int32) (fm : Value) (args : Array Value) (s : State) : Prop := args = #[.ref t, .int (Int32.ofNat i)] ∧ XT.Arr .byte t V s ∧ V.slots[i]? = some (.int u) ∧ (StaticIs s "jdk/internal/util/Preconditions" "SIOOBE_FORMATTER" "Ljava/util/function/BiFunction;" fm ∧ fm.isRef = true)
def E (u : Int32) (r : Option Value) (s w : State) : Prop := XT.PureE (some (.int (chr8 u))) r s w
theorem law (l : Launch) (t : Addr) (V : Cell) (i : Nat) (u : Int32) (fm : Value) : Law l yN 2 2 2 27 yB 2 (some .char) site (P t V i u fm) (E u) [] 0 0 := by
  refine Law.of_walk (plainFor_of_name (by decide +kernel)) (by decide +kernel) (by decide +kernel) (by decide) (fun _ _ h => by rw [h.1]; rfl) (fun _ U U' hal hh h => ⟨h.1, h.2.1.mv hal hh, h.2.2.1, h.2.2.2.1.there hal hh, h.2.2.2.2⟩) (fun r U U' V V' h1 hal h2 h => XT.PureE.mv r U U' V V' h1 hal h2 h) ?_
  intro p e s m args below meth c s₁ X0 hexec hbytes hml hret hlk hnm hown hh0 W hP
  obtain ⟨rfl, hV, hu, s1, rf⟩ := hP
  have v31 := hV.2.2.2
  have hi : i < V.slots.size := (Array.getElem?_eq_some_iff.mp hu).1
  have c1 : Steps p.tables e below (s₁.setTop (entryFrame m #[.ref t, .int (Int32.ofNat i)] 2)) (s₁.setTop (mkF m 0 #[.val (.ref t), .val (.int (Int32.ofNat i))] [])) := entry rfl
  have c2 : Steps p.tables e below (s₁.setTop (entryFrame m #[.ref t, .int (Int32.ofNat i)] 2)) (s₁.setTop (mkF m 3 #[.val (.ref t), .val (.int (Int32.ofNat i))] [.int (Int32.ofNat V.slots.size), .int (Int32.ofNat i)])) := c1.trans (by
    refine XS.iloadN X0.here hexec rfl (hb hbytes d0) rfl ?_
    refine XS.aloadN X0.here hexec rfl (hb hbytes d1) rfl rfl ?_
    refine X0.alen hexec (hV.mv X0.warmed.alike hh0) rfl rfl (hb hbytes d2) ?_
    exact Steps.refl _)
  obtain ⟨v3, T3, X3, E3, g3⟩ := X0.callS hexec (JO.Str_checkIndex.law l (Int32.ofNat i) (Int32.ofNat V.slots.size) fm) hown (wks W (staticW "java/lang/StringLatin1" 9 JO.Str_checkIndex.yN)) (wk W JO.Str_checkIndex.tab) (W := 0) (Nat.le_of_ble_eq_true rfl) (Nat.le_of_ble_eq_true rfl) (Nat.le_refl _) (Nat.le_refl _) (g := (mkF m 3 #[.val (.ref t), .val (.int (Int32.ofNat i))] [.int (Int32.ofNat V.slots.size), .int (Int32.ofNat i)])) rfl (by rw [hml]; rfl) c2 (argsL := [.int (Int32.ofNat i), .int (Int32.ofNat V.slots.size)]) (rest := []) rfl rfl (by show 2 * 0 + 0 ≤ _; decide) (hb hbytes d3) (⟨rfl, rf, s1.there X0.warmed.alike hh0, Int32.ofNat_not_neg (by omega), lt32 v31 hi⟩)
  obtain ⟨rfl, q3⟩ := E3
  have hh3 := q3.trans hh0
  have c4 : Steps p.tables e below (s₁.setTop (entryFrame m #[.ref t, .int (Int32.ofNat i)] 2)) (T3.setTop (mkF m 14 #[.val (.ref t), .val (.int (Int32.ofNat i))] [.int (chr8 u)])) := Steps.trans g3 (by
    refine XS.aloadN X3.here hexec rfl (hb hbytes d6) rfl rfl ?_
    refine XS.iloadN X3.here hexec rfl (hb hbytes d7) rfl ?_
    refine X3.aget hexec (hV.mv X3.warmed.alike hh3) rfl hu rfl rfl (hb hbytes d8) ?_
    refine sipushV X3.here hexec rfl 255 (hb hbytes d9) (by decide) ?_
    refine XS.iand X3.here hexec rfl (hb hbytes d12) rfl ?_
    refine i2c X3.here hexec rfl (hb hbytes d13) rfl ?_
    exact Steps.refl _)
  exact ⟨T3, some (.int (chr8 u)), _, _, _, X3, rfl, rfl, rfl, (fun h => by cases h), ⟨rfl, hh3⟩, fun fs hl => c4.trans (X3.ireturnOut hexec hret (narrow_c _) (Or.inr (Or.inr (Or.inr (Or.inl rfl)))) (hb hbytes d14) hl)⟩
end LChA
end StrChars
namespace StrChars.Road
open Jvm Sem ClassFile Op Lib Jvm.Stand Jvm.Free Jvm.Free.XT
open Jvm.Lib.Cold (StaticIs)
theorem consq {a : Array Value} {s : State} {c : Jvm.Cond} {L : List Jvm.Cond} (h0 : c.before a s = true) (h : ∀ w ∈ L, w.before a s = true) : ∀ w ∈ c :: L, w.before a s = true := fun w hw => (List.mem_cons.mp hw).elim (fun e => e ▸ h0) (h w)
/-- the words of String.length(), either coding -/
abbrev wordsLen : List Jvm.Cond := [.code Len.yN Len.yB 1 (some .int), .initialized ST, .fieldLink ST 9 ST "value" "[B", .fieldLink ST 38 ST "COMPACT_STRINGS" "Z", .fieldLink ST 15 ST "coder" "B", .code Cdr.yN Cdr.yB 1 (some .byte), .methodLink ST 335 Cdr.yN, .declares Cdr.yN, .selects ST Cdr.yN Cdr.yN, .instanceMethod Cdr.yN]
theorem tabLen_of {a : Array Value} {s : State} (h : ∀ w ∈ wordsLen, w.before a s = true) : Len.tab.before a s = true := by
  have hc : Cdr.tab.before a s = true := unparts (wk h (.code Cdr.yN Cdr.yB 1 (some .byte))) (wks h (.initialized Cdr.yN.cls :: Cdr.site))
  have q := consq hc h
  exact unparts (wk q (.code Len.yN Len.yB 1 (some .int))) (wks q (.initialized Len.yN.cls :: Len.site))
theorem movedLen {Z s : State} {a0 args : Array Value} (hZ : Z.Warmed39 s.vm) (hw : ∀ d ∈ wordsLen, d.before a0 Z = true) : ∀ d ∈ wordsLen, d.before args s = true := fun d hd => by
  have q := hw d hd
  have t : ∀ d ∈ wordsLen, d = .arrayClass .byte ∨ (d.onTables && d.keepsFace) = true := by decide +kernel
  rcases t d hd with rfl | t
  · exact RoadKit.mvA hZ q
  · exact RoadKit.mv hZ q t
/-- the bytes of the chars cs, low before high -/
def wideBytes : List Int32 → List Value
  | [] => []
  | c :: cs => .int (lo8 c) :: .int (hi8 c) :: wideBytes cs
theorem wide_lo (d : Value) : ∀ (cs : List Int32) (j : Nat), j < cs.length → (wideBytes cs).getD (2 * j) d = .int (lo8 (cs.getD j 0))
  | [], j, h => absurd h (Nat.not_lt_zero j)
  | c :: cs, 0, _ => rfl
  | c :: cs, j + 1, h => by
    have q := wide_lo d cs j (by simpa using h)
    rw [show 2 * (j + 1) = 2 * j + 1 + 1 from by omega]
    simpa [wideBytes] using q
theorem wide_hi (d : Value) : ∀ (cs : List Int32) (j : Nat), j < cs.length → (wideBytes cs).getD (2 * j + 1) d = .int (hi8 (cs.getD j 0))
  | [], j, h => absurd h (Nat.not_lt_zero j)
  | c :: cs, 0, _ => rfl
  | c :: cs, j + 1, h => by
    have q := wide_hi d cs j (by simpa using h)
    rw [show 2 * (j + 1) + 1 = 2 * j + 1 + 1 + 1 from by omega]
    simpa [wideBytes] using q
theorem low_at (d : Value) (cs : List Int32) (j : Nat) (h : j < cs.length) : (cs.map fun c => Value.int (lo8 c)).getD j d = .int (lo8 (cs.getD j 0)) := by
  simp [List.getD_eq_getElem?_getD, h]
/-- an array of N2 bytes vs codes the chars cs by the coder cd -/
def CodA (cs : List Int32) (cd N2 : Int32) (vs : List Value) : Prop := (cd = 0 ∧ N2 = Int32.ofNat cs.length ∧ vs = (cs.map fun c => Value.int (lo8 c)) ∧ ∀ c ∈ cs, ¬ 255 < c) ∨ (cd = 1 ∧ N2 = Int32.ofNat (2 * cs.length) ∧ vs = wideBytes cs ∧ ∃ c ∈ cs, 255 < c)
theorem CodA.cod {cs : List Int32} {cd N2 : Int32} {vs : List Value} {V : Cell} (h : CodA cs cd N2 vs) (hn : 2 * cs.length < 2 ^ 31) (hs : V.slots.size = N2.toNatClampNeg) (hv : RoadKit.Has V vs (.int 0)) : Cod cd cs.length (fun j => cs.getD j 0) V := by
  rcases h with ⟨rfl, rfl, rfl, h⟩ | ⟨rfl, rfl, rfl, c, hc, hw⟩
  · rw [n32 (by omega)] at hs
    exact Or.inl ⟨rfl, hs, fun j hj => ⟨by rw [hv j (by omega), low_at _ _ _ hj], by
      have e : cs.getD j 0 = cs[j] := by simp [List.getD_eq_getElem?_getD, hj]
      show ¬ 255 < cs.getD j 0
      rw [e]; exact h _ (List.getElem_mem _)⟩⟩
  · rw [n32 (by omega)] at hs
    obtain ⟨j, hj, rfl⟩ := List.getElem_of_mem hc
    exact Or.inr ⟨rfl, hs, fun j hj => ⟨by rw [hv _ (by omega), wide_lo _ _ _ hj], by rw [hv _ (by omega), wide_hi _ _ _ hj]⟩, j, hj, by
      have e : cs.getD j 0 = cs[j] := by simp [List.getD_eq_getElem?_getD, hj]
      show 255 < cs.getD j 0
      rw [e]; exact hw⟩
/-- an object of exactly java/lang/String, its two fields found: as the laws ask it -/
theorem strObj {Z U : State} {a0 : Array Value} {kI : Nat} (wi : (Jvm.Cond.instantiable ST kI).before a0 Z = true) (al : Z.vm.Alike U.vm) {x : Addr} {v0 c0 : Value} (E : RoadKit.Exa Z U.heap x ST) (V : RoadKit.Fld Z U.heap x ST "value" "[B" v0) (C : RoadKit.Fld Z U.heap x ST "coder" "B" c0) :
    ∃ (D : Cell) (fV fC : Field), Blank ST x D U ∧ Found ST "value" "[B" fV U ∧ Found ST "coder" "B" fC U ∧ D.slots[fV.slot]? = some v0 ∧ D.slots[fC.slot]? = some c0 ∧ RoadKit.slotOf Z ST "value" "[B" = fV.slot ∧ RoadKit.slotOf Z ST "coder" "B" = fC.slot := by
  obtain ⟨D, cfV, kV, iV, fV, hD, gV, stV, knV, obV, asV, slV⟩ := V
  obtain ⟨D', cfC, kC, iC, fC, hD', gC, stC, -, -, asC, slC⟩ := C
  cases hD.symm.trans hD'
  obtain ⟨D2, kD, e1, e2, e3, e4, e5⟩ := E
  cases hD.symm.trans e1
  obtain ⟨c2, k2, i1, i2, i3, -⟩ := Cond.instantiable_spec wi
  cases e2.symm.trans i1
  cases e3.symm.trans i2
  obtain ⟨kU, u1, u2⟩ := al.2.2 _ _ e3
  exact ⟨D, fV, fC, ⟨hD, ⟨knV, fun q hq => by rw [hq] at obV; cases obV⟩, by rw [al.findClass]; exact e2, kU, u1, by rw [u2]; exact i3, by rw [u2]; exact e5 i3⟩, ⟨SBG.found_only al ⟨cfV, kV, iV, gV⟩, stV⟩, ⟨SBG.found_only al ⟨cfC, kC, iC, gC⟩, stC⟩, slV, slC, by simp [RoadKit.slotOf, gV], by simp [RoadKit.slotOf, gC]⟩
theorem sta_is {Z U : State} (al : Z.vm.Alike U.vm) {C n d : String} {v : Value} (S : RoadKit.Sta Z U.heap C n d v) : StaticIs U C n d v := by
  obtain ⟨cfS, iS, kS, fS, st, cS, t1, t2, t3, t4, t5, t6, t7⟩ := S
  exact StaticIs.there (s := { Z with heap := U.heap }) ⟨cfS, iS, kS, fS, st, cS, t1, t2, t3, t4, t5, (fun q => by rw [q] at t6; cases t6), t7⟩ al rfl
/-- **length() OF SUCH A STRING** -/
theorem lenW {p : Program} {l : Launch} {e : Env} {R : Room} {s : State} {args : Array Value} {below : List Frame} {len W : Nat} {Z : State} {a0 : Array Value} {h : Heap} (hZ : Z.Warmed39 s.vm) (hw : ∀ d ∈ wordsLen, d.before a0 Z = true) {kI : Nat} (wi : (Jvm.Cond.instantiable ST kI).before a0 Z = true)
    {x t : Addr} {kb : ClassId} {cs : List Int32} {cd N2 z : Int32} {vs : List Value} (E : RoadKit.Exa Z h x ST) (V : RoadKit.Fld Z h x ST "value" "[B" (.ref t)) (C : RoadKit.Fld Z h x ST "coder" "B" (.int cd)) (K : RoadKit.Arv Z h t kb .byte N2 vs (.int 0)) (hc : CodA cs cd N2 vs) (hb : ∀ c ∈ cs, ¬ c < 0 ∧ ¬ (65535 : Int32) < c)
    (S : RoadKit.Sta Z h ST "COMPACT_STRINGS" "Z" (.int z)) (hz : ¬ z = 0) (l2 : cs.length ≤ 4000) (hfr : 2 ≤ R.frames) (hlo : W + 25 ≤ R.locals) :
    Back l R p e below s args (⟨"java/lang/String", "length", "()I"⟩ : MethodName) len W (fun P a => a = #[.ref x] ∧ P.U.heap = h ∧ P.cells + 0 ≤ R.cells ∧ P.slots + 0 ≤ R.slots)
      (fun P _ v B => ∃ L, (v = some (.int (Int32.ofNat cs.length)) ∧ L = [] ∧ B.U.heap = h) ∧ B.locs = P.locs ++ L ∧ B.cells = P.cells + 0 ∧ B.slots = P.slots + 0) := by
  obtain ⟨A, K1, K2, K3, K4, K5, K6⟩ := K
  have hcod := hc.cod (by omega) K3 K5
  intro m meth c P g ig mk a X hg hsize hdg hW hn hp'
  obtain ⟨rfl, rfl, r1, r2⟩ := hp'
  have al : Z.vm.Alike P.U.vm := hZ.alike.trans X.warmed.alike
  obtain ⟨D, fV, fC, hB, F1, F2, g1, g2, -, -⟩ := strObj wi al E V C
  have hx : Txt x t A cd cs.length (fun j => cs.getD j 0) P.U := ⟨⟨_, hB.2.2.1, D, hB.1, rfl, by cases q : D.vm <;> first | rfl | exact absurd q (hB.2.1.2 _)⟩, Has.of hB F1 g1, Has.of hB F2 g2, ⟨K1.1, State.isArrayOf_alike al K1.2.1, K1.2.2, by rcases hcod with ⟨-, q, -⟩ | ⟨-, q, -⟩ <;> omega⟩, hcod, fun j hj => by
    have e : cs.getD j 0 = cs[j] := by simp [List.getD_eq_getElem?_getD, hj]
    show ¬ cs.getD j 0 < 0 ∧ ¬ 65535 < cs.getD j 0
    rw [e]; exact hb _ (List.getElem_mem _)⟩
  obtain ⟨v, B, X', ⟨⟨hv, hh⟩, hl, hk, hs⟩, st⟩ := Len.pays x t A cd cs.length (fun j => cs.getD j 0) z (tabLen_of (movedLen hZ hw)) hfr hlo m meth c P g ig mk _ X hg hsize hdg hW hn ⟨r1, r2, rfl, hx, sta_is al S, hz⟩
  exact ⟨v, B, X', ⟨[], ⟨hv, rfl, hh⟩, hl, hk, hs⟩, st⟩
end StrChars.Road
namespace StrChars.Road
open Jvm Sem ClassFile Op Lib Jvm.Stand Jvm.Free Jvm.Free.XT
open Jvm.Lib.Cold (StaticIs)
/-- the road's facts of a String, as the laws ask it -/
theorem txt_of {Z U : State} {a0 : Array Value} {kI : Nat} (wi : (Jvm.Cond.instantiable ST kI).before a0 Z = true) (al : Z.vm.Alike U.vm) {x t : Addr} {kb : ClassId} {cs : List Int32} {cd N2 : Int32} {vs : List Value} (E : RoadKit.Exa Z U.heap x ST) (V : RoadKit.Fld Z U.heap x ST "value" "[B" (.ref t)) (C : RoadKit.Fld Z U.heap x ST "coder" "B" (.int cd)) (K : RoadKit.Arv Z U.heap t kb .byte N2 vs (.int 0)) (hc : CodA cs cd N2 vs) (hb : ∀ c ∈ cs, ¬ c < 0 ∧ ¬ (65535 : Int32) < c) (l2 : cs.length ≤ 4000) :
    ∃ A, Txt x t A cd cs.length (fun j => cs.getD j 0) U := by
  obtain ⟨A, K1, K2, K3, K4, K5, K6⟩ := K
  have hcod := hc.cod (by omega) K3 K5
  obtain ⟨D, fV, fC, hB, F1, F2, g1, g2, -, -⟩ := strObj wi al E V C
  exact ⟨A, ⟨_, hB.2.2.1, D, hB.1, rfl, by cases q : D.vm <;> first | rfl | exact absurd q (hB.2.1.2 _)⟩, Has.of hB F1 g1, Has.of hB F2 g2, ⟨K1.1, State.isArrayOf_alike al K1.2.1, K1.2.2, by rcases hcod with ⟨-, q, -⟩ | ⟨-, q, -⟩ <;> omega⟩, hcod, fun j hj => by
    have e : cs.getD j 0 = cs[j] := by simp [List.getD_eq_getElem?_getD, hj]
    show ¬ cs.getD j 0 < 0 ∧ ¬ 65535 < cs.getD j 0
    rw [e]; exact hb _ (List.getElem_mem _)⟩
end StrChars.Road
namespace StrChars
open Jvm Sem ClassFile Op Lib Jvm.Stand Jvm.Free.XT Jvm.Free.ALB Jvm.Free.JM Jvm.Free
open Jvm.Lib.Cold (StaticIs)
namespace ChN
def yN : MethodName := ⟨"java/lang/String", "charAt", "(I)C"⟩
abbrev yB : ByteArray := jdk_42_method_56_code
theorem d0 : decode yB 0 = .ok (.aload_n 0, 1) := by decide +kernel
theorem d1 : decode yB 1 = .ok (.invokevirtual 492, 3) := by decide +kernel
theorem d4 : decode yB 4 = .ok (.ifCond (.eq) 12, 3) := by decide +kernel
theorem d7 : decode yB 7 = .ok (.aload_n 0, 1) := by decide +kernel
theorem d8 : decode yB 8 = .ok (.getfield 9, 3) := by decide +kernel
theorem d11 : decode yB 11 = .ok (.iload_n 1, 1) := by decide +kernel
theorem d12 : decode yB 12 = .ok (.invokestatic 495, 3) := by decide +kernel
theorem d15 : decode yB 15 = .ok (.ireturn, 1) := by decide +kernel
def site : List Cond := [.fieldLink "java/lang/String" 9 "java/lang/String" "value" "[B", IsL.tab, LChA.tab] ++ virtW "java/lang/String" 492 "java/lang/String" IsL.yN IsL.yN ++ staticW "java/lang/String" 495 LChA.yN
def tab : Cond := tabOf yN yB 2 (some .char) site
def P (x t : Addr) (V : Cell) (n : Nat) (f : Nat → Int32) (z : Int32) (fm : Value) (i : Nat) (args : Array Value) (s : State) : Prop := args = #[.ref x, .int (Int32.ofNat i)] ∧ Txt x t V 0 n f s ∧ i < n ∧ StaticIs s "java/lang/String" "COMPACT_STRINGS" "Z" (.int z) ∧ ¬ z = 0 ∧ StaticIs s "jdk/internal/util/Preconditions" "SIOOBE_FORMATTER" "Ljava/util/function/BiFunction;" fm ∧ fm.isRef = true
def E (f : Nat → Int32) (i : Nat) (r : Option Value) (s u : State) : Prop := XT.PureE (some (.int (f i))) r s u
/-- charAt(i) of a Latin-1 String of n chars, i < n: f i -/
theorem law (l : Launch) (x t : Addr) (V : Cell) (n : Nat) (f : Nat → Int32) (z : Int32) (fm : Value) (i : Nat) : Law l yN 2 1 3 40 yB 2 (some .char) site (P x t V n f z fm i) (E f i) [] 0 0 := by
  refine Law.of_walk (plainFor_of_name (by decide +kernel)) (by decide +kernel) (by decide +kernel) (by decide) (fun _ _ h => by rw [h.1]; rfl) (fun _ U U' hal hh h => ⟨h.1, h.2.1.mv hal hh, h.2.2.1, h.2.2.2.1.there hal hh, h.2.2.2.2.1, h.2.2.2.2.2.1.there hal hh, h.2.2.2.2.2.2⟩) (fun r U U' V V' h1 hal h2 h => XT.PureE.mv r U U' V V' h1 hal h2 h) ?_
  intro p e s m args below meth c s₁ X0 hexec hbytes hml hret hlk hnm hown hh0 W hP
  obtain ⟨rfl, hx, hi, s1, hz, s3, rf⟩ := hP
  have v31 := hx.2.2.2.1.2.2.2
  have hr := hx.2.2.2.2.2 i hi
  have hx0 := hx.mv X0.warmed.alike hh0
  have c1 : Steps p.tables e below (s₁.setTop (entryFrame m #[.ref x, .int (Int32.ofNat i)] 2)) (s₁.setTop (mkF m 1 #[.val (.ref x), .val (.int (Int32.ofNat i))] [.ref x])) := Steps.trans (entry rfl) (by
    show Steps p.tables e below (s₁.setTop (mkF m 0 #[.val (.ref x), .val (.int (Int32.ofNat i))] [])) _
    refine XS.aloadN X0.here hexec rfl (hb hbytes d0) rfl rfl ?_
    exact Steps.refl _)
  obtain ⟨v2, T2, X2, E2, g2⟩ := X0.callV hexec (IsL.law l x 0 z) hown (wks W (virtW "java/lang/String" 492 "java/lang/String" IsL.yN IsL.yN)) rfl (by decide) (wk W IsL.tab) (W := 0) (Nat.le_of_ble_eq_true rfl) (Nat.le_of_ble_eq_true rfl) (Nat.le_refl _) (Nat.le_refl _) (hx0.1.fc X0.warmed.alike) hx0.1.is (g := (mkF m 1 #[.val (.ref x), .val (.int (Int32.ofNat i))] [.ref x])) rfl (by rw [hml]; rfl) c1 (argsL := []) (rest := []) rfl rfl (by show 2 * 0 + 0 ≤ _; decide) (hb hbytes d1) (⟨rfl, hx0.2.2.1, hx.2.2.2.2.1.cd, s1.there X0.warmed.alike hh0, hz⟩)
  obtain ⟨rfl, q2⟩ := E2
  have hh2 := q2.trans hh0
  have hx2 := hx.mv X2.warmed.alike hh2
  obtain ⟨-, k1, k2⟩ | ⟨k0, -⟩ := hx.2.2.2.2.1
  · have c3 : Steps p.tables e below (s₁.setTop (entryFrame m #[.ref x, .int (Int32.ofNat i)] 2)) (T2.setTop (mkF m 8 #[.val (.ref x), .val (.int (Int32.ofNat i))] [.ref x])) := Steps.trans g2 (by
      refine XS.ifNo X2.here hexec rfl (hb hbytes d4) rfl (i0_eq_f (by decide)) ?_
      refine XS.aloadN X2.here hexec rfl (hb hbytes d7) rfl rfl ?_
      exact Steps.refl _)
    obtain ⟨T4, X4, q4, st4⟩ := X2.hget hexec hown (wk W (.fieldLink "java/lang/String" 9 "java/lang/String" "value" "[B")) hx2.2.1 (g := (mkF m 8 #[.val (.ref x), .val (.int (Int32.ofNat i))] [.ref x])) rfl (rest := []) rfl (hb hbytes d8)
    have hh4 := q4.trans hh2
    have c5 : Steps p.tables e below (s₁.setTop (entryFrame m #[.ref x, .int (Int32.ofNat i)] 2)) (T4.setTop (mkF m 12 #[.val (.ref x), .val (.int (Int32.ofNat i))] [.int (Int32.ofNat i), .ref t])) := (c3.trans (st4 _ (Steps.refl _))).trans (by
      refine XS.iloadN X4.here hexec rfl (hb hbytes d11) rfl ?_
      exact Steps.refl _)
    obtain ⟨v6, T6, X6, E6, g6⟩ := X4.callS hexec (LChA.law l t V i (lo8 (f i)) fm) hown (wks W (staticW "java/lang/String" 495 LChA.yN)) (wk W LChA.tab) (W := 0) (Nat.le_of_ble_eq_true rfl) (Nat.le_of_ble_eq_true rfl) (Nat.le_refl _) (Nat.le_refl _) (g := (mkF m 12 #[.val (.ref x), .val (.int (Int32.ofNat i))] [.int (Int32.ofNat i), .ref t])) rfl (by rw [hml]; rfl) c5 (argsL := [.ref t, .int (Int32.ofNat i)]) (rest := []) rfl rfl (by show 2 * 0 + 0 ≤ _; decide) (hb hbytes d12) (⟨rfl, hx.2.2.2.1.mv X4.warmed.alike hh4, (k2 i hi).1, s3.there X4.warmed.alike hh4, rf⟩)
    obtain ⟨rfl, q6⟩ := E6
    rw [chr8_lo8 hr.1 (k2 i hi).2] at g6
    exact ⟨T6, some (.int (f i)), _, _, _, X6, rfl, rfl, rfl, (fun h => by cases h), ⟨rfl, q6.trans hh4⟩, fun fs hl => Steps.trans g6 (X6.ireturnOut hexec hret (narrow_ch hr.1 hr.2) (Or.inr (Or.inr (Or.inr (Or.inl rfl)))) (hb hbytes d15) hl)⟩
  · exact absurd k0 (by decide)
theorem pays {l : Launch} {R : Room} {p : Program} {e : Env} {below : List Frame} {s : State} {sargs : Array Value} {len W : Nat} (x t : Addr) (V : Cell) (n : Nat) (f : Nat → Int32) (z : Int32) (fm : Value) (i : Nat) (htab : tab.before sargs s = true) (hfr : 4 ≤ R.frames) (hlo : W + 53 ≤ R.locals) :
    Back l R p e below s sargs yN len W (fun A₁ a₁ => A₁.cells + 0 ≤ R.cells ∧ A₁.slots + 0 ≤ R.slots ∧ P x t V n f z fm i a₁ A₁.U) (fun A₁ _ v₁ B₁ => E f i v₁ A₁.U B₁.U ∧ B₁.locs = A₁.locs ++ [] ∧ B₁.cells = A₁.cells + 0 ∧ B₁.slots = A₁.slots + 0) :=
  (law l x t V n f z fm i).pays htab hfr (by omega)
end ChN
end StrChars
namespace StrChars.Road
open Jvm Sem ClassFile Op Lib Jvm.Stand Jvm.Free Jvm.Free.XT
open Jvm.Lib.Cold (StaticIs)
/-- the words of String.charAt(int), the Latin-1 road alone -/
abbrev wordsChN : List Jvm.Cond := [.code ChN.yN ChN.yB 2 (some .char), .initialized ST, .fieldLink ST 9 ST "value" "[B", .fieldLink ST 38 ST "COMPACT_STRINGS" "Z", .fieldLink ST 15 ST "coder" "B", .code IsL.yN IsL.yB 1 (some .boolean), .methodLink ST 492 IsL.yN, .declares IsL.yN, .selects ST IsL.yN IsL.yN, .instanceMethod IsL.yN,
  .methodLink ST 495 LChA.yN, .static LChA.yN, .code LChA.yN LChA.yB 2 (some .char), .initialized "java/lang/StringLatin1", .methodLink "java/lang/StringLatin1" 9 JO.Str_checkIndex.yN, .static JO.Str_checkIndex.yN, .code JO.Str_checkIndex.yN JO.Str_checkIndex.yB 2 none,
  .fieldLink ST 1053 "jdk/internal/util/Preconditions" "SIOOBE_FORMATTER" "Ljava/util/function/BiFunction;", .methodLink ST 1059 JC.PreCheck.yN, .static JC.PreCheck.yN, .code JC.PreCheck.yN JC.PreCheck.yB 3 (some .int), .initialized "jdk/internal/util/Preconditions"]
theorem tabChN_of {a : Array Value} {s : State} (h : ∀ w ∈ wordsChN, w.before a s = true) : ChN.tab.before a s = true := by
  have hp : JC.PreCheck.tab.before a s = true := unparts (wk h (.code JC.PreCheck.yN JC.PreCheck.yB 3 (some .int))) (wks h (.initialized JC.PreCheck.yN.cls :: JC.PreCheck.site))
  have qk := consq hp h
  have hk : JO.Str_checkIndex.tab.before a s = true := unparts (wk qk (.code JO.Str_checkIndex.yN JO.Str_checkIndex.yB 2 none)) (wks qk (.initialized JO.Str_checkIndex.yN.cls :: JO.Str_checkIndex.site))
  have ql := consq hk h
  have hl : LChA.tab.before a s = true := unparts (wk ql (.code LChA.yN LChA.yB 2 (some .char))) (wks ql (.initialized LChA.yN.cls :: LChA.site))
  have hi : IsL.tab.before a s = true := unparts (wk h (.code IsL.yN IsL.yB 1 (some .boolean))) (wks h (.initialized IsL.yN.cls :: IsL.site))
  have q := consq hi (consq hl h)
  exact unparts (wk q (.code ChN.yN ChN.yB 2 (some .char))) (wks q (.initialized ChN.yN.cls :: ChN.site))
theorem movedChN {Z s : State} {a0 args : Array Value} (hZ : Z.Warmed39 s.vm) (hw : ∀ d ∈ wordsChN, d.before a0 Z = true) : ∀ d ∈ wordsChN, d.before args s = true := fun d hd => by
  have t : ∀ d ∈ wordsChN, (d.onTables && d.keepsFace) = true := by decide +kernel
  exact RoadKit.mv hZ (hw d hd) (t d hd)
/-- **charAt(i) OF A LATIN-1 STRING**, i < n: the char -/
theorem chN {p : Program} {l : Launch} {e : Env} {R : Room} {s : State} {args : Array Value} {below : List Frame} {len W : Nat} {Z : State} {a0 : Array Value} {h : Heap} (hZ : Z.Warmed39 s.vm) (hw : ∀ d ∈ wordsChN, d.before a0 Z = true) {kI : Nat} (wi : (Jvm.Cond.instantiable ST kI).before a0 Z = true)
    {x t : Addr} {kb : ClassId} {cs : List Int32} {N2 z : Int32} {vs : List Value} {fm : Value} {i : Nat} {j : Int32} (E : RoadKit.Exa Z h x ST) (V : RoadKit.Fld Z h x ST "value" "[B" (.ref t)) (C : RoadKit.Fld Z h x ST "coder" "B" (.int 0)) (K : RoadKit.Arv Z h t kb .byte N2 vs (.int 0)) (hc : CodA cs 0 N2 vs) (hb : ∀ c ∈ cs, ¬ c < 0 ∧ ¬ (65535 : Int32) < c)
    (S : RoadKit.Sta Z h ST "COMPACT_STRINGS" "Z" (.int z)) (hz : ¬ z = 0) (F : RoadKit.Sta Z h "jdk/internal/util/Preconditions" "SIOOBE_FORMATTER" "Ljava/util/function/BiFunction;" fm) (rf : fm.isRef = true) (l2 : cs.length ≤ 4000) (hi : i < cs.length) (hj : j = Int32.ofNat i) (hfr : 4 ≤ R.frames) (hlo : W + 53 ≤ R.locals) :
    Back l R p e below s args (⟨"java/lang/String", "charAt", "(I)C"⟩ : MethodName) len W (fun P a => a = #[.ref x, .int j] ∧ P.U.heap = h ∧ P.cells + 0 ≤ R.cells ∧ P.slots + 0 ≤ R.slots)
      (fun P _ v B => ∃ L, (v = some (.int (cs.getD i 0)) ∧ L = [] ∧ B.U.heap = h) ∧ B.locs = P.locs ++ L ∧ B.cells = P.cells + 0 ∧ B.slots = P.slots + 0) := by
  subst hj
  intro m meth c P g ig mk a X hg hsize hdg hW hn hp'
  obtain ⟨rfl, rfl, r1, r2⟩ := hp'
  have al : Z.vm.Alike P.U.vm := hZ.alike.trans X.warmed.alike
  obtain ⟨A, hx⟩ := txt_of wi al E V C K hc hb l2
  obtain ⟨v, B, X', ⟨⟨hv, hh⟩, hl, hk, hs⟩, st⟩ := ChN.pays x t A cs.length (fun j => cs.getD j 0) z fm i (tabChN_of (movedChN hZ hw)) hfr hlo m meth c P g ig mk _ X hg hsize hdg hW hn ⟨r1, r2, rfl, hx, hi, sta_is al S, hz, sta_is al F, rf⟩
  exact ⟨v, B, X', ⟨[], ⟨hv, rfl, hh⟩, hl, hk, hs⟩, st⟩
/-- what backV says of its String, as the contracts of this text ask it: cs's low bytes, coder 0 -/
theorem codOf {cs : List Int32} {n : Nat} (hn : cs.length = n) (hb : ∀ c ∈ cs, ¬ 255 < c) : CodA cs 0 (Int32.ofNat n) ((cs.map lo8).map Value.int) := Or.inl ⟨rfl, by rw [hn], by simp [List.map_map, Function.comp_def], hb⟩
end StrChars.Road
end Jvm.Pilot.@@N@@
namespace Jvm.Pilot.@@N@@
open Jvm Jvm.ClassFile Sem Op Lib Jvm.Free Jvm.Stand Jvm.LawKit Jvm.RoadKit Bundle Jvm.Pilot.@@N@@.Jvm.D
theorem own_fld {args : Array Value} {s : State} {t u : Term} {C n d : String} {a : Addr} {z : Int32} (ev : t.eval args s none [] s = some (.ref a)) (hu : u.eval args s none [] s = some (.int z)) (h : (Jvm.Cond.eq (Term.field t C n d) u).value args s none s [] = some true) : Fld s s.heap a C n d (.int z) := by
  obtain ⟨x, y, h1, h2, -, k2⟩ := cmp_v (Or.inl h)
  rw [hu] at h2
  cases h2
  obtain ⟨x', rfl⟩ := k2
  have e2 : x' = z := gotT (P := x' = z) (by simp [Cond.value, h1, hu]) h
  subst e2
  rw [fld_at ev] at h1
  exact Fld.start h1
theorem own_c255 (x : Int32) : nar .char ((x &&& (255 : Int32)).toUInt32.toUInt16.toUInt32.toInt32) = (x &&& (255 : Int32)).toUInt32.toUInt16.toUInt32.toInt32 := by
  show ((x &&& (255 : Int32)).toUInt32.toUInt16.toUInt32.toInt32).toUInt32.toUInt16.toUInt32.toInt32 = _
  rw [i2c_mask, i2c_mask]
theorem own_r255 (x : Int32) : ¬ ((x &&& (255 : Int32)).toUInt32.toUInt16.toUInt32.toInt32) < 0 ∧ ¬ (255 : Int32) < ((x &&& (255 : Int32)).toUInt32.toUInt16.toUInt32.toInt32) := by
  rw [i2c_mask]
  have h := c_and x 255 (by decide)
  have e : (255 : Int32).toInt = 255 := rfl
  have e0 : (0 : Int32).toInt = 0 := rfl
  constructor <;> rw [Int32.lt_iff_toInt_lt] <;> omega
theorem own_ne0 {args : Array Value} {s : State} {t : Term} {z : Int32} (ev : t.eval args s none [] s = some (.int z)) (h : (Jvm.Cond.not (Jvm.Cond.eq t (Term.int (0 : Int32)))).value args s none s [] = some true) : ¬ z = 0 := by
  have h2 := not_v h
  exact gotF (P := z = 0) (by simp [Cond.value, ev, Term.eval]) h2
theorem own_len {args : Array Value} {s : State} {t : Term} {a : Addr} {c : Cell} {ty : FieldType} {z : Int32} (ev : t.eval args s none [] s = some (.ref a)) (A : Arr s s.heap a c ty) (h : (Jvm.Cond.eq (Term.length t) (Term.int z)).value args s none s [] = some true) : c.slots.size < 2 ^ 31 ∧ c.slots.size.toInt32 = z := by
  have hA := A.fin (Vm.Alike.refl _)
  by_cases q : c.slots.size < 2 ^ 31
  · exact ⟨q, gotT (Cond.eq_ints (len_f ev hA q) (Term.int_eval z)) h⟩
  · obtain ⟨x, y, h1, -⟩ := cmp_v (Or.inl h)
    simp [Term.eval, ev, hA, q] at h1
theorem own_narb (x : Int32) : nar .byte (x.toInt8.toInt32) = x.toInt8.toInt32 := by simp [nar]
theorem own_fitb {z : Int32} (h : nar .byte z = z) : fits .byte (.int z) = true := by
  rw [← h]
  exact fits_nar_byte _
abbrev bsV (cs : List Int32) : List Value := (cs.map (fun c => c.toInt8.toInt32)).map Value.int
theorem bsV_len (cs : List Int32) : (bsV cs).length = cs.length := by simp [bsV]
theorem own_usb (cx : List Int32) : (List.range cx.length).map (fun y => (bsV cx).getD (0 + y) (.int (0 : Int32))) = bsV cx := by
  apply List.ext_getElem
  · simp [bsV]
  · intro i h1 h2
    have h3 : i < cx.length := by simpa using h1
    simp [bsV, h3]
theorem own_vn (cs cx : List Int32) : (bsV cs ++ List.replicate cx.length (Value.int (0 : Int32))).take cs.length ++ (List.range cx.length).map (fun y => (bsV cx).getD (0 + y) (Value.int (0 : Int32))) ++ (bsV cs ++ List.replicate cx.length (Value.int (0 : Int32))).drop (cs.length + cx.length) = bsV (cs ++ cx) := by
  rw [own_usb, List.take_left' (bsV_len cs), List.drop_of_length_le (by simp [bsV]), List.append_nil]
  simp [bsV]
theorem own_vr (cs : List Int32) : (List.replicate cs.length (Value.int (0 : Int32))).take 0 ++ (List.range cs.length).map (fun y => (bsV cs).getD (0 + y) (.int (0 : Int32))) ++ (List.replicate cs.length (Value.int (0 : Int32))).drop (0 + cs.length) = bsV cs := by
  rw [own_usb, List.drop_of_length_le (by simp)]
  simp
theorem own_padr (N n : Nat) (d : Value) : ∀ i, (List.replicate n d).getD i d = (List.replicate N d).getD i d := fun i => (pad_rep [] d n i).trans (pad_rep [] d N i).symm
theorem own_shl0 (x : Int32) : (x <<< ((0 : Int32) &&& 31)) = x := by
  apply Int32.toBitVec_inj.mp
  simp
theorem own_shr0 (x : Int32) : (x >>> ((0 : Int32) &&& 31)) = x := by
  apply Int32.toBitVec_inj.mp
  simp
theorem own_ofadd (a b : Nat) : Int32.ofNat a + Int32.ofNat b = Int32.ofNat (a + b) := (Int32.ofNat_add a b).symm
theorem own_toi {a : Nat} (h : a < 2 ^ 31) : (Int32.ofNat a).toInt = a := Int32.toInt_ofNat_of_lt h
theorem own_lt {a b : Nat} (ha : a < 2 ^ 31) (hb : b < 2 ^ 31) : (Int32.ofNat a < Int32.ofNat b) ↔ a < b := by
  rw [Int32.lt_iff_toInt_lt, own_toi ha, own_toi hb]; omega
theorem own_eqi {a b : Nat} (ha : a < 2 ^ 31) (hb : b < 2 ^ 31) : (Int32.ofNat a = Int32.ofNat b) ↔ a = b := by
  refine ⟨fun q => ?_, fun q => by rw [q]⟩
  have := congrArg Int32.toInt q
  rw [own_toi ha, own_toi hb] at this
  omega
theorem own_ofsub {a b : Nat} (h : b ≤ a) : Int32.ofNat a - Int32.ofNat b = Int32.ofNat (a - b) := by
  have q := own_ofadd (a - b) b
  rw [Nat.sub_add_cancel h] at q
  rw [← q]
  exact Int32.add_sub_cancel _ _
theorem own_ec {q N : Nat} (h : q ≤ N) (hN : N ≤ 4000) : ¬ (0 : Int32) < Int32.ofNat q - (Int32.ofNat N >>> ((0 : Int32) &&& 31)) := by
  rw [own_shr0, Int32.lt_iff_toInt_lt, Int32.toInt_sub, own_toi (by omega), own_toi (by omega)]
  have e0 : (0 : Int32).toInt = 0 := rfl
  rw [e0, Int.bmod_def]
  split <;> omega
theorem own_nonneg {a : Nat} (h : a < 2 ^ 31) : ¬ Int32.ofNat a < 0 := (own_nn rfl h).2
theorem own_cl {a : Nat} (h : a < 2 ^ 31) : (Int32.ofNat a).toNatClampNeg = a := (own_nn rfl h).1
theorem own_up {cs : List Int32} (h : ∀ c ∈ cs, ¬ c < 0 ∧ ¬ (255 : Int32) < c) : ∀ c ∈ cs, ¬ c < 0 ∧ ¬ (65535 : Int32) < c := fun c hc => ⟨(h c hc).1, fun q => (h c hc).2 (Int32.lt_trans (by decide) q)⟩
theorem own_same {Z : State} {a0 : Array Value} {y y' : MethodName} (w1 : (Jvm.Cond.instanceMethod y).before a0 Z = true) (w2 : (Jvm.Cond.instanceMethod y').before a0 Z = true) {C : String} (w3 : (Jvm.Cond.selects C y' y').before a0 Z = true) (hy : y.cls = y'.cls ∧ y.cls ≠ "java/lang/invoke/MethodHandle" ∧ y.cls ≠ "java/lang/invoke/VarHandle") : (Jvm.Cond.sameMethod y.cls y.cls y.name y.desc).before a0 Z = true := by
  obtain ⟨mk, methM, hnamed, -, -, -⟩ := Cond.instanceMethod_spec w1
  obtain ⟨mk', methM', hnamed', -, -, -⟩ := Cond.instanceMethod_spec w2
  have hf := State.methodFound?_of_named hnamed hy.2
  have hc := findClass_of_methodNamed hnamed
  have hc' := findClass_of_methodNamed hnamed'
  rw [← hy.1] at hc'
  have e : mk'.cls = mk.cls := Option.some.inj (hc'.symm.trans hc)
  obtain ⟨kr, hkr, hni⟩ := (notFace_of_selects w3) mk' hnamed'
  rw [e] at hkr
  have hnn : Z.methodNamed? ⟨y.cls, y.name, y.desc⟩ = some mk := hnamed
  simp [Cond.before, Cond.holds, Cond.value, hc, hf, hnn, hkr, hni]
theorem own_decl {Z : State} {a0 : Array Value} {y : MethodName} {b : ByteArray} {ml : Nat} {rt : Option FieldType} (w1 : (Jvm.Cond.instanceMethod y).before a0 Z = true) (w2 : (Jvm.Cond.code y b ml rt).before a0 Z = true) : (Jvm.Cond.declares y).before a0 Z = true := by
  obtain ⟨mk, methM, hn, hm, hs, -⟩ := Cond.instanceMethod_spec w1
  obtain ⟨m2, cM, q1, -, -, -, -, -, -, hsig⟩ := Cond.code_spec hn w2
  cases hm.symm.trans q1
  simp [Cond.before, Cond.holds, Cond.value, hn, hm, hs, hsig]
theorem own_sub0 (x : Int32) : x - (0 : Int32) = x := Int32.sub_zero x
theorem own_nf {Z : State} {args : Array Value} {y y' : MethodName} (w1 : (Jvm.Cond.declares y).before args Z = true) (w2 : (Jvm.Cond.instanceMethod y').before args Z = true) {C : String} (w3 : (Jvm.Cond.selects C y' y').before args Z = true) (hy : y.cls = y'.cls := by rfl) : NotFace Z y := fun r0 hr => by
  obtain ⟨mk', methM', hnamed', -, -, -⟩ := Cond.instanceMethod_spec w2
  have hc := findClass_of_methodNamed hr
  have hc' := findClass_of_methodNamed hnamed'
  rw [← hy] at hc'
  have e : mk'.cls = r0.cls := Option.some.inj (hc'.symm.trans hc)
  rw [← e]
  exact (notFace_of_selects (args := args) w3) mk' hnamed'
def dl (n : Nat) : List Int32 := if h : n < 10 then [Int32.ofNat (48 + n)] else dl (n / 10) ++ [Int32.ofNat (48 + n % 10)]
termination_by n
decreasing_by omega
def sgl (x : Int32) : List Int32 := if x < 0 then [45] else []
def mg (x : Int32) : Nat := x.toInt.natAbs
theorem dl_lt {n : Nat} (h : n < 10) : dl n = [Int32.ofNat (48 + n)] := by rw [dl]; simp [h]
theorem dl_ge {n : Nat} (h : 10 ≤ n) : dl n = dl (n / 10) ++ [Int32.ofNat (48 + n % 10)] := by rw [dl]; simp [Nat.not_lt.mpr h]
theorem dl_ge2 {n : Nat} (h : 100 ≤ n) : dl n = dl (n / 100) ++ [Int32.ofNat (48 + n / 10 % 10), Int32.ofNat (48 + n % 10)] := by
  rw [dl_ge (by omega), dl_ge (by omega), Nat.div_div_eq_div_mul]; simp
theorem dl_two {n : Nat} (h1 : 10 ≤ n) (h2 : n < 100) : dl n = [Int32.ofNat (48 + n / 10), Int32.ofNat (48 + n % 10)] := by
  rw [dl_ge h1, dl_lt (by omega)]; simp
theorem dl_len : ∀ (k n : Nat), n < 10 ^ (k + 1) → (k = 0 ∨ 10 ^ k ≤ n) → (dl n).length = k + 1
  | 0, n, h, _ => by rw [dl_lt (by simpa using h)]; rfl
  | k + 1, n, h, h2 => by
    have h3 : 10 ^ (k + 1) ≤ n := h2.resolve_left (by omega)
    have hp : 0 < 10 ^ k := Nat.pow_pos (by decide)
    rw [Nat.pow_succ] at h h3
    rw [dl_ge (by omega), List.length_append, dl_len k (n / 10) (by omega) (Or.inr (by omega))]; simp
theorem dl_pos (n : Nat) : 1 ≤ (dl n).length := by
  by_cases h : n < 10
  · rw [dl_lt h]; simp
  · rw [dl_ge (by omega)]; simp
theorem dl_get : ∀ (k n j : Nat), (dl n).length = k + 1 → j ≤ k → (dl n).getD j 0 = Int32.ofNat (48 + n / 10 ^ (k - j) % 10)
  | 0, n, j, h, hj => by
    obtain rfl : j = 0 := by omega
    by_cases q : n < 10
    · rw [dl_lt q]; simp [Nat.mod_eq_of_lt q]
    · rw [dl_ge (by omega)] at h; have := dl_pos (n / 10); simp only [List.length_append, List.length_singleton] at h; omega
  | k + 1, n, j, h, hj => by
    by_cases q : n < 10
    · rw [dl_lt q] at h; simp at h
    · rw [dl_ge (by omega)] at h ⊢
      have hl : (dl (n / 10)).length = k + 1 := by simpa using h
      by_cases e : j = k + 1
      · subst e; rw [← hl]; simp [List.getD_eq_getElem?_getD]
      · rw [List.getD_eq_getElem?_getD, List.getElem?_append_left (by omega), ← List.getD_eq_getElem?_getD, dl_get k (n / 10) j hl (by omega), Nat.div_div_eq_div_mul, show k + 1 - j = (k - j) + 1 by omega, Nat.pow_succ, Nat.mul_comm]
theorem dl_rng (n : Nat) : ∀ c ∈ dl n, ¬ c < 0 ∧ ¬ (255 : Int32) < c := by
  have key : ∀ d : Nat, d < 10 → ¬ Int32.ofNat (48 + d) < 0 ∧ ¬ (255 : Int32) < Int32.ofNat (48 + d) := by decide
  induction n using Nat.strongRecOn with
  | _ n ih =>
    intro c hc
    by_cases q : n < 10
    · rw [dl_lt q] at hc; obtain rfl := List.mem_singleton.mp hc; exact key _ q
    · rw [dl_ge (by omega)] at hc
      rcases List.mem_append.mp hc with z | z
      · exact ih _ (by omega) c z
      · obtain rfl := List.mem_singleton.mp z; exact key _ (by omega)
theorem own_oi {z : Int} (h1 : -2147483648 ≤ z) (h2 : z ≤ 2147483647) : (Int32.ofInt z).toInt = z := Int32.toInt_ofInt_of_le h1 (by omega)
theorem own_dv {v : Nat} (h : v ≤ 2147483648) : Int32.ofInt (-(v : Int)) / (100 : Int32) = Int32.ofInt (-((v / 100 : Nat) : Int)) := by
  apply Int32.toInt_inj.mp
  rw [Int32.toInt_div, own_oi (by omega) (by omega), own_oi (by omega) (by omega)]
  have e : (100 : Int32).toInt = 100 := rfl
  rw [e]
  have : (-(v : Int)).tdiv 100 = -((v / 100 : Nat) : Int) := by rw [Int.neg_tdiv]; rfl
  rw [this]
  rw [Int.bmod_def]; omega
theorem own_rm {v : Nat} : Int32.ofInt (-((v / 100 : Nat) : Int)) * (100 : Int32) - Int32.ofInt (-(v : Int)) = Int32.ofNat (v % 100) := by
  have e : (100 : Int32) = Int32.ofInt 100 := rfl
  rw [e, ← Int32.ofInt_mul, ← Int32.ofInt_sub, ← Int32.ofInt_eq_ofNat]
  congr 1
  omega
theorem own_ng {v : Nat} : -(Int32.ofInt (-(v : Int))) = Int32.ofNat v := by
  rw [← Int32.ofInt_neg, ← Int32.ofInt_eq_ofNat]; congr 1; omega
theorem own_ltn {v k : Nat} (hv : v ≤ 2147483648) (hk : k ≤ 2147483647) : (Int32.ofInt (-(k : Int)) < Int32.ofInt (-(v : Int))) ↔ v < k := by
  rw [Int32.lt_iff_toInt_lt, own_oi (by omega) (by omega), own_oi (by omega) (by omega)]; omega
theorem own_mg (x : Int32) (h : x < 0) : x = Int32.ofInt (-(mg x : Int)) := by
  apply Int32.toInt_inj.mp
  rw [Int32.lt_iff_toInt_lt] at h
  have e : (0 : Int32).toInt = 0 := rfl
  have b := x.le_toInt
  have b2 := x.toInt_lt
  unfold mg
  rw [own_oi (by omega) (by omega)]; omega
theorem own_mg2 (x : Int32) (h : ¬ x < 0) : -x = Int32.ofInt (-(mg x : Int)) := by
  rw [Int32.lt_iff_toInt_lt] at h
  have e : (0 : Int32).toInt = 0 := rfl
  have b := x.le_toInt
  have b2 := x.toInt_lt
  have q : x = Int32.ofInt (mg x : Int) := by
    apply Int32.toInt_inj.mp
    unfold mg
    rw [own_oi (by omega) (by omega)]; omega
  rw [Int32.ofInt_neg, ← q]
theorem mg_le (x : Int32) : mg x ≤ 2147483648 := by
  have b := x.le_toInt
  have b2 := x.toInt_lt
  unfold mg; omega
theorem own_arv {Z : State} {h : Heap} {a : Addr} {k : ClassId} {ty : FieldType} {z : Int32} {vs vs' : List Value} {d : Value} (q : vs = vs') (F : Arv Z h a k ty z vs d) : Arv Z h a k ty z vs' d := q ▸ F
def PlS (x : Slot) : Prop := x = .unset ∨ ∃ a : Int32, x = .val (.int a)
def dgO : List Value := (List.range 100).map (fun i => Value.int (Int32.ofNat (48 + i % 10)))
def dgT : List Value := (List.range 100).map (fun i => Value.int (Int32.ofNat (48 + i / 10)))
theorem own_dO (v : Nat) : dgO.getD (v % 100) (.int (0 : Int32)) = .int (Int32.ofNat (48 + v % 10)) := by
  have h : v % 100 < 100 := Nat.mod_lt _ (by decide)
  have e : v % 100 % 10 = v % 10 := by omega
  simp only [dgO, List.getD_eq_getElem?_getD, List.getElem?_map, List.getElem?_range h, Option.map_some, Option.getD_some, e]
theorem own_dT (v : Nat) : dgT.getD (v % 100) (.int (0 : Int32)) = .int (Int32.ofNat (48 + v / 10 % 10)) := by
  have h : v % 100 < 100 := Nat.mod_lt _ (by decide)
  have e : v % 100 / 10 = v / 10 % 10 := by omega
  simp only [dgT, List.getD_eq_getElem?_getD, List.getElem?_map, List.getElem?_range h, Option.map_some, Option.getD_some, e]
theorem own_pd0 (cs : List Int32) (r : Nat) : ∀ i, (bsV cs ++ List.replicate r (Value.int (0 : Int32)) ++ bsV []).getD i (.int (0 : Int32)) = (bsV cs).getD i (.int (0 : Int32)) := fun i => by
  have e : bsV ([] : List Int32) = [] := rfl
  rw [e, List.append_nil]
  exact pad_rep (bsV cs) _ r i
theorem own_st1 (cs TL : List Int32) (d : Int32) {r : Nat} (h : 1 ≤ r) : (bsV cs ++ List.replicate r (Value.int (0 : Int32)) ++ bsV TL).set (cs.length + (r - 1)) (.int d.toInt8.toInt32) = bsV cs ++ List.replicate (r - 1) (Value.int (0 : Int32)) ++ bsV (d :: TL) := by
  obtain ⟨q, rfl⟩ : ∃ q, r = q + 1 := ⟨r - 1, by omega⟩
  rw [Nat.add_sub_cancel, List.append_assoc, List.set_append_right _ _ (by rw [bsV_len]; omega), bsV_len, Nat.add_sub_cancel_left, List.replicate_succ', List.append_assoc, List.set_append_right _ _ (by simp), List.length_replicate, Nat.sub_self]
  simp [bsV]
theorem own_dec {i : Int32} {c r : Nat} (e : i = Int32.ofNat (c + r)) (h : 1 ≤ r) : i + (-1 : Int32) = Int32.ofNat (c + (r - 1)) := by
  rw [e, show (-1 : Int32) = -(1 : Int32) from rfl, ← Int32.sub_eq_add_neg]
  have q := own_ofsub (a := c + r) (b := 1) (by omega)
  rw [show Int32.ofNat 1 = (1 : Int32) from rfl] at q
  rw [q]; congr 1; omega
theorem own_fin {cs G TL : List Int32} {r : Nat} (h : G = TL) (hr : r = 0) : bsV cs ++ List.replicate r (Value.int (0 : Int32)) ++ bsV TL = bsV (cs ++ G) := by
  subst h hr; simp [bsV]
theorem own_ssz {x0 p : Int32} {v k : Nat} (e : x0 = Int32.ofInt (-(v : Int))) (hv : v ≤ 2147483648) (hk : 10 ^ (k + 1) ≤ 2147483647) (hp : p = Int32.ofInt (-((10 ^ (k + 1) : Nat) : Int))) (h1 : p < x0) (hq : k = 0 ∨ ∃ q, ¬ q < x0 ∧ q = Int32.ofInt (-((10 ^ k : Nat) : Int))) : (dl v).length = k + 1 := by
  subst e hp
  refine dl_len k v ((own_ltn hv hk).mp h1) (hq.imp id ?_)
  rintro ⟨q, h2, rfl⟩
  have : 10 ^ k ≤ 2147483647 := Nat.le_trans (Nat.pow_le_pow_right (by decide) (by omega)) hk
  exact Nat.le_of_not_lt fun z => h2 ((own_ltn hv this).mpr z)
theorem own_ssx {x0 q : Int32} {v : Nat} (e : x0 = Int32.ofInt (-(v : Int))) (hv : v ≤ 2147483648) (h2 : ¬ q < x0) (hq : q = Int32.ofInt (-((10 ^ 9 : Nat) : Int))) : (dl v).length = 10 := by
  subst e hq
  exact dl_len 9 v (by omega) (Or.inr (Nat.le_of_not_lt fun z => h2 ((own_ltn hv (by decide)).mpr z)))
theorem sgl_rng (x : Int32) : ∀ c ∈ sgl x, ¬ c < 0 ∧ ¬ (255 : Int32) < c := fun c hc => by
  unfold sgl at hc; split at hc
  · obtain rfl := List.mem_singleton.mp hc; decide
  · cases hc
theorem own_rapp {a b : List Int32} (h1 : ∀ c ∈ a, ¬ c < 0 ∧ ¬ (255 : Int32) < c) (h2 : ∀ c ∈ b, ¬ c < 0 ∧ ¬ (255 : Int32) < c) : ∀ c ∈ a ++ b, ¬ c < 0 ∧ ¬ (255 : Int32) < c := fun c hc => (List.mem_append.mp hc).elim (h1 c) (h2 c)
theorem dl_le (v : Nat) (h : v ≤ 2147483648) : (dl v).length ≤ 10 := by
  have key : ∀ (k n : Nat), n < 10 ^ (k + 1) → (dl n).length ≤ k + 1 := fun k => by
    induction k with
    | zero => intro n h; rw [dl_lt (by simpa using h)]; simp
    | succ k ih =>
      intro n h
      by_cases q : n < 10
      · rw [dl_lt q]; simp
      · rw [dl_ge (by omega), List.length_append]
        have := ih (n / 10) (by rw [Nat.pow_succ] at h; omega)
        simp only [List.length_singleton]; omega
  exact key 9 v (by omega)
theorem sgl_le (x : Int32) : (sgl x).length ≤ 1 := by unfold sgl; split <;> simp
theorem own_l64 {v : Nat} (h : v < 2 ^ 63) : (Int64.ofNat v).toInt = v := Int64.toInt_ofNat_of_lt h
theorem own_l32 (x : Int32) : x.toInt64.toInt = x.toInt := Int32.toInt_toInt64 x
theorem own_abs1 (x : Int32) (h : x.toInt64 < (0 : Int64)) : -(x.toInt64) = Int64.ofNat (mg x) := by
  have e : (0 : Int64).toInt = 0 := rfl
  rw [Int64.lt_iff_toInt_lt, own_l32, e] at h
  have b := x.le_toInt
  have q : x.toInt64 = Int64.ofInt (-(mg x : Int)) := by
    apply Int64.toInt_inj.mp
    rw [own_l32, Int64.toInt_ofInt_of_le (by unfold mg; omega) (by unfold mg; omega)]; unfold mg; omega
  rw [q, ← Int64.ofInt_neg, ← Int64.ofInt_eq_ofNat]; congr 1; omega
theorem own_abs2 (x : Int32) (h : ¬ x.toInt64 < (0 : Int64)) : x.toInt64 = Int64.ofNat (mg x) := by
  have e : (0 : Int64).toInt = 0 := rfl
  rw [Int64.lt_iff_toInt_lt, own_l32, e] at h
  have b := x.toInt_lt
  apply Int64.toInt_inj.mp
  rw [own_l32, own_l64 (by unfold mg; omega)]; unfold mg; omega
theorem own_lt64 {a b : Nat} (ha : a < 2 ^ 63) (hb : b < 2 ^ 63) : (Int64.ofNat a < Int64.ofNat b) ↔ a < b := by
  rw [Int64.lt_iff_toInt_lt, own_l64 ha, own_l64 hb]; omega
theorem own_dv64 {a b : Nat} (ha : a < 2 ^ 62) (hb : b < 2 ^ 62) : Int64.ofNat a / Int64.ofNat b = Int64.ofNat (a / b) := by
  have q : a / b ≤ a := Nat.div_le_self a b
  apply Int64.toInt_inj.mp
  rw [Int64.toInt_div, own_l64 (by omega), own_l64 (by omega), own_l64 (by omega)]
  rw [show ((a : Int).tdiv (b : Int)) = ((a / b : Nat) : Int) from rfl]
  generalize a / b = c at *
  rw [Int.bmod_def]
  split <;> omega
theorem own_md64 {a : Nat} (ha : a < 2 ^ 62) : Int64.ofNat a - (Int64.ofNat a / (10 : Int64)) * (10 : Int64) = Int64.ofNat (a % 10) := by
  rw [show (10 : Int64) = Int64.ofNat 10 from rfl, own_dv64 ha (by decide)]
  rw [← Int64.ofInt_eq_ofNat, ← Int64.ofInt_eq_ofNat, ← Int64.ofInt_eq_ofNat, ← Int64.ofInt_eq_ofNat, ← Int64.ofInt_mul, ← Int64.ofInt_sub]; congr 1; omega
theorem own_tbl {args : Array Value} {s : State} {t E : Term} {a : Addr} {f : Nat → Int32} (et : ∀ idx, t.eval args s none idx s = some (.ref a)) (hx : (Jvm.Cond.exactly t "[B").value args s none s [] = some true) (hl : (Jvm.Cond.eq (Term.length t) (Term.int (100 : Int32))).value args s none s [] = some true) (hall : (Jvm.Cond.all t (Jvm.Cond.eq (Term.elem t (Term.index 0)) E)).value args s none s [] = some true)
    (wa : (Jvm.Cond.arrayClass .byte).before args s = true) (hE : ∀ i, i < 100 → E.eval args s none [i] s = some (.int (f i))) (hf : ∀ i, i < 100 → fits .byte (.int (f i)) = true) : ∃ k, Arv s s.heap a k .byte (100 : Int32) ((List.range 100).map fun i => Value.int (f i)) (.int (0 : Int32)) := by
  obtain ⟨cell, k, h1, h2, h3, h4, -⟩ := Exa.start (et []) hx
  obtain ⟨c, k', comp, q1, q2, q3⟩ := Cond.arrayClass_spec wa
  have e1 : "[" ++ FieldType.byte.toString = "[B" := by decide
  rw [e1, h2] at q1
  cases q1
  have hl1 := eqv_i (Term.int_eval 100) hl
  have hA : s.arrayAt? a = some cell ∧ cell.slots.size < 2 ^ 31 ∧ cell.slots.size.toInt32 = 100 := by
    simp only [Term.eval, et [], Option.bind_eq_bind, Option.bind_some] at hl1
    cases hc : s.arrayAt? a with
    | none => simp [hc] at hl1
    | some c2 =>
      have e2 : c2 = cell := by
        unfold State.arrayAt? at hc
        simp only [h1, q2, Option.bind_eq_bind, Option.bind_some] at hc
        split at hc
        · cases hc
        · rw [q3] at hc; exact (Option.some.inj hc).symm
      subst e2
      simp only [hc, Option.bind_some] at hl1
      refine ⟨rfl, ?_⟩
      split at hl1
      · rename_i z; exact ⟨by omega, by simpa using hl1⟩
      · cases hl1
  obtain ⟨hat, hs, hsz⟩ := hA
  have hun : cell.vm ≠ .unknown := fun z => by
    unfold State.arrayAt? at hat
    simp [h1, q2, z] at hat
  have hz : cell.slots.size = 100 := by
    have := congrArg Int32.toInt hsz
    rw [show cell.slots.size.toInt32 = Int32.ofNat cell.slots.size from rfl, Int32.toInt_ofNat_of_lt hs] at this
    have e : (100 : Int32).toInt = 100 := rfl
    omega
  have A : Arr s s.heap a cell .byte := ⟨h1, ⟨fun z e => (by rw [e] at h4; cases h4), k', q2, comp, q3⟩, hun⟩
  refine ⟨cell.cls, cell, A, rfl, hz, by decide, fun i hi => ?_, fun i hi => ?_⟩
  · have hi2 : i < 100 := by omega
    have v := eqv_i (hE i hi2) (Cond.all_elim (et []) hat hall i hi)
    have w := (elem_in v (et [i]) (j := Int32.ofNat i) rfl h1).2
    rw [(own_nn (z := Int32.ofNat i) rfl (by omega)).1] at w
    rw [w, List.getD_eq_getElem?_getD, List.getElem?_map, List.getElem?_range hi2]; rfl
  · have hi2 : i < 100 := by omega
    rw [List.getD_eq_getElem?_getD, List.getElem?_map, List.getElem?_range hi2]; exact hf i hi2
theorem own_e1 {args : Array Value} {s : State} (i : Nat) (hi : i < 100) : (Term.add (Term.int 48) (Term.rem (Term.index 0) (Term.int 10))).eval args s none [i] s = some (.int (Int32.ofNat (48 + i % 10))) := by
  have key : ∀ i : Nat, i < 100 → (48 : Int32) + Int32.ofNat i % 10 = Int32.ofNat (48 + i % 10) := by decide
  show some (Value.int ((48 : Int32) + Int32.ofNat i % 10)) = _
  rw [key i hi]
theorem own_e2 {args : Array Value} {s : State} (i : Nat) (hi : i < 100) : (Term.add (Term.int 48) (Term.div (Term.index 0) (Term.int 10))).eval args s none [i] s = some (.int (Int32.ofNat (48 + i / 10))) := by
  have key : ∀ i : Nat, i < 100 → (48 : Int32) + Int32.ofNat i / 10 = Int32.ofNat (48 + i / 10) := by decide
  show some (Value.int ((48 : Int32) + Int32.ofNat i / 10)) = _
  rw [key i hi]
theorem own_ecg {q : Nat} (h : 16 < q) (h2 : q ≤ 33) : (0 : Int32) < Int32.ofNat q - (Int32.ofNat 16 >>> ((0 : Int32) &&& 31)) := by
  rw [own_shr0, own_ofsub (by omega)]
  exact (own_lt (a := 0) (by decide) (by omega)).mpr (by omega)
theorem own_cp16 {cs : List Int32} (h : cs.length ≤ 16) : ∀ i, (bsV cs).getD i (.int (0 : Int32)) = ((List.range 16).map (fun y => (bsV cs).getD (0 + y) (Value.int (0 : Int32))) ++ List.replicate 18 (Value.int (0 : Int32))).getD i (.int (0 : Int32)) := fun i => by
  rw [pad_rep]
  simp only [List.getD_eq_getElem?_getD, List.getElem?_map, Nat.zero_add]
  by_cases q : i < 16
  · rw [List.getElem?_range q]; rfl
  · rw [List.getElem?_eq_none (by omega), List.getElem?_eq_none (l := List.range 16) (by simp; omega)]; rfl
theorem own_fitc {Z : State} {h : Heap} {a : Addr} {c : Cell} {ty : FieldType} {vs : List Value} {d : Value} (A : Arr Z h a c ty) (H : Has c vs d) (G : ∀ i, i < c.slots.size → fits ty (vs.getD i d) = true) : FitC Z c := fun i v hv => by
  obtain ⟨hi, -⟩ := Array.getElem?_eq_some_iff.mp hv
  have e : vs.getD i d = v := Option.some.inj ((H i hi).symm.trans hv)
  obtain ⟨hs, k, hk, comp, hkind⟩ := A.2.1
  have g := G i hi
  rw [e] at g
  simp [State.fitsSlot, State.slotType?, hk, hkind, g]
theorem own_clb {Z : State} {h : Heap} {a : Addr} {c : Cell} {ty : FieldType} {z : Int32} {vs : List Value} {d : Value} (A : Arr Z h a (cloneOf c) ty) (S : c.slots.size = z.toNatClampNeg) (N : ¬ z < 0) (H : Has c vs d) (G : ∀ i, i < c.slots.size → fits ty (vs.getD i d) = true) : Arv Z h a c.cls ty z vs d := ⟨cloneOf c, A, rfl, S, N, H, G⟩
theorem own_fitr {n : String} {v : Value} (h : v.isRef = true) : fits (.object n) v = true := by rcases ref_cases h with rfl | ⟨x, rfl⟩ <;> rfl
theorem own_narr {n : String} {v : Value} (h : v.isRef = true) : narrow (.object n) v = v := by rcases ref_cases h with rfl | ⟨x, rfl⟩ <;> rfl
abbrev chV (cs : List Int32) : List Value := cs.map Value.int
theorem chV_len (cs : List Int32) : (chV cs).length = cs.length := by simp [chV]
theorem own_dgn {d : Nat} (h : d < 10) : nar .char (Int32.ofNat (48 + d)) = Int32.ofNat (48 + d) := by
  have key : ∀ d : Nat, d < 10 → nar .char (Int32.ofNat (48 + d)) = Int32.ofNat (48 + d) := by decide
  exact key d h
theorem own_dgi {d : Nat} (h : d < 10) : nar .char (((48 : Int32) + (Int64.ofNat d).toInt32).toUInt32.toUInt16.toUInt32.toInt32) = Int32.ofNat (48 + d) := by
  have key : ∀ d : Nat, d < 10 → nar .char (((48 : Int32) + (Int64.ofNat d).toInt32).toUInt32.toUInt16.toUInt32.toInt32) = Int32.ofNat (48 + d) := by decide
  exact key d h
theorem own_neg64 {x : Int32} (h : x.toInt64 < (0 : Int64)) : x < 0 := by
  have e : (0 : Int64).toInt = 0 := rfl
  have e2 : (0 : Int32).toInt = 0 := rfl
  rw [Int64.lt_iff_toInt_lt, own_l32, e] at h
  rw [Int32.lt_iff_toInt_lt, e2]; exact h
theorem own_neg64' {x : Int32} (h : x < 0) : x.toInt64 < (0 : Int64) := by
  have e : (0 : Int64).toInt = 0 := rfl
  have e2 : (0 : Int32).toInt = 0 := rfl
  rw [Int32.lt_iff_toInt_lt, e2] at h
  rw [Int64.lt_iff_toInt_lt, own_l32, e]; exact h
theorem own_ap0k (cs : List Int32) (k : Nat) : chV cs ++ List.replicate k (Value.int (0 : Int32)) = chV cs ++ List.replicate k (Value.int (0 : Int32)) ++ chV [] := by simp [chV]
theorem own_ap0 (cs : List Int32) : chV cs ++ List.replicate 1 (Value.int (0 : Int32)) = chV cs ++ List.replicate 1 (Value.int (0 : Int32)) ++ chV [] := own_ap0k cs 1
theorem own_ap1 (cs : List Int32) (d : Int32) : chV cs ++ List.replicate (1 - 1) (Value.int (0 : Int32)) ++ chV [d] = chV (cs ++ [d]) := by simp [chV]
theorem own_stc' (cs TL : List Int32) (d : Int32) {r s : Nat} (hd : nar .char d = d) (h : 1 ≤ r ∧ s = r - 1) : (chV cs ++ List.replicate r (Value.int (0 : Int32)) ++ chV TL).set (cs.length + (r - 1)) (.int (nar .char d)) = chV cs ++ List.replicate s (Value.int (0 : Int32)) ++ chV (d :: TL) := by
  rw [hd]
  obtain ⟨h1, rfl⟩ := h
  obtain ⟨q, rfl⟩ : ∃ q, r = q + 1 := ⟨r - 1, by omega⟩
  rw [Nat.add_sub_cancel, List.append_assoc, List.set_append_right _ _ (by rw [chV_len]; omega), chV_len, Nat.add_sub_cancel_left, List.replicate_succ', List.append_assoc, List.set_append_right _ _ (by simp), List.length_replicate, Nat.sub_self]
  simp [chV]
theorem own_stc (cs TL : List Int32) (d : Int32) {r : Nat} (hd : nar .char d = d) (h : 1 ≤ r) : (chV cs ++ List.replicate r (Value.int (0 : Int32)) ++ chV TL).set (cs.length + (r - 1)) (.int (nar .char d)) = chV cs ++ List.replicate (r - 1) (Value.int (0 : Int32)) ++ chV (d :: TL) := own_stc' cs TL d hd ⟨h, rfl⟩
theorem own_nl {a n : Nat} (h : n ≤ a ∧ a < 2 ^ 31) : ¬ Int32.ofNat a < Int32.ofNat n := fun q => absurd ((own_lt h.2 (by omega)).mp q) (by omega)
def Hid (p : Prop) : Prop := p
theorem own_stf {cp cp' : List Int32} {d : Int32} {r s : Nat} (hd : nar .char d = d) (h : r = s + 1) (hc : cp ++ [d] = cp') : (chV cp ++ List.replicate r (Value.int (0 : Int32))).set cp.length (.int (nar .char d)) = chV cp' ++ List.replicate s (Value.int (0 : Int32)) := by
  subst h hc
  rw [hd, List.set_append_right _ _ (by rw [chV_len]; omega), chV_len, Nat.sub_self, List.replicate_succ]
  simp [chV]
theorem own_p0 (cp ct : List Int32) : chV cp ++ List.replicate ct.length (Value.int (0 : Int32)) = chV (cp ++ ct.take 0) ++ List.replicate (ct.length - 0) (Value.int (0 : Int32)) := by simp
theorem own_tk {cp ct : List Int32} {m : Nat} (h : m < ct.length) : (cp ++ ct.take m) ++ [ct.getD m 0] = cp ++ ct.take (m + 1) := by
  rw [List.append_assoc]; congr 1
  rw [List.take_add_one, List.getElem?_eq_getElem h]; simp [List.getD_eq_getElem?_getD, h]
theorem own_pf {cp ct : List Int32} {m : Nat} (h : ct.length = m) : chV (cp ++ ct.take m) ++ List.replicate (ct.length - m) (Value.int (0 : Int32)) = chV (cp ++ ct) := by
  subst h; simp
theorem own_ncb : ∀ n : Nat, n < 256 → nar .char (Int32.ofNat n) = Int32.ofNat n := by decide +kernel
theorem own_ncr {ct : List Int32} (hp : ∀ c ∈ ct, ¬ c < 0 ∧ ¬ (255 : Int32) < c) {m : Nat} (h : m < ct.length) : nar .char (ct.getD m 0) = ct.getD m 0 := by
  have e : ct.getD m 0 = ct[m] := by simp [List.getD_eq_getElem?_getD, h]
  rw [e]
  obtain ⟨h1, h2⟩ := hp _ (List.getElem_mem h)
  generalize ct[m] = c at *
  rw [Int32.lt_iff_toInt_lt] at h1 h2
  have e0 : (0 : Int32).toInt = 0 := rfl
  have eA : (255 : Int32).toInt = 255 := rfl
  have q : c = Int32.ofNat c.toInt.toNat := by
    apply Int32.toInt_inj.mp
    rw [own_toi (by omega)]; omega
  rw [q]; exact own_ncb _ (by omega)
theorem own_end {c k : Nat} (h : 1 ≤ k) : Int32.ofNat c + Int32.ofNat k - (1 : Int32) = Int32.ofNat (c + (k - 1)) := by
  rw [own_ofadd, show (1 : Int32) = Int32.ofNat 1 from rfl, own_ofsub (by omega)]; congr 1; omega
theorem own_endm {c k m : Nat} {z : Int32} (hz : z = Int32.ofNat m) (h : m + 1 ≤ k) : Int32.ofNat (c + (k - 1)) - z = Int32.ofNat (c + (k - m - 1)) := by
  rw [hz, own_ofsub (by omega)]; congr 1; omega
theorem own_finc {cq cp sg d TL : List Int32} {r : Nat} (h : cq = cp ++ sg) (hd : d = TL) (hr : r = 0) : chV cq ++ List.replicate r (Value.int (0 : Int32)) ++ chV TL = chV (cp ++ (sg ++ d)) := by
  subst h hd hr; simp [chV]
theorem own_rl {cq cp sg d : List Int32} {kz : Nat} {i3 dd : Int32} (h : cq = cp ++ sg) (hk : d.length = kz) (q3 : i3 = Int32.ofNat cq.length) (hdd : dd = Int32.ofNat kz) : i3 + dd = Int32.ofNat (cp ++ (sg ++ d)).length := by
  subst h hk q3 hdd
  rw [own_ofadd]; congr 1; simp; omega
theorem own_chg {cr : List Int32} {i : Nat} (h : i < cr.length) : (chV cr).getD i (.int (0 : Int32)) = .int (cr.getD i 0) := by simp [chV, List.getD_eq_getElem?_getD, h]
theorem dl_ge' {n k : Nat} (h : (dl n).length = k + 2) : dl n = dl (n / 10) ++ [Int32.ofNat (48 + n % 10)] ∧ (dl (n / 10)).length = k + 1 := by
  have q : 10 ≤ n := Nat.le_of_not_lt fun z => by rw [dl_lt z] at h; simp at h
  have e := dl_ge q
  exact ⟨e, by rw [e, List.length_append] at h; simp only [List.length_singleton] at h; omega⟩
theorem own_dl1 {n : Nat} (h : (dl n).length = 1) : dl n = [Int32.ofNat (48 + n % 10)] := by
  have q : n < 10 := Nat.lt_of_not_le fun z => by rw [dl_ge z, List.length_append] at h; have := dl_pos (n / 10); simp only [List.length_singleton] at h; omega
  rw [dl_lt q, Nat.mod_eq_of_lt q]
theorem own_dl2 {n : Nat} (h : (dl n).length = 2) : dl n = [Int32.ofNat (48 + n / 10 % 10), Int32.ofNat (48 + n % 10)] := by
  obtain ⟨e, q⟩ := dl_ge' h
  rw [e, own_dl1 q]; rfl
theorem own_dl3 {n : Nat} (h : (dl n).length = 3) : dl n = [Int32.ofNat (48 + n / 10 / 10 % 10), Int32.ofNat (48 + n / 10 % 10), Int32.ofNat (48 + n % 10)] := by
  obtain ⟨e, q⟩ := dl_ge' h
  rw [e, own_dl2 q]; rfl
theorem own_dl4 {n : Nat} (h : (dl n).length = 4) : dl n = [Int32.ofNat (48 + n / 10 / 10 / 10 % 10), Int32.ofNat (48 + n / 10 / 10 % 10), Int32.ofNat (48 + n / 10 % 10), Int32.ofNat (48 + n % 10)] := by
  obtain ⟨e, q⟩ := dl_ge' h
  rw [e, own_dl3 q]; rfl
theorem own_dl5 {n : Nat} (h : (dl n).length = 5) : dl n = [Int32.ofNat (48 + n / 10 / 10 / 10 / 10 % 10), Int32.ofNat (48 + n / 10 / 10 / 10 % 10), Int32.ofNat (48 + n / 10 / 10 % 10), Int32.ofNat (48 + n / 10 % 10), Int32.ofNat (48 + n % 10)] := by
  obtain ⟨e, q⟩ := dl_ge' h
  rw [e, own_dl4 q]; rfl
theorem own_dl6 {n : Nat} (h : (dl n).length = 6) : dl n = [Int32.ofNat (48 + n / 10 / 10 / 10 / 10 / 10 % 10), Int32.ofNat (48 + n / 10 / 10 / 10 / 10 % 10), Int32.ofNat (48 + n / 10 / 10 / 10 % 10), Int32.ofNat (48 + n / 10 / 10 % 10), Int32.ofNat (48 + n / 10 % 10), Int32.ofNat (48 + n % 10)] := by
  obtain ⟨e, q⟩ := dl_ge' h
  rw [e, own_dl5 q]; rfl
theorem own_dl7 {n : Nat} (h : (dl n).length = 7) : dl n = [Int32.ofNat (48 + n / 10 / 10 / 10 / 10 / 10 / 10 % 10), Int32.ofNat (48 + n / 10 / 10 / 10 / 10 / 10 % 10), Int32.ofNat (48 + n / 10 / 10 / 10 / 10 % 10), Int32.ofNat (48 + n / 10 / 10 / 10 % 10), Int32.ofNat (48 + n / 10 / 10 % 10), Int32.ofNat (48 + n / 10 % 10), Int32.ofNat (48 + n % 10)] := by
  obtain ⟨e, q⟩ := dl_ge' h
  rw [e, own_dl6 q]; rfl
theorem own_dl8 {n : Nat} (h : (dl n).length = 8) : dl n = [Int32.ofNat (48 + n / 10 / 10 / 10 / 10 / 10 / 10 / 10 % 10), Int32.ofNat (48 + n / 10 / 10 / 10 / 10 / 10 / 10 % 10), Int32.ofNat (48 + n / 10 / 10 / 10 / 10 / 10 % 10), Int32.ofNat (48 + n / 10 / 10 / 10 / 10 % 10), Int32.ofNat (48 + n / 10 / 10 / 10 % 10), Int32.ofNat (48 + n / 10 / 10 % 10), Int32.ofNat (48 + n / 10 % 10), Int32.ofNat (48 + n % 10)] := by
  obtain ⟨e, q⟩ := dl_ge' h
  rw [e, own_dl7 q]; rfl
theorem own_dl9 {n : Nat} (h : (dl n).length = 9) : dl n = [Int32.ofNat (48 + n / 10 / 10 / 10 / 10 / 10 / 10 / 10 / 10 % 10), Int32.ofNat (48 + n / 10 / 10 / 10 / 10 / 10 / 10 / 10 % 10), Int32.ofNat (48 + n / 10 / 10 / 10 / 10 / 10 / 10 % 10), Int32.ofNat (48 + n / 10 / 10 / 10 / 10 / 10 % 10), Int32.ofNat (48 + n / 10 / 10 / 10 / 10 % 10), Int32.ofNat (48 + n / 10 / 10 / 10 % 10), Int32.ofNat (48 + n / 10 / 10 % 10), Int32.ofNat (48 + n / 10 % 10), Int32.ofNat (48 + n % 10)] := by
  obtain ⟨e, q⟩ := dl_ge' h
  rw [e, own_dl8 q]; rfl
theorem own_dl10 {n : Nat} (h : (dl n).length = 10) : dl n = [Int32.ofNat (48 + n / 10 / 10 / 10 / 10 / 10 / 10 / 10 / 10 / 10 % 10), Int32.ofNat (48 + n / 10 / 10 / 10 / 10 / 10 / 10 / 10 / 10 % 10), Int32.ofNat (48 + n / 10 / 10 / 10 / 10 / 10 / 10 / 10 % 10), Int32.ofNat (48 + n / 10 / 10 / 10 / 10 / 10 / 10 % 10), Int32.ofNat (48 + n / 10 / 10 / 10 / 10 / 10 % 10), Int32.ofNat (48 + n / 10 / 10 / 10 / 10 % 10), Int32.ofNat (48 + n / 10 / 10 / 10 % 10), Int32.ofNat (48 + n / 10 / 10 % 10), Int32.ofNat (48 + n / 10 % 10), Int32.ofNat (48 + n % 10)] := by
  obtain ⟨e, q⟩ := dl_ge' h
  rw [e, own_dl9 q]; rfl
theorem own_cm : ∀ q ∈ ([("com/example/mulock/mulock/sql/SqlAddress", 122), ("com/example/mulock/mulock/sql/SqlAddress", 124), ("com/example/mulock/mulock/sql/SqlAddressWherePinLaw", 27), ("com/example/mulock/mulock/sql/SqlAddressWherePinLaw", 36), ("com/example/mulock/mulock/sql/SqlAddressWherePinLaw", 38), ("com/example/mulock/mulock/sql/SqlAddressWherePinLaw", 46)] : List (String × Nat)), q ∈ consts_1 := by decide
theorem oW {Z : State} {a0 : Array Value} (hw : ∀ d ∈ tables_1, d.before a0 Z = true) (i : Nat) {d : Jvm.Cond} (h : tables_1[i]? = some d) : d.before a0 Z = true := hw _ (List.mem_of_getElem? h)
theorem mW {Z s : State} {a0 args : Array Value} (hZ : Z.Warmed39 s.vm) (hw : ∀ d ∈ tables_1, d.before a0 Z = true) (i : Nat) {d : Jvm.Cond} (h : tables_1[i]? = some d) (hc : (d.onTables && d.keepsFace) = true := by rfl) : d.before args s = true := mvT hZ (oW hw i h) hc
abbrev B1_ := jdk_43_method_3_code
abbrev B2_ := jdk_43_method_46_code
abbrev B3_ := jdk_42_method_151_code
abbrev B4_ := jdk_42_method_139_code
abbrev B5_ := jdk_68_method_2_code
abbrev B6_ := jdk_67_method_1_code
abbrev B7_ := jdk_42_method_152_code
abbrev B8_ := jdk_68_method_9_code
abbrev B9_ := jdk_68_method_71_code
abbrev B10_ := jdk_42_method_147_code
abbrev B11_ := jdk_68_method_73_code
abbrev B12_ := jdk_68_method_22_code
abbrev B13_ := jdk_67_method_7_code
abbrev B14_ := jdk_68_method_64_code
abbrev B15_ := jdk_68_method_6_code
abbrev B16_ := jdk_67_method_93_code
abbrev B17_ := jdk_68_method_68_code
abbrev B18_ := jdk_29_method_69_code
abbrev B19_ := jdk_65_method_131_code
abbrev B20_ := jdk_65_method_133_code
abbrev B21_ := jdk_65_method_132_code
abbrev B22_ := jdk_42_method_150_code
abbrev B23_ := jdk_42_method_53_code
abbrev B24_ := jdk_67_method_42_code
abbrev B25_ := jdk_33_method_13_code
abbrev B26_ := jdk_33_method_12_code
abbrev B27_ := jdk_68_method_32_code
abbrev B28_ := jdk_67_method_15_code
abbrev B29_ := jdk_29_method_65_code
abbrev B30_ := jdk_48_method_27_code
abbrev B31_ := jdk_68_method_10_code
abbrev B32_ := jdk_65_method_121_code
abbrev B33_ := jdk_30_method_1_code
abbrev B34_ := prog_18_method_1_code
abbrev B35_ := prog_20_method_4_code
abbrev B36_ := prog_18_method_3_code
abbrev B37_ := method_4_code
abbrev B38_ := method_5_code
abbrev B39_ := method_6_code
abbrev B40_ := method_3_code
abbrev mn1 : MethodName := ⟨"java/lang/StringLatin1", "canEncode", "(C)Z"⟩
abbrev mn2 : MethodName := ⟨"java/lang/StringLatin1", "toBytes", "(C)[B"⟩
abbrev mn3 : MethodName := ⟨"java/lang/String", "<init>", "([BB)V"⟩
abbrev mn4 : MethodName := ⟨"java/lang/String", "valueOf", "(C)Ljava/lang/String;"⟩
abbrev mn5 : MethodName := ⟨"java/lang/AbstractStringBuilder", "<init>", "(I)V"⟩
abbrev mn6 : MethodName := ⟨"java/lang/StringBuilder", "<init>", "()V"⟩
abbrev mn7 : MethodName := ⟨"java/lang/String", "coder", "()B"⟩
abbrev mn8 : MethodName := ⟨"java/lang/AbstractStringBuilder", "ensureCapacityInternal", "(I)V"⟩
abbrev mn9 : MethodName := ⟨"java/lang/AbstractStringBuilder", "inflateIfNeededFor", "(Ljava/lang/String;)V"⟩
abbrev mn10 : MethodName := ⟨"java/lang/String", "getBytes", "([BIB)V"⟩
abbrev mn11 : MethodName := ⟨"java/lang/AbstractStringBuilder", "putStringAt", "(ILjava/lang/String;)V"⟩
abbrev mn12 : MethodName := ⟨"java/lang/String", "length", "()I"⟩
abbrev mn13 : MethodName := ⟨"java/lang/AbstractStringBuilder", "append", "(Ljava/lang/String;)Ljava/lang/AbstractStringBuilder;"⟩
abbrev mn14 : MethodName := ⟨"java/lang/StringBuilder", "append", "(Ljava/lang/String;)Ljava/lang/StringBuilder;"⟩
abbrev mn15 : MethodName := ⟨"java/lang/AbstractStringBuilder", "getValue", "()[B"⟩
abbrev mn16 : MethodName := ⟨"java/lang/AbstractStringBuilder", "length", "()I"⟩
abbrev mn17 : MethodName := ⟨"java/lang/StringBuilder", "length", "()I"⟩
abbrev mn18 : MethodName := ⟨"java/lang/AbstractStringBuilder", "isLatin1", "()Z"⟩
abbrev mn19 : MethodName := ⟨"java/lang/Math", "min", "(II)I"⟩
abbrev mn20 : MethodName := ⟨"java/util/Arrays", "checkLength", "(II)V"⟩
abbrev mn21 : MethodName := ⟨"java/util/Arrays", "copyOfRangeByte", "([BII)[B"⟩
abbrev mn22 : MethodName := ⟨"java/util/Arrays", "copyOfRange", "([BII)[B"⟩
abbrev mn23 : MethodName := ⟨"java/lang/String", "<init>", "(Ljava/lang/AbstractStringBuilder;Ljava/lang/Void;)V"⟩
abbrev mn24 : MethodName := ⟨"java/lang/String", "<init>", "(Ljava/lang/StringBuilder;)V"⟩
abbrev mn25 : MethodName := ⟨"java/lang/StringBuilder", "toString", "()Ljava/lang/String;"⟩
abbrev mn26 : MethodName := ⟨"java/lang/Integer", "stringSize", "(I)I"⟩
abbrev mn27 : MethodName := ⟨"java/lang/Integer", "getChars", "(II[B)I"⟩
abbrev mn28 : MethodName := ⟨"java/lang/AbstractStringBuilder", "append", "(I)Ljava/lang/AbstractStringBuilder;"⟩
abbrev mn29 : MethodName := ⟨"java/lang/StringBuilder", "append", "(I)Ljava/lang/StringBuilder;"⟩
abbrev mn30 : MethodName := ⟨"java/lang/Math", "max", "(II)I"⟩
abbrev mn31 : MethodName := ⟨"jdk/internal/util/ArraysSupport", "newLength", "(III)I"⟩
abbrev mn32 : MethodName := ⟨"java/lang/AbstractStringBuilder", "newCapacity", "(I)I"⟩
abbrev mn33 : MethodName := ⟨"java/util/Arrays", "copyOf", "([BI)[B"⟩
abbrev mn34 : MethodName := ⟨"java/lang/Record", "<init>", "()V"⟩
abbrev mn35 : MethodName := ⟨"com/example/mulock/mulock/sql/SqlAddress", "<init>", "(Lcom/example/mulock/mulock/sql/SqlDatabase;Ljava/lang/String;ILjava/lang/String;Ljava/lang/String;Ljava/lang/String;)V"⟩
abbrev mn36 : MethodName := ⟨"com/example/mulock/mulock/sql/SqlDatabase", "product", "()Ljava/lang/String;"⟩
abbrev mn37 : MethodName := ⟨"com/example/mulock/mulock/sql/SqlAddress", "where", "()Ljava/lang/String;"⟩
abbrev mn38 : MethodName := ⟨"java/lang/String", "charAt", "(I)C"⟩
abbrev mn39 : MethodName := ⟨"com/example/mulock/mulock/sql/SqlAddressWherePinLaw", "put", "([CILjava/lang/String;)I"⟩
abbrev mn40 : MethodName := ⟨"com/example/mulock/mulock/sql/SqlAddressWherePinLaw", "digit", "(J)C"⟩
abbrev mn41 : MethodName := ⟨"com/example/mulock/mulock/sql/SqlAddressWherePinLaw", "putInt", "([CII)I"⟩
abbrev mn42 : MethodName := ⟨"com/example/mulock/mulock/sql/SqlAddressWherePinLaw", "same", "(Ljava/lang/String;[CII)Z"⟩
abbrev mn43 : MethodName := ⟨"java/lang/String", "<init>", "([C)V"⟩
set_option maxRecDepth 65536
set_option maxHeartbeats 40000000
section Walks
abbrev HW (a0 : Array Value) (Z : State) : Prop := ∀ d ∈ tables_1, d.before a0 Z = true
variable (l : Launch) (Z : State) (a0 : Array Value)
abbrev own_EL : List (String × Nat) := [("com/example/mulock/mulock/sql/SqlAddress", 122), ("com/example/mulock/mulock/sql/SqlAddress", 124), ("com/example/mulock/mulock/sql/SqlAddressWherePinLaw", 27), ("com/example/mulock/mulock/sql/SqlAddressWherePinLaw", 36), ("com/example/mulock/mulock/sql/SqlAddressWherePinLaw", 38), ("com/example/mulock/mulock/sql/SqlAddressWherePinLaw", 46)]
theorem own_wS : ∀ d ∈ Bundle.stringAtoms, d ∈ tables_1 := by decide +kernel
theorem own_ew {Z : State} {a0 : Array Value} (hw : ∀ d ∈ tables_1, d.before a0 Z = true) : EW Z a0 own_EL := EW.cons (oW hw 151 rfl) (by decide) (EW.cons (oW hw 175 rfl) (by decide) (EW.cons (oW hw 50 rfl) (by decide) (EW.cons (oW hw 282 rfl) (by decide) (EW.cons (oW hw 233 rfl) (by decide) (EW.cons (oW hw 260 rfl) (by decide) (EW.nil))))))
theorem own_ws : ∀ d ∈ StrChars.Road.words, d ∈ tables_1 := by decide +kernel
theorem own_wl : ∀ d ∈ StrChars.Road.wordsLen, d ∈ tables_1 := by decide +kernel
theorem own_wc : ∀ d ∈ StrChars.Road.wordsChN, d ∈ tables_1 := by decide +kernel
def Q_rmCE (Z : State) (p1 : Int32) (h0 : Heap) (n0 : Nat) (v : Option Value) (h : Heap) (L : List Loc) : Prop := v = some (.int (1 : Int32)) ∧ Fr n0 L ∧ h = h0
theorem ef_rmCE (m : MethodId) (x0 : Int32) : entryFrame m #[(.int x0)] 1 = mkF m 0 #[.val (.int x0)] [] := by first | (simp [entryFrame, mkF, argsToLocals, Value.category]; done) | rfl
theorem pn_java_lang_StringLatin1 : plainName "java/lang/StringLatin1" = true := by first | (simp [plainName, overriddenIn]; done) | decide +kernel
theorem d1_0 : decode B1_ 0 = .ok (.iload_n 0, 1) := by decide +kernel
theorem d1_1 : decode B1_ 1 = .ok (.sipush 255, 3) := by decide +kernel
theorem d1_4 : decode B1_ 4 = .ok (.if_icmp .gt 7, 3) := by decide +kernel
theorem d1_7 : decode B1_ 7 = .ok (.iconst 1, 1) := by decide +kernel
theorem d1_8 : decode B1_ 8 = .ok (.goto 4, 3) := by decide +kernel
theorem d1_12 : decode B1_ 12 = .ok (.ireturn, 1) := by decide +kernel
theorem rmCE (hw : HW a0 Z) (ws : List Jvm.Cond) (p1 : Int32) (h0 : Heap) (n0 : Nat) (Z0 : n0 ≤ h0.size) (h1 : ¬ (255 : Int32) < p1) : MetN l Z mn1 jdk_43_method_3_code 1 (some .boolean) ws (rM 0 0 0 0) #[(.int p1)] h0 (Q_rmCE Z p1 h0 n0) := by
 refine enterN (plainFor_of_name pn_java_lang_StringLatin1) (fun m => ef_rmCE m _) fun p e s m below meth c s₁ Bd hZ hx hD hlk hml hown hnm X0 e0 => ?_
 have N0 := Fr.nil n0
 have K0 := Keep.refl h0 []
 refine Wk.iloadN X0 hx (hD d1_0) (n := 1) rfl rfl ?_
 refine Wk.sipush X0 hx (hD d1_1) (n := 4) rfl (z := (255 : Int32)) rfl ?_
 have hc4_1 : ¬ ((255 : Int32) < p1) := h1
 refine Wk.icmpNo X0 hx (hD d1_4) (n := 7) rfl (flt hc4_1).2.2.1 ?_
 refine Wk.iconst X0 hx (hD d1_7) (n := 8) rfl (z := (1 : Int32)) rfl ?_
 refine Wk.goto X0 hx (hD d1_8) (by decide) (n := 12) (by decide) ?_
 exact Wk.leave X0 (v := some (.int (1 : Int32))) (fun h => by rw [Bd.returns] at h; cases h) hlk e0 ⟨rfl, N0, rfl⟩ (by decide) (by decide) (fun fs hr => retNz X0 hx (t := .boolean) rfl Bd.returns (by simp) (hD d1_12) hr)
def Q_rmTB (Z : State) (p1 : Int32) (h0 : Heap) (n0 : Nat) (v : Option Value) (h : Heap) (L : List Loc) : Prop := ∃ (t : Addr) (kb : ClassId), v = some (.ref t) ∧ Fr n0 L ∧ Keep h0 h [] ∧ Arv Z h t kb .byte (1 : Int32) [(.int p1.toInt8.toInt32)] (.int (0 : Int32)) ∧ (h0.size ≤ t)
theorem ef_rmTB (m : MethodId) (x0 : Int32) : entryFrame m #[(.int x0)] 1 = mkF m 0 #[.val (.int x0)] [] := by first | (simp [entryFrame, mkF, argsToLocals, Value.category]; done) | rfl
theorem d2_0 : decode B2_ 0 = .ok (.iconst 1, 1) := by decide +kernel
theorem d2_1 : decode B2_ 1 = .ok (.newarray .byte, 2) := by decide +kernel
theorem d2_3 : decode B2_ 3 = .ok (.dup, 1) := by decide +kernel
theorem d2_4 : decode B2_ 4 = .ok (.iconst 0, 1) := by decide +kernel
theorem d2_5 : decode B2_ 5 = .ok (.iload_n 0, 1) := by decide +kernel
theorem d2_6 : decode B2_ 6 = .ok (.i2b, 1) := by decide +kernel
theorem d2_7 : decode B2_ 7 = .ok (.bastore, 1) := by decide +kernel
theorem d2_8 : decode B2_ 8 = .ok (.areturn, 1) := by decide +kernel
theorem rmTB (hw : HW a0 Z) (ws : List Jvm.Cond) (p1 : Int32) (h0 : Heap) (n0 : Nat) (Z0 : n0 ≤ h0.size) : MetN l Z mn2 jdk_43_method_46_code 1 (some (.array .byte)) ws (rM 0 1 1 0) #[(.int p1)] h0 (Q_rmTB Z p1 h0 n0) := by
 refine enterN (plainFor_of_name pn_java_lang_StringLatin1) (fun m => ef_rmTB m _) fun p e s m below meth c s₁ Bd hZ hx hD hlk hml hown hnm X0 e0 => ?_
 have N0 := Fr.nil n0
 have K0 := Keep.refl h0 []
 refine Wk.iconst X0 hx (hD d2_0) (n := 1) rfl (z := (1 : Int32)) rfl ?_
 refine Wk.newP X0 hx hZ (oW hw 22 rfl) e0 (hD d2_1) (n := 3) rfl (by decide) (cap := 1) (by decide) (by decide) (by decide) (by decide) fun T1 H1 b1 k1 gn1 X1 e1 Ex1 An1 => ?_
 have gn1 := nx gn1
 have sz1 := Ex1.1
 have K1 := K0.ext Ex1
 have Vn1 : Arv Z H1 b1 k1 .byte (1 : Int32) [(.int (0 : Int32))] (.int (0 : Int32)) := (Arv.new An1 (by decide)).pad (pad_rep [] (.int (0 : Int32)) 1)
 have lt1 := ny Vn1.lt
 refine Wk.dup X1 hx (hD d2_3) (n := 4) rfl rfl ?_
 refine Wk.iconst X1 hx (hD d2_4) (n := 5) rfl (z := (0 : Int32)) rfl ?_
 refine Wk.iloadN X1 hx (hD d2_5) (n := 6) rfl rfl ?_
 refine Wk.i2b X1 hx (hD d2_6) (n := 7) rfl ?_
 obtain ⟨cl2, Ar2, qn2, Sz2, N_2, H_2, Gn2⟩ := id Vn1
 have hin2 : ¬ ((0 : Int32) < 0 ∨ cl2.slots.size ≤ ((0 : Int32)).toNatClampNeg) := inb_of Sz2 ⟨by decide, by decide⟩
 refine Wk.stB X1 hx hZ e1 Ar2 hin2 (hD d2_7) (n := 8) rfl fun T2 H2 X2 e2 Wn2 => ?_
 have Vn2 := Arv.set Ar2 qn2 Sz2 N_2 H_2 Gn2 (fits_nar_byte _) Wn2 0 rfl (Nat.le_of_ble_eq_true rfl)
 have Un2 : Arv Z H2 b1 k1 .byte (1 : Int32) [(.int p1.toInt8.toInt32)] (.int (0 : Int32)) := (by have q := Vn2; rw [show p1.toInt8.toInt32.toInt8.toInt32 = p1.toInt8.toInt32 from own_narb p1] at q; exact q)
 have sz2 := Wn2.size
 have K2 := K1.wr Wn2 (Or.inr (by omega))
 have N2 := Fr.snoc X2 N0 (by omega)
 exact Wk.leave X2 (v := some (.ref b1)) (fun h => by rw [Bd.returns] at h; cases h) hlk e2 ⟨b1, k1, rfl, N2, K2, Un2, (by omega)⟩ (by decide) (by decide) (fun fs hr => retA X2 hx rfl Bd.returns rfl (hD d2_8) hr)
def Q_rmSI (Z : State) (a1 : Addr) (a2 : Addr) (p1 : Int32) (u1 : Value) (u2 : Value) (h0 : Heap) (n0 : Nat) (v : Option Value) (h : Heap) (L : List Loc) : Prop := v = none ∧ Fr n0 L ∧ Keep h0 h [a1] ∧ Exa Z h a1 "java/lang/String" ∧ Fld Z h a1 "java/lang/String" "value" "[B" (.ref a2) ∧ Fld Z h a1 "java/lang/String" "coder" "B" (.int p1)
theorem ef_rmSI (m : MethodId) (x0 : Addr) (x1 : Addr) (x2 : Int32) : entryFrame m #[(.ref x0), (.ref x1), (.int x2)] 3 = mkF m 0 #[.val (.ref x0), .val (.ref x1), .val (.int x2)] [] := by first | (simp [entryFrame, mkF, argsToLocals, Value.category]; done) | rfl
theorem pn_java_lang_String : plainName "java/lang/String" = true := by first | (simp [plainName, overriddenIn]; done) | decide +kernel
theorem d3_0 : decode B3_ 0 = .ok (.aload_n 0, 1) := by decide +kernel
theorem d3_1 : decode B3_ 1 = .ok (.invokespecial 1, 3) := by decide +kernel
theorem d3_4 : decode B3_ 4 = .ok (.aload_n 0, 1) := by decide +kernel
theorem d3_5 : decode B3_ 5 = .ok (.aload_n 1, 1) := by decide +kernel
theorem d3_6 : decode B3_ 6 = .ok (.putfield 9, 3) := by decide +kernel
theorem d3_9 : decode B3_ 9 = .ok (.aload_n 0, 1) := by decide +kernel
theorem d3_10 : decode B3_ 10 = .ok (.iload_n 2, 1) := by decide +kernel
theorem d3_11 : decode B3_ 11 = .ok (.putfield 15, 3) := by decide +kernel
theorem d3_14 : decode B3_ 14 = .ok (.return_, 1) := by decide +kernel
theorem rmSI (hw : HW a0 Z) (ws : List Jvm.Cond) (a1 : Addr) (a2 : Addr) (p1 : Int32) (u1 : Value) (u2 : Value) (h0 : Heap) (n0 : Nat) (Z0 : n0 ≤ h0.size) (E1 : Exa Z h0 a1 "java/lang/String") (F1 : Fld Z h0 a1 "java/lang/String" "value" "[B" u1) (F2 : Fld Z h0 a1 "java/lang/String" "coder" "B" u2) (g1 : n0 ≤ a1) (hb1 : nar .byte p1 = p1) : MetN l Z mn3 jdk_42_method_151_code 3 none ws (rM 1 0 0 12) #[(.ref a1), (.ref a2), (.int p1)] h0 (Q_rmSI Z a1 a2 p1 u1 u2 h0 n0) := by
 refine enterN (plainFor_of_name pn_java_lang_String) (fun m => ef_rmSI m _ _ _) fun p e s m below meth c s₁ Bd hZ hx hD hlk hml hown hnm X0 e0 => ?_
 have N0 := Fr.nil n0
 have K0 := Keep.refl h0 [a1]
 have lt_E1 := ny E1.lt
 have lt_F1 := ny F1.lt
 have lt_F2 := ny F2.lt
 refine Wk.aloadN X0 hx (hD d3_0) (n := 1) rfl rfl rfl ?_
 refine Wk.initO X0 hx hZ hown (oW hw 14 rfl) (oW hw 15 rfl) (oW hw 16 rfl) e0 (by rw [hml]; rfl) (hD d3_1) (n := 4) rfl (by decide) (w := 0) (Nat.le_of_eq rfl) (by decide) fun T1 X1 e1 => ?_
 refine Wk.aloadN X1 hx (hD d3_4) (n := 5) rfl rfl rfl ?_
 refine Wk.aloadN X1 hx (hD d3_5) (n := 6) rfl rfl rfl ?_
 refine Wk.putF X1 hx hZ hown (host := "") (Or.inl (oW hw 31 rfl)) Via.refl e1 F1 E1 (Or.inr ⟨(oW hw 32 rfl), rfl, hnm⟩) (oW hw 5 rfl) (ty := (.array .byte)) (by decide) rfl rfl (hD d3_6) (n := 9) rfl fun T2 H2 X2 e2 Wn2 => ?_
 have sz2 := Wn2.size
 have Fn2 := F1.same Wn2
 have K2 := K0.wr Wn2 (Or.inl (List.mem_of_getElem? (i := 0) rfl))
 have N2 := Fr.snoc X2 N0 (by omega)
 refine Wk.aloadN X2 hx (hD d3_9) (n := 10) rfl rfl rfl ?_
 refine Wk.iloadN X2 hx (hD d3_10) (n := 11) rfl rfl ?_
 have f3 := (F2.other Wn2 (Or.inr (slot_ne (Or.inr (oW hw 30 rfl)) (Or.inr (oW hw 32 rfl)) (by decide) (t := .byte) (t' := (.array .byte)) (by decide) (by decide))))
 have f4 := (E1.wr Wn2)
 refine Wk.putFN X2 hx hZ hown (oW hw 29 rfl) Via.refl e2 f3 f4 (Or.inr ⟨(oW hw 30 rfl), rfl, hnm⟩) (oW hw 5 rfl) (ty := .byte) (by decide) (v' := (.int p1)) (congrArg Value.int hb1) (own_fitb hb1) (hD d3_11) (n := 14) rfl fun T5 H5 X5 e5 Wn5 => ?_
 have sz5 := Wn5.size
 have Fn5 := f3.same Wn5
 have K5 := K2.wr Wn5 (Or.inl (List.mem_of_getElem? (i := 0) rfl))
 have N5 := Fr.snoc X5 N2 (by omega)
 have f6 := (f4.wr Wn5)
 have f7 := (Fn2.other Wn5 (Or.inr (slot_ne (Or.inr (oW hw 32 rfl)) (Or.inr (oW hw 30 rfl)) (by decide) (t := (.array .byte)) (t' := .byte) (by decide) (by decide))))
 exact Wk.leave X5 (v := none) (fun _ => rfl) hlk e5 ⟨rfl, N5, K5, f6, f7, Fn5⟩ (by decide) (by decide) (fun fs hr => X5.returnOut hx Bd.returns (hD d3_14) hr)
def Q_rmSVO (Z : State) (p1 : Int32) (zc : Int32) (h0 : Heap) (n0 : Nat) (v : Option Value) (h : Heap) (L : List Loc) : Prop := ∃ (r : Addr) (t : Addr) (kb : ClassId), v = some (.ref r) ∧ Fr n0 L ∧ Keep h0 h [] ∧ Exa Z h r "java/lang/String" ∧ Fld Z h r "java/lang/String" "value" "[B" (.ref t) ∧ Fld Z h r "java/lang/String" "coder" "B" (.int (0 : Int32)) ∧ Arv Z h t kb .byte (1 : Int32) [(.int p1.toInt8.toInt32)] (.int (0 : Int32)) ∧ (h0.size ≤ r) ∧ (h0.size ≤ t)
theorem ef_rmSVO (m : MethodId) (x0 : Int32) : entryFrame m #[(.int x0)] 1 = mkF m 0 #[.val (.int x0)] [] := by first | (simp [entryFrame, mkF, argsToLocals, Value.category]; done) | rfl
theorem d4_0 : decode B4_ 0 = .ok (.getstatic 38, 3) := by decide +kernel
theorem d4_3 : decode B4_ 3 = .ok (.ifCond .eq 23, 3) := by decide +kernel
theorem d4_6 : decode B4_ 6 = .ok (.iload_n 0, 1) := by decide +kernel
theorem d4_7 : decode B4_ 7 = .ok (.invokestatic 1015, 3) := by decide +kernel
theorem pd_0 : parseMethodDescriptor "(C)Z" = some ⟨[.char], some .boolean⟩ := by decide +kernel
theorem d4_10 : decode B4_ 10 = .ok (.ifCond .eq 16, 3) := by decide +kernel
theorem d4_13 : decode B4_ 13 = .ok (.new 10, 3) := by decide +kernel
theorem d4_16 : decode B4_ 16 = .ok (.dup, 1) := by decide +kernel
theorem d4_17 : decode B4_ 17 = .ok (.iload_n 0, 1) := by decide +kernel
theorem d4_18 : decode B4_ 18 = .ok (.invokestatic 1018, 3) := by decide +kernel
theorem pd_1 : parseMethodDescriptor "(C)[B" = some ⟨[.char], some (.array .byte)⟩ := by decide +kernel
theorem d4_21 : decode B4_ 21 = .ok (.iconst 0, 1) := by decide +kernel
theorem d4_22 : decode B4_ 22 = .ok (.invokespecial 209, 3) := by decide +kernel
theorem pd_2 : parseMethodDescriptor "([BB)V" = some ⟨[(.array .byte), .byte], none⟩ := by decide +kernel
theorem d4_25 : decode B4_ 25 = .ok (.areturn, 1) := by decide +kernel
theorem rmSVO (hw : HW a0 Z) (ws : List Jvm.Cond) (p1 : Int32) (zc : Int32) (h0 : Heap) (n0 : Nat) (Z0 : n0 ≤ h0.size) (S4 : Sta Z Z.heap "java/lang/String" "COMPACT_STRINGS" "Z" (.int zc)) (O1 : Old Z n0 h0) (hCS : ¬ zc = 0) (h1 : ¬ (255 : Int32) < p1) : MetN l Z mn4 jdk_42_method_139_code 1 (some (.object "java/lang/String")) ws (rM 2 2 5 27) #[(.int p1)] h0 (Q_rmSVO Z p1 zc h0 n0) := by
 refine enterN (plainFor_of_name pn_java_lang_String) (fun m => ef_rmSVO m _) fun p e s m below meth c s₁ Bd hZ hx hD hlk hml hown hnm X0 e0 => ?_
 have N0 := Fr.nil n0
 have K0 := Keep.refl h0 []
 refine Wk.getS X0 hx hZ hown (host := "") (Or.inl (oW hw 17 rfl)) Via.refl e0 (Sta.ext O1.2 S4) (hD d4_0) (n := 3) rfl fun T1 X1 e1 => ?_
 have hc3_2 : ¬ (zc = (0 : Int32)) := hCS
 refine Wk.ifNo X1 hx (hD d4_3) (n := 6) rfl ((if0 _ _).trans (feq hc3_2).1) ?_
 refine Wk.iloadN X1 hx (hD d4_6) (n := 7) rfl rfl ?_
 have cl3_ := fun Ls (hLs : LsOk c Ls) => Jvm.LawKit.callS X1 hx (y := mn1) hown (mW hZ hw 36 rfl) (mW hZ hw 37 rfl) (mW hZ hw 38 rfl) (mW hZ hw 39 rfl) (by decide) (backOf (W := 0) (rmCE l Z a0 hw [] p1 h0 n0 (by omega) h1) hZ (oW hw 39 rfl) (oW hw 38 rfl) (by decide) (by decide)) (g := mkF m 7 Ls [(.int p1)]) rfl hLs (argsL := [(.int p1)]) (rest := []) (lenOf pd_0 rfl) rfl (leq0 rfl) (hD d4_7) (fun _ _ => ⟨rfl, e1, (by decide : 0 + 0 ≤ _), (by decide : 0 + 0 ≤ _)⟩)
 refine Wk.backS (n := 10) (rc := 0) (rs := 0) (Q := Q_rmCE Z p1 h0 n0) (cl3_ _ (lsok hml rfl)) fun vn3 T3 L3 X3 hQ3 => ?_
 clear cl3_
 obtain ⟨rfl, M3, e3⟩ := hQ3
 have N3 := Fr.app N0 M3
 show Wk p e below _ T3 (mkF m 10 _ [(.int (1 : Int32))])
 have hc10_4 : ¬ ((1 : Int32) = (0 : Int32)) := by decide
 refine Wk.ifNo X3 hx (hD d4_10) (n := 13) rfl ((if0 _ _).trans (feq hc10_4).1) ?_
 refine Wk.newO X3 hx hZ hown (oW hw 40 rfl) (oW hw 5 rfl) (oW hw 6 rfl) e3 (hD d4_13) (n := 16) rfl (by decide) (by decide) fun T5 H5 b5 gn5 X5 e5 Ex5 An5 Dn5 Yn5 => ?_
 have gn5 := nx gn5
 have sz5 := Ex5.1
 have lt5 := ny An5.lt
 have K5 := K0.ext Ex5
 have Fn5_coder : Fld Z H5 b5 "java/lang/String" "coder" "B" (.int (0 : Int32)) := Dn5 (Or.inr (oW hw 30 rfl)) (ty := .byte) (by decide)
 have Fn5_value : Fld Z H5 b5 "java/lang/String" "value" "[B" .null := Dn5 (Or.inr (oW hw 32 rfl)) (ty := (.array .byte)) (by decide)
 refine Wk.dup X5 hx (hD d4_16) (n := 17) rfl rfl ?_
 refine Wk.iloadN X5 hx (hD d4_17) (n := 18) rfl rfl ?_
 have cl6_ := fun Ls (hLs : LsOk c Ls) => Jvm.LawKit.callS X5 hx (y := mn2) hown (mW hZ hw 41 rfl) (mW hZ hw 42 rfl) (mW hZ hw 38 rfl) (mW hZ hw 43 rfl) (by decide) (backOf (W := 2) (rmTB l Z a0 hw [] p1 H5 n0 (by omega)) hZ (oW hw 43 rfl) (oW hw 38 rfl) (by decide) (by decide)) (g := mkF m 18 Ls [(.int p1), (.ref b5), (.ref b5)]) rfl hLs (argsL := [(.int p1)]) (rest := [(.ref b5), (.ref b5)]) (lenOf pd_1 rfl) rfl (leq0 rfl) (hD d4_18) (fun _ _ => ⟨rfl, e5, (by decide : 1 + 1 ≤ _), (by decide : 4 + 1 ≤ _)⟩)
 refine Wk.backS (n := 21) (rc := 1) (rs := 1) (Q := Q_rmTB Z p1 H5 n0) (cl6_ _ (lsok hml rfl)) fun vn6 T6 L6 X6 hQ6 => ?_
 clear cl6_
 obtain ⟨t_6, kb_6, rfl, M6, J6, p6_0, gt_6⟩ := hQ6
 have N6 := Fr.app N3 M6
 have sz6 := J6.1
 have K6 := K5.trans J6 (fun x hx => nomatch hx)
 have lt_p6_0 := ny p6_0.lt
 show Wk p e below _ T6 (mkF m 21 _ [(.ref t_6), (.ref b5), (.ref b5)])
 refine Wk.iconst X6 hx (hD d4_21) (n := 22) rfl (z := (0 : Int32)) rfl ?_
 have f7 := (An5.keep J6)
 have f8 := (Fn5_value.keep J6 nin0)
 have f9 := (Fn5_coder.keep J6 nin0)
 have cl10_ := fun Ls (hLs : LsOk c Ls) => X6.specialBack hx (y := mn3) rfl hown (mW hZ hw 44 rfl) (mW hZ hw 45 rfl) (mW hZ hw 46 rfl) (by decide) (backOf (W := 1) (rmSI l Z a0 hw [] b5 t_6 (0 : Int32) .null (.int (0 : Int32)) T6.heap n0 (by omega) f7 f8 f9 (by omega) rfl) hZ (oW hw 46 rfl) (oW hw 6 rfl) (by decide) (by decide)) (g := mkF m 22 Ls [(.int (0 : Int32)), (.ref t_6), (.ref b5), (.ref b5)]) rfl hLs (Steps.refl _) (a := b5) (argsL := [(.ref t_6), (.int (0 : Int32))]) (rest := [(.ref b5)]) (lenOf pd_2 rfl) rfl (leq0 rfl) (hD d4_22) (fun _ _ => ⟨rfl, rfl, (by decide : 2 + 0 ≤ _), (by decide : 5 + 0 ≤ _)⟩)
 refine Wk.back (n := 25) (rc := 0) (rs := 0) (Q := Q_rmSI Z b5 t_6 (0 : Int32) .null (.int (0 : Int32)) T6.heap n0) (cl10_ _ (lsok hml rfl)) fun vn10 T10 L10 X10 hQ10 => ?_
 clear cl10_
 obtain ⟨rfl, M10, J10, p10_0, p10_1, p10_2⟩ := hQ10
 have N10 := Fr.app N6 M10
 have sz10 := J10.1
 have K10 := K6.trans J10 (allS (Or.inr (by omega)) all0)
 have lt_p10_0 := ny p10_0.lt
 show Wk p e below _ T10 (mkF m 25 _ [(.ref b5)])
 have f11 := (p6_0.keep J10 (ninS (nz (by omega)) nin0))
 exact Wk.leave X10 (v := some (.ref b5)) (fun h => by rw [Bd.returns] at h; cases h) hlk rfl ⟨b5, t_6, kb_6, rfl, N10, K10, p10_0, p10_1, p10_2, f11, (by omega), (by omega)⟩ (by decide) (by decide) (fun fs hr => retA X10 hx rfl Bd.returns rfl (hD d4_25) hr)
def Q_sbI1 (Z : State) (a1 : Addr) (u1 : Value) (zc : Int32) (h0 : Heap) (n0 : Nat) (v : Option Value) (h : Heap) (L : List Loc) : Prop := ∃ (t : Addr) (kb : ClassId), v = none ∧ Fr n0 L ∧ Keep h0 h [a1] ∧ Exa Z h a1 "java/lang/StringBuilder" ∧ Fld Z h a1 "java/lang/AbstractStringBuilder" "value" "[B" (.ref t) ∧ Fld Z h a1 "java/lang/AbstractStringBuilder" "coder" "B" (.int (0 : Int32)) ∧ Fld Z h a1 "java/lang/AbstractStringBuilder" "count" "I" (.int (Int32.ofNat ([] : List Int32).length)) ∧ Arv Z h t kb .byte (Int32.ofNat 16) (bsV ([] : List Int32)) (.int (0 : Int32)) ∧ Exa Z h t "[B" ∧ (h0.size ≤ t)
theorem ef_sbI1 (m : MethodId) (x0 : Addr) : entryFrame m #[(.ref x0), (.int (16 : Int32))] 2 = mkF m 0 #[.val (.ref x0), .val (.int (16 : Int32))] [] := by first | (simp [entryFrame, mkF, argsToLocals, Value.category]; done) | rfl
theorem pn_java_lang_AbstractStringBuilder : plainName "java/lang/AbstractStringBuilder" = true := by first | (simp [plainName, overriddenIn]; done) | decide +kernel
theorem d5_0 : decode B5_ 0 = .ok (.aload_n 0, 1) := by decide +kernel
theorem d5_1 : decode B5_ 1 = .ok (.invokespecial 3, 3) := by decide +kernel
theorem d5_4 : decode B5_ 4 = .ok (.getstatic 18, 3) := by decide +kernel
theorem d5_7 : decode B5_ 7 = .ok (.ifCond .eq 18, 3) := by decide +kernel
theorem d5_10 : decode B5_ 10 = .ok (.aload_n 0, 1) := by decide +kernel
theorem d5_11 : decode B5_ 11 = .ok (.iload_n 1, 1) := by decide +kernel
theorem d5_12 : decode B5_ 12 = .ok (.newarray .byte, 2) := by decide +kernel
theorem d5_14 : decode B5_ 14 = .ok (.putfield 15, 3) := by decide +kernel
theorem d5_17 : decode B5_ 17 = .ok (.aload_n 0, 1) := by decide +kernel
theorem d5_18 : decode B5_ 18 = .ok (.iconst 0, 1) := by decide +kernel
theorem d5_19 : decode B5_ 19 = .ok (.putfield 22, 3) := by decide +kernel
theorem d5_22 : decode B5_ 22 = .ok (.goto 16, 3) := by decide +kernel
theorem d5_38 : decode B5_ 38 = .ok (.return_, 1) := by decide +kernel
theorem sbI1 (hw : HW a0 Z) (ws : List Jvm.Cond) (a1 : Addr) (u1 : Value) (zc : Int32) (h0 : Heap) (n0 : Nat) (Z0 : n0 ≤ h0.size) (E1 : Exa Z h0 a1 "java/lang/StringBuilder") (F1 : Fld Z h0 a1 "java/lang/AbstractStringBuilder" "value" "[B" u1) (F2 : Fld Z h0 a1 "java/lang/AbstractStringBuilder" "coder" "B" (.int (0 : Int32))) (F3 : Fld Z h0 a1 "java/lang/AbstractStringBuilder" "count" "I" (.int (0 : Int32))) (S4 : Sta Z Z.heap "java/lang/String" "COMPACT_STRINGS" "Z" (.int zc)) (O1 : Old Z n0 h0) (g1 : n0 ≤ a1) (hCS : ¬ zc = 0) : MetN l Z mn5 jdk_68_method_2_code 2 none ws (rM 1 1 16 12) #[(.ref a1), (.int (16 : Int32))] h0 (Q_sbI1 Z a1 u1 zc h0 n0) := by
 refine enterN (plainFor_of_name pn_java_lang_AbstractStringBuilder) (fun m => ef_sbI1 m _) fun p e s m below meth c s₁ Bd hZ hx hD hlk hml hown hnm X0 e0 => ?_
 have N0 := Fr.nil n0
 have K0 := Keep.refl h0 [a1]
 have lt_E1 := ny E1.lt
 have lt_F1 := ny F1.lt
 have lt_F2 := ny F2.lt
 have lt_F3 := ny F3.lt
 refine Wk.aloadN X0 hx (hD d5_0) (n := 1) rfl rfl rfl ?_
 refine Wk.initO X0 hx hZ hown (oW hw 91 rfl) (oW hw 15 rfl) (oW hw 16 rfl) e0 (by rw [hml]; rfl) (hD d5_1) (n := 4) rfl (by decide) (w := 0) (Nat.le_of_eq rfl) (by decide) fun T1 X1 e1 => ?_
 refine Wk.getS X1 hx hZ hown (host := "") (Or.inl (oW hw 92 rfl)) Via.refl e1 (Sta.ext O1.2 S4) (hD d5_4) (n := 7) rfl fun T2 X2 e2 => ?_
 have hc7_3 : ¬ (zc = (0 : Int32)) := hCS
 refine Wk.ifNo X2 hx (hD d5_7) (n := 10) rfl ((if0 _ _).trans (feq hc7_3).1) ?_
 refine Wk.aloadN X2 hx (hD d5_10) (n := 11) rfl rfl rfl ?_
 refine Wk.iloadN X2 hx (hD d5_11) (n := 12) rfl rfl ?_
 refine Wk.newPE X2 hx hZ (oW hw 22 rfl) e2 (hD d5_12) (n := 14) rfl (by decide) (cap := 16) (by decide) (by decide) (by decide) (by decide) (ad := "[B") (by decide) fun T4 H4 b4 k4 gn4 X4 e4 Ex4 An4 Aq4 => ?_
 have gn4 := nx gn4
 have sz4 := Ex4.1
 have K4 := K0.ext Ex4
 have Vn4 : Arv Z H4 b4 k4 .byte (16 : Int32) [(.int (0 : Int32)), (.int (0 : Int32)), (.int (0 : Int32)), (.int (0 : Int32)), (.int (0 : Int32)), (.int (0 : Int32)), (.int (0 : Int32)), (.int (0 : Int32)), (.int (0 : Int32)), (.int (0 : Int32)), (.int (0 : Int32)), (.int (0 : Int32)), (.int (0 : Int32)), (.int (0 : Int32)), (.int (0 : Int32)), (.int (0 : Int32))] (.int (0 : Int32)) := (Arv.new An4 (by decide)).pad (pad_rep [] (.int (0 : Int32)) 16)
 have lt4 := ny Vn4.lt
 have f5 := (F1.ext Ex4)
 have f6 := (E1.ext Ex4)
 refine Wk.putF X4 hx hZ hown (host := "") (Or.inl (oW hw 93 rfl)) Via.refl e4 f5 f6 (Or.inl (oW hw 94 rfl)) (oW hw 80 rfl) (ty := (.array .byte)) (by decide) rfl rfl (hD d5_14) (n := 17) rfl fun T7 H7 X7 e7 Wn7 => ?_
 have sz7 := Wn7.size
 have Fn7 := f5.same Wn7
 have K7 := K4.wr Wn7 (Or.inl (List.mem_of_getElem? (i := 0) rfl))
 have N7 := Fr.snoc X7 N0 (by omega)
 refine Wk.aloadN X7 hx (hD d5_17) (n := 18) rfl rfl rfl ?_
 refine Wk.iconst X7 hx (hD d5_18) (n := 19) rfl (z := (0 : Int32)) rfl ?_
 have f8 := ((F2.ext Ex4).other Wn7 (Or.inr (slot_ne (Or.inl (oW hw 96 rfl)) (Or.inl (oW hw 94 rfl)) (by decide) (t := .byte) (t' := (.array .byte)) (by decide) (by decide))))
 have f9 := (f6.wr Wn7)
 refine Wk.putFN X7 hx hZ hown (oW hw 95 rfl) Via.refl e7 f8 f9 (Or.inl (oW hw 96 rfl)) (oW hw 80 rfl) (ty := .byte) (by decide) (v' := (.int (0 : Int32))) rfl rfl (hD d5_19) (n := 22) rfl fun T10 H10 X10 e10 Wn10 => ?_
 have sz10 := Wn10.size
 have Fn10 := f8.same Wn10
 have K10 := K7.wr Wn10 (Or.inl (List.mem_of_getElem? (i := 0) rfl))
 have N10 := Fr.snoc X10 N7 (by omega)
 refine Wk.goto X10 hx (hD d5_22) (by decide) (n := 38) (by decide) ?_
 have f11 := ((Vn4.other Wn7 (nz (by omega))).other Wn10 (nz (by omega)))
 have f12 := (f9.wr Wn10)
 have f13 := (Fn7.other Wn10 (Or.inr (slot_ne (Or.inl (oW hw 94 rfl)) (Or.inl (oW hw 96 rfl)) (by decide) (t := (.array .byte)) (t' := .byte) (by decide) (by decide))))
 have f14 := (((F3.ext Ex4).other Wn7 (Or.inr (slot_ne (Or.inl (oW hw 125 rfl)) (Or.inl (oW hw 94 rfl)) (by decide) (t := .int) (t' := (.array .byte)) (by decide) (by decide)))).other Wn10 (Or.inr (slot_ne (Or.inl (oW hw 125 rfl)) (Or.inl (oW hw 96 rfl)) (by decide) (t := .int) (t' := .byte) (by decide) (by decide))))
 have f15 := ((Aq4.wr Wn7).wr Wn10)
 exact Wk.leave X10 (v := none) (fun _ => rfl) hlk e10 ⟨b4, k4, rfl, N10, K10, f12, f13, Fn10, f14, (Arv.pad f11 (fun i => (pad_rep [] _ 16 i).symm)), f15, (by omega)⟩ (by decide) (by decide) (fun fs hr => X10.returnOut hx Bd.returns (hD d5_38) hr)
def Q_sbI0 (Z : State) (a1 : Addr) (u1 : Value) (zc : Int32) (h0 : Heap) (n0 : Nat) (v : Option Value) (h : Heap) (L : List Loc) : Prop := ∃ (t : Addr) (kb : ClassId), v = none ∧ Fr n0 L ∧ Keep h0 h [a1] ∧ Exa Z h a1 "java/lang/StringBuilder" ∧ Fld Z h a1 "java/lang/AbstractStringBuilder" "value" "[B" (.ref t) ∧ Fld Z h a1 "java/lang/AbstractStringBuilder" "coder" "B" (.int (0 : Int32)) ∧ Fld Z h a1 "java/lang/AbstractStringBuilder" "count" "I" (.int (Int32.ofNat ([] : List Int32).length)) ∧ Arv Z h t kb .byte (Int32.ofNat 16) (bsV ([] : List Int32)) (.int (0 : Int32)) ∧ Exa Z h t "[B" ∧ (h0.size ≤ t)
theorem ef_sbI0 (m : MethodId) (x0 : Addr) : entryFrame m #[(.ref x0)] 1 = mkF m 0 #[.val (.ref x0)] [] := by first | (simp [entryFrame, mkF, argsToLocals, Value.category]; done) | rfl
theorem pn_java_lang_StringBuilder : plainName "java/lang/StringBuilder" = true := by first | (simp [plainName, overriddenIn]; done) | decide +kernel
theorem d6_0 : decode B6_ 0 = .ok (.aload_n 0, 1) := by decide +kernel
theorem d6_1 : decode B6_ 1 = .ok (.bipush 16, 2) := by decide +kernel
theorem d6_3 : decode B6_ 3 = .ok (.invokespecial 1, 3) := by decide +kernel
theorem pd_3 : parseMethodDescriptor "(I)V" = some ⟨[.int], none⟩ := by decide +kernel
theorem d6_6 : decode B6_ 6 = .ok (.return_, 1) := by decide +kernel
theorem sbI0 (hw : HW a0 Z) (ws : List Jvm.Cond) (a1 : Addr) (u1 : Value) (zc : Int32) (h0 : Heap) (n0 : Nat) (Z0 : n0 ≤ h0.size) (E1 : Exa Z h0 a1 "java/lang/StringBuilder") (F1 : Fld Z h0 a1 "java/lang/AbstractStringBuilder" "value" "[B" u1) (F2 : Fld Z h0 a1 "java/lang/AbstractStringBuilder" "coder" "B" (.int (0 : Int32))) (F3 : Fld Z h0 a1 "java/lang/AbstractStringBuilder" "count" "I" (.int (0 : Int32))) (S4 : Sta Z Z.heap "java/lang/String" "COMPACT_STRINGS" "Z" (.int zc)) (O1 : Old Z n0 h0) (g1 : n0 ≤ a1) (hCS : ¬ zc = 0) : MetN l Z mn6 jdk_67_method_1_code 1 none ws (rM 2 1 16 25) #[(.ref a1)] h0 (Q_sbI0 Z a1 u1 zc h0 n0) := by
 refine enterN (plainFor_of_name pn_java_lang_StringBuilder) (fun m => ef_sbI0 m _) fun p e s m below meth c s₁ Bd hZ hx hD hlk hml hown hnm X0 e0 => ?_
 have N0 := Fr.nil n0
 have K0 := Keep.refl h0 [a1]
 have lt_E1 := ny E1.lt
 have lt_F1 := ny F1.lt
 have lt_F2 := ny F2.lt
 have lt_F3 := ny F3.lt
 refine Wk.aloadN X0 hx (hD d6_0) (n := 1) rfl rfl rfl ?_
 refine Wk.bipush X0 hx (hD d6_1) (n := 3) rfl (z := (16 : Int32)) rfl ?_
 have cl1_ := fun Ls (hLs : LsOk c Ls) => X0.specialBack hx (y := mn5) rfl hown (mW hZ hw 85 rfl) (mW hZ hw 86 rfl) (mW hZ hw 90 rfl) (by decide) (backOf (W := 0) (sbI1 l Z a0 hw [] a1 u1 zc h0 n0 (by omega) E1 F1 F2 F3 S4 O1 (by omega) hCS) hZ (oW hw 90 rfl) (oW hw 89 rfl) (by decide) (by decide)) (g := mkF m 3 Ls [(.int (16 : Int32)), (.ref a1)]) rfl hLs (Steps.refl _) (a := a1) (argsL := [(.int (16 : Int32))]) (rest := []) (lenOf pd_3 rfl) rfl (leq0 rfl) (hD d6_3) (fun _ _ => ⟨rfl, e0, (by decide : 0 + 1 ≤ _), (by decide : 0 + 16 ≤ _)⟩)
 refine Wk.back (n := 6) (rc := 1) (rs := 16) (Q := Q_sbI1 Z a1 u1 zc h0 n0) (cl1_ _ (lsok hml rfl)) fun vn1 T1 L1 X1 hQ1 => ?_
 clear cl1_
 obtain ⟨t_1, kb_1, rfl, M1, J1, p1_0, p1_1, p1_2, p1_3, p1_4, p1_5, gt_1⟩ := hQ1
 have N1 := Fr.app N0 M1
 have sz1 := J1.1
 have K1 := K0.trans J1 (allS (Or.inl (List.mem_of_getElem? (i := 0) rfl)) all0)
 have lt_p1_0 := ny p1_0.lt
 have lt_p1_4 := ny p1_4.lt
 show Wk p e below _ T1 (mkF m 6 _ [])
 exact Wk.leave X1 (v := none) (fun _ => rfl) hlk rfl ⟨t_1, kb_1, rfl, N1, K1, p1_0, p1_1, p1_2, p1_3, p1_4, p1_5, (by omega)⟩ (by decide) (by decide) (fun fs hr => X1.returnOut hx Bd.returns (hD d6_6) hr)
def Q_sbCo (Z : State) (a1 : Addr) (zc : Int32) (h0 : Heap) (n0 : Nat) (v : Option Value) (h : Heap) (L : List Loc) : Prop := v = some (.int (0 : Int32)) ∧ Fr n0 L ∧ h = h0
theorem ef_sbCo (m : MethodId) (x0 : Addr) : entryFrame m #[(.ref x0)] 1 = mkF m 0 #[.val (.ref x0)] [] := by first | (simp [entryFrame, mkF, argsToLocals, Value.category]; done) | rfl
theorem d7_0 : decode B7_ 0 = .ok (.getstatic 38, 3) := by decide +kernel
theorem d7_3 : decode B7_ 3 = .ok (.ifCond .eq 10, 3) := by decide +kernel
theorem d7_6 : decode B7_ 6 = .ok (.aload_n 0, 1) := by decide +kernel
theorem d7_7 : decode B7_ 7 = .ok (.getfield 15, 3) := by decide +kernel
theorem d7_10 : decode B7_ 10 = .ok (.goto 4, 3) := by decide +kernel
theorem d7_14 : decode B7_ 14 = .ok (.ireturn, 1) := by decide +kernel
theorem sbCo (hw : HW a0 Z) (ws : List Jvm.Cond) (a1 : Addr) (zc : Int32) (h0 : Heap) (n0 : Nat) (Z0 : n0 ≤ h0.size) (F1 : Fld Z h0 a1 "java/lang/String" "coder" "B" (.int (0 : Int32))) (S4 : Sta Z Z.heap "java/lang/String" "COMPACT_STRINGS" "Z" (.int zc)) (O1 : Old Z n0 h0) (hCS : ¬ zc = 0) : MetN l Z mn7 jdk_42_method_152_code 1 (some .byte) ws (rM 0 0 0 0) #[(.ref a1)] h0 (Q_sbCo Z a1 zc h0 n0) := by
 refine enterN (plainFor_of_name pn_java_lang_String) (fun m => ef_sbCo m _) fun p e s m below meth c s₁ Bd hZ hx hD hlk hml hown hnm X0 e0 => ?_
 have N0 := Fr.nil n0
 have K0 := Keep.refl h0 []
 have lt_F1 := ny F1.lt
 refine Wk.getS X0 hx hZ hown (host := "") (Or.inl (oW hw 17 rfl)) Via.refl e0 (Sta.ext O1.2 S4) (hD d7_0) (n := 3) rfl fun T1 X1 e1 => ?_
 have hc3_2 : ¬ (zc = (0 : Int32)) := hCS
 refine Wk.ifNo X1 hx (hD d7_3) (n := 6) rfl ((if0 _ _).trans (feq hc3_2).1) ?_
 refine Wk.aloadN X1 hx (hD d7_6) (n := 7) rfl rfl rfl ?_
 refine Wk.getF X1 hx hZ hown (host := "") (Or.inl (oW hw 29 rfl)) Via.refl e1 F1 (hD d7_7) (n := 10) rfl fun T3 X3 e3 => ?_
 refine Wk.goto X3 hx (hD d7_10) (by decide) (n := 14) (by decide) ?_
 exact Wk.leave X3 (v := some (.int (0 : Int32))) (fun h => by rw [Bd.returns] at h; cases h) hlk e3 ⟨rfl, N0, rfl⟩ (by decide) (by decide) (fun fs hr => retNz X3 hx (t := .byte) rfl Bd.returns (by simp) (hD d7_14) hr)
def Q_sbEC (Z : State) (a1 : Addr) (i1 : Int32) (t1 : Addr) (k1 : ClassId) (cs : List Int32) (qz : Nat) (Nz : Nat) (h0 : Heap) (n0 : Nat) (v : Option Value) (h : Heap) (L : List Loc) : Prop := v = none ∧ Fr n0 L ∧ h = h0
theorem ef_sbEC (m : MethodId) (x0 : Addr) (x1 : Int32) : entryFrame m #[(.ref x0), (.int x1)] 3 = mkF m 0 #[.val (.ref x0), .val (.int x1), .unset] [] := by first | (simp [entryFrame, mkF, argsToLocals, Value.category]; done) | rfl
theorem d8_0 : decode B8_ 0 = .ok (.aload_n 0, 1) := by decide +kernel
theorem d8_1 : decode B8_ 1 = .ok (.getfield 15, 3) := by decide +kernel
theorem d8_4 : decode B8_ 4 = .ok (.arraylength, 1) := by decide +kernel
theorem d8_5 : decode B8_ 5 = .ok (.aload_n 0, 1) := by decide +kernel
theorem d8_6 : decode B8_ 6 = .ok (.getfield 22, 3) := by decide +kernel
theorem d8_9 : decode B8_ 9 = .ok (.ishr, 1) := by decide +kernel
theorem d8_10 : decode B8_ 10 = .ok (.istore_n 2, 1) := by decide +kernel
theorem d8_11 : decode B8_ 11 = .ok (.iload_n 1, 1) := by decide +kernel
theorem d8_12 : decode B8_ 12 = .ok (.iload_n 2, 1) := by decide +kernel
theorem d8_13 : decode B8_ 13 = .ok (.isub, 1) := by decide +kernel
theorem d8_14 : decode B8_ 14 = .ok (.ifCond .le 24, 3) := by decide +kernel
theorem d8_38 : decode B8_ 38 = .ok (.return_, 1) := by decide +kernel
theorem sbEC (hw : HW a0 Z) (ws : List Jvm.Cond) (a1 : Addr) (i1 : Int32) (t1 : Addr) (k1 : ClassId) (cs : List Int32) (qz : Nat) (Nz : Nat) (h0 : Heap) (n0 : Nat) (Z0 : n0 ≤ h0.size) (Eb1 : Exa Z h0 a1 "java/lang/StringBuilder") (Gv1 : Fld Z h0 a1 "java/lang/AbstractStringBuilder" "value" "[B" (.ref t1)) (Gc1 : Fld Z h0 a1 "java/lang/AbstractStringBuilder" "coder" "B" (.int (0 : Int32))) (Ab1 : Arv Z h0 t1 k1 .byte (Int32.ofNat Nz) (bsV cs) (.int (0 : Int32))) (Et1 : Exa Z h0 t1 "[B") (hi : i1 = Int32.ofNat qz) (hq : qz ≤ Nz) (hNz : Nz ≤ 40) : MetN l Z mn8 jdk_68_method_9_code 3 none ws (rM 0 0 0 0) #[(.ref a1), (.int i1)] h0 (Q_sbEC Z a1 i1 t1 k1 cs qz Nz h0 n0) := by
 refine enterN (plainFor_of_name pn_java_lang_AbstractStringBuilder) (fun m => ef_sbEC m _ _) fun p e s m below meth c s₁ Bd hZ hx hD hlk hml hown hnm X0 e0 => ?_
 have N0 := Fr.nil n0
 have K0 := Keep.refl h0 []
 have lt_Eb1 := ny Eb1.lt
 have lt_Gv1 := ny Gv1.lt
 have lt_Gc1 := ny Gc1.lt
 have lt_Ab1 := ny Ab1.lt
 have lt_Et1 := ny Et1.lt
 refine Wk.aloadN X0 hx (hD d8_0) (n := 1) rfl rfl rfl ?_
 refine Wk.getF X0 hx hZ hown (host := "") (Or.inl (oW hw 93 rfl)) Via.refl e0 Gv1 (hD d8_1) (n := 4) rfl fun T1 X1 e1 => ?_
 obtain ⟨cl2, Ar2, qn2, Sz2, N_2, H_2, Gn2⟩ := id Ab1
 refine Wk.arrlen X1 hx hZ e1 Ar2 Sz2 N_2 (hD d8_4) (n := 5) rfl ?_
 refine Wk.aloadN X1 hx (hD d8_5) (n := 6) rfl rfl rfl ?_
 refine Wk.getF X1 hx hZ hown (host := "") (Or.inl (oW hw 95 rfl)) Via.refl e1 Gc1 (hD d8_6) (n := 9) rfl fun T3 X3 e3 => ?_
 refine Wk.ishr X3 hx (hD d8_9) (n := 10) rfl ?_
 refine Wk.istoreN X3 hx (hD d8_10) (n := 11) rfl (L' := #[.val (.ref a1), .val (.int i1), .val (.int ((Int32.ofNat Nz) >>> ((0 : Int32) &&& 31)))]) rfl ?_
 refine Wk.iloadN X3 hx (hD d8_11) (n := 12) rfl rfl ?_
 refine Wk.iloadN X3 hx (hD d8_12) (n := 13) rfl rfl ?_
 refine Wk.isub X3 hx (hD d8_13) (n := 14) rfl ?_
 have hc14_4 : ¬ ((0 : Int32) < (i1 - ((Int32.ofNat Nz) >>> ((0 : Int32) &&& 31)))) := by rw [hi]; exact own_ec hq (by omega)
 refine Wk.ifYes X3 hx (hD d8_14) ((if0 _ _).trans (flt hc14_4).2.2.2) (by decide) (n := 38) (by decide) ?_
 exact Wk.leave X3 (v := none) (fun _ => rfl) hlk e3 ⟨rfl, N0, rfl⟩ (by decide) (by decide) (fun fs hr => X3.returnOut hx Bd.returns (hD d8_38) hr)
def Q_sbIN (Z : State) (a1 : Addr) (x1 : Addr) (zc : Int32) (h0 : Heap) (n0 : Nat) (v : Option Value) (h : Heap) (L : List Loc) : Prop := v = none ∧ Fr n0 L ∧ h = h0
theorem ef_sbIN (m : MethodId) (x0 : Addr) (x1 : Addr) : entryFrame m #[(.ref x0), (.ref x1)] 2 = mkF m 0 #[.val (.ref x0), .val (.ref x1)] [] := by first | (simp [entryFrame, mkF, argsToLocals, Value.category]; done) | rfl
theorem d9_0 : decode B9_ 0 = .ok (.getstatic 18, 3) := by decide +kernel
theorem d9_3 : decode B9_ 3 = .ok (.ifCond .eq 18, 3) := by decide +kernel
theorem d9_6 : decode B9_ 6 = .ok (.aload_n 0, 1) := by decide +kernel
theorem d9_7 : decode B9_ 7 = .ok (.getfield 22, 3) := by decide +kernel
theorem d9_10 : decode B9_ 10 = .ok (.aload_n 1, 1) := by decide +kernel
theorem d9_11 : decode B9_ 11 = .ok (.invokevirtual 40, 3) := by decide +kernel
theorem pd_4 : parseMethodDescriptor "()B" = some ⟨[], some .byte⟩ := by decide +kernel
theorem d9_14 : decode B9_ 14 = .ok (.if_icmp .eq 7, 3) := by decide +kernel
theorem d9_21 : decode B9_ 21 = .ok (.return_, 1) := by decide +kernel
theorem sbIN (hw : HW a0 Z) (ws : List Jvm.Cond) (a1 : Addr) (x1 : Addr) (zc : Int32) (h0 : Heap) (n0 : Nat) (Z0 : n0 ≤ h0.size) (E1 : Exa Z h0 a1 "java/lang/StringBuilder") (F1 : Fld Z h0 a1 "java/lang/AbstractStringBuilder" "coder" "B" (.int (0 : Int32))) (E2 : Exa Z h0 x1 "java/lang/String") (F2 : Fld Z h0 x1 "java/lang/String" "coder" "B" (.int (0 : Int32))) (S4 : Sta Z Z.heap "java/lang/String" "COMPACT_STRINGS" "Z" (.int zc)) (O1 : Old Z n0 h0) (hCS : ¬ zc = 0) : MetN l Z mn9 jdk_68_method_71_code 2 none ws (rM 1 0 0 13) #[(.ref a1), (.ref x1)] h0 (Q_sbIN Z a1 x1 zc h0 n0) := by
 refine enterN (plainFor_of_name pn_java_lang_AbstractStringBuilder) (fun m => ef_sbIN m _ _) fun p e s m below meth c s₁ Bd hZ hx hD hlk hml hown hnm X0 e0 => ?_
 have N0 := Fr.nil n0
 have K0 := Keep.refl h0 []
 have lt_E1 := ny E1.lt
 have lt_F1 := ny F1.lt
 have lt_E2 := ny E2.lt
 have lt_F2 := ny F2.lt
 refine Wk.getS X0 hx hZ hown (host := "") (Or.inl (oW hw 92 rfl)) Via.refl e0 (Sta.ext O1.2 S4) (hD d9_0) (n := 3) rfl fun T1 X1 e1 => ?_
 have hc3_2 : ¬ (zc = (0 : Int32)) := hCS
 refine Wk.ifNo X1 hx (hD d9_3) (n := 6) rfl ((if0 _ _).trans (feq hc3_2).1) ?_
 refine Wk.aloadN X1 hx (hD d9_6) (n := 7) rfl rfl rfl ?_
 refine Wk.getF X1 hx hZ hown (host := "") (Or.inl (oW hw 95 rfl)) Via.refl e1 F1 (hD d9_7) (n := 10) rfl fun T3 X3 e3 => ?_
 refine Wk.aloadN X3 hx (hD d9_10) (n := 11) rfl rfl rfl ?_
 obtain ⟨cq4, kq4, qn4a, qn4b, qn4c⟩ := isOf hZ e3 E2
 have cl4_ := fun Ls (hLs : LsOk c Ls) => X3.virtualBack hx (y := mn7) (z := mn7) hown (mW hZ hw 141 rfl) (mW hZ hw 120 rfl) (notFace_of_selects (args := #[]) (mW hZ hw 122 rfl)) (mW hZ hw 122 rfl) (mW hZ hw 121 rfl) (by decide) (backOf (W := 1) (sbCo l Z a0 hw [] x1 zc h0 n0 (by omega) F2 S4 O1 hCS) hZ (oW hw 123 rfl) (oW hw 6 rfl) (by decide) (by decide)) qn4a qn4c (g := mkF m 11 Ls [(.ref x1), (.int (0 : Int32))]) rfl hLs (Steps.refl _) (argsL := []) (rest := [(.int (0 : Int32))]) (lenOf pd_4 rfl) rfl (leq0 rfl) (hD d9_11) (fun _ _ => ⟨rfl, e3, (by decide : 0 + 0 ≤ _), (by decide : 0 + 0 ≤ _)⟩)
 refine Wk.back (n := 14) (rc := 0) (rs := 0) (Q := Q_sbCo Z x1 zc h0 n0) (cl4_ _ (lsok hml rfl)) fun vn4 T4 L4 X4 hQ4 => ?_
 clear cl4_
 obtain ⟨rfl, M4, e4⟩ := hQ4
 have N4 := Fr.app N0 M4
 show Wk p e below _ T4 (mkF m 14 _ [(.int (0 : Int32)), (.int (0 : Int32))])
 have hc14_5 : (0 : Int32) = (0 : Int32) := rfl
 refine Wk.icmpYes X4 hx (hD d9_14) (teq hc14_5).1 (by decide) (n := 21) (by decide) ?_
 exact Wk.leave X4 (v := none) (fun _ => rfl) hlk e4 ⟨rfl, N4, rfl⟩ (by decide) (by decide) (fun fs hr => X4.returnOut hx Bd.returns (hD d9_21) hr)
def Q_sbGB (Z : State) (x1 : Addr) (t2 : Addr) (k2 : ClassId) (cx : List Int32) (t1 : Addr) (k1 : ClassId) (cs : List Int32) (i1 : Int32) (zc : Int32) (Nz : Nat) (h0 : Heap) (n0 : Nat) (v : Option Value) (h : Heap) (L : List Loc) : Prop := v = none ∧ Fr n0 L ∧ Keep h0 h [t1] ∧ Arv Z h t1 k1 .byte (Int32.ofNat Nz) (bsV (cs ++ cx)) (.int (0 : Int32))
theorem ef_sbGB (m : MethodId) (x0 : Addr) (x1 : Addr) (x2 : Int32) : entryFrame m #[(.ref x0), (.ref x1), (.int x2), (.int (0 : Int32))] 4 = mkF m 0 #[.val (.ref x0), .val (.ref x1), .val (.int x2), .val (.int (0 : Int32))] [] := by first | (simp [entryFrame, mkF, argsToLocals, Value.category]; done) | rfl
theorem d10_0 : decode B10_ 0 = .ok (.aload_n 0, 1) := by decide +kernel
theorem d10_1 : decode B10_ 1 = .ok (.invokevirtual 335, 3) := by decide +kernel
theorem d10_4 : decode B10_ 4 = .ok (.iload_n 3, 1) := by decide +kernel
theorem d10_5 : decode B10_ 5 = .ok (.if_icmp .ne 23, 3) := by decide +kernel
theorem d10_8 : decode B10_ 8 = .ok (.aload_n 0, 1) := by decide +kernel
theorem d10_9 : decode B10_ 9 = .ok (.getfield 9, 3) := by decide +kernel
theorem d10_12 : decode B10_ 12 = .ok (.iconst 0, 1) := by decide +kernel
theorem d10_13 : decode B10_ 13 = .ok (.aload_n 1, 1) := by decide +kernel
theorem d10_14 : decode B10_ 14 = .ok (.iload_n 2, 1) := by decide +kernel
theorem d10_15 : decode B10_ 15 = .ok (.iload_n 3, 1) := by decide +kernel
theorem d10_16 : decode B10_ 16 = .ok (.ishl, 1) := by decide +kernel
theorem d10_17 : decode B10_ 17 = .ok (.aload_n 0, 1) := by decide +kernel
theorem d10_18 : decode B10_ 18 = .ok (.getfield 9, 3) := by decide +kernel
theorem d10_21 : decode B10_ 21 = .ok (.arraylength, 1) := by decide +kernel
theorem d10_22 : decode B10_ 22 = .ok (.invokestatic 212, 3) := by decide +kernel
theorem d10_25 : decode B10_ 25 = .ok (.goto 18, 3) := by decide +kernel
theorem d10_43 : decode B10_ 43 = .ok (.return_, 1) := by decide +kernel
theorem sbGB (hw : HW a0 Z) (ws : List Jvm.Cond) (x1 : Addr) (t2 : Addr) (k2 : ClassId) (cx : List Int32) (t1 : Addr) (k1 : ClassId) (cs : List Int32) (i1 : Int32) (zc : Int32) (Nz : Nat) (h0 : Heap) (n0 : Nat) (Z0 : n0 ≤ h0.size) (Es1 : Exa Z h0 x1 "java/lang/String") (Fv1 : Fld Z h0 x1 "java/lang/String" "value" "[B" (.ref t2)) (Fc1 : Fld Z h0 x1 "java/lang/String" "coder" "B" (.int (0 : Int32))) (As1 : Arv Z h0 t2 k2 .byte (Int32.ofNat cx.length) (bsV cx) (.int (0 : Int32))) (Ab1 : Arv Z h0 t1 k1 .byte (Int32.ofNat Nz) (bsV cs) (.int (0 : Int32))) (S4 : Sta Z Z.heap "java/lang/String" "COMPACT_STRINGS" "Z" (.int zc)) (O1 : Old Z n0 h0) (hCS : ¬ zc = 0) (hi : i1 = Int32.ofNat cs.length) (hN : cs.length + cx.length ≤ Nz) (g1 : n0 ≤ t1) (hNz : Nz ≤ 40) : MetN l Z mn10 jdk_42_method_147_code 4 none ws (rM 1 0 0 32) #[(.ref x1), (.ref t1), (.int i1), (.int (0 : Int32))] h0 (Q_sbGB Z x1 t2 k2 cx t1 k1 cs i1 zc Nz h0 n0) := by
 refine enterN (plainFor_of_name pn_java_lang_String) (fun m => ef_sbGB m _ _ _) fun p e s m below meth c s₁ Bd hZ hx hD hlk hml hown hnm X0 e0 => ?_
 have N0 := Fr.nil n0
 have K0 := Keep.refl h0 [t1]
 have lt_Es1 := ny Es1.lt
 have lt_Fv1 := ny Fv1.lt
 have lt_Fc1 := ny Fc1.lt
 have lt_As1 := ny As1.lt
 have lt_Ab1 := ny Ab1.lt
 refine Wk.aloadN X0 hx (hD d10_0) (n := 1) rfl rfl rfl ?_
 obtain ⟨cq1, kq1, qn1a, qn1b, qn1c⟩ := isOf hZ e0 Es1
 have cl1_ := fun Ls (hLs : LsOk c Ls) => X0.virtualBack hx (y := mn7) (z := mn7) hown (mW hZ hw 119 rfl) (mW hZ hw 120 rfl) (notFace_of_selects (args := #[]) (mW hZ hw 122 rfl)) (mW hZ hw 122 rfl) (mW hZ hw 121 rfl) (by decide) (backOf (W := 0) (sbCo l Z a0 hw [] x1 zc h0 n0 (by omega) Fc1 S4 O1 hCS) hZ (oW hw 123 rfl) (oW hw 6 rfl) (by decide) (by decide)) qn1a qn1c (g := mkF m 1 Ls [(.ref x1)]) rfl hLs (Steps.refl _) (argsL := []) (rest := []) (lenOf pd_4 rfl) rfl (leq0 rfl) (hD d10_1) (fun _ _ => ⟨rfl, e0, (by decide : 0 + 0 ≤ _), (by decide : 0 + 0 ≤ _)⟩)
 refine Wk.back (n := 4) (rc := 0) (rs := 0) (Q := Q_sbCo Z x1 zc h0 n0) (cl1_ _ (lsok hml rfl)) fun vn1 T1 L1 X1 hQ1 => ?_
 clear cl1_
 obtain ⟨rfl, M1, e1⟩ := hQ1
 have N1 := Fr.app N0 M1
 show Wk p e below _ T1 (mkF m 4 _ [(.int (0 : Int32))])
 refine Wk.iloadN X1 hx (hD d10_4) (n := 5) rfl rfl ?_
 have hc5_2 : (0 : Int32) = (0 : Int32) := rfl
 refine Wk.icmpNo X1 hx (hD d10_5) (n := 8) rfl (teq hc5_2).2 ?_
 refine Wk.aloadN X1 hx (hD d10_8) (n := 9) rfl rfl rfl ?_
 refine Wk.getF X1 hx hZ hown (host := "") (Or.inl (oW hw 31 rfl)) Via.refl e1 Fv1 (hD d10_9) (n := 12) rfl fun T3 X3 e3 => ?_
 refine Wk.iconst X3 hx (hD d10_12) (n := 13) rfl (z := (0 : Int32)) rfl ?_
 refine Wk.aloadN X3 hx (hD d10_13) (n := 14) rfl rfl rfl ?_
 refine Wk.iloadN X3 hx (hD d10_14) (n := 15) rfl rfl ?_
 refine Wk.iloadN X3 hx (hD d10_15) (n := 16) rfl rfl ?_
 refine Wk.ishl X3 hx (hD d10_16) (n := 17) rfl ?_
 refine Wk.aloadN X3 hx (hD d10_17) (n := 18) rfl rfl rfl ?_
 refine Wk.getF X3 hx hZ hown (host := "") (Or.inl (oW hw 31 rfl)) Via.refl e3 Fv1 (hD d10_18) (n := 21) rfl fun T4 X4 e4 => ?_
 obtain ⟨cl5, Ar5, qn5, Sz5, N_5, H_5, Gn5⟩ := id As1
 refine Wk.arrlen X4 hx hZ e4 Ar5 Sz5 N_5 (hD d10_21) (n := 22) rfl ?_
 have Pd := Arv.pad Ab1 (pad_rep (bsV cs) (.int (0 : Int32)) cx.length)
 refine Wk.cpA X4 hx hZ hown (oW hw 147 rfl) (oW hw 150 rfl) (oW hw 148 rfl) (oW hw 149 rfl) e4 As1 Pd (Or.inl ⟨rfl, rfl⟩) (i := 0) (j := cs.length) (q := cx.length) rfl (by rw [own_shl0]; exact hi) rfl (by omega) (by omega) (by omega) (by rw [own_cl (by omega)]; omega) (by rw [own_cl (by omega)]; omega) rfl (by simp [bsV]) N1 (by omega) (vn := (bsV (cs ++ cx))) (own_vn cs cx) (by rw [hml]; rfl) (hD d10_22) (n := 25) rfl (by decide) (w := 0) (Nat.le_of_eq rfl) (by decide) fun T6 H6 Lc6 X6 e6 N6 J6 Vn6 => ?_
 have sz6 := J6.1
 have K6 := K0.trans J6 (allS (Or.inl (List.mem_of_getElem? (i := 0) rfl)) all0)
 refine Wk.goto X6 hx (hD d10_25) (by decide) (n := 43) (by decide) ?_
 exact Wk.leave X6 (v := none) (fun _ => rfl) hlk e6 ⟨rfl, N6, K6, Vn6⟩ (by decide) (by decide) (fun fs hr => X6.returnOut hx Bd.returns (hD d10_43) hr)
def Q_sbPS (Z : State) (a1 : Addr) (i1 : Int32) (x1 : Addr) (t2 : Addr) (k2 : ClassId) (cx : List Int32) (t1 : Addr) (k1 : ClassId) (cs : List Int32) (zc : Int32) (Nz : Nat) (h0 : Heap) (n0 : Nat) (v : Option Value) (h : Heap) (L : List Loc) : Prop := v = none ∧ Fr n0 L ∧ Keep h0 h [t1] ∧ Arv Z h t1 k1 .byte (Int32.ofNat Nz) (bsV (cs ++ cx)) (.int (0 : Int32))
theorem ef_sbPS (m : MethodId) (x0 : Addr) (x1 : Int32) (x2 : Addr) : entryFrame m #[(.ref x0), (.int x1), (.ref x2)] 3 = mkF m 0 #[.val (.ref x0), .val (.int x1), .val (.ref x2)] [] := by first | (simp [entryFrame, mkF, argsToLocals, Value.category]; done) | rfl
theorem d11_0 : decode B11_ 0 = .ok (.aload_n 0, 1) := by decide +kernel
theorem d11_1 : decode B11_ 1 = .ok (.aload_n 2, 1) := by decide +kernel
theorem d11_2 : decode B11_ 2 = .ok (.invokevirtual 397, 3) := by decide +kernel
theorem pd_5 : parseMethodDescriptor "(Ljava/lang/String;)V" = some ⟨[(.object "java/lang/String")], none⟩ := by decide +kernel
theorem d11_5 : decode B11_ 5 = .ok (.aload_n 2, 1) := by decide +kernel
theorem d11_6 : decode B11_ 6 = .ok (.aload_n 0, 1) := by decide +kernel
theorem d11_7 : decode B11_ 7 = .ok (.getfield 15, 3) := by decide +kernel
theorem d11_10 : decode B11_ 10 = .ok (.iload_n 1, 1) := by decide +kernel
theorem d11_11 : decode B11_ 11 = .ok (.aload_n 0, 1) := by decide +kernel
theorem d11_12 : decode B11_ 12 = .ok (.getfield 22, 3) := by decide +kernel
theorem d11_15 : decode B11_ 15 = .ok (.invokevirtual 399, 3) := by decide +kernel
theorem pd_6 : parseMethodDescriptor "([BIB)V" = some ⟨[(.array .byte), .int, .byte], none⟩ := by decide +kernel
theorem d11_18 : decode B11_ 18 = .ok (.return_, 1) := by decide +kernel
theorem sbPS (hw : HW a0 Z) (ws : List Jvm.Cond) (a1 : Addr) (i1 : Int32) (x1 : Addr) (t2 : Addr) (k2 : ClassId) (cx : List Int32) (t1 : Addr) (k1 : ClassId) (cs : List Int32) (zc : Int32) (Nz : Nat) (h0 : Heap) (n0 : Nat) (Z0 : n0 ≤ h0.size) (Eb1 : Exa Z h0 a1 "java/lang/StringBuilder") (Gv1 : Fld Z h0 a1 "java/lang/AbstractStringBuilder" "value" "[B" (.ref t1)) (Gc1 : Fld Z h0 a1 "java/lang/AbstractStringBuilder" "coder" "B" (.int (0 : Int32))) (Ab1 : Arv Z h0 t1 k1 .byte (Int32.ofNat Nz) (bsV cs) (.int (0 : Int32))) (Et1 : Exa Z h0 t1 "[B") (Es1 : Exa Z h0 x1 "java/lang/String") (Fv1 : Fld Z h0 x1 "java/lang/String" "value" "[B" (.ref t2)) (Fc1 : Fld Z h0 x1 "java/lang/String" "coder" "B" (.int (0 : Int32))) (As1 : Arv Z h0 t2 k2 .byte (Int32.ofNat cx.length) (bsV cx) (.int (0 : Int32))) (S4 : Sta Z Z.heap "java/lang/String" "COMPACT_STRINGS" "Z" (.int zc)) (O1 : Old Z n0 h0) (hCS : ¬ zc = 0) (hi : i1 = Int32.ofNat cs.length) (hN : cs.length + cx.length ≤ Nz) (g1 : n0 ≤ t1) (hNz : Nz ≤ 40) : MetN l Z mn11 jdk_68_method_73_code 3 none ws (rM 2 0 0 47) #[(.ref a1), (.int i1), (.ref x1)] h0 (Q_sbPS Z a1 i1 x1 t2 k2 cx t1 k1 cs zc Nz h0 n0) := by
 refine enterN (plainFor_of_name pn_java_lang_AbstractStringBuilder) (fun m => ef_sbPS m _ _ _) fun p e s m below meth c s₁ Bd hZ hx hD hlk hml hown hnm X0 e0 => ?_
 have N0 := Fr.nil n0
 have K0 := Keep.refl h0 [t1]
 have lt_Eb1 := ny Eb1.lt
 have lt_Gv1 := ny Gv1.lt
 have lt_Gc1 := ny Gc1.lt
 have lt_Ab1 := ny Ab1.lt
 have lt_Et1 := ny Et1.lt
 have lt_Es1 := ny Es1.lt
 have lt_Fv1 := ny Fv1.lt
 have lt_Fc1 := ny Fc1.lt
 have lt_As1 := ny As1.lt
 refine Wk.aloadN X0 hx (hD d11_0) (n := 1) rfl rfl rfl ?_
 refine Wk.aloadN X0 hx (hD d11_1) (n := 2) rfl rfl rfl ?_
 obtain ⟨cq1, kq1, qn1a, qn1b, qn1c⟩ := isOf hZ e0 Eb1
 have cl1_ := fun Ls (hLs : LsOk c Ls) => X0.virtualBack hx (y := mn9) (z := mn9) hown (mW hZ hw 136 rfl) (mvT hZ (own_decl (oW hw 137 rfl) (oW hw 140 rfl))) (notFace_of_selects (args := #[]) (mW hZ hw 139 rfl)) (mW hZ hw 139 rfl) (mW hZ hw 137 rfl) (by decide) (backOf (W := 0) (sbIN l Z a0 hw [] a1 x1 zc h0 n0 (by omega) Eb1 Gc1 Es1 Fc1 S4 O1 hCS) hZ (oW hw 140 rfl) (oW hw 89 rfl) (by decide) (by decide)) qn1a qn1c (g := mkF m 2 Ls [(.ref x1), (.ref a1)]) rfl hLs (Steps.refl _) (argsL := [(.ref x1)]) (rest := []) (lenOf pd_5 rfl) rfl (leq0 rfl) (hD d11_2) (fun _ _ => ⟨rfl, e0, (by decide : 0 + 0 ≤ _), (by decide : 0 + 0 ≤ _)⟩)
 refine Wk.back (n := 5) (rc := 0) (rs := 0) (Q := Q_sbIN Z a1 x1 zc h0 n0) (cl1_ _ (lsok hml rfl)) fun vn1 T1 L1 X1 hQ1 => ?_
 clear cl1_
 obtain ⟨rfl, M1, e1⟩ := hQ1
 have N1 := Fr.app N0 M1
 show Wk p e below _ T1 (mkF m 5 _ [])
 refine Wk.aloadN X1 hx (hD d11_5) (n := 6) rfl rfl rfl ?_
 refine Wk.aloadN X1 hx (hD d11_6) (n := 7) rfl rfl rfl ?_
 refine Wk.getF X1 hx hZ hown (host := "") (Or.inl (oW hw 93 rfl)) Via.refl e1 Gv1 (hD d11_7) (n := 10) rfl fun T2 X2 e2 => ?_
 refine Wk.iloadN X2 hx (hD d11_10) (n := 11) rfl rfl ?_
 refine Wk.aloadN X2 hx (hD d11_11) (n := 12) rfl rfl rfl ?_
 refine Wk.getF X2 hx hZ hown (host := "") (Or.inl (oW hw 95 rfl)) Via.refl e2 Gc1 (hD d11_12) (n := 15) rfl fun T3 X3 e3 => ?_
 obtain ⟨cq4, kq4, qn4a, qn4b, qn4c⟩ := isOf hZ e3 Es1
 have cl4_ := fun Ls (hLs : LsOk c Ls) => X3.virtualBack hx (y := mn10) (z := mn10) hown (mW hZ hw 142 rfl) (mW hZ hw 143 rfl) (notFace_of_selects (args := #[]) (mW hZ hw 145 rfl)) (mW hZ hw 145 rfl) (mW hZ hw 144 rfl) (by decide) (backOf (W := 0) (sbGB l Z a0 hw [] x1 t2 k2 cx t1 k1 cs i1 zc Nz h0 n0 (by omega) Es1 Fv1 Fc1 As1 Ab1 S4 O1 hCS hi (by omega) (by omega) (by omega)) hZ (oW hw 146 rfl) (oW hw 6 rfl) (by decide) (by decide)) qn4a qn4c (g := mkF m 15 Ls [(.int (0 : Int32)), (.int i1), (.ref t1), (.ref x1)]) rfl hLs (Steps.refl _) (argsL := [(.ref t1), (.int i1), (.int (0 : Int32))]) (rest := []) (lenOf pd_6 rfl) rfl (leq0 rfl) (hD d11_15) (fun _ _ => ⟨rfl, e3, (by decide : 0 + 0 ≤ _), (by decide : 0 + 0 ≤ _)⟩)
 refine Wk.back (n := 18) (rc := 0) (rs := 0) (Q := Q_sbGB Z x1 t2 k2 cx t1 k1 cs i1 zc Nz h0 n0) (cl4_ _ (lsok hml rfl)) fun vn4 T4 L4 X4 hQ4 => ?_
 clear cl4_
 obtain ⟨rfl, M4, J4, p4_0⟩ := hQ4
 have N4 := Fr.app N1 M4
 have sz4 := J4.1
 have K4 := K0.trans J4 (allS (Or.inl (List.mem_of_getElem? (i := 0) rfl)) all0)
 have lt_p4_0 := ny p4_0.lt
 show Wk p e below _ T4 (mkF m 18 _ [])
 exact Wk.leave X4 (v := none) (fun _ => rfl) hlk rfl ⟨rfl, N4, K4, p4_0⟩ (by decide) (by decide) (fun fs hr => X4.returnOut hx Bd.returns (hD d11_18) hr)
def Q_sbAP (Z : State) (a1 : Addr) (x1 : Addr) (t2 : Addr) (k2 : ClassId) (cx : List Int32) (t1 : Addr) (k1 : ClassId) (cs : List Int32) (zc : Int32) (Nz : Nat) (h0 : Heap) (n0 : Nat) (v : Option Value) (h : Heap) (L : List Loc) : Prop := v = some (.ref a1) ∧ Fr n0 L ∧ Keep h0 h [a1, t1] ∧ Exa Z h a1 "java/lang/StringBuilder" ∧ Fld Z h a1 "java/lang/AbstractStringBuilder" "value" "[B" (.ref t1) ∧ Fld Z h a1 "java/lang/AbstractStringBuilder" "coder" "B" (.int (0 : Int32)) ∧ Fld Z h a1 "java/lang/AbstractStringBuilder" "count" "I" (.int (Int32.ofNat (cs ++ cx).length)) ∧ Arv Z h t1 k1 .byte (Int32.ofNat Nz) (bsV (cs ++ cx)) (.int (0 : Int32)) ∧ Exa Z h t1 "[B"
theorem ef_sbAP (m : MethodId) (x0 : Addr) (x1 : Addr) : entryFrame m #[(.ref x0), (.ref x1)] 3 = mkF m 0 #[.val (.ref x0), .val (.ref x1), .unset] [] := by first | (simp [entryFrame, mkF, argsToLocals, Value.category]; done) | rfl
theorem d12_0 : decode B12_ 0 = .ok (.aload_n 1, 1) := by decide +kernel
theorem d12_1 : decode B12_ 1 = .ok (.ifnonnull 8, 3) := by decide +kernel
theorem d12_9 : decode B12_ 9 = .ok (.aload_n 1, 1) := by decide +kernel
theorem d12_10 : decode B12_ 10 = .ok (.invokevirtual 32, 3) := by decide +kernel
theorem pd_7 : parseMethodDescriptor "()I" = some ⟨[], some .int⟩ := by decide +kernel
theorem d12_13 : decode B12_ 13 = .ok (.istore_n 2, 1) := by decide +kernel
theorem d12_14 : decode B12_ 14 = .ok (.aload_n 0, 1) := by decide +kernel
theorem d12_15 : decode B12_ 15 = .ok (.aload_n 0, 1) := by decide +kernel
theorem d12_16 : decode B12_ 16 = .ok (.getfield 79, 3) := by decide +kernel
theorem d12_19 : decode B12_ 19 = .ok (.iload_n 2, 1) := by decide +kernel
theorem d12_20 : decode B12_ 20 = .ok (.iadd, 1) := by decide +kernel
theorem d12_21 : decode B12_ 21 = .ok (.invokevirtual 100, 3) := by decide +kernel
theorem d12_24 : decode B12_ 24 = .ok (.aload_n 0, 1) := by decide +kernel
theorem d12_25 : decode B12_ 25 = .ok (.aload_n 0, 1) := by decide +kernel
theorem d12_26 : decode B12_ 26 = .ok (.getfield 79, 3) := by decide +kernel
theorem d12_29 : decode B12_ 29 = .ok (.aload_n 1, 1) := by decide +kernel
theorem d12_30 : decode B12_ 30 = .ok (.invokevirtual 208, 3) := by decide +kernel
theorem pd_8 : parseMethodDescriptor "(ILjava/lang/String;)V" = some ⟨[.int, (.object "java/lang/String")], none⟩ := by decide +kernel
theorem d12_33 : decode B12_ 33 = .ok (.aload_n 0, 1) := by decide +kernel
theorem d12_34 : decode B12_ 34 = .ok (.dup, 1) := by decide +kernel
theorem d12_35 : decode B12_ 35 = .ok (.getfield 79, 3) := by decide +kernel
theorem d12_38 : decode B12_ 38 = .ok (.iload_n 2, 1) := by decide +kernel
theorem d12_39 : decode B12_ 39 = .ok (.iadd, 1) := by decide +kernel
theorem d12_40 : decode B12_ 40 = .ok (.putfield 79, 3) := by decide +kernel
theorem d12_43 : decode B12_ 43 = .ok (.aload_n 0, 1) := by decide +kernel
theorem d12_44 : decode B12_ 44 = .ok (.areturn, 1) := by decide +kernel
theorem sbAP (hw : HW a0 Z) (ws : List Jvm.Cond) (a1 : Addr) (x1 : Addr) (t2 : Addr) (k2 : ClassId) (cx : List Int32) (t1 : Addr) (k1 : ClassId) (cs : List Int32) (zc : Int32) (Nz : Nat) (h0 : Heap) (n0 : Nat) (Z0 : n0 ≤ h0.size) (Eb1 : Exa Z h0 a1 "java/lang/StringBuilder") (Gv1 : Fld Z h0 a1 "java/lang/AbstractStringBuilder" "value" "[B" (.ref t1)) (Gc1 : Fld Z h0 a1 "java/lang/AbstractStringBuilder" "coder" "B" (.int (0 : Int32))) (Gn1 : Fld Z h0 a1 "java/lang/AbstractStringBuilder" "count" "I" (.int (Int32.ofNat cs.length))) (Ab1 : Arv Z h0 t1 k1 .byte (Int32.ofNat Nz) (bsV cs) (.int (0 : Int32))) (Et1 : Exa Z h0 t1 "[B") (Es1 : Exa Z h0 x1 "java/lang/String") (Fv1 : Fld Z h0 x1 "java/lang/String" "value" "[B" (.ref t2)) (Fc1 : Fld Z h0 x1 "java/lang/String" "coder" "B" (.int (0 : Int32))) (As1 : Arv Z h0 t2 k2 .byte (Int32.ofNat cx.length) (bsV cx) (.int (0 : Int32))) (S4 : Sta Z Z.heap "java/lang/String" "COMPACT_STRINGS" "Z" (.int zc)) (O1 : Old Z n0 h0) (hCS : ¬ zc = 0) (hp : ∀ c ∈ cx, ¬ c < 0 ∧ ¬ (255 : Int32) < c) (hN : cs.length + cx.length ≤ Nz) (g1 : n0 ≤ t1) (g2 : n0 ≤ a1) (hn1 : ¬ @Eq Nat t2 t1) (hn2 : ¬ @Eq Nat t1 a1) (hNz : Nz ≤ 40) : MetN l Z mn13 jdk_68_method_22_code 3 (some (.object "java/lang/AbstractStringBuilder")) ws (rM 3 0 0 61) #[(.ref a1), (.ref x1)] h0 (Q_sbAP Z a1 x1 t2 k2 cx t1 k1 cs zc Nz h0 n0) := by
 refine enterN (plainFor_of_name pn_java_lang_AbstractStringBuilder) (fun m => ef_sbAP m _ _) fun p e s m below meth c s₁ Bd hZ hx hD hlk hml hown hnm X0 e0 => ?_
 have N0 := Fr.nil n0
 have K0 := Keep.refl h0 [a1, t1]
 have lt_Eb1 := ny Eb1.lt
 have lt_Gv1 := ny Gv1.lt
 have lt_Gc1 := ny Gc1.lt
 have lt_Gn1 := ny Gn1.lt
 have lt_Ab1 := ny Ab1.lt
 have lt_Et1 := ny Et1.lt
 have lt_Es1 := ny Es1.lt
 have lt_Fv1 := ny Fv1.lt
 have lt_Fc1 := ny Fc1.lt
 have lt_As1 := ny As1.lt
 refine Wk.aloadN X0 hx (hD d12_0) (n := 1) rfl rfl rfl ?_
 refine Wk.ifnonnullYes X0 hx (hD d12_1) (by decide) (n := 9) (by decide) ?_
 refine Wk.aloadN X0 hx (hD d12_9) (n := 10) rfl rfl rfl ?_
 obtain ⟨cq1, kq1, qn1a, qn1b, qn1c⟩ := isOf hZ e0 Es1
 have cl1_ := fun Ls (hLs : LsOk c Ls) => X0.virtualBack hx (y := mn12) (z := mn12) hown (mW hZ hw 114 rfl) (mW hZ hw 115 rfl) (notFace_of_selects (args := #[]) (mW hZ hw 117 rfl)) (mW hZ hw 117 rfl) (mW hZ hw 116 rfl) (by decide) (StrChars.Road.lenW (W := 0) hZ (fun d hd => hw d (own_wl d hd)) (kI := 4) (oW hw 5 rfl) Es1 Fv1 Fc1 As1 (StrChars.Road.codOf (cs := cx) (n := cx.length) rfl (fun c hc => (hp c hc).2)) (own_up hp) (Sta.ext O1.2 S4) hCS (by omega) (by decide) (by decide)) qn1a qn1c (g := mkF m 10 Ls [(.ref x1)]) rfl hLs (Steps.refl _) (argsL := []) (rest := []) (lenOf pd_7 rfl) rfl (leq0 rfl) (hD d12_10) (fun _ _ => ⟨rfl, e0, (by decide : 0 + 0 ≤ _), (by decide : 0 + 0 ≤ _)⟩)
 refine Wk.back (n := 13) (rc := 0) (rs := 0) (Q := fun v h' L => (v = some (.int (Int32.ofNat (cx : List Int32).length)) ∧ L = [] ∧ h' = h0)) (cl1_ _ (lsok hml rfl)) fun vn1 T1 L1 X1 hQ1 => ?_
 clear cl1_
 obtain ⟨rfl, rfl, e1⟩ := hQ1
 have N1 := Fr.app N0 (Fr.nil n0)
 show Wk p e below _ T1 (mkF m 13 _ [(.int (Int32.ofNat cx.length))])
 refine Wk.istoreN X1 hx (hD d12_13) (n := 14) rfl (L' := #[.val (.ref a1), .val (.ref x1), .val (.int (Int32.ofNat cx.length))]) rfl ?_
 refine Wk.aloadN X1 hx (hD d12_14) (n := 15) rfl rfl rfl ?_
 refine Wk.aloadN X1 hx (hD d12_15) (n := 16) rfl rfl rfl ?_
 refine Wk.getF X1 hx hZ hown (host := "") (Or.inl (oW hw 124 rfl)) Via.refl e1 Gn1 (hD d12_16) (n := 19) rfl fun T2 X2 e2 => ?_
 refine Wk.iloadN X2 hx (hD d12_19) (n := 20) rfl rfl ?_
 refine Wk.iadd X2 hx (hD d12_20) (n := 21) rfl ?_
 obtain ⟨cq3, kq3, qn3a, qn3b, qn3c⟩ := isOf hZ e2 Eb1
 have cl3_ := fun Ls (hLs : LsOk c Ls) => X2.virtualBack hx (y := mn8) (z := mn8) hown (mW hZ hw 126 rfl) (mvT hZ (own_decl (oW hw 127 rfl) (oW hw 130 rfl))) (notFace_of_selects (args := #[]) (mW hZ hw 129 rfl)) (mW hZ hw 129 rfl) (mW hZ hw 127 rfl) (by decide) (backOf (W := 0) (sbEC l Z a0 hw [] a1 ((Int32.ofNat cs.length) + (Int32.ofNat cx.length)) t1 k1 cs (cs.length + cx.length) Nz h0 n0 (by omega) Eb1 Gv1 Gc1 Ab1 Et1 (own_ofadd _ _) (by omega) (by omega)) hZ (oW hw 130 rfl) (oW hw 89 rfl) (by decide) (by decide)) qn3a qn3c (g := mkF m 21 Ls [(.int ((Int32.ofNat cs.length) + (Int32.ofNat cx.length))), (.ref a1)]) rfl hLs (Steps.refl _) (argsL := [(.int ((Int32.ofNat cs.length) + (Int32.ofNat cx.length)))]) (rest := []) (lenOf pd_3 rfl) rfl (leq0 rfl) (hD d12_21) (fun _ _ => ⟨rfl, e2, (by decide : 0 + 0 ≤ _), (by decide : 0 + 0 ≤ _)⟩)
 refine Wk.back (n := 24) (rc := 0) (rs := 0) (Q := Q_sbEC Z a1 ((Int32.ofNat cs.length) + (Int32.ofNat cx.length)) t1 k1 cs (cs.length + cx.length) Nz h0 n0) (cl3_ _ (lsok hml rfl)) fun vn3 T3 L3 X3 hQ3 => ?_
 clear cl3_
 obtain ⟨rfl, M3, e3⟩ := hQ3
 have N3 := Fr.app N1 M3
 show Wk p e below _ T3 (mkF m 24 _ [])
 refine Wk.aloadN X3 hx (hD d12_24) (n := 25) rfl rfl rfl ?_
 refine Wk.aloadN X3 hx (hD d12_25) (n := 26) rfl rfl rfl ?_
 refine Wk.getF X3 hx hZ hown (host := "") (Or.inl (oW hw 124 rfl)) Via.refl e3 Gn1 (hD d12_26) (n := 29) rfl fun T4 X4 e4 => ?_
 refine Wk.aloadN X4 hx (hD d12_29) (n := 30) rfl rfl rfl ?_
 obtain ⟨cq5, kq5, qn5a, qn5b, qn5c⟩ := isOf hZ e4 Eb1
 have cl5_ := fun Ls (hLs : LsOk c Ls) => X4.virtualBack hx (y := mn11) (z := mn11) hown (mW hZ hw 131 rfl) (mvT hZ (own_decl (oW hw 132 rfl) (oW hw 135 rfl))) (notFace_of_selects (args := #[]) (mW hZ hw 134 rfl)) (mW hZ hw 134 rfl) (mW hZ hw 132 rfl) (by decide) (backOf (W := 0) (sbPS l Z a0 hw [] a1 (Int32.ofNat cs.length) x1 t2 k2 cx t1 k1 cs zc Nz h0 n0 (by omega) Eb1 Gv1 Gc1 Ab1 Et1 Es1 Fv1 Fc1 As1 S4 O1 hCS rfl (by omega) (by omega) (by omega)) hZ (oW hw 135 rfl) (oW hw 89 rfl) (by decide) (by decide)) qn5a qn5c (g := mkF m 30 Ls [(.ref x1), (.int (Int32.ofNat cs.length)), (.ref a1)]) rfl hLs (Steps.refl _) (argsL := [(.int (Int32.ofNat cs.length)), (.ref x1)]) (rest := []) (lenOf pd_8 rfl) rfl (leq0 rfl) (hD d12_30) (fun _ _ => ⟨rfl, e4, (by decide : 0 + 0 ≤ _), (by decide : 0 + 0 ≤ _)⟩)
 refine Wk.back (n := 33) (rc := 0) (rs := 0) (Q := Q_sbPS Z a1 (Int32.ofNat cs.length) x1 t2 k2 cx t1 k1 cs zc Nz h0 n0) (cl5_ _ (lsok hml rfl)) fun vn5 T5 L5 X5 hQ5 => ?_
 clear cl5_
 obtain ⟨rfl, M5, J5, p5_0⟩ := hQ5
 have N5 := Fr.app N3 M5
 have sz5 := J5.1
 have K5 := K0.trans J5 (allS (Or.inl (List.mem_of_getElem? (i := 1) rfl)) all0)
 have lt_p5_0 := ny p5_0.lt
 show Wk p e below _ T5 (mkF m 33 _ [])
 refine Wk.aloadN X5 hx (hD d12_33) (n := 34) rfl rfl rfl ?_
 refine Wk.dup X5 hx (hD d12_34) (n := 35) rfl rfl ?_
 have f6 := (Gn1.keep J5 (ninS (nz (by omega)) nin0))
 refine Wk.getF X5 hx hZ hown (host := "") (Or.inl (oW hw 124 rfl)) Via.refl rfl f6 (hD d12_35) (n := 38) rfl fun T7 X7 e7 => ?_
 refine Wk.iloadN X7 hx (hD d12_38) (n := 39) rfl rfl ?_
 refine Wk.iadd X7 hx (hD d12_39) (n := 40) rfl ?_
 have f8 := (Eb1.keep J5)
 refine Wk.putF X7 hx hZ hown (host := "") (Or.inl (oW hw 124 rfl)) Via.refl e7 f6 f8 (Or.inl (oW hw 125 rfl)) (oW hw 80 rfl) (ty := .int) (by decide) rfl rfl (hD d12_40) (n := 43) rfl fun T9 H9 X9 e9 Wn9 => ?_
 have sz9 := Wn9.size
 have Fn9 := f6.same Wn9
 have K9 := K5.wr Wn9 (Or.inl (List.mem_of_getElem? (i := 0) rfl))
 have N9 := Fr.snoc X9 N5 (by omega)
 refine Wk.aloadN X9 hx (hD d12_43) (n := 44) rfl rfl rfl ?_
 have f10 := (f8.wr Wn9)
 have f11 := ((Gv1.keep J5 (ninS (nz (by omega)) nin0)).other Wn9 (Or.inr (slot_ne (Or.inl (oW hw 94 rfl)) (Or.inl (oW hw 125 rfl)) (by decide) (t := (.array .byte)) (t' := .int) (by decide) (by decide))))
 have f12 := ((Gc1.keep J5 (ninS (nz (by omega)) nin0)).other Wn9 (Or.inr (slot_ne (Or.inl (oW hw 96 rfl)) (Or.inl (oW hw 125 rfl)) (by decide) (t := .byte) (t' := .int) (by decide) (by decide))))
 have f13 := (p5_0.other Wn9 (nz (by omega)))
 have f14 := ((Et1.keep J5).wr Wn9)
 exact Wk.leave X9 (v := some (.ref a1)) (fun h => by rw [Bd.returns] at h; cases h) hlk e9 ⟨rfl, N9, K9, f10, f11, f12, (by have q := Fn9; rw [own_ofadd, ← List.length_append] at q; exact q), f13, f14⟩ (by decide) (by decide) (fun fs hr => retA X9 hx rfl Bd.returns rfl (hD d12_44) hr)
def Q_sbSA (Z : State) (a1 : Addr) (x1 : Addr) (t2 : Addr) (k2 : ClassId) (cx : List Int32) (t1 : Addr) (k1 : ClassId) (cs : List Int32) (zc : Int32) (Nz : Nat) (h0 : Heap) (n0 : Nat) (v : Option Value) (h : Heap) (L : List Loc) : Prop := v = some (.ref a1) ∧ Fr n0 L ∧ Keep h0 h [a1, t1] ∧ Exa Z h a1 "java/lang/StringBuilder" ∧ Fld Z h a1 "java/lang/AbstractStringBuilder" "value" "[B" (.ref t1) ∧ Fld Z h a1 "java/lang/AbstractStringBuilder" "coder" "B" (.int (0 : Int32)) ∧ Fld Z h a1 "java/lang/AbstractStringBuilder" "count" "I" (.int (Int32.ofNat (cs ++ cx).length)) ∧ Arv Z h t1 k1 .byte (Int32.ofNat Nz) (bsV (cs ++ cx)) (.int (0 : Int32)) ∧ Exa Z h t1 "[B"
theorem ef_sbSA (m : MethodId) (x0 : Addr) (x1 : Addr) : entryFrame m #[(.ref x0), (.ref x1)] 2 = mkF m 0 #[.val (.ref x0), .val (.ref x1)] [] := by first | (simp [entryFrame, mkF, argsToLocals, Value.category]; done) | rfl
theorem d13_0 : decode B13_ 0 = .ok (.aload_n 0, 1) := by decide +kernel
theorem d13_1 : decode B13_ 1 = .ok (.aload_n 1, 1) := by decide +kernel
theorem d13_2 : decode B13_ 2 = .ok (.invokespecial 29, 3) := by decide +kernel
theorem pd_9 : parseMethodDescriptor "(Ljava/lang/String;)Ljava/lang/AbstractStringBuilder;" = some ⟨[(.object "java/lang/String")], some (.object "java/lang/AbstractStringBuilder")⟩ := by decide +kernel
theorem d13_5 : decode B13_ 5 = .ok (.pop, 1) := by decide +kernel
theorem d13_6 : decode B13_ 6 = .ok (.aload_n 0, 1) := by decide +kernel
theorem d13_7 : decode B13_ 7 = .ok (.areturn, 1) := by decide +kernel
theorem sbSA (hw : HW a0 Z) (ws : List Jvm.Cond) (a1 : Addr) (x1 : Addr) (t2 : Addr) (k2 : ClassId) (cx : List Int32) (t1 : Addr) (k1 : ClassId) (cs : List Int32) (zc : Int32) (Nz : Nat) (h0 : Heap) (n0 : Nat) (Z0 : n0 ≤ h0.size) (Eb1 : Exa Z h0 a1 "java/lang/StringBuilder") (Gv1 : Fld Z h0 a1 "java/lang/AbstractStringBuilder" "value" "[B" (.ref t1)) (Gc1 : Fld Z h0 a1 "java/lang/AbstractStringBuilder" "coder" "B" (.int (0 : Int32))) (Gn1 : Fld Z h0 a1 "java/lang/AbstractStringBuilder" "count" "I" (.int (Int32.ofNat cs.length))) (Ab1 : Arv Z h0 t1 k1 .byte (Int32.ofNat Nz) (bsV cs) (.int (0 : Int32))) (Et1 : Exa Z h0 t1 "[B") (Es1 : Exa Z h0 x1 "java/lang/String") (Fv1 : Fld Z h0 x1 "java/lang/String" "value" "[B" (.ref t2)) (Fc1 : Fld Z h0 x1 "java/lang/String" "coder" "B" (.int (0 : Int32))) (As1 : Arv Z h0 t2 k2 .byte (Int32.ofNat cx.length) (bsV cx) (.int (0 : Int32))) (S4 : Sta Z Z.heap "java/lang/String" "COMPACT_STRINGS" "Z" (.int zc)) (O1 : Old Z n0 h0) (hCS : ¬ zc = 0) (hp : ∀ c ∈ cx, ¬ c < 0 ∧ ¬ (255 : Int32) < c) (hN : cs.length + cx.length ≤ Nz) (g1 : n0 ≤ t1) (g2 : n0 ≤ a1) (hn1 : ¬ @Eq Nat t2 t1) (hn2 : ¬ @Eq Nat t1 a1) (hNz : Nz ≤ 40) : MetN l Z mn14 jdk_67_method_7_code 2 (some (.object "java/lang/StringBuilder")) ws (rM 4 0 0 75) #[(.ref a1), (.ref x1)] h0 (Q_sbSA Z a1 x1 t2 k2 cx t1 k1 cs zc Nz h0 n0) := by
 refine enterN (plainFor_of_name pn_java_lang_StringBuilder) (fun m => ef_sbSA m _ _) fun p e s m below meth c s₁ Bd hZ hx hD hlk hml hown hnm X0 e0 => ?_
 have N0 := Fr.nil n0
 have K0 := Keep.refl h0 [a1, t1]
 have lt_Eb1 := ny Eb1.lt
 have lt_Gv1 := ny Gv1.lt
 have lt_Gc1 := ny Gc1.lt
 have lt_Gn1 := ny Gn1.lt
 have lt_Ab1 := ny Ab1.lt
 have lt_Et1 := ny Et1.lt
 have lt_Es1 := ny Es1.lt
 have lt_Fv1 := ny Fv1.lt
 have lt_Fc1 := ny Fc1.lt
 have lt_As1 := ny As1.lt
 refine Wk.aloadN X0 hx (hD d13_0) (n := 1) rfl rfl rfl ?_
 refine Wk.aloadN X0 hx (hD d13_1) (n := 2) rfl rfl rfl ?_
 have cl1_ := fun Ls (hLs : LsOk c Ls) => superBack X0 hx hZ (y := mn13) hown (oW hw 109 rfl) (own_same (oW hw 110 rfl) (oW hw 127 rfl) (oW hw 129 rfl) (by decide)) (oW hw 110 rfl) (oW hw 111 rfl) (by decide) (backOf (W := 0) (sbAP l Z a0 hw [] a1 x1 t2 k2 cx t1 k1 cs zc Nz h0 n0 (by omega) Eb1 Gv1 Gc1 Gn1 Ab1 Et1 Es1 Fv1 Fc1 As1 S4 O1 hCS hp (by omega) (by omega) (by omega) (by omega) (by omega) (by omega)) hZ (oW hw 113 rfl) (oW hw 89 rfl) (by decide) (by decide)) e0 (Ins.self Eb1) (g := mkF m 2 Ls [(.ref x1), (.ref a1)]) rfl hLs (oW hw 113 rfl) (argsL := [(.ref x1)]) (rest := []) (lenOf pd_9 rfl) rfl (leq0 rfl) (hD d13_2) (fun _ _ => ⟨rfl, e0, (by decide : 0 + 0 ≤ _), (by decide : 0 + 0 ≤ _)⟩)
 refine Wk.back (n := 5) (rc := 0) (rs := 0) (Q := Q_sbAP Z a1 x1 t2 k2 cx t1 k1 cs zc Nz h0 n0) (cl1_ _ (lsok hml rfl)) fun vn1 T1 L1 X1 hQ1 => ?_
 clear cl1_
 obtain ⟨rfl, M1, J1, p1_0, p1_1, p1_2, p1_3, p1_4, p1_5⟩ := hQ1
 have N1 := Fr.app N0 M1
 have sz1 := J1.1
 have K1 := K0.trans J1 (allS (Or.inl (List.mem_of_getElem? (i := 0) rfl)) (allS (Or.inl (List.mem_of_getElem? (i := 1) rfl)) all0))
 have lt_p1_0 := ny p1_0.lt
 have lt_p1_4 := ny p1_4.lt
 show Wk p e below _ T1 (mkF m 5 _ [(.ref a1)])
 refine Wk.pop X1 hx (hD d13_5) (n := 6) rfl rfl ?_
 refine Wk.aloadN X1 hx (hD d13_6) (n := 7) rfl rfl rfl ?_
 exact Wk.leave X1 (v := some (.ref a1)) (fun h => by rw [Bd.returns] at h; cases h) hlk rfl ⟨rfl, N1, K1, p1_0, p1_1, p1_2, p1_3, p1_4, p1_5⟩ (by decide) (by decide) (fun fs hr => retA X1 hx rfl Bd.returns rfl (hD d13_7) hr)
def Q_sbGV (Z : State) (a1 : Addr) (t1 : Addr) (h0 : Heap) (n0 : Nat) (v : Option Value) (h : Heap) (L : List Loc) : Prop := v = some (.ref t1) ∧ Fr n0 L ∧ h = h0
theorem ef_sbGV (m : MethodId) (x0 : Addr) : entryFrame m #[(.ref x0)] 1 = mkF m 0 #[.val (.ref x0)] [] := by first | (simp [entryFrame, mkF, argsToLocals, Value.category]; done) | rfl
theorem d14_0 : decode B14_ 0 = .ok (.aload_n 0, 1) := by decide +kernel
theorem d14_1 : decode B14_ 1 = .ok (.getfield 15, 3) := by decide +kernel
theorem d14_4 : decode B14_ 4 = .ok (.areturn, 1) := by decide +kernel
theorem sbGV (hw : HW a0 Z) (ws : List Jvm.Cond) (a1 : Addr) (t1 : Addr) (h0 : Heap) (n0 : Nat) (Z0 : n0 ≤ h0.size) (F1 : Fld Z h0 a1 "java/lang/AbstractStringBuilder" "value" "[B" (.ref t1)) : MetN l Z mn15 jdk_68_method_64_code 1 (some (.array .byte)) ws (rM 0 0 0 0) #[(.ref a1)] h0 (Q_sbGV Z a1 t1 h0 n0) := by
 refine enterN (plainFor_of_name pn_java_lang_AbstractStringBuilder) (fun m => ef_sbGV m _) fun p e s m below meth c s₁ Bd hZ hx hD hlk hml hown hnm X0 e0 => ?_
 have N0 := Fr.nil n0
 have K0 := Keep.refl h0 []
 have lt_F1 := ny F1.lt
 refine Wk.aloadN X0 hx (hD d14_0) (n := 1) rfl rfl rfl ?_
 refine Wk.getF X0 hx hZ hown (host := "") (Or.inl (oW hw 93 rfl)) Via.refl e0 F1 (hD d14_1) (n := 4) rfl fun T1 X1 e1 => ?_
 exact Wk.leave X1 (v := some (.ref t1)) (fun h => by rw [Bd.returns] at h; cases h) hlk e1 ⟨rfl, N0, rfl⟩ (by decide) (by decide) (fun fs hr => retA X1 hx rfl Bd.returns rfl (hD d14_4) hr)
def Q_sbL1 (Z : State) (a1 : Addr) (i1 : Int32) (h0 : Heap) (n0 : Nat) (v : Option Value) (h : Heap) (L : List Loc) : Prop := v = some (.int i1) ∧ Fr n0 L ∧ h = h0
theorem ef_sbL1 (m : MethodId) (x0 : Addr) : entryFrame m #[(.ref x0)] 1 = mkF m 0 #[.val (.ref x0)] [] := by first | (simp [entryFrame, mkF, argsToLocals, Value.category]; done) | rfl
theorem d15_0 : decode B15_ 0 = .ok (.aload_n 0, 1) := by decide +kernel
theorem d15_1 : decode B15_ 1 = .ok (.getfield 79, 3) := by decide +kernel
theorem d15_4 : decode B15_ 4 = .ok (.ireturn, 1) := by decide +kernel
theorem sbL1 (hw : HW a0 Z) (ws : List Jvm.Cond) (a1 : Addr) (i1 : Int32) (h0 : Heap) (n0 : Nat) (Z0 : n0 ≤ h0.size) (F1 : Fld Z h0 a1 "java/lang/AbstractStringBuilder" "count" "I" (.int i1)) : MetN l Z mn16 jdk_68_method_6_code 1 (some .int) ws (rM 0 0 0 0) #[(.ref a1)] h0 (Q_sbL1 Z a1 i1 h0 n0) := by
 refine enterN (plainFor_of_name pn_java_lang_AbstractStringBuilder) (fun m => ef_sbL1 m _) fun p e s m below meth c s₁ Bd hZ hx hD hlk hml hown hnm X0 e0 => ?_
 have N0 := Fr.nil n0
 have K0 := Keep.refl h0 []
 have lt_F1 := ny F1.lt
 refine Wk.aloadN X0 hx (hD d15_0) (n := 1) rfl rfl rfl ?_
 refine Wk.getF X0 hx hZ hown (host := "") (Or.inl (oW hw 124 rfl)) Via.refl e0 F1 (hD d15_1) (n := 4) rfl fun T1 X1 e1 => ?_
 exact Wk.leave X1 (v := some (.int i1)) (fun h => by rw [Bd.returns] at h; cases h) hlk e1 ⟨rfl, N0, rfl⟩ (by decide) (by decide) (fun fs hr => retI X1 hx Bd.returns (hD d15_4) hr)
def Q_sbL0 (Z : State) (a1 : Addr) (i1 : Int32) (h0 : Heap) (n0 : Nat) (v : Option Value) (h : Heap) (L : List Loc) : Prop := v = some (.int i1) ∧ Fr n0 L ∧ h = h0
theorem ef_sbL0 (m : MethodId) (x0 : Addr) : entryFrame m #[(.ref x0)] 1 = mkF m 0 #[.val (.ref x0)] [] := by first | (simp [entryFrame, mkF, argsToLocals, Value.category]; done) | rfl
theorem d16_0 : decode B16_ 0 = .ok (.aload_n 0, 1) := by decide +kernel
theorem d16_1 : decode B16_ 1 = .ok (.invokespecial 343, 3) := by decide +kernel
theorem d16_4 : decode B16_ 4 = .ok (.ireturn, 1) := by decide +kernel
theorem sbL0 (hw : HW a0 Z) (ws : List Jvm.Cond) (a1 : Addr) (i1 : Int32) (h0 : Heap) (n0 : Nat) (Z0 : n0 ≤ h0.size) (E1 : Exa Z h0 a1 "java/lang/StringBuilder") (F1 : Fld Z h0 a1 "java/lang/AbstractStringBuilder" "count" "I" (.int i1)) : MetN l Z mn17 jdk_67_method_93_code 1 (some .int) ws (rM 1 0 0 12) #[(.ref a1)] h0 (Q_sbL0 Z a1 i1 h0 n0) := by
 refine enterN (plainFor_of_name pn_java_lang_StringBuilder) (fun m => ef_sbL0 m _) fun p e s m below meth c s₁ Bd hZ hx hD hlk hml hown hnm X0 e0 => ?_
 have N0 := Fr.nil n0
 have K0 := Keep.refl h0 []
 have lt_E1 := ny E1.lt
 have lt_F1 := ny F1.lt
 refine Wk.aloadN X0 hx (hD d16_0) (n := 1) rfl rfl rfl ?_
 have cl1_ := fun Ls (hLs : LsOk c Ls) => superBack X0 hx hZ (y := mn16) hown (oW hw 221 rfl) (own_same (oW hw 217 rfl) (oW hw 127 rfl) (oW hw 129 rfl) (by decide)) (oW hw 217 rfl) (oW hw 111 rfl) (by decide) (backOf (W := 0) (sbL1 l Z a0 hw [] a1 i1 h0 n0 (by omega) F1) hZ (oW hw 222 rfl) (oW hw 89 rfl) (by decide) (by decide)) e0 (Ins.self E1) (g := mkF m 1 Ls [(.ref a1)]) rfl hLs (oW hw 222 rfl) (argsL := []) (rest := []) (lenOf pd_7 rfl) rfl (leq0 rfl) (hD d16_1) (fun _ _ => ⟨rfl, e0, (by decide : 0 + 0 ≤ _), (by decide : 0 + 0 ≤ _)⟩)
 refine Wk.back (n := 4) (rc := 0) (rs := 0) (Q := Q_sbL1 Z a1 i1 h0 n0) (cl1_ _ (lsok hml rfl)) fun vn1 T1 L1 X1 hQ1 => ?_
 clear cl1_
 obtain ⟨rfl, M1, e1⟩ := hQ1
 have N1 := Fr.app N0 M1
 show Wk p e below _ T1 (mkF m 4 _ [(.int i1)])
 exact Wk.leave X1 (v := some (.int i1)) (fun h => by rw [Bd.returns] at h; cases h) hlk e1 ⟨rfl, N1, rfl⟩ (by decide) (by decide) (fun fs hr => retI X1 hx Bd.returns (hD d16_4) hr)
def Q_sbIL (Z : State) (a1 : Addr) (zc : Int32) (h0 : Heap) (n0 : Nat) (v : Option Value) (h : Heap) (L : List Loc) : Prop := v = some (.int (1 : Int32)) ∧ Fr n0 L ∧ h = h0
theorem ef_sbIL (m : MethodId) (x0 : Addr) : entryFrame m #[(.ref x0)] 1 = mkF m 0 #[.val (.ref x0)] [] := by first | (simp [entryFrame, mkF, argsToLocals, Value.category]; done) | rfl
theorem d17_0 : decode B17_ 0 = .ok (.getstatic 18, 3) := by decide +kernel
theorem d17_3 : decode B17_ 3 = .ok (.ifCond .eq 14, 3) := by decide +kernel
theorem d17_6 : decode B17_ 6 = .ok (.aload_n 0, 1) := by decide +kernel
theorem d17_7 : decode B17_ 7 = .ok (.getfield 22, 3) := by decide +kernel
theorem d17_10 : decode B17_ 10 = .ok (.ifCond .ne 7, 3) := by decide +kernel
theorem d17_13 : decode B17_ 13 = .ok (.iconst 1, 1) := by decide +kernel
theorem d17_14 : decode B17_ 14 = .ok (.goto 4, 3) := by decide +kernel
theorem d17_18 : decode B17_ 18 = .ok (.ireturn, 1) := by decide +kernel
theorem sbIL (hw : HW a0 Z) (ws : List Jvm.Cond) (a1 : Addr) (zc : Int32) (h0 : Heap) (n0 : Nat) (Z0 : n0 ≤ h0.size) (F1 : Fld Z h0 a1 "java/lang/AbstractStringBuilder" "coder" "B" (.int (0 : Int32))) (S4 : Sta Z Z.heap "java/lang/String" "COMPACT_STRINGS" "Z" (.int zc)) (O1 : Old Z n0 h0) (hCS : ¬ zc = 0) : MetN l Z mn18 jdk_68_method_68_code 1 (some .boolean) ws (rM 0 0 0 0) #[(.ref a1)] h0 (Q_sbIL Z a1 zc h0 n0) := by
 refine enterN (plainFor_of_name pn_java_lang_AbstractStringBuilder) (fun m => ef_sbIL m _) fun p e s m below meth c s₁ Bd hZ hx hD hlk hml hown hnm X0 e0 => ?_
 have N0 := Fr.nil n0
 have K0 := Keep.refl h0 []
 have lt_F1 := ny F1.lt
 refine Wk.getS X0 hx hZ hown (host := "") (Or.inl (oW hw 92 rfl)) Via.refl e0 (Sta.ext O1.2 S4) (hD d17_0) (n := 3) rfl fun T1 X1 e1 => ?_
 have hc3_2 : ¬ (zc = (0 : Int32)) := hCS
 refine Wk.ifNo X1 hx (hD d17_3) (n := 6) rfl ((if0 _ _).trans (feq hc3_2).1) ?_
 refine Wk.aloadN X1 hx (hD d17_6) (n := 7) rfl rfl rfl ?_
 refine Wk.getF X1 hx hZ hown (host := "") (Or.inl (oW hw 95 rfl)) Via.refl e1 F1 (hD d17_7) (n := 10) rfl fun T3 X3 e3 => ?_
 have hc10_4 : (0 : Int32) = (0 : Int32) := rfl
 refine Wk.ifNo X3 hx (hD d17_10) (n := 13) rfl ((if0 _ _).trans (teq hc10_4).2) ?_
 refine Wk.iconst X3 hx (hD d17_13) (n := 14) rfl (z := (1 : Int32)) rfl ?_
 refine Wk.goto X3 hx (hD d17_14) (by decide) (n := 18) (by decide) ?_
 exact Wk.leave X3 (v := some (.int (1 : Int32))) (fun h => by rw [Bd.returns] at h; cases h) hlk e3 ⟨rfl, N0, rfl⟩ (by decide) (by decide) (fun fs hr => retNz X3 hx (t := .boolean) rfl Bd.returns (by simp) (hD d17_18) hr)
def Q_sbMI (Z : State) (i1 : Int32) (i2 : Int32) (h0 : Heap) (n0 : Nat) (v : Option Value) (h : Heap) (L : List Loc) : Prop := v = some (.int i2) ∧ Fr n0 L ∧ h = h0
theorem ef_sbMI (m : MethodId) (x0 : Int32) (x1 : Int32) : entryFrame m #[(.int x0), (.int x1)] 2 = mkF m 0 #[.val (.int x0), .val (.int x1)] [] := by first | (simp [entryFrame, mkF, argsToLocals, Value.category]; done) | rfl
theorem d18_0 : decode B18_ 0 = .ok (.iload_n 0, 1) := by decide +kernel
theorem d18_1 : decode B18_ 1 = .ok (.iload_n 1, 1) := by decide +kernel
theorem d18_2 : decode B18_ 2 = .ok (.if_icmp .gt 7, 3) := by decide +kernel
theorem d18_9 : decode B18_ 9 = .ok (.iload_n 1, 1) := by decide +kernel
theorem d18_10 : decode B18_ 10 = .ok (.ireturn, 1) := by decide +kernel
theorem sbMI (hw : HW a0 Z) (ws : List Jvm.Cond) (i1 : Int32) (i2 : Int32) (h0 : Heap) (n0 : Nat) (Z0 : n0 ≤ h0.size) (h1 : i2 < i1) : MetN l Z mn19 jdk_29_method_69_code 2 (some .int) ws (rM 0 0 0 0) #[(.int i1), (.int i2)] h0 (Q_sbMI Z i1 i2 h0 n0) := by
 refine enterN (Jvm.Free.JP.mathPlain rfl (by decide +kernel)) (fun m => ef_sbMI m _ _) fun p e s m below meth c s₁ Bd hZ hx hD hlk hml hown hnm X0 e0 => ?_
 have N0 := Fr.nil n0
 have K0 := Keep.refl h0 []
 refine Wk.iloadN X0 hx (hD d18_0) (n := 1) rfl rfl ?_
 refine Wk.iloadN X0 hx (hD d18_1) (n := 2) rfl rfl ?_
 have hc2_1 : i2 < i1 := h1
 refine Wk.icmpYes X0 hx (hD d18_2) (tlt hc2_1).2.2.1 (by decide) (n := 9) (by decide) ?_
 refine Wk.iloadN X0 hx (hD d18_9) (n := 10) rfl rfl ?_
 exact Wk.leave X0 (v := some (.int i2)) (fun h => by rw [Bd.returns] at h; cases h) hlk e0 ⟨rfl, N0, rfl⟩ (by decide) (by decide) (fun fs hr => retI X0 hx Bd.returns (hD d18_10) hr)
def Q_sbCL (Z : State) (i1 : Int32) (i2 : Int32) (h0 : Heap) (n0 : Nat) (v : Option Value) (h : Heap) (L : List Loc) : Prop := v = none ∧ Fr n0 L ∧ h = h0
theorem ef_sbCL (m : MethodId) (x0 : Int32) (x1 : Int32) : entryFrame m #[(.int x0), (.int x1)] 2 = mkF m 0 #[.val (.int x0), .val (.int x1)] [] := by first | (simp [entryFrame, mkF, argsToLocals, Value.category]; done) | rfl
theorem pn_java_util_Arrays : plainName "java/util/Arrays" = true := by first | (simp [plainName, overriddenIn]; done) | decide +kernel
theorem d19_0 : decode B19_ 0 = .ok (.iload_n 1, 1) := by decide +kernel
theorem d19_1 : decode B19_ 1 = .ok (.iload_n 0, 1) := by decide +kernel
theorem d19_2 : decode B19_ 2 = .ok (.if_icmp .ge 35, 3) := by decide +kernel
theorem d19_37 : decode B19_ 37 = .ok (.return_, 1) := by decide +kernel
theorem sbCL (hw : HW a0 Z) (ws : List Jvm.Cond) (i1 : Int32) (i2 : Int32) (h0 : Heap) (n0 : Nat) (Z0 : n0 ≤ h0.size) (h1 : ¬ i2 < i1) : MetN l Z mn20 jdk_65_method_131_code 2 none ws (rM 0 0 0 0) #[(.int i1), (.int i2)] h0 (Q_sbCL Z i1 i2 h0 n0) := by
 refine enterN (plainFor_of_name pn_java_util_Arrays) (fun m => ef_sbCL m _ _) fun p e s m below meth c s₁ Bd hZ hx hD hlk hml hown hnm X0 e0 => ?_
 have N0 := Fr.nil n0
 have K0 := Keep.refl h0 []
 refine Wk.iloadN X0 hx (hD d19_0) (n := 1) rfl rfl ?_
 refine Wk.iloadN X0 hx (hD d19_1) (n := 2) rfl rfl ?_
 have hc2_1 : ¬ (i2 < i1) := h1
 refine Wk.icmpYes X0 hx (hD d19_2) (flt hc2_1).2.1 (by decide) (n := 37) (by decide) ?_
 exact Wk.leave X0 (v := none) (fun _ => rfl) hlk e0 ⟨rfl, N0, rfl⟩ (by decide) (by decide) (fun fs hr => X0.returnOut hx Bd.returns (hD d19_37) hr)
def Q_sbCB (Z : State) (t1 : Addr) (k1 : ClassId) (cs : List Int32) (i1 : Int32) (Nz : Nat) (h0 : Heap) (n0 : Nat) (v : Option Value) (h : Heap) (L : List Loc) : Prop := ∃ (t : Addr) (kb : ClassId), v = some (.ref t) ∧ Fr n0 L ∧ Keep h0 h [] ∧ Arv Z h t kb .byte (Int32.ofNat cs.length) (bsV cs) (.int (0 : Int32)) ∧ (h0.size ≤ t)
theorem ef_sbCB (m : MethodId) (x0 : Addr) (x2 : Int32) : entryFrame m #[(.ref x0), (.int (0 : Int32)), (.int x2)] 5 = mkF m 0 #[.val (.ref x0), .val (.int (0 : Int32)), .val (.int x2), .unset, .unset] [] := by first | (simp [entryFrame, mkF, argsToLocals, Value.category]; done) | rfl
theorem d20_0 : decode B20_ 0 = .ok (.iload_n 1, 1) := by decide +kernel
theorem d20_1 : decode B20_ 1 = .ok (.iload_n 2, 1) := by decide +kernel
theorem d20_2 : decode B20_ 2 = .ok (.invokestatic 343, 3) := by decide +kernel
theorem pd_10 : parseMethodDescriptor "(II)V" = some ⟨[.int, .int], none⟩ := by decide +kernel
theorem d20_5 : decode B20_ 5 = .ok (.iload_n 2, 1) := by decide +kernel
theorem d20_6 : decode B20_ 6 = .ok (.iload_n 1, 1) := by decide +kernel
theorem d20_7 : decode B20_ 7 = .ok (.isub, 1) := by decide +kernel
theorem d20_8 : decode B20_ 8 = .ok (.istore_n 3, 1) := by decide +kernel
theorem d20_9 : decode B20_ 9 = .ok (.iload_n 3, 1) := by decide +kernel
theorem d20_10 : decode B20_ 10 = .ok (.newarray .byte, 2) := by decide +kernel
theorem d20_12 : decode B20_ 12 = .ok (.astore 4, 2) := by decide +kernel
theorem d20_14 : decode B20_ 14 = .ok (.aload_n 0, 1) := by decide +kernel
theorem d20_15 : decode B20_ 15 = .ok (.iload_n 1, 1) := by decide +kernel
theorem d20_16 : decode B20_ 16 = .ok (.aload 4, 2) := by decide +kernel
theorem d20_18 : decode B20_ 18 = .ok (.iconst 0, 1) := by decide +kernel
theorem d20_19 : decode B20_ 19 = .ok (.aload_n 0, 1) := by decide +kernel
theorem d20_20 : decode B20_ 20 = .ok (.arraylength, 1) := by decide +kernel
theorem d20_21 : decode B20_ 21 = .ok (.iload_n 1, 1) := by decide +kernel
theorem d20_22 : decode B20_ 22 = .ok (.isub, 1) := by decide +kernel
theorem d20_23 : decode B20_ 23 = .ok (.iload_n 3, 1) := by decide +kernel
theorem d20_24 : decode B20_ 24 = .ok (.invokestatic 304, 3) := by decide +kernel
theorem pd_11 : parseMethodDescriptor "(II)I" = some ⟨[.int, .int], some .int⟩ := by decide +kernel
theorem d20_27 : decode B20_ 27 = .ok (.invokestatic 150, 3) := by decide +kernel
theorem d20_30 : decode B20_ 30 = .ok (.aload 4, 2) := by decide +kernel
theorem d20_32 : decode B20_ 32 = .ok (.areturn, 1) := by decide +kernel
theorem sbCB (hw : HW a0 Z) (ws : List Jvm.Cond) (t1 : Addr) (k1 : ClassId) (cs : List Int32) (i1 : Int32) (Nz : Nat) (h0 : Heap) (n0 : Nat) (Z0 : n0 ≤ h0.size) (Ab1 : Arv Z h0 t1 k1 .byte (Int32.ofNat Nz) (bsV cs) (.int (0 : Int32))) (hi : i1 = Int32.ofNat cs.length) (hN : cs.length < Nz) (hNz : Nz ≤ 40) : MetN l Z mn21 jdk_65_method_133_code 5 (some (.array .byte)) ws (rM 1 1 40 31) #[(.ref t1), (.int (0 : Int32)), (.int i1)] h0 (Q_sbCB Z t1 k1 cs i1 Nz h0 n0) := by
 refine enterN (plainFor_of_name pn_java_util_Arrays) (fun m => ef_sbCB m _ _) fun p e s m below meth c s₁ Bd hZ hx hD hlk hml hown hnm X0 e0 => ?_
 have N0 := Fr.nil n0
 have K0 := Keep.refl h0 []
 have lt_Ab1 := ny Ab1.lt
 have hi0 : i1 - (0 : Int32) = Int32.ofNat cs.length := (own_sub0 _).trans hi
 refine Wk.iloadN X0 hx (hD d20_0) (n := 1) rfl rfl ?_
 refine Wk.iloadN X0 hx (hD d20_1) (n := 2) rfl rfl ?_
 have cl1_ := fun Ls (hLs : LsOk c Ls) => Jvm.LawKit.callS X0 hx (y := mn20) hown (mW hZ hw 230 rfl) (mW hZ hw 231 rfl) (mW hZ hw 169 rfl) (mW hZ hw 232 rfl) (by decide) (backOf (W := 0) (sbCL l Z a0 hw [] (0 : Int32) i1 h0 n0 (by omega) (by rw [hi]; exact own_nonneg (by omega))) hZ (oW hw 232 rfl) (oW hw 169 rfl) (by decide) (by decide)) (g := mkF m 2 Ls [(.int i1), (.int (0 : Int32))]) rfl hLs (argsL := [(.int (0 : Int32)), (.int i1)]) (rest := []) (lenOf pd_10 rfl) rfl (leq0 rfl) (hD d20_2) (fun _ _ => ⟨rfl, e0, (by decide : 0 + 0 ≤ _), (by decide : 0 + 0 ≤ _)⟩)
 refine Wk.backS (n := 5) (rc := 0) (rs := 0) (Q := Q_sbCL Z (0 : Int32) i1 h0 n0) (cl1_ _ (lsok hml rfl)) fun vn1 T1 L1 X1 hQ1 => ?_
 clear cl1_
 obtain ⟨rfl, M1, e1⟩ := hQ1
 have N1 := Fr.app N0 M1
 show Wk p e below _ T1 (mkF m 5 _ [])
 refine Wk.iloadN X1 hx (hD d20_5) (n := 6) rfl rfl ?_
 refine Wk.iloadN X1 hx (hD d20_6) (n := 7) rfl rfl ?_
 refine Wk.isub X1 hx (hD d20_7) (n := 8) rfl ?_
 refine Wk.istoreN X1 hx (hD d20_8) (n := 9) rfl (L' := #[.val (.ref t1), .val (.int (0 : Int32)), .val (.int i1), .val (.int (i1 - (0 : Int32))), .unset]) rfl ?_
 refine Wk.iloadN X1 hx (hD d20_9) (n := 10) rfl rfl ?_
 refine Wk.newP X1 hx hZ (oW hw 22 rfl) e1 (hD d20_10) (n := 12) rfl (by rw [hi0]; exact own_nonneg (by omega)) (cap := 40) (by rw [hi0, own_cl (by omega)]; omega) (by decide) (by decide) (by decide) fun T2 H2 b2 k2 gn2 X2 e2 Ex2 An2 => ?_
 have gn2 := nx gn2
 have sz2 := Ex2.1
 have K2 := K0.ext Ex2
 have Vn2 : Arv Z H2 b2 k2 .byte (i1 - (0 : Int32)) (List.replicate 40 (.int (0 : Int32))) (.int (0 : Int32)) := (Arv.new An2 (by rw [hi0]; exact own_nonneg (by omega))).pad (pad_rep [] (.int (0 : Int32)) 40)
 have lt2 := ny Vn2.lt
 refine Wk.astore X2 hx (hD d20_12) (n := 14) rfl rfl (L' := #[.val (.ref t1), .val (.int (0 : Int32)), .val (.int i1), .val (.int (i1 - (0 : Int32))), .val (.ref b2)]) rfl ?_
 refine Wk.aloadN X2 hx (hD d20_14) (n := 15) rfl rfl rfl ?_
 refine Wk.iloadN X2 hx (hD d20_15) (n := 16) rfl rfl ?_
 refine Wk.aload X2 hx (hD d20_16) (n := 18) rfl rfl rfl ?_
 refine Wk.iconst X2 hx (hD d20_18) (n := 19) rfl (z := (0 : Int32)) rfl ?_
 refine Wk.aloadN X2 hx (hD d20_19) (n := 20) rfl rfl rfl ?_
 have f3 := (Ab1.ext Ex2)
 obtain ⟨cl4, Ar4, qn4, Sz4, N_4, H_4, Gn4⟩ := id f3
 refine Wk.arrlen X2 hx hZ e2 Ar4 Sz4 N_4 (hD d20_20) (n := 21) rfl ?_
 refine Wk.iloadN X2 hx (hD d20_21) (n := 22) rfl rfl ?_
 refine Wk.isub X2 hx (hD d20_22) (n := 23) rfl ?_
 refine Wk.iloadN X2 hx (hD d20_23) (n := 24) rfl rfl ?_
 have cl5_ := fun Ls (hLs : LsOk c Ls) => Jvm.LawKit.callS X2 hx (y := mn19) hown (mW hZ hw 171 rfl) (mW hZ hw 172 rfl) (mW hZ hw 163 rfl) (mW hZ hw 173 rfl) (by decide) (backOf (W := 4) (sbMI l Z a0 hw [] ((Int32.ofNat Nz) - (0 : Int32)) (i1 - (0 : Int32)) H2 n0 (by omega) (by rw [hi0, own_sub0]; exact (own_lt (by omega) (by omega)).mpr hN)) hZ (oW hw 173 rfl) (oW hw 163 rfl) (by decide) (by decide)) (g := mkF m 24 Ls [(.int (i1 - (0 : Int32))), (.int ((Int32.ofNat Nz) - (0 : Int32))), (.int (0 : Int32)), (.ref b2), (.int (0 : Int32)), (.ref t1)]) rfl hLs (argsL := [(.int ((Int32.ofNat Nz) - (0 : Int32))), (.int (i1 - (0 : Int32)))]) (rest := [(.int (0 : Int32)), (.ref b2), (.int (0 : Int32)), (.ref t1)]) (lenOf pd_11 rfl) rfl (leq0 rfl) (hD d20_24) (fun _ _ => ⟨rfl, e2, (by decide : 1 + 0 ≤ _), (by decide : 40 + 0 ≤ _)⟩)
 refine Wk.backS (n := 27) (rc := 0) (rs := 0) (Q := Q_sbMI Z ((Int32.ofNat Nz) - (0 : Int32)) (i1 - (0 : Int32)) H2 n0) (cl5_ _ (lsok hml rfl)) fun vn5 T5 L5 X5 hQ5 => ?_
 clear cl5_
 obtain ⟨rfl, M5, e5⟩ := hQ5
 have N5 := Fr.app N1 M5
 show Wk p e below _ T5 (mkF m 27 _ [(.int (i1 - (0 : Int32))), (.int (0 : Int32)), (.ref b2), (.int (0 : Int32)), (.ref t1)])
 have Pd := Arv.pad Vn2 (own_padr 40 cs.length (.int (0 : Int32)))
 refine Wk.cpA X5 hx hZ hown (oW hw 174 rfl) (oW hw 150 rfl) (oW hw 148 rfl) (oW hw 149 rfl) e5 f3 Pd (Or.inl ⟨rfl, rfl⟩) (i := 0) (j := 0) (q := cs.length) rfl rfl hi0 (by omega) (by omega) (by omega) (by rw [own_cl (by omega)]; omega) (by rw [hi0, own_cl (by omega)]; omega) rfl (by simp) N5 (by omega) (vn := (bsV cs)) (own_vr cs) (by rw [hml]; rfl) (hD d20_27) (n := 30) rfl (by decide) (w := 0) (Nat.le_of_eq rfl) (by decide) fun T6 H6 Lc6 X6 e6 N6 J6 Vn6 => ?_
 have sz6 := J6.1
 have K6 := K2.trans J6 (allS (Or.inr (by omega)) all0)
 refine Wk.aload X6 hx (hD d20_30) (n := 32) rfl rfl rfl ?_
 exact Wk.leave X6 (v := some (.ref b2)) (fun h => by rw [Bd.returns] at h; cases h) hlk e6 ⟨b2, k2, rfl, N6, K6, (by have q := Vn6; rw [hi0] at q; exact q), (by omega)⟩ (by decide) (by decide) (fun fs hr => retA X6 hx rfl Bd.returns rfl (hD d20_32) hr)
def Q_sbCR (Z : State) (t1 : Addr) (k1 : ClassId) (cs : List Int32) (i1 : Int32) (Nz : Nat) (h0 : Heap) (n0 : Nat) (v : Option Value) (h : Heap) (L : List Loc) : Prop := ∃ (t : Addr) (kb : ClassId), v = some (.ref t) ∧ Fr n0 L ∧ Keep h0 h [] ∧ Arv Z h t kb .byte (Int32.ofNat cs.length) (bsV cs) (.int (0 : Int32)) ∧ (h0.size ≤ t)
theorem ef_sbCR (m : MethodId) (x0 : Addr) (x2 : Int32) : entryFrame m #[(.ref x0), (.int (0 : Int32)), (.int x2)] 3 = mkF m 0 #[.val (.ref x0), .val (.int (0 : Int32)), .val (.int x2)] [] := by first | (simp [entryFrame, mkF, argsToLocals, Value.category]; done) | rfl
theorem d21_0 : decode B21_ 0 = .ok (.iload_n 1, 1) := by decide +kernel
theorem d21_1 : decode B21_ 1 = .ok (.ifCond .ne 9, 3) := by decide +kernel
theorem d21_4 : decode B21_ 4 = .ok (.iload_n 2, 1) := by decide +kernel
theorem d21_5 : decode B21_ 5 = .ok (.aload_n 0, 1) := by decide +kernel
theorem d21_6 : decode B21_ 6 = .ok (.arraylength, 1) := by decide +kernel
theorem d21_7 : decode B21_ 7 = .ok (.if_icmp .eq 10, 3) := by decide +kernel
theorem d21_10 : decode B21_ 10 = .ok (.aload_n 0, 1) := by decide +kernel
theorem d21_11 : decode B21_ 11 = .ok (.iload_n 1, 1) := by decide +kernel
theorem d21_12 : decode B21_ 12 = .ok (.iload_n 2, 1) := by decide +kernel
theorem d21_13 : decode B21_ 13 = .ok (.invokestatic 339, 3) := by decide +kernel
theorem pd_12 : parseMethodDescriptor "([BII)[B" = some ⟨[(.array .byte), .int, .int], some (.array .byte)⟩ := by decide +kernel
theorem d21_16 : decode B21_ 16 = .ok (.areturn, 1) := by decide +kernel
theorem sbCR (hw : HW a0 Z) (ws : List Jvm.Cond) (t1 : Addr) (k1 : ClassId) (cs : List Int32) (i1 : Int32) (Nz : Nat) (h0 : Heap) (n0 : Nat) (Z0 : n0 ≤ h0.size) (Ab1 : Arv Z h0 t1 k1 .byte (Int32.ofNat Nz) (bsV cs) (.int (0 : Int32))) (hi : i1 = Int32.ofNat cs.length) (hN : cs.length < Nz) (hNz : Nz ≤ 40) : MetN l Z mn22 jdk_65_method_132_code 3 (some (.array .byte)) ws (rM 2 1 40 47) #[(.ref t1), (.int (0 : Int32)), (.int i1)] h0 (Q_sbCR Z t1 k1 cs i1 Nz h0 n0) := by
 refine enterN (plainFor_of_name pn_java_util_Arrays) (fun m => ef_sbCR m _ _) fun p e s m below meth c s₁ Bd hZ hx hD hlk hml hown hnm X0 e0 => ?_
 have N0 := Fr.nil n0
 have K0 := Keep.refl h0 []
 have lt_Ab1 := ny Ab1.lt
 refine Wk.iloadN X0 hx (hD d21_0) (n := 1) rfl rfl ?_
 have hc1_1 : (0 : Int32) = (0 : Int32) := rfl
 refine Wk.ifNo X0 hx (hD d21_1) (n := 4) rfl ((if0 _ _).trans (teq hc1_1).2) ?_
 refine Wk.iloadN X0 hx (hD d21_4) (n := 5) rfl rfl ?_
 refine Wk.aloadN X0 hx (hD d21_5) (n := 6) rfl rfl rfl ?_
 obtain ⟨cl2, Ar2, qn2, Sz2, N_2, H_2, Gn2⟩ := id Ab1
 refine Wk.arrlen X0 hx hZ e0 Ar2 Sz2 N_2 (hD d21_6) (n := 7) rfl ?_
 have hc7_3 : ¬ (i1 = (Int32.ofNat Nz)) := by rw [hi]; exact fun q => absurd ((own_eqi (by omega) (by omega)).mp q) (by omega)
 refine Wk.icmpNo X0 hx (hD d21_7) (n := 10) rfl (feq hc7_3).1 ?_
 refine Wk.aloadN X0 hx (hD d21_10) (n := 11) rfl rfl rfl ?_
 refine Wk.iloadN X0 hx (hD d21_11) (n := 12) rfl rfl ?_
 refine Wk.iloadN X0 hx (hD d21_12) (n := 13) rfl rfl ?_
 have cl4_ := fun Ls (hLs : LsOk c Ls) => Jvm.LawKit.callS X0 hx (y := mn21) hown (mW hZ hw 227 rfl) (mW hZ hw 228 rfl) (mW hZ hw 169 rfl) (mW hZ hw 229 rfl) (by decide) (backOf (W := 0) (sbCB l Z a0 hw [] t1 k1 cs i1 Nz h0 n0 (by omega) Ab1 hi (by omega) (by omega)) hZ (oW hw 229 rfl) (oW hw 169 rfl) (by decide) (by decide)) (g := mkF m 13 Ls [(.int i1), (.int (0 : Int32)), (.ref t1)]) rfl hLs (argsL := [(.ref t1), (.int (0 : Int32)), (.int i1)]) (rest := []) (lenOf pd_12 rfl) rfl (leq0 rfl) (hD d21_13) (fun _ _ => ⟨rfl, e0, (by decide : 0 + 1 ≤ _), (by decide : 0 + 40 ≤ _)⟩)
 refine Wk.backS (n := 16) (rc := 1) (rs := 40) (Q := Q_sbCB Z t1 k1 cs i1 Nz h0 n0) (cl4_ _ (lsok hml rfl)) fun vn4 T4 L4 X4 hQ4 => ?_
 clear cl4_
 obtain ⟨t_4, kb_4, rfl, M4, J4, p4_0, gt_4⟩ := hQ4
 have N4 := Fr.app N0 M4
 have sz4 := J4.1
 have K4 := K0.trans J4 (fun x hx => nomatch hx)
 have lt_p4_0 := ny p4_0.lt
 show Wk p e below _ T4 (mkF m 16 _ [(.ref t_4)])
 exact Wk.leave X4 (v := some (.ref t_4)) (fun h => by rw [Bd.returns] at h; cases h) hlk rfl ⟨t_4, kb_4, rfl, N4, K4, p4_0, (by omega)⟩ (by decide) (by decide) (fun fs hr => retA X4 hx rfl Bd.returns rfl (hD d21_16) hr)
def Q_sbSV (Z : State) (x1 : Addr) (a1 : Addr) (t1 : Addr) (k1 : ClassId) (cs : List Int32) (zc : Int32) (u1 : Value) (Nz : Nat) (h0 : Heap) (n0 : Nat) (v : Option Value) (h : Heap) (L : List Loc) : Prop := ∃ (t : Addr) (kb : ClassId), v = none ∧ Fr n0 L ∧ Keep h0 h [x1] ∧ Exa Z h x1 "java/lang/String" ∧ Fld Z h x1 "java/lang/String" "value" "[B" (.ref t) ∧ Fld Z h x1 "java/lang/String" "coder" "B" (.int (0 : Int32)) ∧ Arv Z h t kb .byte (Int32.ofNat cs.length) (bsV cs) (.int (0 : Int32)) ∧ (h0.size ≤ t)
theorem ef_sbSV (m : MethodId) (x0 : Addr) (x1 : Addr) : entryFrame m #[(.ref x0), (.ref x1), .null] 5 = mkF m 0 #[.val (.ref x0), .val (.ref x1), .val .null, .unset, .unset] [] := by first | (simp [entryFrame, mkF, argsToLocals, Value.category]; done) | rfl
theorem d22_0 : decode B22_ 0 = .ok (.aload_n 0, 1) := by decide +kernel
theorem d22_1 : decode B22_ 1 = .ok (.invokespecial 1, 3) := by decide +kernel
theorem d22_4 : decode B22_ 4 = .ok (.aload_n 1, 1) := by decide +kernel
theorem d22_5 : decode B22_ 5 = .ok (.invokevirtual 552, 3) := by decide +kernel
theorem pd_13 : parseMethodDescriptor "()[B" = some ⟨[], some (.array .byte)⟩ := by decide +kernel
theorem d22_8 : decode B22_ 8 = .ok (.astore_n 3, 1) := by decide +kernel
theorem d22_9 : decode B22_ 9 = .ok (.aload_n 1, 1) := by decide +kernel
theorem d22_10 : decode B22_ 10 = .ok (.invokevirtual 549, 3) := by decide +kernel
theorem d22_13 : decode B22_ 13 = .ok (.istore 4, 2) := by decide +kernel
theorem d22_15 : decode B22_ 15 = .ok (.aload_n 1, 1) := by decide +kernel
theorem d22_16 : decode B22_ 16 = .ok (.invokevirtual 1047, 3) := by decide +kernel
theorem pd_14 : parseMethodDescriptor "()Z" = some ⟨[], some .boolean⟩ := by decide +kernel
theorem d22_19 : decode B22_ 19 = .ok (.ifCond .eq 22, 3) := by decide +kernel
theorem d22_22 : decode B22_ 22 = .ok (.aload_n 0, 1) := by decide +kernel
theorem d22_23 : decode B22_ 23 = .ok (.iconst 0, 1) := by decide +kernel
theorem d22_24 : decode B22_ 24 = .ok (.putfield 15, 3) := by decide +kernel
theorem d22_27 : decode B22_ 27 = .ok (.aload_n 0, 1) := by decide +kernel
theorem d22_28 : decode B22_ 28 = .ok (.aload_n 3, 1) := by decide +kernel
theorem d22_29 : decode B22_ 29 = .ok (.iconst 0, 1) := by decide +kernel
theorem d22_30 : decode B22_ 30 = .ok (.iload 4, 2) := by decide +kernel
theorem d22_32 : decode B22_ 32 = .ok (.invokestatic 54, 3) := by decide +kernel
theorem d22_35 : decode B22_ 35 = .ok (.putfield 9, 3) := by decide +kernel
theorem d22_38 : decode B22_ 38 = .ok (.goto 59, 3) := by decide +kernel
theorem d22_97 : decode B22_ 97 = .ok (.return_, 1) := by decide +kernel
theorem sbSV (hw : HW a0 Z) (ws : List Jvm.Cond) (x1 : Addr) (a1 : Addr) (t1 : Addr) (k1 : ClassId) (cs : List Int32) (zc : Int32) (u1 : Value) (Nz : Nat) (h0 : Heap) (n0 : Nat) (Z0 : n0 ≤ h0.size) (E1 : Exa Z h0 x1 "java/lang/String") (F1 : Fld Z h0 x1 "java/lang/String" "value" "[B" u1) (F2 : Fld Z h0 x1 "java/lang/String" "coder" "B" (.int (0 : Int32))) (Eb1 : Exa Z h0 a1 "java/lang/StringBuilder") (Gv1 : Fld Z h0 a1 "java/lang/AbstractStringBuilder" "value" "[B" (.ref t1)) (Gc1 : Fld Z h0 a1 "java/lang/AbstractStringBuilder" "coder" "B" (.int (0 : Int32))) (Gn1 : Fld Z h0 a1 "java/lang/AbstractStringBuilder" "count" "I" (.int (Int32.ofNat cs.length))) (Ab1 : Arv Z h0 t1 k1 .byte (Int32.ofNat Nz) (bsV cs) (.int (0 : Int32))) (Et1 : Exa Z h0 t1 "[B") (S4 : Sta Z Z.heap "java/lang/String" "COMPACT_STRINGS" "Z" (.int zc)) (O1 : Old Z n0 h0) (hCS : ¬ zc = 0) (hN : cs.length < Nz) (g1 : n0 ≤ x1) (hn1 : ¬ @Eq Nat x1 a1) (hn2 : ¬ @Eq Nat x1 t1) (hNz : Nz ≤ 40) : MetN l Z mn23 jdk_42_method_150_code 5 none ws (rM 3 1 40 63) #[(.ref x1), (.ref a1), .null] h0 (Q_sbSV Z x1 a1 t1 k1 cs zc u1 Nz h0 n0) := by
 refine enterN (plainFor_of_name pn_java_lang_String) (fun m => ef_sbSV m _ _) fun p e s m below meth c s₁ Bd hZ hx hD hlk hml hown hnm X0 e0 => ?_
 have N0 := Fr.nil n0
 have K0 := Keep.refl h0 [x1]
 have lt_E1 := ny E1.lt
 have lt_F1 := ny F1.lt
 have lt_F2 := ny F2.lt
 have lt_Eb1 := ny Eb1.lt
 have lt_Gv1 := ny Gv1.lt
 have lt_Gc1 := ny Gc1.lt
 have lt_Gn1 := ny Gn1.lt
 have lt_Ab1 := ny Ab1.lt
 have lt_Et1 := ny Et1.lt
 refine Wk.aloadN X0 hx (hD d22_0) (n := 1) rfl rfl rfl ?_
 refine Wk.initO X0 hx hZ hown (oW hw 14 rfl) (oW hw 15 rfl) (oW hw 16 rfl) e0 (by rw [hml]; rfl) (hD d22_1) (n := 4) rfl (by decide) (w := 0) (Nat.le_of_eq rfl) (by decide) fun T1 X1 e1 => ?_
 refine Wk.aloadN X1 hx (hD d22_4) (n := 5) rfl rfl rfl ?_
 obtain ⟨cq2, kq2, qn2a, qn2b, qn2c⟩ := isOf hZ e1 Eb1
 have cl2_ := fun Ls (hLs : LsOk c Ls) => X1.virtualBack hx (y := mn15) (z := mn15) hown (mW hZ hw 210 rfl) (mW hZ hw 211 rfl) (notFace_of_selects (args := #[]) (mW hZ hw 213 rfl)) (mW hZ hw 213 rfl) (mW hZ hw 212 rfl) (by decide) (backOf (W := 0) (sbGV l Z a0 hw [] a1 t1 h0 n0 (by omega) Gv1) hZ (oW hw 214 rfl) (oW hw 89 rfl) (by decide) (by decide)) qn2a qn2c (g := mkF m 5 Ls [(.ref a1)]) rfl hLs (Steps.refl _) (argsL := []) (rest := []) (lenOf pd_13 rfl) rfl (leq0 rfl) (hD d22_5) (fun _ _ => ⟨rfl, e1, (by decide : 0 + 0 ≤ _), (by decide : 0 + 0 ≤ _)⟩)
 refine Wk.back (n := 8) (rc := 0) (rs := 0) (Q := Q_sbGV Z a1 t1 h0 n0) (cl2_ _ (lsok hml rfl)) fun vn2 T2 L2 X2 hQ2 => ?_
 clear cl2_
 obtain ⟨rfl, M2, e2⟩ := hQ2
 have N2 := Fr.app N0 M2
 show Wk p e below _ T2 (mkF m 8 _ [(.ref t1)])
 refine Wk.astoreN X2 hx (hD d22_8) (n := 9) rfl rfl (L' := #[.val (.ref x1), .val (.ref a1), .val .null, .val (.ref t1), .unset]) rfl ?_
 refine Wk.aloadN X2 hx (hD d22_9) (n := 10) rfl rfl rfl ?_
 obtain ⟨cq3, kq3, qn3a, qn3b, qn3c⟩ := isOf hZ e2 Eb1
 have cl3_ := fun Ls (hLs : LsOk c Ls) => X2.virtualBack hx (y := mn16) (z := mn17) hown (mW hZ hw 215 rfl) (mW hZ hw 216 rfl) (own_nf (args := #[]) (mW hZ hw 216 rfl) (mW hZ hw 212 rfl) (mW hZ hw 213 rfl)) (mW hZ hw 218 rfl) (mW hZ hw 219 rfl) (by decide) (backOf (W := 0) (sbL0 l Z a0 hw [] a1 (Int32.ofNat cs.length) h0 n0 (by omega) Eb1 Gn1) hZ (oW hw 220 rfl) (oW hw 81 rfl) (by decide) (by decide)) qn3a qn3c (g := mkF m 10 Ls [(.ref a1)]) rfl hLs (Steps.refl _) (argsL := []) (rest := []) (lenOf pd_7 rfl) rfl (leq0 rfl) (hD d22_10) (fun _ _ => ⟨rfl, e2, (by decide : 0 + 0 ≤ _), (by decide : 0 + 0 ≤ _)⟩)
 refine Wk.back (n := 13) (rc := 0) (rs := 0) (Q := Q_sbL0 Z a1 (Int32.ofNat cs.length) h0 n0) (cl3_ _ (lsok hml rfl)) fun vn3 T3 L3 X3 hQ3 => ?_
 clear cl3_
 obtain ⟨rfl, M3, e3⟩ := hQ3
 have N3 := Fr.app N2 M3
 show Wk p e below _ T3 (mkF m 13 _ [(.int (Int32.ofNat cs.length))])
 refine Wk.istore X3 hx (hD d22_13) (n := 15) rfl (L' := #[.val (.ref x1), .val (.ref a1), .val .null, .val (.ref t1), .val (.int (Int32.ofNat cs.length))]) rfl ?_
 refine Wk.aloadN X3 hx (hD d22_15) (n := 16) rfl rfl rfl ?_
 obtain ⟨cq4, kq4, qn4a, qn4b, qn4c⟩ := isOf hZ e3 Eb1
 have cl4_ := fun Ls (hLs : LsOk c Ls) => X3.virtualBack hx (y := mn18) (z := mn18) hown (mW hZ hw 223 rfl) (mW hZ hw 190 rfl) (notFace_of_selects (args := #[]) (mW hZ hw 192 rfl)) (mW hZ hw 192 rfl) (mW hZ hw 191 rfl) (by decide) (backOf (W := 0) (sbIL l Z a0 hw [] a1 zc h0 n0 (by omega) Gc1 S4 O1 hCS) hZ (oW hw 193 rfl) (oW hw 89 rfl) (by decide) (by decide)) qn4a qn4c (g := mkF m 16 Ls [(.ref a1)]) rfl hLs (Steps.refl _) (argsL := []) (rest := []) (lenOf pd_14 rfl) rfl (leq0 rfl) (hD d22_16) (fun _ _ => ⟨rfl, e3, (by decide : 0 + 0 ≤ _), (by decide : 0 + 0 ≤ _)⟩)
 refine Wk.back (n := 19) (rc := 0) (rs := 0) (Q := Q_sbIL Z a1 zc h0 n0) (cl4_ _ (lsok hml rfl)) fun vn4 T4 L4 X4 hQ4 => ?_
 clear cl4_
 obtain ⟨rfl, M4, e4⟩ := hQ4
 have N4 := Fr.app N3 M4
 show Wk p e below _ T4 (mkF m 19 _ [(.int (1 : Int32))])
 have hc19_5 : ¬ ((1 : Int32) = (0 : Int32)) := by decide
 refine Wk.ifNo X4 hx (hD d22_19) (n := 22) rfl ((if0 _ _).trans (feq hc19_5).1) ?_
 refine Wk.aloadN X4 hx (hD d22_22) (n := 23) rfl rfl rfl ?_
 refine Wk.iconst X4 hx (hD d22_23) (n := 24) rfl (z := (0 : Int32)) rfl ?_
 refine Wk.putFN X4 hx hZ hown (oW hw 29 rfl) Via.refl e4 F2 E1 (Or.inr ⟨(oW hw 30 rfl), rfl, hnm⟩) (oW hw 5 rfl) (ty := .byte) (by decide) (v' := (.int (0 : Int32))) rfl rfl (hD d22_24) (n := 27) rfl fun T6 H6 X6 e6 Wn6 => ?_
 have sz6 := Wn6.size
 have Fn6 := F2.same Wn6
 have K6 := K0.wr Wn6 (Or.inl (List.mem_of_getElem? (i := 0) rfl))
 have N6 := Fr.snoc X6 N4 (by omega)
 refine Wk.aloadN X6 hx (hD d22_27) (n := 28) rfl rfl rfl ?_
 refine Wk.aloadN X6 hx (hD d22_28) (n := 29) rfl rfl rfl ?_
 refine Wk.iconst X6 hx (hD d22_29) (n := 30) rfl (z := (0 : Int32)) rfl ?_
 refine Wk.iload X6 hx (hD d22_30) (n := 32) rfl rfl ?_
 have f7 := (Ab1.other Wn6 (nz (by omega)))
 have cl8_ := fun Ls (hLs : LsOk c Ls) => Jvm.LawKit.callS X6 hx (y := mn22) hown (mW hZ hw 224 rfl) (mW hZ hw 225 rfl) (mW hZ hw 169 rfl) (mW hZ hw 226 rfl) (by decide) (backOf (W := 1) (sbCR l Z a0 hw [] t1 k1 cs (Int32.ofNat cs.length) Nz H6 n0 (by omega) f7 rfl (by omega) (by omega)) hZ (oW hw 226 rfl) (oW hw 169 rfl) (by decide) (by decide)) (g := mkF m 32 Ls [(.int (Int32.ofNat cs.length)), (.int (0 : Int32)), (.ref t1), (.ref x1)]) rfl hLs (argsL := [(.ref t1), (.int (0 : Int32)), (.int (Int32.ofNat cs.length))]) (rest := [(.ref x1)]) (lenOf pd_12 rfl) rfl (leq0 rfl) (hD d22_32) (fun _ _ => ⟨rfl, e6, (by decide : 0 + 1 ≤ _), (by decide : 0 + 40 ≤ _)⟩)
 refine Wk.backS (n := 35) (rc := 1) (rs := 40) (Q := Q_sbCR Z t1 k1 cs (Int32.ofNat cs.length) Nz H6 n0) (cl8_ _ (lsok hml rfl)) fun vn8 T8 L8 X8 hQ8 => ?_
 clear cl8_
 obtain ⟨t_8, kb_8, rfl, M8, J8, p8_0, gt_8⟩ := hQ8
 have N8 := Fr.app N6 M8
 have sz8 := J8.1
 have K8 := K6.trans J8 (fun x hx => nomatch hx)
 have lt_p8_0 := ny p8_0.lt
 show Wk p e below _ T8 (mkF m 35 _ [(.ref t_8), (.ref x1)])
 have f9 := ((F1.other Wn6 (Or.inr (slot_ne (Or.inr (oW hw 32 rfl)) (Or.inr (oW hw 30 rfl)) (by decide) (t := (.array .byte)) (t' := .byte) (by decide) (by decide)))).keep J8 nin0)
 have f10 := ((E1.wr Wn6).keep J8)
 refine Wk.putF X8 hx hZ hown (host := "") (Or.inl (oW hw 31 rfl)) Via.refl rfl f9 f10 (Or.inr ⟨(oW hw 32 rfl), rfl, hnm⟩) (oW hw 5 rfl) (ty := (.array .byte)) (by decide) rfl rfl (hD d22_35) (n := 38) rfl fun T11 H11 X11 e11 Wn11 => ?_
 have sz11 := Wn11.size
 have Fn11 := f9.same Wn11
 have K11 := K8.wr Wn11 (Or.inl (List.mem_of_getElem? (i := 0) rfl))
 have N11 := Fr.snoc X11 N8 (by omega)
 refine Wk.goto X11 hx (hD d22_38) (by decide) (n := 97) (by decide) ?_
 have f12 := (f10.wr Wn11)
 have f13 := ((Fn6.keep J8 nin0).other Wn11 (Or.inr (slot_ne (Or.inr (oW hw 30 rfl)) (Or.inr (oW hw 32 rfl)) (by decide) (t := .byte) (t' := (.array .byte)) (by decide) (by decide))))
 have f14 := (p8_0.other Wn11 (nz (by omega)))
 exact Wk.leave X11 (v := none) (fun _ => rfl) hlk e11 ⟨t_8, kb_8, rfl, N11, K11, f12, Fn11, f13, f14, (by omega)⟩ (by decide) (by decide) (fun fs hr => X11.returnOut hx Bd.returns (hD d22_97) hr)
def Q_sbSW (Z : State) (x1 : Addr) (a1 : Addr) (t1 : Addr) (k1 : ClassId) (cs : List Int32) (zc : Int32) (u1 : Value) (Nz : Nat) (h0 : Heap) (n0 : Nat) (v : Option Value) (h : Heap) (L : List Loc) : Prop := ∃ (t : Addr) (kb : ClassId), v = none ∧ Fr n0 L ∧ Keep h0 h [x1] ∧ Exa Z h x1 "java/lang/String" ∧ Fld Z h x1 "java/lang/String" "value" "[B" (.ref t) ∧ Fld Z h x1 "java/lang/String" "coder" "B" (.int (0 : Int32)) ∧ Arv Z h t kb .byte (Int32.ofNat cs.length) (bsV cs) (.int (0 : Int32)) ∧ (h0.size ≤ t)
theorem ef_sbSW (m : MethodId) (x0 : Addr) (x1 : Addr) : entryFrame m #[(.ref x0), (.ref x1)] 2 = mkF m 0 #[.val (.ref x0), .val (.ref x1)] [] := by first | (simp [entryFrame, mkF, argsToLocals, Value.category]; done) | rfl
theorem d23_0 : decode B23_ 0 = .ok (.aload_n 0, 1) := by decide +kernel
theorem d23_1 : decode B23_ 1 = .ok (.aload_n 1, 1) := by decide +kernel
theorem d23_2 : decode B23_ 2 = .ok (.aconst_null, 1) := by decide +kernel
theorem d23_3 : decode B23_ 3 = .ok (.invokespecial 489, 3) := by decide +kernel
theorem pd_15 : parseMethodDescriptor "(Ljava/lang/AbstractStringBuilder;Ljava/lang/Void;)V" = some ⟨[(.object "java/lang/AbstractStringBuilder"), (.object "java/lang/Void")], none⟩ := by decide +kernel
theorem d23_6 : decode B23_ 6 = .ok (.return_, 1) := by decide +kernel
theorem sbSW (hw : HW a0 Z) (ws : List Jvm.Cond) (x1 : Addr) (a1 : Addr) (t1 : Addr) (k1 : ClassId) (cs : List Int32) (zc : Int32) (u1 : Value) (Nz : Nat) (h0 : Heap) (n0 : Nat) (Z0 : n0 ≤ h0.size) (E1 : Exa Z h0 x1 "java/lang/String") (F1 : Fld Z h0 x1 "java/lang/String" "value" "[B" u1) (F2 : Fld Z h0 x1 "java/lang/String" "coder" "B" (.int (0 : Int32))) (Eb1 : Exa Z h0 a1 "java/lang/StringBuilder") (Gv1 : Fld Z h0 a1 "java/lang/AbstractStringBuilder" "value" "[B" (.ref t1)) (Gc1 : Fld Z h0 a1 "java/lang/AbstractStringBuilder" "coder" "B" (.int (0 : Int32))) (Gn1 : Fld Z h0 a1 "java/lang/AbstractStringBuilder" "count" "I" (.int (Int32.ofNat cs.length))) (Ab1 : Arv Z h0 t1 k1 .byte (Int32.ofNat Nz) (bsV cs) (.int (0 : Int32))) (Et1 : Exa Z h0 t1 "[B") (S4 : Sta Z Z.heap "java/lang/String" "COMPACT_STRINGS" "Z" (.int zc)) (O1 : Old Z n0 h0) (hCS : ¬ zc = 0) (hN : cs.length < Nz) (g1 : n0 ≤ x1) (hn1 : ¬ @Eq Nat x1 a1) (hn2 : ¬ @Eq Nat x1 t1) (hNz : Nz ≤ 40) : MetN l Z mn24 jdk_42_method_53_code 2 none ws (rM 4 1 40 79) #[(.ref x1), (.ref a1)] h0 (Q_sbSW Z x1 a1 t1 k1 cs zc u1 Nz h0 n0) := by
 refine enterN (plainFor_of_name pn_java_lang_String) (fun m => ef_sbSW m _ _) fun p e s m below meth c s₁ Bd hZ hx hD hlk hml hown hnm X0 e0 => ?_
 have N0 := Fr.nil n0
 have K0 := Keep.refl h0 [x1]
 have lt_E1 := ny E1.lt
 have lt_F1 := ny F1.lt
 have lt_F2 := ny F2.lt
 have lt_Eb1 := ny Eb1.lt
 have lt_Gv1 := ny Gv1.lt
 have lt_Gc1 := ny Gc1.lt
 have lt_Gn1 := ny Gn1.lt
 have lt_Ab1 := ny Ab1.lt
 have lt_Et1 := ny Et1.lt
 refine Wk.aloadN X0 hx (hD d23_0) (n := 1) rfl rfl rfl ?_
 refine Wk.aloadN X0 hx (hD d23_1) (n := 2) rfl rfl rfl ?_
 refine Wk.aconstNull X0 hx (hD d23_2) (n := 3) rfl ?_
 have cl1_ := fun Ls (hLs : LsOk c Ls) => X0.specialBack hx (y := mn23) rfl hown (mW hZ hw 207 rfl) (mW hZ hw 208 rfl) (mW hZ hw 209 rfl) (by decide) (backOf (W := 0) (sbSV l Z a0 hw [] x1 a1 t1 k1 cs zc u1 Nz h0 n0 (by omega) E1 F1 F2 Eb1 Gv1 Gc1 Gn1 Ab1 Et1 S4 O1 hCS (by omega) (by omega) (by omega) (by omega) (by omega)) hZ (oW hw 209 rfl) (oW hw 6 rfl) (by decide) (by decide)) (g := mkF m 3 Ls [.null, (.ref a1), (.ref x1)]) rfl hLs (Steps.refl _) (a := x1) (argsL := [(.ref a1), .null]) (rest := []) (lenOf pd_15 rfl) rfl (leq0 rfl) (hD d23_3) (fun _ _ => ⟨rfl, e0, (by decide : 0 + 1 ≤ _), (by decide : 0 + 40 ≤ _)⟩)
 refine Wk.back (n := 6) (rc := 1) (rs := 40) (Q := Q_sbSV Z x1 a1 t1 k1 cs zc u1 Nz h0 n0) (cl1_ _ (lsok hml rfl)) fun vn1 T1 L1 X1 hQ1 => ?_
 clear cl1_
 obtain ⟨t_1, kb_1, rfl, M1, J1, p1_0, p1_1, p1_2, p1_3, gt_1⟩ := hQ1
 have N1 := Fr.app N0 M1
 have sz1 := J1.1
 have K1 := K0.trans J1 (allS (Or.inl (List.mem_of_getElem? (i := 0) rfl)) all0)
 have lt_p1_0 := ny p1_0.lt
 have lt_p1_3 := ny p1_3.lt
 show Wk p e below _ T1 (mkF m 6 _ [])
 exact Wk.leave X1 (v := none) (fun _ => rfl) hlk rfl ⟨t_1, kb_1, rfl, N1, K1, p1_0, p1_1, p1_2, p1_3, (by omega)⟩ (by decide) (by decide) (fun fs hr => X1.returnOut hx Bd.returns (hD d23_6) hr)
def Q_sbTS (Z : State) (a1 : Addr) (t1 : Addr) (k1 : ClassId) (cs : List Int32) (zc : Int32) (Nz : Nat) (h0 : Heap) (n0 : Nat) (v : Option Value) (h : Heap) (L : List Loc) : Prop := ∃ (r : Addr) (t : Addr) (kb : ClassId), v = some (.ref r) ∧ Fr n0 L ∧ Keep h0 h [] ∧ Exa Z h r "java/lang/String" ∧ Fld Z h r "java/lang/String" "value" "[B" (.ref t) ∧ Fld Z h r "java/lang/String" "coder" "B" (.int (0 : Int32)) ∧ Arv Z h t kb .byte (Int32.ofNat cs.length) (bsV cs) (.int (0 : Int32)) ∧ (h0.size ≤ r) ∧ (h0.size ≤ t)
theorem ef_sbTS (m : MethodId) (x0 : Addr) : entryFrame m #[(.ref x0)] 1 = mkF m 0 #[.val (.ref x0)] [] := by first | (simp [entryFrame, mkF, argsToLocals, Value.category]; done) | rfl
theorem d24_0 : decode B24_ 0 = .ok (.new 18, 3) := by decide +kernel
theorem d24_3 : decode B24_ 3 = .ok (.dup, 1) := by decide +kernel
theorem d24_4 : decode B24_ 4 = .ok (.aload_n 0, 1) := by decide +kernel
theorem d24_5 : decode B24_ 5 = .ok (.invokespecial 137, 3) := by decide +kernel
theorem pd_16 : parseMethodDescriptor "(Ljava/lang/StringBuilder;)V" = some ⟨[(.object "java/lang/StringBuilder")], none⟩ := by decide +kernel
theorem d24_8 : decode B24_ 8 = .ok (.areturn, 1) := by decide +kernel
theorem sbTS (hw : HW a0 Z) (ws : List Jvm.Cond) (a1 : Addr) (t1 : Addr) (k1 : ClassId) (cs : List Int32) (zc : Int32) (Nz : Nat) (h0 : Heap) (n0 : Nat) (Z0 : n0 ≤ h0.size) (Eb1 : Exa Z h0 a1 "java/lang/StringBuilder") (Gv1 : Fld Z h0 a1 "java/lang/AbstractStringBuilder" "value" "[B" (.ref t1)) (Gc1 : Fld Z h0 a1 "java/lang/AbstractStringBuilder" "coder" "B" (.int (0 : Int32))) (Gn1 : Fld Z h0 a1 "java/lang/AbstractStringBuilder" "count" "I" (.int (Int32.ofNat cs.length))) (Ab1 : Arv Z h0 t1 k1 .byte (Int32.ofNat Nz) (bsV cs) (.int (0 : Int32))) (Et1 : Exa Z h0 t1 "[B") (S4 : Sta Z Z.heap "java/lang/String" "COMPACT_STRINGS" "Z" (.int zc)) (O1 : Old Z n0 h0) (hCS : ¬ zc = 0) (hN : cs.length < Nz) (hNz : Nz ≤ 40) : MetN l Z mn25 jdk_67_method_42_code 1 (some (.object "java/lang/String")) ws (rM 5 2 44 93) #[(.ref a1)] h0 (Q_sbTS Z a1 t1 k1 cs zc Nz h0 n0) := by
 refine enterN (plainFor_of_name pn_java_lang_StringBuilder) (fun m => ef_sbTS m _) fun p e s m below meth c s₁ Bd hZ hx hD hlk hml hown hnm X0 e0 => ?_
 have N0 := Fr.nil n0
 have K0 := Keep.refl h0 []
 have lt_Eb1 := ny Eb1.lt
 have lt_Gv1 := ny Gv1.lt
 have lt_Gc1 := ny Gc1.lt
 have lt_Gn1 := ny Gn1.lt
 have lt_Ab1 := ny Ab1.lt
 have lt_Et1 := ny Et1.lt
 refine Wk.newO X0 hx hZ hown (oW hw 203 rfl) (oW hw 5 rfl) (oW hw 6 rfl) e0 (hD d24_0) (n := 3) rfl (by decide) (by decide) fun T1 H1 b1 gn1 X1 e1 Ex1 An1 Dn1 Yn1 => ?_
 have gn1 := nx gn1
 have sz1 := Ex1.1
 have lt1 := ny An1.lt
 have K1 := K0.ext Ex1
 have Fn1_coder : Fld Z H1 b1 "java/lang/String" "coder" "B" (.int (0 : Int32)) := Dn1 (Or.inr (oW hw 30 rfl)) (ty := .byte) (by decide)
 have Fn1_value : Fld Z H1 b1 "java/lang/String" "value" "[B" .null := Dn1 (Or.inr (oW hw 32 rfl)) (ty := (.array .byte)) (by decide)
 refine Wk.dup X1 hx (hD d24_3) (n := 4) rfl rfl ?_
 refine Wk.aloadN X1 hx (hD d24_4) (n := 5) rfl rfl rfl ?_
 have f2 := (Eb1.ext Ex1)
 have f3 := (Gv1.ext Ex1)
 have f4 := (Gc1.ext Ex1)
 have f5 := (Gn1.ext Ex1)
 have f6 := (Ab1.ext Ex1)
 have f7 := (Et1.ext Ex1)
 have f8 := (O1.ext Ex1)
 have cl9_ := fun Ls (hLs : LsOk c Ls) => X1.specialBack hx (y := mn24) rfl hown (mW hZ hw 204 rfl) (mW hZ hw 205 rfl) (mW hZ hw 206 rfl) (by decide) (backOf (W := 1) (sbSW l Z a0 hw [] b1 a1 t1 k1 cs zc .null Nz H1 n0 (by omega) An1 Fn1_value Fn1_coder f2 f3 f4 f5 f6 f7 S4 f8 hCS (by omega) (by omega) (by omega) (by omega) (by omega)) hZ (oW hw 206 rfl) (oW hw 6 rfl) (by decide) (by decide)) (g := mkF m 5 Ls [(.ref a1), (.ref b1), (.ref b1)]) rfl hLs (Steps.refl _) (a := b1) (argsL := [(.ref a1)]) (rest := [(.ref b1)]) (lenOf pd_16 rfl) rfl (leq0 rfl) (hD d24_5) (fun _ _ => ⟨rfl, e1, (by decide : 1 + 1 ≤ _), (by decide : 4 + 40 ≤ _)⟩)
 refine Wk.back (n := 8) (rc := 1) (rs := 40) (Q := Q_sbSW Z b1 a1 t1 k1 cs zc .null Nz H1 n0) (cl9_ _ (lsok hml rfl)) fun vn9 T9 L9 X9 hQ9 => ?_
 clear cl9_
 obtain ⟨t_9, kb_9, rfl, M9, J9, p9_0, p9_1, p9_2, p9_3, gt_9⟩ := hQ9
 have N9 := Fr.app N0 M9
 have sz9 := J9.1
 have K9 := K1.trans J9 (allS (Or.inr (by omega)) all0)
 have lt_p9_0 := ny p9_0.lt
 have lt_p9_3 := ny p9_3.lt
 show Wk p e below _ T9 (mkF m 8 _ [(.ref b1)])
 exact Wk.leave X9 (v := some (.ref b1)) (fun h => by rw [Bd.returns] at h; cases h) hlk rfl ⟨b1, t_9, kb_9, rfl, N9, K9, p9_0, p9_1, p9_2, p9_3, (by omega), (by omega)⟩ (by decide) (by decide) (fun fs hr => retA X9 hx rfl Bd.returns rfl (hD d24_8) hr)
def Q_sbSS (Z : State) (p1 : Int32) (h0 : Heap) (n0 : Nat) (v : Option Value) (h : Heap) (L : List Loc) : Prop := v = some (.int (Int32.ofNat (sgl p1 ++ dl (mg p1)).length)) ∧ Fr n0 L ∧ h = h0
theorem ef_sbSS (m : MethodId) (x0 : Int32) : entryFrame m #[(.int x0)] 4 = mkF m 0 #[.val (.int x0), .unset, .unset, .unset] [] := by first | (simp [entryFrame, mkF, argsToLocals, Value.category]; done) | rfl
theorem pn_java_lang_Integer : plainName "java/lang/Integer" = true := by first | (simp [plainName, overriddenIn]; done) | decide +kernel
theorem d25_11 : decode B25_ 11 = .ok (.bipush (-10), 2) := by decide +kernel
theorem d25_13 : decode B25_ 13 = .ok (.istore_n 2, 1) := by decide +kernel
theorem d25_14 : decode B25_ 14 = .ok (.iconst 1, 1) := by decide +kernel
theorem d25_15 : decode B25_ 15 = .ok (.istore_n 3, 1) := by decide +kernel
theorem d25_16 : decode B25_ 16 = .ok (.iload_n 3, 1) := by decide +kernel
theorem d25_17 : decode B25_ 17 = .ok (.bipush 10, 2) := by decide +kernel
theorem d25_19 : decode B25_ 19 = .ok (.if_icmp .ge 23, 3) := by decide +kernel
theorem d25_22 : decode B25_ 22 = .ok (.iload_n 0, 1) := by decide +kernel
theorem d25_23 : decode B25_ 23 = .ok (.iload_n 2, 1) := by decide +kernel
theorem d25_24 : decode B25_ 24 = .ok (.if_icmp .le 7, 3) := by decide +kernel
theorem d25_27 : decode B25_ 27 = .ok (.iload_n 3, 1) := by decide +kernel
theorem d25_28 : decode B25_ 28 = .ok (.iload_n 1, 1) := by decide +kernel
theorem d25_29 : decode B25_ 29 = .ok (.iadd, 1) := by decide +kernel
theorem d25_30 : decode B25_ 30 = .ok (.ireturn, 1) := by decide +kernel
theorem d25_31 : decode B25_ 31 = .ok (.bipush 10, 2) := by decide +kernel
theorem d25_33 : decode B25_ 33 = .ok (.iload_n 2, 1) := by decide +kernel
theorem d25_34 : decode B25_ 34 = .ok (.imul, 1) := by decide +kernel
theorem d25_35 : decode B25_ 35 = .ok (.istore_n 2, 1) := by decide +kernel
theorem d25_36 : decode B25_ 36 = .ok (.iinc 3 1, 3) := by decide +kernel
theorem d25_39 : decode B25_ 39 = .ok (.goto (-23), 3) := by decide +kernel
theorem d25_42 : decode B25_ 42 = .ok (.bipush 10, 2) := by decide +kernel
theorem d25_44 : decode B25_ 44 = .ok (.iload_n 1, 1) := by decide +kernel
theorem d25_45 : decode B25_ 45 = .ok (.iadd, 1) := by decide +kernel
theorem d25_46 : decode B25_ 46 = .ok (.ireturn, 1) := by decide +kernel
theorem d25_0 : decode B25_ 0 = .ok (.iconst 1, 1) := by decide +kernel
theorem d25_1 : decode B25_ 1 = .ok (.istore_n 1, 1) := by decide +kernel
theorem d25_2 : decode B25_ 2 = .ok (.iload_n 0, 1) := by decide +kernel
theorem d25_3 : decode B25_ 3 = .ok (.ifCond .lt 8, 3) := by decide +kernel
theorem d25_6 : decode B25_ 6 = .ok (.iconst 0, 1) := by decide +kernel
theorem d25_7 : decode B25_ 7 = .ok (.istore_n 1, 1) := by decide +kernel
theorem d25_8 : decode B25_ 8 = .ok (.iload_n 0, 1) := by decide +kernel
theorem d25_9 : decode B25_ 9 = .ok (.ineg, 1) := by decide +kernel
theorem d25_10 : decode B25_ 10 = .ok (.istore_n 0, 1) := by decide +kernel
theorem sbSS (hw : HW a0 Z) (ws : List Jvm.Cond) (p1 : Int32) (h0 : Heap) (n0 : Nat) (Z0 : n0 ≤ h0.size) : MetN l Z mn26 jdk_33_method_13_code 4 (some .int) ws (rM 0 0 0 0) #[(.int p1)] h0 (Q_sbSS Z p1 h0 n0) := by
 refine enterN (plainFor_of_name pn_java_lang_Integer) (fun m => ef_sbSS m _) fun p e s m below meth c s₁ Bd hZ hx hD hlk hml hown hnm X0 e0 => ?_
 have N0 := Fr.nil n0
 have K0 := Keep.refl h0 []
 have jss : ∀ (x0 dd : Int32) (ex0 : x0 = Int32.ofInt (-(mg p1 : Int))) (hsg : dd = Int32.ofNat (sgl p1).length), Wk p e below (EndN s (Q_sbSS Z p1 h0 n0) (rM 0 0 0 0).cells (rM 0 0 0 0).slots) s₁ (mkF m 11 #[.val (.int x0), .val (.int dd), .unset, .unset] []) := by
  intro x0 dd ex0 hsg
  refine Wk.bipush X0 hx (hD d25_11) (n := 13) rfl (z := (-10 : Int32)) rfl ?_
  refine Wk.istoreN X0 hx (hD d25_13) (n := 14) rfl (L' := #[.val (.int x0), .val (.int dd), .val (.int (-10 : Int32)), .unset]) rfl ?_
  refine Wk.iconst X0 hx (hD d25_14) (n := 15) rfl (z := (1 : Int32)) rfl ?_
  refine Wk.istoreN X0 hx (hD d25_15) (n := 16) rfl (L' := #[.val (.int x0), .val (.int dd), .val (.int (-10 : Int32)), .val (.int (1 : Int32))]) rfl ?_
  refine Wk.iloadN X0 hx (hD d25_16) (n := 17) rfl rfl ?_
  refine Wk.bipush X0 hx (hD d25_17) (n := 19) rfl (z := (10 : Int32)) rfl ?_
  have hc19_1 : (1 : Int32) < (10 : Int32) := by decide
  refine Wk.icmpNo X0 hx (hD d25_19) (n := 22) rfl (tlt hc19_1).2.1 ?_
  refine Wk.iloadN X0 hx (hD d25_22) (n := 23) rfl rfl ?_
  refine Wk.iloadN X0 hx (hD d25_23) (n := 24) rfl rfl ?_
  by_cases hc24_2 : (-10 : Int32) < x0
  ·
   refine Wk.icmpNo X0 hx (hD d25_24) (n := 27) rfl (tlt hc24_2).2.2.2 ?_
   refine Wk.iloadN X0 hx (hD d25_27) (n := 28) rfl rfl ?_
   refine Wk.iloadN X0 hx (hD d25_28) (n := 29) rfl rfl ?_
   refine Wk.iadd X0 hx (hD d25_29) (n := 30) rfl ?_
   have hlen : (dl (mg p1)).length = 1 := own_ssz (k := 0) ex0 (mg_le p1) (by decide) rfl hc24_2 (Or.inl rfl)
   exact Wk.leave X0 (v := some (.int ((1 : Int32) + dd))) (fun h => by rw [Bd.returns] at h; cases h) hlk e0 ⟨(congrArg (fun z => some (Value.int z)) (by rw [List.length_append, hsg, hlen, Nat.add_comm]; exact own_ofadd 1 _)), N0, rfl⟩ (by decide) (by decide) (fun fs hr => retI X0 hx Bd.returns (hD d25_30) hr)
  ·
   refine Wk.icmpYes X0 hx (hD d25_24) (flt hc24_2).2.2.2 (by decide) (n := 31) (by decide) ?_
   refine Wk.bipush X0 hx (hD d25_31) (n := 33) rfl (z := (10 : Int32)) rfl ?_
   refine Wk.iloadN X0 hx (hD d25_33) (n := 34) rfl rfl ?_
   refine Wk.imul X0 hx (hD d25_34) (n := 35) rfl ?_
   refine Wk.istoreN X0 hx (hD d25_35) (n := 36) rfl (L' := #[.val (.int x0), .val (.int dd), .val (.int ((10 : Int32) * (-10 : Int32))), .val (.int (1 : Int32))]) rfl ?_
   refine Wk.iinc X0 hx (hD d25_36) (n := 39) rfl rfl (L' := #[.val (.int x0), .val (.int dd), .val (.int ((10 : Int32) * (-10 : Int32))), .val (.int (2 : Int32))]) rfl ?_
   refine Wk.goto X0 hx (hD d25_39) (by decide) (n := 16) (by decide) ?_
   refine Wk.iloadN X0 hx (hD d25_16) (n := 17) rfl rfl ?_
   refine Wk.bipush X0 hx (hD d25_17) (n := 19) rfl (z := (10 : Int32)) rfl ?_
   have hc19_3 : (2 : Int32) < (10 : Int32) := by decide
   refine Wk.icmpNo X0 hx (hD d25_19) (n := 22) rfl (tlt hc19_3).2.1 ?_
   refine Wk.iloadN X0 hx (hD d25_22) (n := 23) rfl rfl ?_
   refine Wk.iloadN X0 hx (hD d25_23) (n := 24) rfl rfl ?_
   by_cases hc24_4 : ((10 : Int32) * (-10 : Int32)) < x0
   ·
    refine Wk.icmpNo X0 hx (hD d25_24) (n := 27) rfl (tlt hc24_4).2.2.2 ?_
    refine Wk.iloadN X0 hx (hD d25_27) (n := 28) rfl rfl ?_
    refine Wk.iloadN X0 hx (hD d25_28) (n := 29) rfl rfl ?_
    refine Wk.iadd X0 hx (hD d25_29) (n := 30) rfl ?_
    have hlen : (dl (mg p1)).length = 2 := own_ssz (k := 1) ex0 (mg_le p1) (by decide) rfl hc24_4 (Or.inr ⟨_, hc24_2, rfl⟩)
    exact Wk.leave X0 (v := some (.int ((2 : Int32) + dd))) (fun h => by rw [Bd.returns] at h; cases h) hlk e0 ⟨(congrArg (fun z => some (Value.int z)) (by rw [List.length_append, hsg, hlen, Nat.add_comm]; exact own_ofadd 2 _)), N0, rfl⟩ (by decide) (by decide) (fun fs hr => retI X0 hx Bd.returns (hD d25_30) hr)
   ·
    refine Wk.icmpYes X0 hx (hD d25_24) (flt hc24_4).2.2.2 (by decide) (n := 31) (by decide) ?_
    refine Wk.bipush X0 hx (hD d25_31) (n := 33) rfl (z := (10 : Int32)) rfl ?_
    refine Wk.iloadN X0 hx (hD d25_33) (n := 34) rfl rfl ?_
    refine Wk.imul X0 hx (hD d25_34) (n := 35) rfl ?_
    refine Wk.istoreN X0 hx (hD d25_35) (n := 36) rfl (L' := #[.val (.int x0), .val (.int dd), .val (.int ((10 : Int32) * ((10 : Int32) * (-10 : Int32)))), .val (.int (2 : Int32))]) rfl ?_
    refine Wk.iinc X0 hx (hD d25_36) (n := 39) rfl rfl (L' := #[.val (.int x0), .val (.int dd), .val (.int ((10 : Int32) * ((10 : Int32) * (-10 : Int32)))), .val (.int (3 : Int32))]) rfl ?_
    refine Wk.goto X0 hx (hD d25_39) (by decide) (n := 16) (by decide) ?_
    refine Wk.iloadN X0 hx (hD d25_16) (n := 17) rfl rfl ?_
    refine Wk.bipush X0 hx (hD d25_17) (n := 19) rfl (z := (10 : Int32)) rfl ?_
    have hc19_5 : (3 : Int32) < (10 : Int32) := by decide
    refine Wk.icmpNo X0 hx (hD d25_19) (n := 22) rfl (tlt hc19_5).2.1 ?_
    refine Wk.iloadN X0 hx (hD d25_22) (n := 23) rfl rfl ?_
    refine Wk.iloadN X0 hx (hD d25_23) (n := 24) rfl rfl ?_
    by_cases hc24_6 : ((10 : Int32) * ((10 : Int32) * (-10 : Int32))) < x0
    ·
     refine Wk.icmpNo X0 hx (hD d25_24) (n := 27) rfl (tlt hc24_6).2.2.2 ?_
     refine Wk.iloadN X0 hx (hD d25_27) (n := 28) rfl rfl ?_
     refine Wk.iloadN X0 hx (hD d25_28) (n := 29) rfl rfl ?_
     refine Wk.iadd X0 hx (hD d25_29) (n := 30) rfl ?_
     have hlen : (dl (mg p1)).length = 3 := own_ssz (k := 2) ex0 (mg_le p1) (by decide) rfl hc24_6 (Or.inr ⟨_, hc24_4, rfl⟩)
     exact Wk.leave X0 (v := some (.int ((3 : Int32) + dd))) (fun h => by rw [Bd.returns] at h; cases h) hlk e0 ⟨(congrArg (fun z => some (Value.int z)) (by rw [List.length_append, hsg, hlen, Nat.add_comm]; exact own_ofadd 3 _)), N0, rfl⟩ (by decide) (by decide) (fun fs hr => retI X0 hx Bd.returns (hD d25_30) hr)
    ·
     refine Wk.icmpYes X0 hx (hD d25_24) (flt hc24_6).2.2.2 (by decide) (n := 31) (by decide) ?_
     refine Wk.bipush X0 hx (hD d25_31) (n := 33) rfl (z := (10 : Int32)) rfl ?_
     refine Wk.iloadN X0 hx (hD d25_33) (n := 34) rfl rfl ?_
     refine Wk.imul X0 hx (hD d25_34) (n := 35) rfl ?_
     refine Wk.istoreN X0 hx (hD d25_35) (n := 36) rfl (L' := #[.val (.int x0), .val (.int dd), .val (.int ((10 : Int32) * ((10 : Int32) * ((10 : Int32) * (-10 : Int32))))), .val (.int (3 : Int32))]) rfl ?_
     refine Wk.iinc X0 hx (hD d25_36) (n := 39) rfl rfl (L' := #[.val (.int x0), .val (.int dd), .val (.int ((10 : Int32) * ((10 : Int32) * ((10 : Int32) * (-10 : Int32))))), .val (.int (4 : Int32))]) rfl ?_
     refine Wk.goto X0 hx (hD d25_39) (by decide) (n := 16) (by decide) ?_
     refine Wk.iloadN X0 hx (hD d25_16) (n := 17) rfl rfl ?_
     refine Wk.bipush X0 hx (hD d25_17) (n := 19) rfl (z := (10 : Int32)) rfl ?_
     have hc19_7 : (4 : Int32) < (10 : Int32) := by decide
     refine Wk.icmpNo X0 hx (hD d25_19) (n := 22) rfl (tlt hc19_7).2.1 ?_
     refine Wk.iloadN X0 hx (hD d25_22) (n := 23) rfl rfl ?_
     refine Wk.iloadN X0 hx (hD d25_23) (n := 24) rfl rfl ?_
     by_cases hc24_8 : ((10 : Int32) * ((10 : Int32) * ((10 : Int32) * (-10 : Int32)))) < x0
     ·
      refine Wk.icmpNo X0 hx (hD d25_24) (n := 27) rfl (tlt hc24_8).2.2.2 ?_
      refine Wk.iloadN X0 hx (hD d25_27) (n := 28) rfl rfl ?_
      refine Wk.iloadN X0 hx (hD d25_28) (n := 29) rfl rfl ?_
      refine Wk.iadd X0 hx (hD d25_29) (n := 30) rfl ?_
      have hlen : (dl (mg p1)).length = 4 := own_ssz (k := 3) ex0 (mg_le p1) (by decide) rfl hc24_8 (Or.inr ⟨_, hc24_6, rfl⟩)
      exact Wk.leave X0 (v := some (.int ((4 : Int32) + dd))) (fun h => by rw [Bd.returns] at h; cases h) hlk e0 ⟨(congrArg (fun z => some (Value.int z)) (by rw [List.length_append, hsg, hlen, Nat.add_comm]; exact own_ofadd 4 _)), N0, rfl⟩ (by decide) (by decide) (fun fs hr => retI X0 hx Bd.returns (hD d25_30) hr)
     ·
      refine Wk.icmpYes X0 hx (hD d25_24) (flt hc24_8).2.2.2 (by decide) (n := 31) (by decide) ?_
      refine Wk.bipush X0 hx (hD d25_31) (n := 33) rfl (z := (10 : Int32)) rfl ?_
      refine Wk.iloadN X0 hx (hD d25_33) (n := 34) rfl rfl ?_
      refine Wk.imul X0 hx (hD d25_34) (n := 35) rfl ?_
      refine Wk.istoreN X0 hx (hD d25_35) (n := 36) rfl (L' := #[.val (.int x0), .val (.int dd), .val (.int ((10 : Int32) * ((10 : Int32) * ((10 : Int32) * ((10 : Int32) * (-10 : Int32)))))), .val (.int (4 : Int32))]) rfl ?_
      refine Wk.iinc X0 hx (hD d25_36) (n := 39) rfl rfl (L' := #[.val (.int x0), .val (.int dd), .val (.int ((10 : Int32) * ((10 : Int32) * ((10 : Int32) * ((10 : Int32) * (-10 : Int32)))))), .val (.int (5 : Int32))]) rfl ?_
      refine Wk.goto X0 hx (hD d25_39) (by decide) (n := 16) (by decide) ?_
      refine Wk.iloadN X0 hx (hD d25_16) (n := 17) rfl rfl ?_
      refine Wk.bipush X0 hx (hD d25_17) (n := 19) rfl (z := (10 : Int32)) rfl ?_
      have hc19_9 : (5 : Int32) < (10 : Int32) := by decide
      refine Wk.icmpNo X0 hx (hD d25_19) (n := 22) rfl (tlt hc19_9).2.1 ?_
      refine Wk.iloadN X0 hx (hD d25_22) (n := 23) rfl rfl ?_
      refine Wk.iloadN X0 hx (hD d25_23) (n := 24) rfl rfl ?_
      by_cases hc24_10 : ((10 : Int32) * ((10 : Int32) * ((10 : Int32) * ((10 : Int32) * (-10 : Int32))))) < x0
      ·
       refine Wk.icmpNo X0 hx (hD d25_24) (n := 27) rfl (tlt hc24_10).2.2.2 ?_
       refine Wk.iloadN X0 hx (hD d25_27) (n := 28) rfl rfl ?_
       refine Wk.iloadN X0 hx (hD d25_28) (n := 29) rfl rfl ?_
       refine Wk.iadd X0 hx (hD d25_29) (n := 30) rfl ?_
       have hlen : (dl (mg p1)).length = 5 := own_ssz (k := 4) ex0 (mg_le p1) (by decide) rfl hc24_10 (Or.inr ⟨_, hc24_8, rfl⟩)
       exact Wk.leave X0 (v := some (.int ((5 : Int32) + dd))) (fun h => by rw [Bd.returns] at h; cases h) hlk e0 ⟨(congrArg (fun z => some (Value.int z)) (by rw [List.length_append, hsg, hlen, Nat.add_comm]; exact own_ofadd 5 _)), N0, rfl⟩ (by decide) (by decide) (fun fs hr => retI X0 hx Bd.returns (hD d25_30) hr)
      ·
       refine Wk.icmpYes X0 hx (hD d25_24) (flt hc24_10).2.2.2 (by decide) (n := 31) (by decide) ?_
       refine Wk.bipush X0 hx (hD d25_31) (n := 33) rfl (z := (10 : Int32)) rfl ?_
       refine Wk.iloadN X0 hx (hD d25_33) (n := 34) rfl rfl ?_
       refine Wk.imul X0 hx (hD d25_34) (n := 35) rfl ?_
       refine Wk.istoreN X0 hx (hD d25_35) (n := 36) rfl (L' := #[.val (.int x0), .val (.int dd), .val (.int ((10 : Int32) * ((10 : Int32) * ((10 : Int32) * ((10 : Int32) * ((10 : Int32) * (-10 : Int32))))))), .val (.int (5 : Int32))]) rfl ?_
       refine Wk.iinc X0 hx (hD d25_36) (n := 39) rfl rfl (L' := #[.val (.int x0), .val (.int dd), .val (.int ((10 : Int32) * ((10 : Int32) * ((10 : Int32) * ((10 : Int32) * ((10 : Int32) * (-10 : Int32))))))), .val (.int (6 : Int32))]) rfl ?_
       refine Wk.goto X0 hx (hD d25_39) (by decide) (n := 16) (by decide) ?_
       refine Wk.iloadN X0 hx (hD d25_16) (n := 17) rfl rfl ?_
       refine Wk.bipush X0 hx (hD d25_17) (n := 19) rfl (z := (10 : Int32)) rfl ?_
       have hc19_11 : (6 : Int32) < (10 : Int32) := by decide
       refine Wk.icmpNo X0 hx (hD d25_19) (n := 22) rfl (tlt hc19_11).2.1 ?_
       refine Wk.iloadN X0 hx (hD d25_22) (n := 23) rfl rfl ?_
       refine Wk.iloadN X0 hx (hD d25_23) (n := 24) rfl rfl ?_
       by_cases hc24_12 : ((10 : Int32) * ((10 : Int32) * ((10 : Int32) * ((10 : Int32) * ((10 : Int32) * (-10 : Int32)))))) < x0
       ·
        refine Wk.icmpNo X0 hx (hD d25_24) (n := 27) rfl (tlt hc24_12).2.2.2 ?_
        refine Wk.iloadN X0 hx (hD d25_27) (n := 28) rfl rfl ?_
        refine Wk.iloadN X0 hx (hD d25_28) (n := 29) rfl rfl ?_
        refine Wk.iadd X0 hx (hD d25_29) (n := 30) rfl ?_
        have hlen : (dl (mg p1)).length = 6 := own_ssz (k := 5) ex0 (mg_le p1) (by decide) rfl hc24_12 (Or.inr ⟨_, hc24_10, rfl⟩)
        exact Wk.leave X0 (v := some (.int ((6 : Int32) + dd))) (fun h => by rw [Bd.returns] at h; cases h) hlk e0 ⟨(congrArg (fun z => some (Value.int z)) (by rw [List.length_append, hsg, hlen, Nat.add_comm]; exact own_ofadd 6 _)), N0, rfl⟩ (by decide) (by decide) (fun fs hr => retI X0 hx Bd.returns (hD d25_30) hr)
       ·
        refine Wk.icmpYes X0 hx (hD d25_24) (flt hc24_12).2.2.2 (by decide) (n := 31) (by decide) ?_
        refine Wk.bipush X0 hx (hD d25_31) (n := 33) rfl (z := (10 : Int32)) rfl ?_
        refine Wk.iloadN X0 hx (hD d25_33) (n := 34) rfl rfl ?_
        refine Wk.imul X0 hx (hD d25_34) (n := 35) rfl ?_
        refine Wk.istoreN X0 hx (hD d25_35) (n := 36) rfl (L' := #[.val (.int x0), .val (.int dd), .val (.int ((10 : Int32) * ((10 : Int32) * ((10 : Int32) * ((10 : Int32) * ((10 : Int32) * ((10 : Int32) * (-10 : Int32)))))))), .val (.int (6 : Int32))]) rfl ?_
        refine Wk.iinc X0 hx (hD d25_36) (n := 39) rfl rfl (L' := #[.val (.int x0), .val (.int dd), .val (.int ((10 : Int32) * ((10 : Int32) * ((10 : Int32) * ((10 : Int32) * ((10 : Int32) * ((10 : Int32) * (-10 : Int32)))))))), .val (.int (7 : Int32))]) rfl ?_
        refine Wk.goto X0 hx (hD d25_39) (by decide) (n := 16) (by decide) ?_
        refine Wk.iloadN X0 hx (hD d25_16) (n := 17) rfl rfl ?_
        refine Wk.bipush X0 hx (hD d25_17) (n := 19) rfl (z := (10 : Int32)) rfl ?_
        have hc19_13 : (7 : Int32) < (10 : Int32) := by decide
        refine Wk.icmpNo X0 hx (hD d25_19) (n := 22) rfl (tlt hc19_13).2.1 ?_
        refine Wk.iloadN X0 hx (hD d25_22) (n := 23) rfl rfl ?_
        refine Wk.iloadN X0 hx (hD d25_23) (n := 24) rfl rfl ?_
        by_cases hc24_14 : ((10 : Int32) * ((10 : Int32) * ((10 : Int32) * ((10 : Int32) * ((10 : Int32) * ((10 : Int32) * (-10 : Int32))))))) < x0
        ·
         refine Wk.icmpNo X0 hx (hD d25_24) (n := 27) rfl (tlt hc24_14).2.2.2 ?_
         refine Wk.iloadN X0 hx (hD d25_27) (n := 28) rfl rfl ?_
         refine Wk.iloadN X0 hx (hD d25_28) (n := 29) rfl rfl ?_
         refine Wk.iadd X0 hx (hD d25_29) (n := 30) rfl ?_
         have hlen : (dl (mg p1)).length = 7 := own_ssz (k := 6) ex0 (mg_le p1) (by decide) rfl hc24_14 (Or.inr ⟨_, hc24_12, rfl⟩)
         exact Wk.leave X0 (v := some (.int ((7 : Int32) + dd))) (fun h => by rw [Bd.returns] at h; cases h) hlk e0 ⟨(congrArg (fun z => some (Value.int z)) (by rw [List.length_append, hsg, hlen, Nat.add_comm]; exact own_ofadd 7 _)), N0, rfl⟩ (by decide) (by decide) (fun fs hr => retI X0 hx Bd.returns (hD d25_30) hr)
        ·
         refine Wk.icmpYes X0 hx (hD d25_24) (flt hc24_14).2.2.2 (by decide) (n := 31) (by decide) ?_
         refine Wk.bipush X0 hx (hD d25_31) (n := 33) rfl (z := (10 : Int32)) rfl ?_
         refine Wk.iloadN X0 hx (hD d25_33) (n := 34) rfl rfl ?_
         refine Wk.imul X0 hx (hD d25_34) (n := 35) rfl ?_
         refine Wk.istoreN X0 hx (hD d25_35) (n := 36) rfl (L' := #[.val (.int x0), .val (.int dd), .val (.int ((10 : Int32) * ((10 : Int32) * ((10 : Int32) * ((10 : Int32) * ((10 : Int32) * ((10 : Int32) * ((10 : Int32) * (-10 : Int32))))))))), .val (.int (7 : Int32))]) rfl ?_
         refine Wk.iinc X0 hx (hD d25_36) (n := 39) rfl rfl (L' := #[.val (.int x0), .val (.int dd), .val (.int ((10 : Int32) * ((10 : Int32) * ((10 : Int32) * ((10 : Int32) * ((10 : Int32) * ((10 : Int32) * ((10 : Int32) * (-10 : Int32))))))))), .val (.int (8 : Int32))]) rfl ?_
         refine Wk.goto X0 hx (hD d25_39) (by decide) (n := 16) (by decide) ?_
         refine Wk.iloadN X0 hx (hD d25_16) (n := 17) rfl rfl ?_
         refine Wk.bipush X0 hx (hD d25_17) (n := 19) rfl (z := (10 : Int32)) rfl ?_
         have hc19_15 : (8 : Int32) < (10 : Int32) := by decide
         refine Wk.icmpNo X0 hx (hD d25_19) (n := 22) rfl (tlt hc19_15).2.1 ?_
         refine Wk.iloadN X0 hx (hD d25_22) (n := 23) rfl rfl ?_
         refine Wk.iloadN X0 hx (hD d25_23) (n := 24) rfl rfl ?_
         by_cases hc24_16 : ((10 : Int32) * ((10 : Int32) * ((10 : Int32) * ((10 : Int32) * ((10 : Int32) * ((10 : Int32) * ((10 : Int32) * (-10 : Int32)))))))) < x0
         ·
          refine Wk.icmpNo X0 hx (hD d25_24) (n := 27) rfl (tlt hc24_16).2.2.2 ?_
          refine Wk.iloadN X0 hx (hD d25_27) (n := 28) rfl rfl ?_
          refine Wk.iloadN X0 hx (hD d25_28) (n := 29) rfl rfl ?_
          refine Wk.iadd X0 hx (hD d25_29) (n := 30) rfl ?_
          have hlen : (dl (mg p1)).length = 8 := own_ssz (k := 7) ex0 (mg_le p1) (by decide) rfl hc24_16 (Or.inr ⟨_, hc24_14, rfl⟩)
          exact Wk.leave X0 (v := some (.int ((8 : Int32) + dd))) (fun h => by rw [Bd.returns] at h; cases h) hlk e0 ⟨(congrArg (fun z => some (Value.int z)) (by rw [List.length_append, hsg, hlen, Nat.add_comm]; exact own_ofadd 8 _)), N0, rfl⟩ (by decide) (by decide) (fun fs hr => retI X0 hx Bd.returns (hD d25_30) hr)
         ·
          refine Wk.icmpYes X0 hx (hD d25_24) (flt hc24_16).2.2.2 (by decide) (n := 31) (by decide) ?_
          refine Wk.bipush X0 hx (hD d25_31) (n := 33) rfl (z := (10 : Int32)) rfl ?_
          refine Wk.iloadN X0 hx (hD d25_33) (n := 34) rfl rfl ?_
          refine Wk.imul X0 hx (hD d25_34) (n := 35) rfl ?_
          refine Wk.istoreN X0 hx (hD d25_35) (n := 36) rfl (L' := #[.val (.int x0), .val (.int dd), .val (.int ((10 : Int32) * ((10 : Int32) * ((10 : Int32) * ((10 : Int32) * ((10 : Int32) * ((10 : Int32) * ((10 : Int32) * ((10 : Int32) * (-10 : Int32)))))))))), .val (.int (8 : Int32))]) rfl ?_
          refine Wk.iinc X0 hx (hD d25_36) (n := 39) rfl rfl (L' := #[.val (.int x0), .val (.int dd), .val (.int ((10 : Int32) * ((10 : Int32) * ((10 : Int32) * ((10 : Int32) * ((10 : Int32) * ((10 : Int32) * ((10 : Int32) * ((10 : Int32) * (-10 : Int32)))))))))), .val (.int (9 : Int32))]) rfl ?_
          refine Wk.goto X0 hx (hD d25_39) (by decide) (n := 16) (by decide) ?_
          refine Wk.iloadN X0 hx (hD d25_16) (n := 17) rfl rfl ?_
          refine Wk.bipush X0 hx (hD d25_17) (n := 19) rfl (z := (10 : Int32)) rfl ?_
          have hc19_17 : (9 : Int32) < (10 : Int32) := by decide
          refine Wk.icmpNo X0 hx (hD d25_19) (n := 22) rfl (tlt hc19_17).2.1 ?_
          refine Wk.iloadN X0 hx (hD d25_22) (n := 23) rfl rfl ?_
          refine Wk.iloadN X0 hx (hD d25_23) (n := 24) rfl rfl ?_
          by_cases hc24_18 : ((10 : Int32) * ((10 : Int32) * ((10 : Int32) * ((10 : Int32) * ((10 : Int32) * ((10 : Int32) * ((10 : Int32) * ((10 : Int32) * (-10 : Int32))))))))) < x0
          ·
           refine Wk.icmpNo X0 hx (hD d25_24) (n := 27) rfl (tlt hc24_18).2.2.2 ?_
           refine Wk.iloadN X0 hx (hD d25_27) (n := 28) rfl rfl ?_
           refine Wk.iloadN X0 hx (hD d25_28) (n := 29) rfl rfl ?_
           refine Wk.iadd X0 hx (hD d25_29) (n := 30) rfl ?_
           have hlen : (dl (mg p1)).length = 9 := own_ssz (k := 8) ex0 (mg_le p1) (by decide) rfl hc24_18 (Or.inr ⟨_, hc24_16, rfl⟩)
           exact Wk.leave X0 (v := some (.int ((9 : Int32) + dd))) (fun h => by rw [Bd.returns] at h; cases h) hlk e0 ⟨(congrArg (fun z => some (Value.int z)) (by rw [List.length_append, hsg, hlen, Nat.add_comm]; exact own_ofadd 9 _)), N0, rfl⟩ (by decide) (by decide) (fun fs hr => retI X0 hx Bd.returns (hD d25_30) hr)
          ·
           refine Wk.icmpYes X0 hx (hD d25_24) (flt hc24_18).2.2.2 (by decide) (n := 31) (by decide) ?_
           refine Wk.bipush X0 hx (hD d25_31) (n := 33) rfl (z := (10 : Int32)) rfl ?_
           refine Wk.iloadN X0 hx (hD d25_33) (n := 34) rfl rfl ?_
           refine Wk.imul X0 hx (hD d25_34) (n := 35) rfl ?_
           refine Wk.istoreN X0 hx (hD d25_35) (n := 36) rfl (L' := #[.val (.int x0), .val (.int dd), .val (.int ((10 : Int32) * ((10 : Int32) * ((10 : Int32) * ((10 : Int32) * ((10 : Int32) * ((10 : Int32) * ((10 : Int32) * ((10 : Int32) * ((10 : Int32) * (-10 : Int32))))))))))), .val (.int (9 : Int32))]) rfl ?_
           refine Wk.iinc X0 hx (hD d25_36) (n := 39) rfl rfl (L' := #[.val (.int x0), .val (.int dd), .val (.int ((10 : Int32) * ((10 : Int32) * ((10 : Int32) * ((10 : Int32) * ((10 : Int32) * ((10 : Int32) * ((10 : Int32) * ((10 : Int32) * ((10 : Int32) * (-10 : Int32))))))))))), .val (.int (10 : Int32))]) rfl ?_
           refine Wk.goto X0 hx (hD d25_39) (by decide) (n := 16) (by decide) ?_
           refine Wk.iloadN X0 hx (hD d25_16) (n := 17) rfl rfl ?_
           refine Wk.bipush X0 hx (hD d25_17) (n := 19) rfl (z := (10 : Int32)) rfl ?_
           have hc19_19 : ¬ ((10 : Int32) < (10 : Int32)) := by decide
           refine Wk.icmpYes X0 hx (hD d25_19) (flt hc19_19).2.1 (by decide) (n := 42) (by decide) ?_
           refine Wk.bipush X0 hx (hD d25_42) (n := 44) rfl (z := (10 : Int32)) rfl ?_
           refine Wk.iloadN X0 hx (hD d25_44) (n := 45) rfl rfl ?_
           refine Wk.iadd X0 hx (hD d25_45) (n := 46) rfl ?_
           have hlen : (dl (mg p1)).length = 10 := own_ssx ex0 (mg_le p1) hc24_18 rfl
           exact Wk.leave X0 (v := some (.int ((10 : Int32) + dd))) (fun h => by rw [Bd.returns] at h; cases h) hlk e0 ⟨(congrArg (fun z => some (Value.int z)) (by rw [List.length_append, hsg, hlen, Nat.add_comm]; exact own_ofadd 10 _)), N0, rfl⟩ (by decide) (by decide) (fun fs hr => retI X0 hx Bd.returns (hD d25_46) hr)
 refine Wk.iconst X0 hx (hD d25_0) (n := 1) rfl (z := (1 : Int32)) rfl ?_
 refine Wk.istoreN X0 hx (hD d25_1) (n := 2) rfl (L' := #[.val (.int p1), .val (.int (1 : Int32)), .unset, .unset]) rfl ?_
 refine Wk.iloadN X0 hx (hD d25_2) (n := 3) rfl rfl ?_
 by_cases hc3 : p1 < (0 : Int32)
 ·
  refine Wk.ifYes X0 hx (hD d25_3) ((if0 _ _).trans (tlt hc3).1) (by decide) (n := 11) (by decide) ?_
  exact jss _ _ (own_mg p1 hc3) (by unfold sgl; rw [if_pos hc3]; rfl)
 ·
  refine Wk.ifNo X0 hx (hD d25_3) (n := 6) rfl ((if0 _ _).trans (flt hc3).1) ?_
  refine Wk.iconst X0 hx (hD d25_6) (n := 7) rfl (z := (0 : Int32)) rfl ?_
  refine Wk.istoreN X0 hx (hD d25_7) (n := 8) rfl (L' := #[.val (.int p1), .val (.int (0 : Int32)), .unset, .unset]) rfl ?_
  refine Wk.iloadN X0 hx (hD d25_8) (n := 9) rfl rfl ?_
  refine Wk.ineg X0 hx (hD d25_9) (n := 10) rfl ?_
  refine Wk.istoreN X0 hx (hD d25_10) (n := 11) rfl (L' := #[.val (.int (-p1)), .val (.int (0 : Int32)), .unset, .unset]) rfl ?_
  exact jss _ _ (own_mg2 p1 hc3) (by unfold sgl; rw [if_neg hc3]; rfl)
def Q_sbGC (Z : State) (p1 : Int32) (i1 : Int32) (t1 : Addr) (k1 : ClassId) (cs : List Int32) (dO : Addr) (kO : ClassId) (dT : Addr) (kT : ClassId) (Nz : Nat) (h0 : Heap) (n0 : Nat) (v : Option Value) (h : Heap) (L : List Loc) : Prop := ∃ (z : Int32), v = some (.int z) ∧ Fr n0 L ∧ Keep h0 h [t1] ∧ Arv Z h t1 k1 .byte (Int32.ofNat Nz) (bsV (cs ++ (sgl p1 ++ dl (mg p1)))) (.int (0 : Int32))
theorem ef_sbGC (m : MethodId) (x0 : Int32) (x1 : Int32) (x2 : Addr) : entryFrame m #[(.int x0), (.int x1), (.ref x2)] 7 = mkF m 0 #[.val (.int x0), .val (.int x1), .val (.ref x2), .unset, .unset, .unset, .unset] [] := by first | (simp [entryFrame, mkF, argsToLocals, Value.category]; done) | rfl
theorem d26_22 : decode B26_ 22 = .ok (.iload_n 0, 1) := by decide +kernel
theorem d26_23 : decode B26_ 23 = .ok (.bipush (-100), 2) := by decide +kernel
theorem d26_25 : decode B26_ 25 = .ok (.if_icmp .gt 47, 3) := by decide +kernel
theorem d26_72 : decode B26_ 72 = .ok (.aload_n 2, 1) := by decide +kernel
theorem d26_73 : decode B26_ 73 = .ok (.iinc 5 (-1), 3) := by decide +kernel
theorem d26_76 : decode B26_ 76 = .ok (.iload 5, 2) := by decide +kernel
theorem d26_78 : decode B26_ 78 = .ok (.getstatic 83, 3) := by decide +kernel
theorem d26_81 : decode B26_ 81 = .ok (.iload_n 0, 1) := by decide +kernel
theorem d26_82 : decode B26_ 82 = .ok (.ineg, 1) := by decide +kernel
theorem d26_83 : decode B26_ 83 = .ok (.baload, 1) := by decide +kernel
theorem d26_84 : decode B26_ 84 = .ok (.bastore, 1) := by decide +kernel
theorem d26_85 : decode B26_ 85 = .ok (.iload_n 0, 1) := by decide +kernel
theorem d26_86 : decode B26_ 86 = .ok (.bipush (-9), 2) := by decide +kernel
theorem d26_88 : decode B26_ 88 = .ok (.if_icmp .ge 16, 3) := by decide +kernel
theorem d26_91 : decode B26_ 91 = .ok (.aload_n 2, 1) := by decide +kernel
theorem d26_92 : decode B26_ 92 = .ok (.iinc 5 (-1), 3) := by decide +kernel
theorem d26_95 : decode B26_ 95 = .ok (.iload 5, 2) := by decide +kernel
theorem d26_97 : decode B26_ 97 = .ok (.getstatic 87, 3) := by decide +kernel
theorem d26_100 : decode B26_ 100 = .ok (.iload_n 0, 1) := by decide +kernel
theorem d26_101 : decode B26_ 101 = .ok (.ineg, 1) := by decide +kernel
theorem d26_102 : decode B26_ 102 = .ok (.baload, 1) := by decide +kernel
theorem d26_103 : decode B26_ 103 = .ok (.bastore, 1) := by decide +kernel
theorem d26_104 : decode B26_ 104 = .ok (.iload 6, 2) := by decide +kernel
theorem d26_106 : decode B26_ 106 = .ok (.ifCond .eq 12, 3) := by decide +kernel
theorem d26_118 : decode B26_ 118 = .ok (.iload 5, 2) := by decide +kernel
theorem d26_120 : decode B26_ 120 = .ok (.ireturn, 1) := by decide +kernel
theorem d26_109 : decode B26_ 109 = .ok (.aload_n 2, 1) := by decide +kernel
theorem d26_110 : decode B26_ 110 = .ok (.iinc 5 (-1), 3) := by decide +kernel
theorem d26_113 : decode B26_ 113 = .ok (.iload 5, 2) := by decide +kernel
theorem d26_115 : decode B26_ 115 = .ok (.bipush 45, 2) := by decide +kernel
theorem d26_117 : decode B26_ 117 = .ok (.bastore, 1) := by decide +kernel
theorem d26_28 : decode B26_ 28 = .ok (.iload_n 0, 1) := by decide +kernel
theorem d26_29 : decode B26_ 29 = .ok (.bipush 100, 2) := by decide +kernel
theorem d26_31 : decode B26_ 31 = .ok (.idiv, 1) := by decide +kernel
theorem d26_32 : decode B26_ 32 = .ok (.istore_n 3, 1) := by decide +kernel
theorem d26_33 : decode B26_ 33 = .ok (.iload_n 3, 1) := by decide +kernel
theorem d26_34 : decode B26_ 34 = .ok (.bipush 100, 2) := by decide +kernel
theorem d26_36 : decode B26_ 36 = .ok (.imul, 1) := by decide +kernel
theorem d26_37 : decode B26_ 37 = .ok (.iload_n 0, 1) := by decide +kernel
theorem d26_38 : decode B26_ 38 = .ok (.isub, 1) := by decide +kernel
theorem d26_39 : decode B26_ 39 = .ok (.istore 4, 2) := by decide +kernel
theorem d26_41 : decode B26_ 41 = .ok (.iload_n 3, 1) := by decide +kernel
theorem d26_42 : decode B26_ 42 = .ok (.istore_n 0, 1) := by decide +kernel
theorem d26_43 : decode B26_ 43 = .ok (.aload_n 2, 1) := by decide +kernel
theorem d26_44 : decode B26_ 44 = .ok (.iinc 5 (-1), 3) := by decide +kernel
theorem d26_47 : decode B26_ 47 = .ok (.iload 5, 2) := by decide +kernel
theorem d26_49 : decode B26_ 49 = .ok (.getstatic 83, 3) := by decide +kernel
theorem d26_52 : decode B26_ 52 = .ok (.iload 4, 2) := by decide +kernel
theorem d26_54 : decode B26_ 54 = .ok (.baload, 1) := by decide +kernel
theorem d26_55 : decode B26_ 55 = .ok (.bastore, 1) := by decide +kernel
theorem d26_56 : decode B26_ 56 = .ok (.aload_n 2, 1) := by decide +kernel
theorem d26_57 : decode B26_ 57 = .ok (.iinc 5 (-1), 3) := by decide +kernel
theorem d26_60 : decode B26_ 60 = .ok (.iload 5, 2) := by decide +kernel
theorem d26_62 : decode B26_ 62 = .ok (.getstatic 87, 3) := by decide +kernel
theorem d26_65 : decode B26_ 65 = .ok (.iload 4, 2) := by decide +kernel
theorem d26_67 : decode B26_ 67 = .ok (.baload, 1) := by decide +kernel
theorem d26_68 : decode B26_ 68 = .ok (.bastore, 1) := by decide +kernel
theorem d26_69 : decode B26_ 69 = .ok (.goto (-47), 3) := by decide +kernel
theorem d26_0 : decode B26_ 0 = .ok (.iload_n 1, 1) := by decide +kernel
theorem d26_1 : decode B26_ 1 = .ok (.istore 5, 2) := by decide +kernel
theorem d26_3 : decode B26_ 3 = .ok (.iload_n 0, 1) := by decide +kernel
theorem d26_4 : decode B26_ 4 = .ok (.ifCond .ge 7, 3) := by decide +kernel
theorem d26_7 : decode B26_ 7 = .ok (.iconst 1, 1) := by decide +kernel
theorem d26_8 : decode B26_ 8 = .ok (.goto 4, 3) := by decide +kernel
theorem d26_12 : decode B26_ 12 = .ok (.istore 6, 2) := by decide +kernel
theorem d26_14 : decode B26_ 14 = .ok (.iload 6, 2) := by decide +kernel
theorem d26_16 : decode B26_ 16 = .ok (.ifCond .ne 6, 3) := by decide +kernel
theorem d26_11 : decode B26_ 11 = .ok (.iconst 0, 1) := by decide +kernel
theorem d26_19 : decode B26_ 19 = .ok (.iload_n 0, 1) := by decide +kernel
theorem d26_20 : decode B26_ 20 = .ok (.ineg, 1) := by decide +kernel
theorem d26_21 : decode B26_ 21 = .ok (.istore_n 0, 1) := by decide +kernel
theorem sbGC (hw : HW a0 Z) (ws : List Jvm.Cond) (p1 : Int32) (i1 : Int32) (t1 : Addr) (k1 : ClassId) (cs : List Int32) (dO : Addr) (kO : ClassId) (dT : Addr) (kT : ClassId) (Nz : Nat) (h0 : Heap) (n0 : Nat) (Z0 : n0 ≤ h0.size) (Ab1 : Arv Z h0 t1 k1 .byte (Int32.ofNat Nz) (bsV cs) (.int (0 : Int32))) (O1 : Old Z n0 h0) (S6 : Sta Z Z.heap "java/lang/Integer" "DigitOnes" "[B" (.ref dO)) (S7 : Sta Z Z.heap "java/lang/Integer" "DigitTens" "[B" (.ref dT)) (A6 : Arv Z Z.heap dO kO .byte (100 : Int32) dgO (.int (0 : Int32))) (A7 : Arv Z Z.heap dT kT .byte (100 : Int32) dgT (.int (0 : Int32))) (g1 : n0 ≤ t1) (hi : i1 = Int32.ofNat (cs.length + (sgl p1 ++ dl (mg p1)).length)) (hN : cs.length + (sgl p1 ++ dl (mg p1)).length ≤ Nz) (hNz : Nz ≤ 40) : MetN l Z mn27 jdk_33_method_12_code 7 (some .int) ws (rM 0 0 0 0) #[(.int p1), (.int i1), (.ref t1)] h0 (Q_sbGC Z p1 i1 t1 k1 cs dO kO dT kT Nz h0 n0) := by
 refine enterN (plainFor_of_name pn_java_lang_Integer) (fun m => ef_sbGC m _ _ _) fun p e s m below meth c s₁ Bd hZ hx hD hlk hml hown hnm X0 e0 => ?_
 have N0 := Fr.nil n0
 have K0 := Keep.refl h0 [t1]
 have lt_Ab1 := ny Ab1.lt
 have loopG : ∀ (fu : Nat) (Tj1 : State) (Hj1 : Heap) (Lcj1 : List Loc) (vz : Nat) (TL : List Int32) (rz : Nat) (i0 : Int32) (i5 : Int32) (i6 : Int32) (y3 : Slot) (y4 : Slot), (Stand p l e (rM 0 0 0 0) s m #[(.int p1), (.int i1), (.ref t1)] below meth c Tj1 Lcj1 0 0) → (Tj1.heap = Hj1) → (Keep h0 Hj1 [t1]) → (Fr n0 Lcj1) → (Arv Z Hj1 t1 k1 .byte (Int32.ofNat Nz) (bsV cs ++ List.replicate rz (Value.int (0 : Int32)) ++ bsV TL) (.int (0 : Int32))) → (Old Z n0 Hj1) → (vz < fu) → (vz ≤ 2147483648) → (i0 = Int32.ofInt (-(vz : Int))) → (i5 = Int32.ofNat (cs.length + rz)) → (sgl p1 ++ dl vz ++ TL = (sgl p1 ++ dl (mg p1))) → (rz = (sgl p1).length + (dl vz).length) → (cs.length + rz ≤ Nz) → ((p1 < 0 ∧ i6 = 1) ∨ (¬ p1 < 0 ∧ i6 = 0)) → (PlS y3) → (PlS y4) → Wk p e below (EndN s (Q_sbGC Z p1 i1 t1 k1 cs dO kO dT kT Nz h0 n0) (rM 0 0 0 0).cells (rM 0 0 0 0).slots) Tj1 (mkF m 22 #[.val (.int i0), .val (.int i1), .val (.ref t1), y3, y4, .val (.int i5), .val (.int i6)] []) := by
  intro fu
  induction fu with
  | zero => intros; exfalso; omega
  | succ fu ih =>
   intro Tj1 Hj1 Lcj1 vz TL rz i0 i5 i6 y3 y4 Xj1 ej1 Kj1 Nj1 Aj Olj1 hfu hv q0 q5 hG hr hrN q6 hy3 hy4
   have szj1 := Kj1.1
   have lt_Aj := ny Aj.lt
   refine Wk.iloadN Xj1 hx (hD d26_22) (n := 23) rfl rfl ?_
   refine Wk.bipush Xj1 hx (hD d26_23) (n := 25) rfl (z := (-100 : Int32)) rfl ?_
   by_cases hc25 : (-100 : Int32) < i0
   ·
    refine Wk.icmpYes Xj1 hx (hD d26_25) (tlt hc25).2.2.1 (by decide) (n := 72) (by decide) ?_
    have hv1 : vz < 100 := by rw [q0] at hc25; exact (own_ltn (k := 100) hv (by decide)).mp hc25
    have hp0 := dl_pos vz
    have qn : -i0 = Int32.ofNat vz := by rw [q0]; exact own_ng
    have qm : vz % 100 = vz := Nat.mod_eq_of_lt hv1
    have ja : i5 + (-1 : Int32) = Int32.ofNat (cs.length + (rz - 1)) := own_dec q5 (by omega)
    refine Wk.aloadN Xj1 hx (hD d26_72) (n := 73) rfl rfl rfl ?_
    refine Wk.iinc Xj1 hx (hD d26_73) (n := 76) rfl rfl (L' := #[.val (.int i0), .val (.int i1), .val (.ref t1), y3, y4, .val (.int (i5 + (-1 : Int32))), .val (.int i6)]) (by rcases hy3 with rfl | ⟨zz, rfl⟩ <;> rcases hy4 with rfl | ⟨zz, rfl⟩ <;> rfl) ?_
    refine Wk.iload Xj1 hx (hD d26_76) (n := 78) rfl rfl ?_
    refine Wk.getS Xj1 hx hZ hown (host := "") (Or.inl (oW hw 197 rfl)) Via.refl ej1 (Sta.ext Olj1.2 S6) (hD d26_78) (n := 81) rfl fun T2 X2 e2 => ?_
    refine Wk.iloadN X2 hx (hD d26_81) (n := 82) rfl rfl ?_
    refine Wk.ineg X2 hx (hD d26_82) (n := 83) rfl ?_
    have f4 := A6.ext Olj1.2
    obtain ⟨cl3, Ar3, qn3, Sz3, N_3, H_3, Gn3⟩ := id f4
    have hin3 : ¬ ((-i0) < 0 ∨ cl3.slots.size ≤ ((-i0)).toNatClampNeg) := inb_of Sz3 (by rw [qn]; exact ⟨own_nonneg (by omega), (own_lt (b := 100) (by omega) (by decide)).mpr (by omega)⟩)
    refine Wk.baloadBytes X2 hx hZ e2 Ar3 (v := (.int (Int32.ofNat (48 + vz % 10)))) hin3 (H_3.at hin3 (by rw [qn, own_cl (by omega)]; have q := own_dO vz; rw [qm] at q; exact q)) (hD d26_83) (n := 84) rfl ?_
    obtain ⟨cl5, Ar5, qn5, Sz5, N_5, H_5, Gn5⟩ := id Aj
    have hin5 : ¬ ((i5 + (-1 : Int32)) < 0 ∨ cl5.slots.size ≤ ((i5 + (-1 : Int32))).toNatClampNeg) := inb_of Sz5 (by rw [ja]; exact ⟨own_nonneg (by omega), (own_lt (by omega) (by omega)).mpr (by omega)⟩)
    refine Wk.stB X2 hx hZ e2 Ar5 hin5 (hD d26_84) (n := 85) rfl fun T5 H5 X5 e5 Wn5 => ?_
    have Vn5 := Arv.set Ar5 qn5 Sz5 N_5 H_5 Gn5 (fits_nar_byte _) Wn5 (cs.length + (rz - 1)) (by rw [ja]; exact own_cl (by omega)) (by simp only [List.length_append, List.length_replicate, bsV_len]; omega)
    have Un5 : Arv Z H5 t1 k1 .byte (Int32.ofNat Nz) (bsV cs ++ List.replicate (rz - 1) (Value.int (0 : Int32)) ++ bsV ((Int32.ofNat (48 + vz % 10)) :: TL)) (.int (0 : Int32)) := own_arv (own_st1 cs TL (Int32.ofNat (48 + vz % 10)) (by omega)) Vn5
    have sz5 := Wn5.size
    have K5 := Kj1.wr Wn5 (Or.inl (List.mem_of_getElem? (i := 0) rfl))
    have N5 := Fr.snoc X5 Nj1 (by omega)
    refine Wk.iloadN X5 hx (hD d26_85) (n := 86) rfl rfl ?_
    refine Wk.bipush X5 hx (hD d26_86) (n := 88) rfl (z := (-9 : Int32)) rfl ?_
    by_cases hc88 : i0 < (-9 : Int32)
    ·
     refine Wk.icmpNo X5 hx (hD d26_88) (n := 91) rfl (tlt hc88).2.1 ?_
     have hv9 : 9 < vz := by rw [q0] at hc88; exact Nat.lt_of_not_le fun q => absurd hc88 (Int32.not_lt.mpr (by rw [Int32.le_iff_toInt_le, own_oi (by omega) (by omega)]; have : (-9 : Int32).toInt = -9 := rfl; omega))
     have hdt := dl_two (n := vz) (by omega) hv1
     have hlt : (dl vz).length = 2 := by rw [hdt]; rfl
     have jb : i5 + (-1 : Int32) + (-1 : Int32) = Int32.ofNat (cs.length + (rz - 1 - 1)) := own_dec ja (by omega)
     refine Wk.aloadN X5 hx (hD d26_91) (n := 92) rfl rfl rfl ?_
     refine Wk.iinc X5 hx (hD d26_92) (n := 95) rfl rfl (L' := #[.val (.int i0), .val (.int i1), .val (.ref t1), y3, y4, .val (.int ((i5 + (-1 : Int32)) + (-1 : Int32))), .val (.int i6)]) (by rcases hy3 with rfl | ⟨zz, rfl⟩ <;> rcases hy4 with rfl | ⟨zz, rfl⟩ <;> rfl) ?_
     refine Wk.iload X5 hx (hD d26_95) (n := 97) rfl rfl ?_
     have f6 := (Olj1.wr Wn5 (by omega))
     refine Wk.getS X5 hx hZ hown (host := "") (Or.inl (oW hw 281 rfl)) Via.refl e5 (Sta.ext f6.2 S7) (hD d26_97) (n := 100) rfl fun T7 X7 e7 => ?_
     refine Wk.iloadN X7 hx (hD d26_100) (n := 101) rfl rfl ?_
     refine Wk.ineg X7 hx (hD d26_101) (n := 102) rfl ?_
     have f9 := A7.ext f6.2
     obtain ⟨cl8, Ar8, qn8, Sz8, N_8, H_8, Gn8⟩ := id f9
     have hin8 : ¬ ((-i0) < 0 ∨ cl8.slots.size ≤ ((-i0)).toNatClampNeg) := inb_of Sz8 (by rw [qn]; exact ⟨own_nonneg (by omega), (own_lt (b := 100) (by omega) (by decide)).mpr (by omega)⟩)
     refine Wk.baloadBytes X7 hx hZ e7 Ar8 (v := (.int (Int32.ofNat (48 + vz / 10 % 10)))) hin8 (H_8.at hin8 (by rw [qn, own_cl (by omega)]; have q := own_dT vz; rw [qm] at q; exact q)) (hD d26_102) (n := 103) rfl ?_
     obtain ⟨cl10, Ar10, qn10, Sz10, N_10, H_10, Gn10⟩ := id Un5
     have hin10 : ¬ (((i5 + (-1 : Int32)) + (-1 : Int32)) < 0 ∨ cl10.slots.size ≤ (((i5 + (-1 : Int32)) + (-1 : Int32))).toNatClampNeg) := inb_of Sz10 (by rw [jb]; exact ⟨own_nonneg (by omega), (own_lt (by omega) (by omega)).mpr (by omega)⟩)
     refine Wk.stB X7 hx hZ e7 Ar10 hin10 (hD d26_103) (n := 104) rfl fun T10 H10 X10 e10 Wn10 => ?_
     have Vn10 := Arv.set Ar10 qn10 Sz10 N_10 H_10 Gn10 (fits_nar_byte _) Wn10 (cs.length + ((rz - 1) - 1)) (by rw [jb]; exact own_cl (by omega)) (by simp only [List.length_append, List.length_replicate, bsV_len]; omega)
     have Un10 : Arv Z H10 t1 k1 .byte (Int32.ofNat Nz) (bsV cs ++ List.replicate ((rz - 1) - 1) (Value.int (0 : Int32)) ++ bsV ((Int32.ofNat (48 + vz / 10 % 10)) :: (Int32.ofNat (48 + vz % 10) :: TL))) (.int (0 : Int32)) := own_arv (own_st1 cs (Int32.ofNat (48 + vz % 10) :: TL) (Int32.ofNat (48 + vz / 10 % 10)) (by omega)) Vn10
     have sz10 := Wn10.size
     have K10 := K5.wr Wn10 (Or.inl (List.mem_of_getElem? (i := 0) rfl))
     have N10 := Fr.snoc X10 N5 (by omega)
     have hrem : rz - 1 - 1 = (sgl p1).length := by omega
     have hG2 : sgl p1 ++ (Int32.ofNat (48 + vz / 10 % 10) :: Int32.ofNat (48 + vz % 10) :: TL) = (sgl p1 ++ dl (mg p1)) := by rw [← hG, hdt, show vz / 10 % 10 = vz / 10 by omega]; simp
     refine Wk.iload X10 hx (hD d26_104) (n := 106) rfl rfl ?_
     by_cases hc106 : i6 = (0 : Int32)
     ·
      refine Wk.ifYes X10 hx (hD d26_106) ((if0 _ _).trans (teq hc106).1) (by decide) (n := 118) (by decide) ?_
      refine Wk.iload X10 hx (hD d26_118) (n := 120) rfl rfl ?_
      have hsg : sgl p1 = [] := (q6.resolve_left (fun q => by have q2 := q.2; rw [hc106] at q2; exact absurd q2 (by decide))).1 |> fun q => if_neg q
      have hsl : (sgl p1).length = 0 := by rw [hsg]; rfl
      exact Wk.leave X10 (v := some (.int ((i5 + (-1 : Int32)) + (-1 : Int32)))) (fun h => by rw [Bd.returns] at h; cases h) hlk e10 ⟨((i5 + (-1 : Int32)) + (-1 : Int32)), rfl, N10, K10, (own_arv (own_fin (by rw [← hG2, hsg]; rfl) (by omega)) Un10)⟩ (by decide) (by decide) (fun fs hr => retI X10 hx Bd.returns (hD d26_120) hr)
     ·
      refine Wk.ifNo X10 hx (hD d26_106) (n := 109) rfl ((if0 _ _).trans (feq hc106).1) ?_
      have hsg : sgl p1 = [45] := (q6.resolve_right (fun q => hc106 q.2)).1 |> fun q => if_pos q
      have hsl : (sgl p1).length = 1 := by rw [hsg]; rfl
      have jc : ((i5 + (-1 : Int32)) + (-1 : Int32)) + (-1 : Int32) = Int32.ofNat (cs.length + ((rz - 1 - 1) - 1)) := own_dec jb (by omega)
      refine Wk.aloadN X10 hx (hD d26_109) (n := 110) rfl rfl rfl ?_
      refine Wk.iinc X10 hx (hD d26_110) (n := 113) rfl rfl (L' := #[.val (.int i0), .val (.int i1), .val (.ref t1), y3, y4, .val (.int (((i5 + (-1 : Int32)) + (-1 : Int32)) + (-1 : Int32))), .val (.int i6)]) (by rcases hy3 with rfl | ⟨zz, rfl⟩ <;> rcases hy4 with rfl | ⟨zz, rfl⟩ <;> rfl) ?_
      refine Wk.iload X10 hx (hD d26_113) (n := 115) rfl rfl ?_
      refine Wk.bipush X10 hx (hD d26_115) (n := 117) rfl (z := (45 : Int32)) rfl ?_
      obtain ⟨cl11, Ar11, qn11, Sz11, N_11, H_11, Gn11⟩ := id Un10
      have hin11 : ¬ ((((i5 + (-1 : Int32)) + (-1 : Int32)) + (-1 : Int32)) < 0 ∨ cl11.slots.size ≤ ((((i5 + (-1 : Int32)) + (-1 : Int32)) + (-1 : Int32))).toNatClampNeg) := inb_of Sz11 (by rw [jc]; exact ⟨own_nonneg (by omega), (own_lt (by omega) (by omega)).mpr (by omega)⟩)
      refine Wk.stB X10 hx hZ e10 Ar11 hin11 (hD d26_117) (n := 118) rfl fun T11 H11 X11 e11 Wn11 => ?_
      have Vn11 := Arv.set Ar11 qn11 Sz11 N_11 H_11 Gn11 (fits_nar_byte _) Wn11 (cs.length + ((rz - 1 - 1) - 1)) (by rw [jc]; exact own_cl (by omega)) (by simp only [List.length_append, List.length_replicate, bsV_len]; omega)
      have Un11 : Arv Z H11 t1 k1 .byte (Int32.ofNat Nz) (bsV cs ++ List.replicate ((rz - 1 - 1) - 1) (Value.int (0 : Int32)) ++ bsV (45 :: (Int32.ofNat (48 + vz / 10 % 10) :: Int32.ofNat (48 + vz % 10) :: TL))) (.int (0 : Int32)) := own_arv (own_st1 cs (Int32.ofNat (48 + vz / 10 % 10) :: Int32.ofNat (48 + vz % 10) :: TL) 45 (by omega)) Vn11
      have sz11 := Wn11.size
      have K11 := K10.wr Wn11 (Or.inl (List.mem_of_getElem? (i := 0) rfl))
      have N11 := Fr.snoc X11 N10 (by omega)
      refine Wk.iload X11 hx (hD d26_118) (n := 120) rfl rfl ?_
      exact Wk.leave X11 (v := some (.int (((i5 + (-1 : Int32)) + (-1 : Int32)) + (-1 : Int32)))) (fun h => by rw [Bd.returns] at h; cases h) hlk e11 ⟨(((i5 + (-1 : Int32)) + (-1 : Int32)) + (-1 : Int32)), rfl, N11, K11, (own_arv (own_fin (by rw [← hG2, hsg]; rfl) (by omega)) Un11)⟩ (by decide) (by decide) (fun fs hr => retI X11 hx Bd.returns (hD d26_120) hr)
    ·
     refine Wk.icmpYes X5 hx (hD d26_88) (flt hc88).2.1 (by decide) (n := 104) (by decide) ?_
     have hv9 : vz < 10 := Nat.lt_of_not_le fun q => hc88 (by rw [q0, Int32.lt_iff_toInt_lt, own_oi (by omega) (by omega)]; have : (-9 : Int32).toInt = -9 := rfl; omega)
     have hdt := dl_lt hv9
     have hlt : (dl vz).length = 1 := by rw [hdt]; rfl
     have hrem : rz - 1 = (sgl p1).length := by omega
     have hG2 : sgl p1 ++ (Int32.ofNat (48 + vz % 10) :: TL) = (sgl p1 ++ dl (mg p1)) := by rw [← hG, hdt, show vz % 10 = vz by omega]; simp
     refine Wk.iload X5 hx (hD d26_104) (n := 106) rfl rfl ?_
     by_cases hc106 : i6 = (0 : Int32)
     ·
      refine Wk.ifYes X5 hx (hD d26_106) ((if0 _ _).trans (teq hc106).1) (by decide) (n := 118) (by decide) ?_
      refine Wk.iload X5 hx (hD d26_118) (n := 120) rfl rfl ?_
      have hsg : sgl p1 = [] := (q6.resolve_left (fun q => by have q2 := q.2; rw [hc106] at q2; exact absurd q2 (by decide))).1 |> fun q => if_neg q
      have hsl : (sgl p1).length = 0 := by rw [hsg]; rfl
      exact Wk.leave X5 (v := some (.int (i5 + (-1 : Int32)))) (fun h => by rw [Bd.returns] at h; cases h) hlk e5 ⟨(i5 + (-1 : Int32)), rfl, N5, K5, (own_arv (own_fin (by rw [← hG2, hsg]; rfl) (by omega)) Un5)⟩ (by decide) (by decide) (fun fs hr => retI X5 hx Bd.returns (hD d26_120) hr)
     ·
      refine Wk.ifNo X5 hx (hD d26_106) (n := 109) rfl ((if0 _ _).trans (feq hc106).1) ?_
      have hsg : sgl p1 = [45] := (q6.resolve_right (fun q => hc106 q.2)).1 |> fun q => if_pos q
      have hsl : (sgl p1).length = 1 := by rw [hsg]; rfl
      have jc : (i5 + (-1 : Int32)) + (-1 : Int32) = Int32.ofNat (cs.length + ((rz - 1) - 1)) := own_dec ja (by omega)
      refine Wk.aloadN X5 hx (hD d26_109) (n := 110) rfl rfl rfl ?_
      refine Wk.iinc X5 hx (hD d26_110) (n := 113) rfl rfl (L' := #[.val (.int i0), .val (.int i1), .val (.ref t1), y3, y4, .val (.int ((i5 + (-1 : Int32)) + (-1 : Int32))), .val (.int i6)]) (by rcases hy3 with rfl | ⟨zz, rfl⟩ <;> rcases hy4 with rfl | ⟨zz, rfl⟩ <;> rfl) ?_
      refine Wk.iload X5 hx (hD d26_113) (n := 115) rfl rfl ?_
      refine Wk.bipush X5 hx (hD d26_115) (n := 117) rfl (z := (45 : Int32)) rfl ?_
      obtain ⟨cl12, Ar12, qn12, Sz12, N_12, H_12, Gn12⟩ := id Un5
      have hin12 : ¬ (((i5 + (-1 : Int32)) + (-1 : Int32)) < 0 ∨ cl12.slots.size ≤ (((i5 + (-1 : Int32)) + (-1 : Int32))).toNatClampNeg) := inb_of Sz12 (by rw [jc]; exact ⟨own_nonneg (by omega), (own_lt (by omega) (by omega)).mpr (by omega)⟩)
      refine Wk.stB X5 hx hZ e5 Ar12 hin12 (hD d26_117) (n := 118) rfl fun T12 H12 X12 e12 Wn12 => ?_
      have Vn12 := Arv.set Ar12 qn12 Sz12 N_12 H_12 Gn12 (fits_nar_byte _) Wn12 (cs.length + ((rz - 1) - 1)) (by rw [jc]; exact own_cl (by omega)) (by simp only [List.length_append, List.length_replicate, bsV_len]; omega)
      have Un12 : Arv Z H12 t1 k1 .byte (Int32.ofNat Nz) (bsV cs ++ List.replicate ((rz - 1) - 1) (Value.int (0 : Int32)) ++ bsV (45 :: (Int32.ofNat (48 + vz % 10) :: TL))) (.int (0 : Int32)) := own_arv (own_st1 cs (Int32.ofNat (48 + vz % 10) :: TL) 45 (by omega)) Vn12
      have sz12 := Wn12.size
      have K12 := K5.wr Wn12 (Or.inl (List.mem_of_getElem? (i := 0) rfl))
      have N12 := Fr.snoc X12 N5 (by omega)
      refine Wk.iload X12 hx (hD d26_118) (n := 120) rfl rfl ?_
      exact Wk.leave X12 (v := some (.int ((i5 + (-1 : Int32)) + (-1 : Int32)))) (fun h => by rw [Bd.returns] at h; cases h) hlk e12 ⟨((i5 + (-1 : Int32)) + (-1 : Int32)), rfl, N12, K12, (own_arv (own_fin (by rw [← hG2, hsg]; rfl) (by omega)) Un12)⟩ (by decide) (by decide) (fun fs hr => retI X12 hx Bd.returns (hD d26_120) hr)
   ·
    refine Wk.icmpNo Xj1 hx (hD d26_25) (n := 28) rfl (flt hc25).2.2.1 ?_
    have hv1 : ¬ vz < 100 := fun q => hc25 (by rw [q0]; exact (own_ltn (k := 100) hv (by decide)).mpr q)
    have hp0 := dl_pos vz
    have hd2 := dl_ge2 (n := vz) (by omega)
    have hl2 : (dl vz).length = (dl (vz / 100)).length + 2 := by rw [hd2]; simp
    refine Wk.iloadN Xj1 hx (hD d26_28) (n := 29) rfl rfl ?_
    refine Wk.bipush Xj1 hx (hD d26_29) (n := 31) rfl (z := (100 : Int32)) rfl ?_
    refine Wk.idiv Xj1 hx (hD d26_31) (n := 32) rfl (by decide) ?_
    refine Wk.istoreN Xj1 hx (hD d26_32) (n := 33) rfl (L' := #[.val (.int i0), .val (.int i1), .val (.ref t1), .val (.int (i0 / (100 : Int32))), y4, .val (.int i5), .val (.int i6)]) (by rcases hy3 with rfl | ⟨zz, rfl⟩ <;> rcases hy4 with rfl | ⟨zz, rfl⟩ <;> rfl) ?_
    refine Wk.iloadN Xj1 hx (hD d26_33) (n := 34) rfl rfl ?_
    refine Wk.bipush Xj1 hx (hD d26_34) (n := 36) rfl (z := (100 : Int32)) rfl ?_
    refine Wk.imul Xj1 hx (hD d26_36) (n := 37) rfl ?_
    refine Wk.iloadN Xj1 hx (hD d26_37) (n := 38) rfl rfl ?_
    refine Wk.isub Xj1 hx (hD d26_38) (n := 39) rfl ?_
    refine Wk.istore Xj1 hx (hD d26_39) (n := 41) rfl (L' := #[.val (.int i0), .val (.int i1), .val (.ref t1), .val (.int (i0 / (100 : Int32))), .val (.int (((i0 / (100 : Int32)) * (100 : Int32)) - i0)), .val (.int i5), .val (.int i6)]) (by rcases hy3 with rfl | ⟨zz, rfl⟩ <;> rcases hy4 with rfl | ⟨zz, rfl⟩ <;> rfl) ?_
    refine Wk.iloadN Xj1 hx (hD d26_41) (n := 42) rfl rfl ?_
    refine Wk.istoreN Xj1 hx (hD d26_42) (n := 43) rfl (L' := #[.val (.int (i0 / (100 : Int32))), .val (.int i1), .val (.ref t1), .val (.int (i0 / (100 : Int32))), .val (.int (((i0 / (100 : Int32)) * (100 : Int32)) - i0)), .val (.int i5), .val (.int i6)]) (by rcases hy3 with rfl | ⟨zz, rfl⟩ <;> rcases hy4 with rfl | ⟨zz, rfl⟩ <;> rfl) ?_
    have q4 : (((i0 / (100 : Int32)) * (100 : Int32)) - i0) = Int32.ofNat (vz % 100) := by rw [q0, own_dv hv]; exact own_rm
    have ja : i5 + (-1 : Int32) = Int32.ofNat (cs.length + (rz - 1)) := own_dec q5 (by omega)
    have jb : i5 + (-1 : Int32) + (-1 : Int32) = Int32.ofNat (cs.length + (rz - 1 - 1)) := own_dec ja (by omega)
    refine Wk.aloadN Xj1 hx (hD d26_43) (n := 44) rfl rfl rfl ?_
    refine Wk.iinc Xj1 hx (hD d26_44) (n := 47) rfl rfl (L' := #[.val (.int (i0 / (100 : Int32))), .val (.int i1), .val (.ref t1), .val (.int (i0 / (100 : Int32))), .val (.int (((i0 / (100 : Int32)) * (100 : Int32)) - i0)), .val (.int (i5 + (-1 : Int32))), .val (.int i6)]) rfl ?_
    refine Wk.iload Xj1 hx (hD d26_47) (n := 49) rfl rfl ?_
    refine Wk.getS Xj1 hx hZ hown (host := "") (Or.inl (oW hw 197 rfl)) Via.refl ej1 (Sta.ext Olj1.2 S6) (hD d26_49) (n := 52) rfl fun T13 X13 e13 => ?_
    refine Wk.iload X13 hx (hD d26_52) (n := 54) rfl rfl ?_
    have f15 := A6.ext Olj1.2
    obtain ⟨cl14, Ar14, qn14, Sz14, N_14, H_14, Gn14⟩ := id f15
    have hin14 : ¬ ((((i0 / (100 : Int32)) * (100 : Int32)) - i0) < 0 ∨ cl14.slots.size ≤ ((((i0 / (100 : Int32)) * (100 : Int32)) - i0)).toNatClampNeg) := inb_of Sz14 (by rw [q4]; exact ⟨own_nonneg (by omega), (own_lt (b := 100) (by omega) (by decide)).mpr (by omega)⟩)
    refine Wk.baloadBytes X13 hx hZ e13 Ar14 (v := (.int (Int32.ofNat (48 + vz % 10)))) hin14 (H_14.at hin14 (by rw [q4, own_cl (by omega)]; have q := own_dO vz; exact q)) (hD d26_54) (n := 55) rfl ?_
    obtain ⟨cl16, Ar16, qn16, Sz16, N_16, H_16, Gn16⟩ := id Aj
    have hin16 : ¬ ((i5 + (-1 : Int32)) < 0 ∨ cl16.slots.size ≤ ((i5 + (-1 : Int32))).toNatClampNeg) := inb_of Sz16 (by rw [ja]; exact ⟨own_nonneg (by omega), (own_lt (by omega) (by omega)).mpr (by omega)⟩)
    refine Wk.stB X13 hx hZ e13 Ar16 hin16 (hD d26_55) (n := 56) rfl fun T16 H16 X16 e16 Wn16 => ?_
    have Vn16 := Arv.set Ar16 qn16 Sz16 N_16 H_16 Gn16 (fits_nar_byte _) Wn16 (cs.length + (rz - 1)) (by rw [ja]; exact own_cl (by omega)) (by simp only [List.length_append, List.length_replicate, bsV_len]; omega)
    have Un16 : Arv Z H16 t1 k1 .byte (Int32.ofNat Nz) (bsV cs ++ List.replicate (rz - 1) (Value.int (0 : Int32)) ++ bsV ((Int32.ofNat (48 + vz % 10)) :: TL)) (.int (0 : Int32)) := own_arv (own_st1 cs TL (Int32.ofNat (48 + vz % 10)) (by omega)) Vn16
    have sz16 := Wn16.size
    have K16 := Kj1.wr Wn16 (Or.inl (List.mem_of_getElem? (i := 0) rfl))
    have N16 := Fr.snoc X16 Nj1 (by omega)
    refine Wk.aloadN X16 hx (hD d26_56) (n := 57) rfl rfl rfl ?_
    refine Wk.iinc X16 hx (hD d26_57) (n := 60) rfl rfl (L' := #[.val (.int (i0 / (100 : Int32))), .val (.int i1), .val (.ref t1), .val (.int (i0 / (100 : Int32))), .val (.int (((i0 / (100 : Int32)) * (100 : Int32)) - i0)), .val (.int ((i5 + (-1 : Int32)) + (-1 : Int32))), .val (.int i6)]) rfl ?_
    refine Wk.iload X16 hx (hD d26_60) (n := 62) rfl rfl ?_
    have f17 := (Olj1.wr Wn16 (by omega))
    refine Wk.getS X16 hx hZ hown (host := "") (Or.inl (oW hw 281 rfl)) Via.refl e16 (Sta.ext f17.2 S7) (hD d26_62) (n := 65) rfl fun T18 X18 e18 => ?_
    refine Wk.iload X18 hx (hD d26_65) (n := 67) rfl rfl ?_
    have f20 := A7.ext f17.2
    obtain ⟨cl19, Ar19, qn19, Sz19, N_19, H_19, Gn19⟩ := id f20
    have hin19 : ¬ ((((i0 / (100 : Int32)) * (100 : Int32)) - i0) < 0 ∨ cl19.slots.size ≤ ((((i0 / (100 : Int32)) * (100 : Int32)) - i0)).toNatClampNeg) := inb_of Sz19 (by rw [q4]; exact ⟨own_nonneg (by omega), (own_lt (b := 100) (by omega) (by decide)).mpr (by omega)⟩)
    refine Wk.baloadBytes X18 hx hZ e18 Ar19 (v := (.int (Int32.ofNat (48 + vz / 10 % 10)))) hin19 (H_19.at hin19 (by rw [q4, own_cl (by omega)]; have q := own_dT vz; exact q)) (hD d26_67) (n := 68) rfl ?_
    obtain ⟨cl21, Ar21, qn21, Sz21, N_21, H_21, Gn21⟩ := id Un16
    have hin21 : ¬ (((i5 + (-1 : Int32)) + (-1 : Int32)) < 0 ∨ cl21.slots.size ≤ (((i5 + (-1 : Int32)) + (-1 : Int32))).toNatClampNeg) := inb_of Sz21 (by rw [jb]; exact ⟨own_nonneg (by omega), (own_lt (by omega) (by omega)).mpr (by omega)⟩)
    refine Wk.stB X18 hx hZ e18 Ar21 hin21 (hD d26_68) (n := 69) rfl fun T21 H21 X21 e21 Wn21 => ?_
    have Vn21 := Arv.set Ar21 qn21 Sz21 N_21 H_21 Gn21 (fits_nar_byte _) Wn21 (cs.length + ((rz - 1) - 1)) (by rw [jb]; exact own_cl (by omega)) (by simp only [List.length_append, List.length_replicate, bsV_len]; omega)
    have Un21 : Arv Z H21 t1 k1 .byte (Int32.ofNat Nz) (bsV cs ++ List.replicate ((rz - 1) - 1) (Value.int (0 : Int32)) ++ bsV ((Int32.ofNat (48 + vz / 10 % 10)) :: (Int32.ofNat (48 + vz % 10) :: TL))) (.int (0 : Int32)) := own_arv (own_st1 cs (Int32.ofNat (48 + vz % 10) :: TL) (Int32.ofNat (48 + vz / 10 % 10)) (by omega)) Vn21
    have sz21 := Wn21.size
    have K21 := K16.wr Wn21 (Or.inl (List.mem_of_getElem? (i := 0) rfl))
    have N21 := Fr.snoc X21 N16 (by omega)
    refine Wk.goto X21 hx (hD d26_69) (by decide) (n := 22) (by decide) ?_
    have hd2 := dl_ge2 (n := vz) (by omega)
    have hl2 : (dl vz).length = (dl (vz / 100)).length + 2 := by rw [hd2]; simp
    have f22 := (f17.wr Wn21 (by omega))
    exact ih T21 H21 _ (vz / 100) (Int32.ofNat (48 + vz / 10 % 10) :: Int32.ofNat (48 + vz % 10) :: TL) (rz - 1 - 1) (i0 / (100 : Int32)) ((i5 + (-1 : Int32)) + (-1 : Int32)) i6 (.val (.int (i0 / (100 : Int32)))) (.val (.int (((i0 / (100 : Int32)) * (100 : Int32)) - i0))) (X21.mono (by decide) (by decide)) e21 K21 N21 Un21 f22 (by omega) (by omega) (by rw [q0]; exact own_dv hv) jb (by rw [← hG, hd2]; simp) (by omega) (by omega) q6 (Or.inr ⟨_, rfl⟩) (Or.inr ⟨_, rfl⟩)
 refine Wk.iloadN X0 hx (hD d26_0) (n := 1) rfl rfl ?_
 refine Wk.istore X0 hx (hD d26_1) (n := 3) rfl (L' := #[.val (.int p1), .val (.int i1), .val (.ref t1), .unset, .unset, .val (.int i1), .unset]) rfl ?_
 refine Wk.iloadN X0 hx (hD d26_3) (n := 4) rfl rfl ?_
 by_cases hc4 : p1 < (0 : Int32)
 ·
  refine Wk.ifNo X0 hx (hD d26_4) (n := 7) rfl ((if0 _ _).trans (tlt hc4).2.1) ?_
  refine Wk.iconst X0 hx (hD d26_7) (n := 8) rfl (z := (1 : Int32)) rfl ?_
  refine Wk.goto X0 hx (hD d26_8) (by decide) (n := 12) (by decide) ?_
  refine Wk.istore X0 hx (hD d26_12) (n := 14) rfl (L' := #[.val (.int p1), .val (.int i1), .val (.ref t1), .unset, .unset, .val (.int i1), .val (.int (1 : Int32))]) rfl ?_
  refine Wk.iload X0 hx (hD d26_14) (n := 16) rfl rfl ?_
  have hc16_23 : ¬ ((1 : Int32) = (0 : Int32)) := by decide
  refine Wk.ifYes X0 hx (hD d26_16) ((if0 _ _).trans (feq hc16_23).2) (by decide) (n := 22) (by decide) ?_
  have hGl : (sgl p1 ++ dl (mg p1)).length = (sgl p1).length + (dl (mg p1)).length := List.length_append
  exact loopG (mg p1 + 1) s₁ h0 _ (mg p1) ([]) ((sgl p1 ++ dl (mg p1)).length) p1 i1 (1 : Int32) Slot.unset Slot.unset (X0.mono (by decide) (by decide)) e0 K0 N0 (Arv.pad Ab1 (own_pd0 cs _)) O1 (Nat.lt_succ_self _) (mg_le p1) (own_mg p1 hc4) hi (by simp) hGl (by omega) (Or.inl ⟨hc4, rfl⟩) (Or.inl rfl) (Or.inl rfl)
 ·
  refine Wk.ifYes X0 hx (hD d26_4) ((if0 _ _).trans (flt hc4).2.1) (by decide) (n := 11) (by decide) ?_
  refine Wk.iconst X0 hx (hD d26_11) (n := 12) rfl (z := (0 : Int32)) rfl ?_
  refine Wk.istore X0 hx (hD d26_12) (n := 14) rfl (L' := #[.val (.int p1), .val (.int i1), .val (.ref t1), .unset, .unset, .val (.int i1), .val (.int (0 : Int32))]) rfl ?_
  refine Wk.iload X0 hx (hD d26_14) (n := 16) rfl rfl ?_
  have hc16_24 : (0 : Int32) = (0 : Int32) := rfl
  refine Wk.ifNo X0 hx (hD d26_16) (n := 19) rfl ((if0 _ _).trans (teq hc16_24).2) ?_
  refine Wk.iloadN X0 hx (hD d26_19) (n := 20) rfl rfl ?_
  refine Wk.ineg X0 hx (hD d26_20) (n := 21) rfl ?_
  refine Wk.istoreN X0 hx (hD d26_21) (n := 22) rfl (L' := #[.val (.int (-p1)), .val (.int i1), .val (.ref t1), .unset, .unset, .val (.int i1), .val (.int (0 : Int32))]) rfl ?_
  have hGl : (sgl p1 ++ dl (mg p1)).length = (sgl p1).length + (dl (mg p1)).length := List.length_append
  exact loopG (mg p1 + 1) s₁ h0 _ (mg p1) ([]) ((sgl p1 ++ dl (mg p1)).length) (-p1) i1 (0 : Int32) Slot.unset Slot.unset (X0.mono (by decide) (by decide)) e0 K0 N0 (Arv.pad Ab1 (own_pd0 cs _)) O1 (Nat.lt_succ_self _) (mg_le p1) (own_mg2 p1 hc4) hi (by simp) hGl (by omega) (Or.inr ⟨hc4, rfl⟩) (Or.inl rfl) (Or.inl rfl)
def Q_sbAI (Z : State) (a1 : Addr) (p1 : Int32) (t1 : Addr) (k1 : ClassId) (cs : List Int32) (zc : Int32) (dO : Addr) (kO : ClassId) (dT : Addr) (kT : ClassId) (Nz : Nat) (h0 : Heap) (n0 : Nat) (v : Option Value) (h : Heap) (L : List Loc) : Prop := v = some (.ref a1) ∧ Fr n0 L ∧ Keep h0 h [a1, t1] ∧ Exa Z h a1 "java/lang/StringBuilder" ∧ Fld Z h a1 "java/lang/AbstractStringBuilder" "value" "[B" (.ref t1) ∧ Fld Z h a1 "java/lang/AbstractStringBuilder" "coder" "B" (.int (0 : Int32)) ∧ Fld Z h a1 "java/lang/AbstractStringBuilder" "count" "I" (.int (Int32.ofNat (cs ++ (sgl p1 ++ dl (mg p1))).length)) ∧ Arv Z h t1 k1 .byte (Int32.ofNat Nz) (bsV (cs ++ (sgl p1 ++ dl (mg p1)))) (.int (0 : Int32)) ∧ Exa Z h t1 "[B"
theorem ef_sbAI (m : MethodId) (x0 : Addr) (x1 : Int32) : entryFrame m #[(.ref x0), (.int x1)] 4 = mkF m 0 #[.val (.ref x0), .val (.int x1), .unset, .unset] [] := by first | (simp [entryFrame, mkF, argsToLocals, Value.category]; done) | rfl
theorem d27_0 : decode B27_ 0 = .ok (.aload_n 0, 1) := by decide +kernel
theorem d27_1 : decode B27_ 1 = .ok (.getfield 79, 3) := by decide +kernel
theorem d27_4 : decode B27_ 4 = .ok (.istore_n 2, 1) := by decide +kernel
theorem d27_5 : decode B27_ 5 = .ok (.iload_n 2, 1) := by decide +kernel
theorem d27_6 : decode B27_ 6 = .ok (.iload_n 1, 1) := by decide +kernel
theorem d27_7 : decode B27_ 7 = .ok (.invokestatic 245, 3) := by decide +kernel
theorem pd_17 : parseMethodDescriptor "(I)I" = some ⟨[.int], some .int⟩ := by decide +kernel
theorem d27_10 : decode B27_ 10 = .ok (.iadd, 1) := by decide +kernel
theorem d27_11 : decode B27_ 11 = .ok (.istore_n 3, 1) := by decide +kernel
theorem d27_12 : decode B27_ 12 = .ok (.aload_n 0, 1) := by decide +kernel
theorem d27_13 : decode B27_ 13 = .ok (.iload_n 3, 1) := by decide +kernel
theorem d27_14 : decode B27_ 14 = .ok (.invokevirtual 100, 3) := by decide +kernel
theorem d27_17 : decode B27_ 17 = .ok (.aload_n 0, 1) := by decide +kernel
theorem d27_18 : decode B27_ 18 = .ok (.invokevirtual 83, 3) := by decide +kernel
theorem d27_21 : decode B27_ 21 = .ok (.ifCond .eq 16, 3) := by decide +kernel
theorem d27_24 : decode B27_ 24 = .ok (.iload_n 1, 1) := by decide +kernel
theorem d27_25 : decode B27_ 25 = .ok (.iload_n 3, 1) := by decide +kernel
theorem d27_26 : decode B27_ 26 = .ok (.aload_n 0, 1) := by decide +kernel
theorem d27_27 : decode B27_ 27 = .ok (.getfield 15, 3) := by decide +kernel
theorem d27_30 : decode B27_ 30 = .ok (.invokestatic 248, 3) := by decide +kernel
theorem pd_18 : parseMethodDescriptor "(II[B)I" = some ⟨[.int, .int, (.array .byte)], some .int⟩ := by decide +kernel
theorem d27_33 : decode B27_ 33 = .ok (.pop, 1) := by decide +kernel
theorem d27_34 : decode B27_ 34 = .ok (.goto 14, 3) := by decide +kernel
theorem d27_48 : decode B27_ 48 = .ok (.aload_n 0, 1) := by decide +kernel
theorem d27_49 : decode B27_ 49 = .ok (.iload_n 3, 1) := by decide +kernel
theorem d27_50 : decode B27_ 50 = .ok (.putfield 79, 3) := by decide +kernel
theorem d27_53 : decode B27_ 53 = .ok (.aload_n 0, 1) := by decide +kernel
theorem d27_54 : decode B27_ 54 = .ok (.areturn, 1) := by decide +kernel
theorem sbAI (hw : HW a0 Z) (ws : List Jvm.Cond) (a1 : Addr) (p1 : Int32) (t1 : Addr) (k1 : ClassId) (cs : List Int32) (zc : Int32) (dO : Addr) (kO : ClassId) (dT : Addr) (kT : ClassId) (Nz : Nat) (h0 : Heap) (n0 : Nat) (Z0 : n0 ≤ h0.size) (Eb1 : Exa Z h0 a1 "java/lang/StringBuilder") (Gv1 : Fld Z h0 a1 "java/lang/AbstractStringBuilder" "value" "[B" (.ref t1)) (Gc1 : Fld Z h0 a1 "java/lang/AbstractStringBuilder" "coder" "B" (.int (0 : Int32))) (Gn1 : Fld Z h0 a1 "java/lang/AbstractStringBuilder" "count" "I" (.int (Int32.ofNat cs.length))) (Ab1 : Arv Z h0 t1 k1 .byte (Int32.ofNat Nz) (bsV cs) (.int (0 : Int32))) (Et1 : Exa Z h0 t1 "[B") (S4 : Sta Z Z.heap "java/lang/String" "COMPACT_STRINGS" "Z" (.int zc)) (O1 : Old Z n0 h0) (S6 : Sta Z Z.heap "java/lang/Integer" "DigitOnes" "[B" (.ref dO)) (S7 : Sta Z Z.heap "java/lang/Integer" "DigitTens" "[B" (.ref dT)) (A6 : Arv Z Z.heap dO kO .byte (100 : Int32) dgO (.int (0 : Int32))) (A7 : Arv Z Z.heap dT kT .byte (100 : Int32) dgT (.int (0 : Int32))) (hCS : ¬ zc = 0) (hN : cs.length + (sgl p1 ++ dl (mg p1)).length ≤ Nz) (g1 : n0 ≤ t1) (g2 : n0 ≤ a1) (hn2 : ¬ @Eq Nat t1 a1) (hNz : Nz ≤ 40) : MetN l Z mn28 jdk_68_method_32_code 4 (some (.object "java/lang/AbstractStringBuilder")) ws (rM 1 0 0 18) #[(.ref a1), (.int p1)] h0 (Q_sbAI Z a1 p1 t1 k1 cs zc dO kO dT kT Nz h0 n0) := by
 refine enterN (plainFor_of_name pn_java_lang_AbstractStringBuilder) (fun m => ef_sbAI m _ _) fun p e s m below meth c s₁ Bd hZ hx hD hlk hml hown hnm X0 e0 => ?_
 have N0 := Fr.nil n0
 have K0 := Keep.refl h0 [a1, t1]
 have lt_Eb1 := ny Eb1.lt
 have lt_Gv1 := ny Gv1.lt
 have lt_Gc1 := ny Gc1.lt
 have lt_Gn1 := ny Gn1.lt
 have lt_Ab1 := ny Ab1.lt
 have lt_Et1 := ny Et1.lt
 refine Wk.aloadN X0 hx (hD d27_0) (n := 1) rfl rfl rfl ?_
 refine Wk.getF X0 hx hZ hown (host := "") (Or.inl (oW hw 124 rfl)) Via.refl e0 Gn1 (hD d27_1) (n := 4) rfl fun T1 X1 e1 => ?_
 refine Wk.istoreN X1 hx (hD d27_4) (n := 5) rfl (L' := #[.val (.ref a1), .val (.int p1), .val (.int (Int32.ofNat cs.length)), .unset]) rfl ?_
 refine Wk.iloadN X1 hx (hD d27_5) (n := 6) rfl rfl ?_
 refine Wk.iloadN X1 hx (hD d27_6) (n := 7) rfl rfl ?_
 have cl2_ := fun Ls (hLs : LsOk c Ls) => Jvm.LawKit.callS X1 hx (y := mn26) hown (mW hZ hw 185 rfl) (mW hZ hw 186 rfl) (mW hZ hw 187 rfl) (mW hZ hw 188 rfl) (by decide) (backOf (W := 1) (sbSS l Z a0 hw [] p1 h0 n0 (by omega)) hZ (oW hw 188 rfl) (oW hw 187 rfl) (by decide) (by decide)) (g := mkF m 7 Ls [(.int p1), (.int (Int32.ofNat cs.length))]) rfl hLs (argsL := [(.int p1)]) (rest := [(.int (Int32.ofNat cs.length))]) (lenOf pd_17 rfl) rfl (leq0 rfl) (hD d27_7) (fun _ _ => ⟨rfl, e1, (by decide : 0 + 0 ≤ _), (by decide : 0 + 0 ≤ _)⟩)
 refine Wk.backS (n := 10) (rc := 0) (rs := 0) (Q := Q_sbSS Z p1 h0 n0) (cl2_ _ (lsok hml rfl)) fun vn2 T2 L2 X2 hQ2 => ?_
 clear cl2_
 obtain ⟨rfl, M2, e2⟩ := hQ2
 have N2 := Fr.app N0 M2
 show Wk p e below _ T2 (mkF m 10 _ [(.int (Int32.ofNat (sgl p1 ++ dl (mg p1)).length)), (.int (Int32.ofNat cs.length))])
 refine Wk.iadd X2 hx (hD d27_10) (n := 11) rfl ?_
 refine Wk.istoreN X2 hx (hD d27_11) (n := 12) rfl (L' := #[.val (.ref a1), .val (.int p1), .val (.int (Int32.ofNat cs.length)), .val (.int ((Int32.ofNat cs.length) + (Int32.ofNat (sgl p1 ++ dl (mg p1)).length)))]) rfl ?_
 refine Wk.aloadN X2 hx (hD d27_12) (n := 13) rfl rfl rfl ?_
 refine Wk.iloadN X2 hx (hD d27_13) (n := 14) rfl rfl ?_
 obtain ⟨cq3, kq3, qn3a, qn3b, qn3c⟩ := isOf hZ e2 Eb1
 have cl3_ := fun Ls (hLs : LsOk c Ls) => X2.virtualBack hx (y := mn8) (z := mn8) hown (mW hZ hw 126 rfl) (mvT hZ (own_decl (oW hw 127 rfl) (oW hw 130 rfl))) (notFace_of_selects (args := #[]) (mW hZ hw 129 rfl)) (mW hZ hw 129 rfl) (mW hZ hw 127 rfl) (by decide) (backOf (W := 0) (sbEC l Z a0 hw [] a1 ((Int32.ofNat cs.length) + (Int32.ofNat (sgl p1 ++ dl (mg p1)).length)) t1 k1 cs (cs.length + (sgl p1 ++ dl (mg p1)).length) Nz h0 n0 (by omega) Eb1 Gv1 Gc1 Ab1 Et1 (own_ofadd _ _) (by omega) (by omega)) hZ (oW hw 130 rfl) (oW hw 89 rfl) (by decide) (by decide)) qn3a qn3c (g := mkF m 14 Ls [(.int ((Int32.ofNat cs.length) + (Int32.ofNat (sgl p1 ++ dl (mg p1)).length))), (.ref a1)]) rfl hLs (Steps.refl _) (argsL := [(.int ((Int32.ofNat cs.length) + (Int32.ofNat (sgl p1 ++ dl (mg p1)).length)))]) (rest := []) (lenOf pd_3 rfl) rfl (leq0 rfl) (hD d27_14) (fun _ _ => ⟨rfl, e2, (by decide : 0 + 0 ≤ _), (by decide : 0 + 0 ≤ _)⟩)
 refine Wk.back (n := 17) (rc := 0) (rs := 0) (Q := Q_sbEC Z a1 ((Int32.ofNat cs.length) + (Int32.ofNat (sgl p1 ++ dl (mg p1)).length)) t1 k1 cs (cs.length + (sgl p1 ++ dl (mg p1)).length) Nz h0 n0) (cl3_ _ (lsok hml rfl)) fun vn3 T3 L3 X3 hQ3 => ?_
 clear cl3_
 obtain ⟨rfl, M3, e3⟩ := hQ3
 have N3 := Fr.app N2 M3
 show Wk p e below _ T3 (mkF m 17 _ [])
 refine Wk.aloadN X3 hx (hD d27_17) (n := 18) rfl rfl rfl ?_
 obtain ⟨cq4, kq4, qn4a, qn4b, qn4c⟩ := isOf hZ e3 Eb1
 have cl4_ := fun Ls (hLs : LsOk c Ls) => X3.virtualBack hx (y := mn18) (z := mn18) hown (mW hZ hw 189 rfl) (mW hZ hw 190 rfl) (notFace_of_selects (args := #[]) (mW hZ hw 192 rfl)) (mW hZ hw 192 rfl) (mW hZ hw 191 rfl) (by decide) (backOf (W := 0) (sbIL l Z a0 hw [] a1 zc h0 n0 (by omega) Gc1 S4 O1 hCS) hZ (oW hw 193 rfl) (oW hw 89 rfl) (by decide) (by decide)) qn4a qn4c (g := mkF m 18 Ls [(.ref a1)]) rfl hLs (Steps.refl _) (argsL := []) (rest := []) (lenOf pd_14 rfl) rfl (leq0 rfl) (hD d27_18) (fun _ _ => ⟨rfl, e3, (by decide : 0 + 0 ≤ _), (by decide : 0 + 0 ≤ _)⟩)
 refine Wk.back (n := 21) (rc := 0) (rs := 0) (Q := Q_sbIL Z a1 zc h0 n0) (cl4_ _ (lsok hml rfl)) fun vn4 T4 L4 X4 hQ4 => ?_
 clear cl4_
 obtain ⟨rfl, M4, e4⟩ := hQ4
 have N4 := Fr.app N3 M4
 show Wk p e below _ T4 (mkF m 21 _ [(.int (1 : Int32))])
 have hc21_5 : ¬ ((1 : Int32) = (0 : Int32)) := by decide
 refine Wk.ifNo X4 hx (hD d27_21) (n := 24) rfl ((if0 _ _).trans (feq hc21_5).1) ?_
 refine Wk.iloadN X4 hx (hD d27_24) (n := 25) rfl rfl ?_
 refine Wk.iloadN X4 hx (hD d27_25) (n := 26) rfl rfl ?_
 refine Wk.aloadN X4 hx (hD d27_26) (n := 27) rfl rfl rfl ?_
 refine Wk.getF X4 hx hZ hown (host := "") (Or.inl (oW hw 93 rfl)) Via.refl e4 Gv1 (hD d27_27) (n := 30) rfl fun T6 X6 e6 => ?_
 have cl7_ := fun Ls (hLs : LsOk c Ls) => Jvm.LawKit.callS X6 hx (y := mn27) hown (mW hZ hw 194 rfl) (mW hZ hw 195 rfl) (mW hZ hw 187 rfl) (mW hZ hw 196 rfl) (by decide) (backOf (W := 0) (sbGC l Z a0 hw [] p1 ((Int32.ofNat cs.length) + (Int32.ofNat (sgl p1 ++ dl (mg p1)).length)) t1 k1 cs dO kO dT kT Nz h0 n0 (by omega) Ab1 O1 S6 S7 A6 A7 (by omega) (own_ofadd _ _) (by omega) (by omega)) hZ (oW hw 196 rfl) (oW hw 187 rfl) (by decide) (by decide)) (g := mkF m 30 Ls [(.ref t1), (.int ((Int32.ofNat cs.length) + (Int32.ofNat (sgl p1 ++ dl (mg p1)).length))), (.int p1)]) rfl hLs (argsL := [(.int p1), (.int ((Int32.ofNat cs.length) + (Int32.ofNat (sgl p1 ++ dl (mg p1)).length))), (.ref t1)]) (rest := []) (lenOf pd_18 rfl) rfl (leq0 rfl) (hD d27_30) (fun _ _ => ⟨rfl, e6, (by decide : 0 + 0 ≤ _), (by decide : 0 + 0 ≤ _)⟩)
 refine Wk.backS (n := 33) (rc := 0) (rs := 0) (Q := Q_sbGC Z p1 ((Int32.ofNat cs.length) + (Int32.ofNat (sgl p1 ++ dl (mg p1)).length)) t1 k1 cs dO kO dT kT Nz h0 n0) (cl7_ _ (lsok hml rfl)) fun vn7 T7 L7 X7 hQ7 => ?_
 clear cl7_
 obtain ⟨z_7, rfl, M7, J7, p7_0⟩ := hQ7
 have N7 := Fr.app N4 M7
 have sz7 := J7.1
 have K7 := K0.trans J7 (allS (Or.inl (List.mem_of_getElem? (i := 1) rfl)) all0)
 have lt_p7_0 := ny p7_0.lt
 show Wk p e below _ T7 (mkF m 33 _ [(.int z_7)])
 refine Wk.pop X7 hx (hD d27_33) (n := 34) rfl rfl ?_
 refine Wk.goto X7 hx (hD d27_34) (by decide) (n := 48) (by decide) ?_
 refine Wk.aloadN X7 hx (hD d27_48) (n := 49) rfl rfl rfl ?_
 refine Wk.iloadN X7 hx (hD d27_49) (n := 50) rfl rfl ?_
 have f8 := (Gn1.keep J7 (ninS (nz (by omega)) nin0))
 have f9 := (Eb1.keep J7)
 refine Wk.putF X7 hx hZ hown (host := "") (Or.inl (oW hw 124 rfl)) Via.refl rfl f8 f9 (Or.inl (oW hw 125 rfl)) (oW hw 80 rfl) (ty := .int) (by decide) rfl rfl (hD d27_50) (n := 53) rfl fun T10 H10 X10 e10 Wn10 => ?_
 have sz10 := Wn10.size
 have Fn10 := f8.same Wn10
 have K10 := K7.wr Wn10 (Or.inl (List.mem_of_getElem? (i := 0) rfl))
 have N10 := Fr.snoc X10 N7 (by omega)
 refine Wk.aloadN X10 hx (hD d27_53) (n := 54) rfl rfl rfl ?_
 have f11 := (f9.wr Wn10)
 have f12 := ((Gv1.keep J7 (ninS (nz (by omega)) nin0)).other Wn10 (Or.inr (slot_ne (Or.inl (oW hw 94 rfl)) (Or.inl (oW hw 125 rfl)) (by decide) (t := (.array .byte)) (t' := .int) (by decide) (by decide))))
 have f13 := ((Gc1.keep J7 (ninS (nz (by omega)) nin0)).other Wn10 (Or.inr (slot_ne (Or.inl (oW hw 96 rfl)) (Or.inl (oW hw 125 rfl)) (by decide) (t := .byte) (t' := .int) (by decide) (by decide))))
 have f14 := (p7_0.other Wn10 (nz (by omega)))
 have f15 := ((Et1.keep J7).wr Wn10)
 exact Wk.leave X10 (v := some (.ref a1)) (fun h => by rw [Bd.returns] at h; cases h) hlk e10 ⟨rfl, N10, K10, f11, f12, f13, (by have q := Fn10; rw [own_ofadd, ← List.length_append] at q; exact q), f14, f15⟩ (by decide) (by decide) (fun fs hr => retA X10 hx rfl Bd.returns rfl (hD d27_54) hr)
def Q_sbSI2 (Z : State) (a1 : Addr) (p1 : Int32) (t1 : Addr) (k1 : ClassId) (cs : List Int32) (zc : Int32) (dO : Addr) (kO : ClassId) (dT : Addr) (kT : ClassId) (Nz : Nat) (h0 : Heap) (n0 : Nat) (v : Option Value) (h : Heap) (L : List Loc) : Prop := v = some (.ref a1) ∧ Fr n0 L ∧ Keep h0 h [a1, t1] ∧ Exa Z h a1 "java/lang/StringBuilder" ∧ Fld Z h a1 "java/lang/AbstractStringBuilder" "value" "[B" (.ref t1) ∧ Fld Z h a1 "java/lang/AbstractStringBuilder" "coder" "B" (.int (0 : Int32)) ∧ Fld Z h a1 "java/lang/AbstractStringBuilder" "count" "I" (.int (Int32.ofNat (cs ++ (sgl p1 ++ dl (mg p1))).length)) ∧ Arv Z h t1 k1 .byte (Int32.ofNat Nz) (bsV (cs ++ (sgl p1 ++ dl (mg p1)))) (.int (0 : Int32)) ∧ Exa Z h t1 "[B"
theorem ef_sbSI2 (m : MethodId) (x0 : Addr) (x1 : Int32) : entryFrame m #[(.ref x0), (.int x1)] 2 = mkF m 0 #[.val (.ref x0), .val (.int x1)] [] := by first | (simp [entryFrame, mkF, argsToLocals, Value.category]; done) | rfl
theorem d28_0 : decode B28_ 0 = .ok (.aload_n 0, 1) := by decide +kernel
theorem d28_1 : decode B28_ 1 = .ok (.iload_n 1, 1) := by decide +kernel
theorem d28_2 : decode B28_ 2 = .ok (.invokespecial 53, 3) := by decide +kernel
theorem pd_19 : parseMethodDescriptor "(I)Ljava/lang/AbstractStringBuilder;" = some ⟨[.int], some (.object "java/lang/AbstractStringBuilder")⟩ := by decide +kernel
theorem d28_5 : decode B28_ 5 = .ok (.pop, 1) := by decide +kernel
theorem d28_6 : decode B28_ 6 = .ok (.aload_n 0, 1) := by decide +kernel
theorem d28_7 : decode B28_ 7 = .ok (.areturn, 1) := by decide +kernel
theorem sbSI2 (hw : HW a0 Z) (ws : List Jvm.Cond) (a1 : Addr) (p1 : Int32) (t1 : Addr) (k1 : ClassId) (cs : List Int32) (zc : Int32) (dO : Addr) (kO : ClassId) (dT : Addr) (kT : ClassId) (Nz : Nat) (h0 : Heap) (n0 : Nat) (Z0 : n0 ≤ h0.size) (Eb1 : Exa Z h0 a1 "java/lang/StringBuilder") (Gv1 : Fld Z h0 a1 "java/lang/AbstractStringBuilder" "value" "[B" (.ref t1)) (Gc1 : Fld Z h0 a1 "java/lang/AbstractStringBuilder" "coder" "B" (.int (0 : Int32))) (Gn1 : Fld Z h0 a1 "java/lang/AbstractStringBuilder" "count" "I" (.int (Int32.ofNat cs.length))) (Ab1 : Arv Z h0 t1 k1 .byte (Int32.ofNat Nz) (bsV cs) (.int (0 : Int32))) (Et1 : Exa Z h0 t1 "[B") (S4 : Sta Z Z.heap "java/lang/String" "COMPACT_STRINGS" "Z" (.int zc)) (O1 : Old Z n0 h0) (S6 : Sta Z Z.heap "java/lang/Integer" "DigitOnes" "[B" (.ref dO)) (S7 : Sta Z Z.heap "java/lang/Integer" "DigitTens" "[B" (.ref dT)) (A6 : Arv Z Z.heap dO kO .byte (100 : Int32) dgO (.int (0 : Int32))) (A7 : Arv Z Z.heap dT kT .byte (100 : Int32) dgT (.int (0 : Int32))) (hCS : ¬ zc = 0) (hN : cs.length + (sgl p1 ++ dl (mg p1)).length ≤ Nz) (g1 : n0 ≤ t1) (g2 : n0 ≤ a1) (hn2 : ¬ @Eq Nat t1 a1) (hNz : Nz ≤ 40) : MetN l Z mn29 jdk_67_method_15_code 2 (some (.object "java/lang/StringBuilder")) ws (rM 2 0 0 33) #[(.ref a1), (.int p1)] h0 (Q_sbSI2 Z a1 p1 t1 k1 cs zc dO kO dT kT Nz h0 n0) := by
 refine enterN (plainFor_of_name pn_java_lang_StringBuilder) (fun m => ef_sbSI2 m _ _) fun p e s m below meth c s₁ Bd hZ hx hD hlk hml hown hnm X0 e0 => ?_
 have N0 := Fr.nil n0
 have K0 := Keep.refl h0 [a1, t1]
 have lt_Eb1 := ny Eb1.lt
 have lt_Gv1 := ny Gv1.lt
 have lt_Gc1 := ny Gc1.lt
 have lt_Gn1 := ny Gn1.lt
 have lt_Ab1 := ny Ab1.lt
 have lt_Et1 := ny Et1.lt
 refine Wk.aloadN X0 hx (hD d28_0) (n := 1) rfl rfl rfl ?_
 refine Wk.iloadN X0 hx (hD d28_1) (n := 2) rfl rfl ?_
 have cl1_ := fun Ls (hLs : LsOk c Ls) => superBack X0 hx hZ (y := mn28) hown (oW hw 181 rfl) (own_same (oW hw 182 rfl) (oW hw 127 rfl) (oW hw 129 rfl) (by decide)) (oW hw 182 rfl) (oW hw 111 rfl) (by decide) (backOf (W := 0) (sbAI l Z a0 hw [] a1 p1 t1 k1 cs zc dO kO dT kT Nz h0 n0 (by omega) Eb1 Gv1 Gc1 Gn1 Ab1 Et1 S4 O1 S6 S7 A6 A7 hCS (by omega) (by omega) (by omega) (by omega) (by omega)) hZ (oW hw 184 rfl) (oW hw 89 rfl) (by decide) (by decide)) e0 (Ins.self Eb1) (g := mkF m 2 Ls [(.int p1), (.ref a1)]) rfl hLs (oW hw 184 rfl) (argsL := [(.int p1)]) (rest := []) (lenOf pd_19 rfl) rfl (leq0 rfl) (hD d28_2) (fun _ _ => ⟨rfl, e0, (by decide : 0 + 0 ≤ _), (by decide : 0 + 0 ≤ _)⟩)
 refine Wk.back (n := 5) (rc := 0) (rs := 0) (Q := Q_sbAI Z a1 p1 t1 k1 cs zc dO kO dT kT Nz h0 n0) (cl1_ _ (lsok hml rfl)) fun vn1 T1 L1 X1 hQ1 => ?_
 clear cl1_
 obtain ⟨rfl, M1, J1, p1_0, p1_1, p1_2, p1_3, p1_4, p1_5⟩ := hQ1
 have N1 := Fr.app N0 M1
 have sz1 := J1.1
 have K1 := K0.trans J1 (allS (Or.inl (List.mem_of_getElem? (i := 0) rfl)) (allS (Or.inl (List.mem_of_getElem? (i := 1) rfl)) all0))
 have lt_p1_0 := ny p1_0.lt
 have lt_p1_4 := ny p1_4.lt
 show Wk p e below _ T1 (mkF m 5 _ [(.ref a1)])
 refine Wk.pop X1 hx (hD d28_5) (n := 6) rfl rfl ?_
 refine Wk.aloadN X1 hx (hD d28_6) (n := 7) rfl rfl rfl ?_
 exact Wk.leave X1 (v := some (.ref a1)) (fun h => by rw [Bd.returns] at h; cases h) hlk rfl ⟨rfl, N1, K1, p1_0, p1_1, p1_2, p1_3, p1_4, p1_5⟩ (by decide) (by decide) (fun fs hr => retA X1 hx rfl Bd.returns rfl (hD d28_7) hr)
def Q_sbMX (Z : State) (i1 : Int32) (i2 : Int32) (h0 : Heap) (n0 : Nat) (v : Option Value) (h : Heap) (L : List Loc) : Prop := v = some (.int i2) ∧ Fr n0 L ∧ h = h0
theorem ef_sbMX (m : MethodId) (x0 : Int32) (x1 : Int32) : entryFrame m #[(.int x0), (.int x1)] 2 = mkF m 0 #[.val (.int x0), .val (.int x1)] [] := by first | (simp [entryFrame, mkF, argsToLocals, Value.category]; done) | rfl
theorem d29_0 : decode B29_ 0 = .ok (.iload_n 0, 1) := by decide +kernel
theorem d29_1 : decode B29_ 1 = .ok (.iload_n 1, 1) := by decide +kernel
theorem d29_2 : decode B29_ 2 = .ok (.if_icmp .lt 7, 3) := by decide +kernel
theorem d29_9 : decode B29_ 9 = .ok (.iload_n 1, 1) := by decide +kernel
theorem d29_10 : decode B29_ 10 = .ok (.ireturn, 1) := by decide +kernel
theorem sbMX (hw : HW a0 Z) (ws : List Jvm.Cond) (i1 : Int32) (i2 : Int32) (h0 : Heap) (n0 : Nat) (Z0 : n0 ≤ h0.size) (h1 : i1 < i2) : MetN l Z mn30 jdk_29_method_65_code 2 (some .int) ws (rM 0 0 0 0) #[(.int i1), (.int i2)] h0 (Q_sbMX Z i1 i2 h0 n0) := by
 refine enterN (Jvm.Free.JP.mathPlain rfl (by decide +kernel)) (fun m => ef_sbMX m _ _) fun p e s m below meth c s₁ Bd hZ hx hD hlk hml hown hnm X0 e0 => ?_
 have N0 := Fr.nil n0
 have K0 := Keep.refl h0 []
 refine Wk.iloadN X0 hx (hD d29_0) (n := 1) rfl rfl ?_
 refine Wk.iloadN X0 hx (hD d29_1) (n := 2) rfl rfl ?_
 have hc2_1 : i1 < i2 := h1
 refine Wk.icmpYes X0 hx (hD d29_2) (tlt hc2_1).1 (by decide) (n := 9) (by decide) ?_
 refine Wk.iloadN X0 hx (hD d29_9) (n := 10) rfl rfl ?_
 exact Wk.leave X0 (v := some (.int i2)) (fun h => by rw [Bd.returns] at h; cases h) hlk e0 ⟨rfl, N0, rfl⟩ (by decide) (by decide) (fun fs hr => retI X0 hx Bd.returns (hD d29_10) hr)
def Q_sbNL (Z : State) (i0 : Int32) (i1 : Int32) (i2 : Int32) (gz : Nat) (h0 : Heap) (n0 : Nat) (v : Option Value) (h : Heap) (L : List Loc) : Prop := v = some (.int (34 : Int32)) ∧ Fr n0 L ∧ h = h0
theorem ef_sbNL (m : MethodId) (x0 : Int32) (x1 : Int32) (x2 : Int32) : entryFrame m #[(.int x0), (.int x1), (.int x2)] 4 = mkF m 0 #[.val (.int x0), .val (.int x1), .val (.int x2), .unset] [] := by first | (simp [entryFrame, mkF, argsToLocals, Value.category]; done) | rfl
theorem pn_jdk_internal_util_ArraysSupport : plainName "jdk/internal/util/ArraysSupport" = true := by first | (simp [plainName, overriddenIn]; done) | decide +kernel
theorem d30_0 : decode B30_ 0 = .ok (.iload_n 0, 1) := by decide +kernel
theorem d30_1 : decode B30_ 1 = .ok (.iload_n 1, 1) := by decide +kernel
theorem d30_2 : decode B30_ 2 = .ok (.iload_n 2, 1) := by decide +kernel
theorem d30_3 : decode B30_ 3 = .ok (.invokestatic 194, 3) := by decide +kernel
theorem d30_6 : decode B30_ 6 = .ok (.iadd, 1) := by decide +kernel
theorem d30_7 : decode B30_ 7 = .ok (.istore_n 3, 1) := by decide +kernel
theorem d30_8 : decode B30_ 8 = .ok (.iconst 0, 1) := by decide +kernel
theorem d30_9 : decode B30_ 9 = .ok (.iload_n 3, 1) := by decide +kernel
theorem d30_10 : decode B30_ 10 = .ok (.if_icmp .ge 11, 3) := by decide +kernel
theorem d30_13 : decode B30_ 13 = .ok (.iload_n 3, 1) := by decide +kernel
theorem d30_14 : decode B30_ 14 = .ok (.ldc 200, 2) := by decide +kernel
theorem d30_16 : decode B30_ 16 = .ok (.if_icmp .gt 5, 3) := by decide +kernel
theorem d30_19 : decode B30_ 19 = .ok (.iload_n 3, 1) := by decide +kernel
theorem d30_20 : decode B30_ 20 = .ok (.ireturn, 1) := by decide +kernel
theorem sbNL (hw : HW a0 Z) (ws : List Jvm.Cond) (i0 : Int32) (i1 : Int32) (i2 : Int32) (gz : Nat) (h0 : Heap) (n0 : Nat) (Z0 : n0 ≤ h0.size) (q0 : i0 = (16 : Int32)) (q1 : i1 = Int32.ofNat gz) (hg : gz ≤ 17) (q2 : i2 = (18 : Int32)) : MetN l Z mn31 jdk_48_method_27_code 4 (some .int) ws (rM 1 0 0 14) #[(.int i0), (.int i1), (.int i2)] h0 (Q_sbNL Z i0 i1 i2 gz h0 n0) := by
 refine enterN (plainFor_of_name pn_jdk_internal_util_ArraysSupport) (fun m => ef_sbNL m _ _ _) fun p e s m below meth c s₁ Bd hZ hx hD hlk hml hown hnm X0 e0 => ?_
 have N0 := Fr.nil n0
 have K0 := Keep.refl h0 []
 refine Wk.iloadN X0 hx (hD d30_0) (n := 1) rfl rfl ?_
 refine Wk.iloadN X0 hx (hD d30_1) (n := 2) rfl rfl ?_
 refine Wk.iloadN X0 hx (hD d30_2) (n := 3) rfl rfl ?_
 have cl1_ := fun Ls (hLs : LsOk c Ls) => Jvm.LawKit.callS X0 hx (y := mn30) hown (mW hZ hw 161 rfl) (mW hZ hw 162 rfl) (mW hZ hw 163 rfl) (mW hZ hw 164 rfl) (by decide) (backOf (W := 1) (sbMX l Z a0 hw [] i1 i2 h0 n0 (by omega) (by rw [q1, q2]; exact (own_lt (b := 18) (by omega) (by decide)).mpr (by omega))) hZ (oW hw 164 rfl) (oW hw 163 rfl) (by decide) (by decide)) (g := mkF m 3 Ls [(.int i2), (.int i1), (.int i0)]) rfl hLs (argsL := [(.int i1), (.int i2)]) (rest := [(.int i0)]) (lenOf pd_11 rfl) rfl (leq0 rfl) (hD d30_3) (fun _ _ => ⟨rfl, e0, (by decide : 0 + 0 ≤ _), (by decide : 0 + 0 ≤ _)⟩)
 refine Wk.backS (n := 6) (rc := 0) (rs := 0) (Q := Q_sbMX Z i1 i2 h0 n0) (cl1_ _ (lsok hml rfl)) fun vn1 T1 L1 X1 hQ1 => ?_
 clear cl1_
 obtain ⟨rfl, M1, e1⟩ := hQ1
 have N1 := Fr.app N0 M1
 show Wk p e below _ T1 (mkF m 6 _ [(.int i2), (.int i0)])
 refine Wk.iadd X1 hx (hD d30_6) (n := 7) rfl ?_
 refine Wk.istoreN X1 hx (hD d30_7) (n := 8) rfl (L' := #[.val (.int i0), .val (.int i1), .val (.int i2), .val (.int (i0 + i2))]) rfl ?_
 refine Wk.iconst X1 hx (hD d30_8) (n := 9) rfl (z := (0 : Int32)) rfl ?_
 refine Wk.iloadN X1 hx (hD d30_9) (n := 10) rfl rfl ?_
 have hc10_2 : (0 : Int32) < (i0 + i2) := by rw [q0, q2]; decide
 refine Wk.icmpNo X1 hx (hD d30_10) (n := 13) rfl (tlt hc10_2).2.1 ?_
 refine Wk.iloadN X1 hx (hD d30_13) (n := 14) rfl rfl ?_
 refine Wk.ldcInt X1 hx hown (mW hZ hw 165 rfl) (hD d30_14) (n := 16) rfl ?_
 have hc16_3 : ¬ ((2147483639 : Int32) < (i0 + i2)) := by rw [q0, q2]; decide
 refine Wk.icmpNo X1 hx (hD d30_16) (n := 19) rfl (flt hc16_3).2.2.1 ?_
 refine Wk.iloadN X1 hx (hD d30_19) (n := 20) rfl rfl ?_
 exact Wk.leave X1 (v := some (.int (i0 + i2))) (fun h => by rw [Bd.returns] at h; cases h) hlk e1 ⟨(congrArg (fun z => some (Value.int z)) (by rw [q0, q2]; rfl)), N1, rfl⟩ (by decide) (by decide) (fun fs hr => retI X1 hx Bd.returns (hD d30_20) hr)
def Q_sbNC (Z : State) (a1 : Addr) (i1 : Int32) (t1 : Addr) (k1 : ClassId) (cs : List Int32) (qz : Nat) (h0 : Heap) (n0 : Nat) (v : Option Value) (h : Heap) (L : List Loc) : Prop := v = some (.int (34 : Int32)) ∧ Fr n0 L ∧ h = h0
theorem ef_sbNC (m : MethodId) (x0 : Addr) (x1 : Int32) : entryFrame m #[(.ref x0), (.int x1)] 6 = mkF m 0 #[.val (.ref x0), .val (.int x1), .unset, .unset, .unset, .unset] [] := by first | (simp [entryFrame, mkF, argsToLocals, Value.category]; done) | rfl
theorem d31_0 : decode B31_ 0 = .ok (.aload_n 0, 1) := by decide +kernel
theorem d31_1 : decode B31_ 1 = .ok (.getfield 15, 3) := by decide +kernel
theorem d31_4 : decode B31_ 4 = .ok (.arraylength, 1) := by decide +kernel
theorem d31_5 : decode B31_ 5 = .ok (.istore_n 2, 1) := by decide +kernel
theorem d31_6 : decode B31_ 6 = .ok (.iload_n 1, 1) := by decide +kernel
theorem d31_7 : decode B31_ 7 = .ok (.aload_n 0, 1) := by decide +kernel
theorem d31_8 : decode B31_ 8 = .ok (.getfield 22, 3) := by decide +kernel
theorem d31_11 : decode B31_ 11 = .ok (.ishl, 1) := by decide +kernel
theorem d31_12 : decode B31_ 12 = .ok (.istore_n 3, 1) := by decide +kernel
theorem d31_13 : decode B31_ 13 = .ok (.iload_n 3, 1) := by decide +kernel
theorem d31_14 : decode B31_ 14 = .ok (.iload_n 2, 1) := by decide +kernel
theorem d31_15 : decode B31_ 15 = .ok (.isub, 1) := by decide +kernel
theorem d31_16 : decode B31_ 16 = .ok (.istore 4, 2) := by decide +kernel
theorem d31_18 : decode B31_ 18 = .ok (.iload_n 2, 1) := by decide +kernel
theorem d31_19 : decode B31_ 19 = .ok (.iload 4, 2) := by decide +kernel
theorem d31_21 : decode B31_ 21 = .ok (.iload_n 2, 1) := by decide +kernel
theorem d31_22 : decode B31_ 22 = .ok (.iconst 2, 1) := by decide +kernel
theorem d31_23 : decode B31_ 23 = .ok (.aload_n 0, 1) := by decide +kernel
theorem d31_24 : decode B31_ 24 = .ok (.getfield 22, 3) := by decide +kernel
theorem d31_27 : decode B31_ 27 = .ok (.ishl, 1) := by decide +kernel
theorem d31_28 : decode B31_ 28 = .ok (.iadd, 1) := by decide +kernel
theorem d31_29 : decode B31_ 29 = .ok (.invokestatic 114, 3) := by decide +kernel
theorem pd_20 : parseMethodDescriptor "(III)I" = some ⟨[.int, .int, .int], some .int⟩ := by decide +kernel
theorem d31_32 : decode B31_ 32 = .ok (.istore 5, 2) := by decide +kernel
theorem d31_34 : decode B31_ 34 = .ok (.iload 5, 2) := by decide +kernel
theorem d31_36 : decode B31_ 36 = .ok (.ldc 39, 2) := by decide +kernel
theorem d31_38 : decode B31_ 38 = .ok (.if_icmp .ne 13, 3) := by decide +kernel
theorem d31_51 : decode B31_ 51 = .ok (.iload 5, 2) := by decide +kernel
theorem d31_53 : decode B31_ 53 = .ok (.aload_n 0, 1) := by decide +kernel
theorem d31_54 : decode B31_ 54 = .ok (.getfield 22, 3) := by decide +kernel
theorem d31_57 : decode B31_ 57 = .ok (.ishr, 1) := by decide +kernel
theorem d31_58 : decode B31_ 58 = .ok (.ireturn, 1) := by decide +kernel
theorem sbNC (hw : HW a0 Z) (ws : List Jvm.Cond) (a1 : Addr) (i1 : Int32) (t1 : Addr) (k1 : ClassId) (cs : List Int32) (qz : Nat) (h0 : Heap) (n0 : Nat) (Z0 : n0 ≤ h0.size) (Eb1 : Exa Z h0 a1 "java/lang/StringBuilder") (Gv1 : Fld Z h0 a1 "java/lang/AbstractStringBuilder" "value" "[B" (.ref t1)) (Gc1 : Fld Z h0 a1 "java/lang/AbstractStringBuilder" "coder" "B" (.int (0 : Int32))) (Gn1 : Fld Z h0 a1 "java/lang/AbstractStringBuilder" "count" "I" (.int (Int32.ofNat cs.length))) (Ab1 : Arv Z h0 t1 k1 .byte (Int32.ofNat 16) (bsV cs) (.int (0 : Int32))) (Et1 : Exa Z h0 t1 "[B") (hi : i1 = Int32.ofNat qz) (hq1 : 16 < qz) (hq2 : qz ≤ 33) : MetN l Z mn32 jdk_68_method_10_code 6 (some .int) ws (rM 2 0 0 29) #[(.ref a1), (.int i1)] h0 (Q_sbNC Z a1 i1 t1 k1 cs qz h0 n0) := by
 refine enterN (plainFor_of_name pn_java_lang_AbstractStringBuilder) (fun m => ef_sbNC m _ _) fun p e s m below meth c s₁ Bd hZ hx hD hlk hml hown hnm X0 e0 => ?_
 have N0 := Fr.nil n0
 have K0 := Keep.refl h0 []
 have lt_Eb1 := ny Eb1.lt
 have lt_Gv1 := ny Gv1.lt
 have lt_Gc1 := ny Gc1.lt
 have lt_Gn1 := ny Gn1.lt
 have lt_Ab1 := ny Ab1.lt
 have lt_Et1 := ny Et1.lt
 refine Wk.aloadN X0 hx (hD d31_0) (n := 1) rfl rfl rfl ?_
 refine Wk.getF X0 hx hZ hown (host := "") (Or.inl (oW hw 93 rfl)) Via.refl e0 Gv1 (hD d31_1) (n := 4) rfl fun T1 X1 e1 => ?_
 obtain ⟨cl2, Ar2, qn2, Sz2, N_2, H_2, Gn2⟩ := id Ab1
 refine Wk.arrlen X1 hx hZ e1 Ar2 Sz2 N_2 (hD d31_4) (n := 5) rfl ?_
 refine Wk.istoreN X1 hx (hD d31_5) (n := 6) rfl (L' := #[.val (.ref a1), .val (.int i1), .val (.int (Int32.ofNat 16)), .unset, .unset, .unset]) rfl ?_
 refine Wk.iloadN X1 hx (hD d31_6) (n := 7) rfl rfl ?_
 refine Wk.aloadN X1 hx (hD d31_7) (n := 8) rfl rfl rfl ?_
 refine Wk.getF X1 hx hZ hown (host := "") (Or.inl (oW hw 95 rfl)) Via.refl e1 Gc1 (hD d31_8) (n := 11) rfl fun T3 X3 e3 => ?_
 refine Wk.ishl X3 hx (hD d31_11) (n := 12) rfl ?_
 refine Wk.istoreN X3 hx (hD d31_12) (n := 13) rfl (L' := #[.val (.ref a1), .val (.int i1), .val (.int (Int32.ofNat 16)), .val (.int (i1 <<< ((0 : Int32) &&& 31))), .unset, .unset]) rfl ?_
 refine Wk.iloadN X3 hx (hD d31_13) (n := 14) rfl rfl ?_
 refine Wk.iloadN X3 hx (hD d31_14) (n := 15) rfl rfl ?_
 refine Wk.isub X3 hx (hD d31_15) (n := 16) rfl ?_
 refine Wk.istore X3 hx (hD d31_16) (n := 18) rfl (L' := #[.val (.ref a1), .val (.int i1), .val (.int (Int32.ofNat 16)), .val (.int (i1 <<< ((0 : Int32) &&& 31))), .val (.int ((i1 <<< ((0 : Int32) &&& 31)) - (Int32.ofNat 16))), .unset]) rfl ?_
 refine Wk.iloadN X3 hx (hD d31_18) (n := 19) rfl rfl ?_
 refine Wk.iload X3 hx (hD d31_19) (n := 21) rfl rfl ?_
 refine Wk.iloadN X3 hx (hD d31_21) (n := 22) rfl rfl ?_
 refine Wk.iconst X3 hx (hD d31_22) (n := 23) rfl (z := (2 : Int32)) rfl ?_
 refine Wk.aloadN X3 hx (hD d31_23) (n := 24) rfl rfl rfl ?_
 refine Wk.getF X3 hx hZ hown (host := "") (Or.inl (oW hw 95 rfl)) Via.refl e3 Gc1 (hD d31_24) (n := 27) rfl fun T4 X4 e4 => ?_
 refine Wk.ishl X4 hx (hD d31_27) (n := 28) rfl ?_
 refine Wk.iadd X4 hx (hD d31_28) (n := 29) rfl ?_
 have cl5_ := fun Ls (hLs : LsOk c Ls) => Jvm.LawKit.callS X4 hx (y := mn31) hown (mW hZ hw 157 rfl) (mW hZ hw 158 rfl) (mW hZ hw 159 rfl) (mW hZ hw 160 rfl) (by decide) (backOf (W := 0) (sbNL l Z a0 hw [] (Int32.ofNat 16) ((i1 <<< ((0 : Int32) &&& 31)) - (Int32.ofNat 16)) ((Int32.ofNat 16) + ((2 : Int32) <<< ((0 : Int32) &&& 31))) (qz - 16) h0 n0 (by omega) rfl (by rw [own_shl0, hi]; exact own_ofsub (by omega)) (by omega) rfl) hZ (oW hw 160 rfl) (oW hw 159 rfl) (by decide) (by decide)) (g := mkF m 29 Ls [(.int ((Int32.ofNat 16) + ((2 : Int32) <<< ((0 : Int32) &&& 31)))), (.int ((i1 <<< ((0 : Int32) &&& 31)) - (Int32.ofNat 16))), (.int (Int32.ofNat 16))]) rfl hLs (argsL := [(.int (Int32.ofNat 16)), (.int ((i1 <<< ((0 : Int32) &&& 31)) - (Int32.ofNat 16))), (.int ((Int32.ofNat 16) + ((2 : Int32) <<< ((0 : Int32) &&& 31))))]) (rest := []) (lenOf pd_20 rfl) rfl (leq0 rfl) (hD d31_29) (fun _ _ => ⟨rfl, e4, (by decide : 0 + 0 ≤ _), (by decide : 0 + 0 ≤ _)⟩)
 refine Wk.backS (n := 32) (rc := 0) (rs := 0) (Q := Q_sbNL Z (Int32.ofNat 16) ((i1 <<< ((0 : Int32) &&& 31)) - (Int32.ofNat 16)) ((Int32.ofNat 16) + ((2 : Int32) <<< ((0 : Int32) &&& 31))) (qz - 16) h0 n0) (cl5_ _ (lsok hml rfl)) fun vn5 T5 L5 X5 hQ5 => ?_
 clear cl5_
 obtain ⟨rfl, M5, e5⟩ := hQ5
 have N5 := Fr.app N0 M5
 show Wk p e below _ T5 (mkF m 32 _ [(.int (34 : Int32))])
 refine Wk.istore X5 hx (hD d31_32) (n := 34) rfl (L' := #[.val (.ref a1), .val (.int i1), .val (.int (Int32.ofNat 16)), .val (.int (i1 <<< ((0 : Int32) &&& 31))), .val (.int ((i1 <<< ((0 : Int32) &&& 31)) - (Int32.ofNat 16))), .val (.int (34 : Int32))]) rfl ?_
 refine Wk.iload X5 hx (hD d31_34) (n := 36) rfl rfl ?_
 refine Wk.ldcInt X5 hx hown (mW hZ hw 166 rfl) (hD d31_36) (n := 38) rfl ?_
 have hc38_6 : ¬ ((34 : Int32) = (2147483647 : Int32)) := by decide
 refine Wk.icmpYes X5 hx (hD d31_38) (feq hc38_6).2 (by decide) (n := 51) (by decide) ?_
 refine Wk.iload X5 hx (hD d31_51) (n := 53) rfl rfl ?_
 refine Wk.aloadN X5 hx (hD d31_53) (n := 54) rfl rfl rfl ?_
 refine Wk.getF X5 hx hZ hown (host := "") (Or.inl (oW hw 95 rfl)) Via.refl e5 Gc1 (hD d31_54) (n := 57) rfl fun T7 X7 e7 => ?_
 refine Wk.ishr X7 hx (hD d31_57) (n := 58) rfl ?_
 exact Wk.leave X7 (v := some (.int ((34 : Int32) >>> ((0 : Int32) &&& 31)))) (fun h => by rw [Bd.returns] at h; cases h) hlk e7 ⟨(congrArg (fun z => some (Value.int z)) (own_shr0 _)), N5, rfl⟩ (by decide) (by decide) (fun fs hr => retI X7 hx Bd.returns (hD d31_58) hr)
def Q_sbM2 (Z : State) (i1 : Int32) (i2 : Int32) (h0 : Heap) (n0 : Nat) (v : Option Value) (h : Heap) (L : List Loc) : Prop := v = some (.int i1) ∧ Fr n0 L ∧ h = h0
theorem ef_sbM2 (m : MethodId) (x0 : Int32) (x1 : Int32) : entryFrame m #[(.int x0), (.int x1)] 2 = mkF m 0 #[.val (.int x0), .val (.int x1)] [] := by first | (simp [entryFrame, mkF, argsToLocals, Value.category]; done) | rfl
theorem d18_5 : decode B18_ 5 = .ok (.iload_n 0, 1) := by decide +kernel
theorem d18_6 : decode B18_ 6 = .ok (.goto 4, 3) := by decide +kernel
theorem sbM2 (hw : HW a0 Z) (ws : List Jvm.Cond) (i1 : Int32) (i2 : Int32) (h0 : Heap) (n0 : Nat) (Z0 : n0 ≤ h0.size) (h1 : ¬ i2 < i1) : MetN l Z mn19 jdk_29_method_69_code 2 (some .int) ws (rM 0 0 0 0) #[(.int i1), (.int i2)] h0 (Q_sbM2 Z i1 i2 h0 n0) := by
 refine enterN (Jvm.Free.JP.mathPlain rfl (by decide +kernel)) (fun m => ef_sbM2 m _ _) fun p e s m below meth c s₁ Bd hZ hx hD hlk hml hown hnm X0 e0 => ?_
 have N0 := Fr.nil n0
 have K0 := Keep.refl h0 []
 refine Wk.iloadN X0 hx (hD d18_0) (n := 1) rfl rfl ?_
 refine Wk.iloadN X0 hx (hD d18_1) (n := 2) rfl rfl ?_
 have hc2_1 : ¬ (i2 < i1) := h1
 refine Wk.icmpNo X0 hx (hD d18_2) (n := 5) rfl (flt hc2_1).2.2.1 ?_
 refine Wk.iloadN X0 hx (hD d18_5) (n := 6) rfl rfl ?_
 refine Wk.goto X0 hx (hD d18_6) (by decide) (n := 10) (by decide) ?_
 exact Wk.leave X0 (v := some (.int i1)) (fun h => by rw [Bd.returns] at h; cases h) hlk e0 ⟨rfl, N0, rfl⟩ (by decide) (by decide) (fun fs hr => retI X0 hx Bd.returns (hD d18_10) hr)
def Q_sbCO (Z : State) (t1 : Addr) (k1 : ClassId) (cs : List Int32) (i1 : Int32) (h0 : Heap) (n0 : Nat) (v : Option Value) (h : Heap) (L : List Loc) : Prop := ∃ (t : Addr) (kb : ClassId), v = some (.ref t) ∧ Fr n0 L ∧ Keep h0 h [] ∧ Arv Z h t kb .byte (Int32.ofNat 34) (bsV cs) (.int (0 : Int32)) ∧ Exa Z h t "[B" ∧ (h0.size ≤ t)
theorem ef_sbCO (m : MethodId) (x0 : Addr) (x1 : Int32) : entryFrame m #[(.ref x0), (.int x1)] 3 = mkF m 0 #[.val (.ref x0), .val (.int x1), .unset] [] := by first | (simp [entryFrame, mkF, argsToLocals, Value.category]; done) | rfl
theorem d32_0 : decode B32_ 0 = .ok (.iload_n 1, 1) := by decide +kernel
theorem d32_1 : decode B32_ 1 = .ok (.aload_n 0, 1) := by decide +kernel
theorem d32_2 : decode B32_ 2 = .ok (.arraylength, 1) := by decide +kernel
theorem d32_3 : decode B32_ 3 = .ok (.if_icmp .ne 11, 3) := by decide +kernel
theorem d32_14 : decode B32_ 14 = .ok (.iload_n 1, 1) := by decide +kernel
theorem d32_15 : decode B32_ 15 = .ok (.newarray .byte, 2) := by decide +kernel
theorem d32_17 : decode B32_ 17 = .ok (.astore_n 2, 1) := by decide +kernel
theorem d32_18 : decode B32_ 18 = .ok (.aload_n 0, 1) := by decide +kernel
theorem d32_19 : decode B32_ 19 = .ok (.iconst 0, 1) := by decide +kernel
theorem d32_20 : decode B32_ 20 = .ok (.aload_n 2, 1) := by decide +kernel
theorem d32_21 : decode B32_ 21 = .ok (.iconst 0, 1) := by decide +kernel
theorem d32_22 : decode B32_ 22 = .ok (.aload_n 0, 1) := by decide +kernel
theorem d32_23 : decode B32_ 23 = .ok (.arraylength, 1) := by decide +kernel
theorem d32_24 : decode B32_ 24 = .ok (.iload_n 1, 1) := by decide +kernel
theorem d32_25 : decode B32_ 25 = .ok (.invokestatic 304, 3) := by decide +kernel
theorem d32_28 : decode B32_ 28 = .ok (.invokestatic 150, 3) := by decide +kernel
theorem d32_31 : decode B32_ 31 = .ok (.aload_n 2, 1) := by decide +kernel
theorem d32_32 : decode B32_ 32 = .ok (.areturn, 1) := by decide +kernel
theorem sbCO (hw : HW a0 Z) (ws : List Jvm.Cond) (t1 : Addr) (k1 : ClassId) (cs : List Int32) (i1 : Int32) (h0 : Heap) (n0 : Nat) (Z0 : n0 ≤ h0.size) (Ab1 : Arv Z h0 t1 k1 .byte (Int32.ofNat 16) (bsV cs) (.int (0 : Int32))) (hi : i1 = (34 : Int32)) (hcs : cs.length ≤ 16) : MetN l Z mn33 jdk_65_method_121_code 3 (some (.array .byte)) ws (rM 1 1 34 32) #[(.ref t1), (.int i1)] h0 (Q_sbCO Z t1 k1 cs i1 h0 n0) := by
 refine enterN (plainFor_of_name pn_java_util_Arrays) (fun m => ef_sbCO m _ _) fun p e s m below meth c s₁ Bd hZ hx hD hlk hml hown hnm X0 e0 => ?_
 have N0 := Fr.nil n0
 have K0 := Keep.refl h0 []
 have lt_Ab1 := ny Ab1.lt
 refine Wk.iloadN X0 hx (hD d32_0) (n := 1) rfl rfl ?_
 refine Wk.aloadN X0 hx (hD d32_1) (n := 2) rfl rfl rfl ?_
 obtain ⟨cl1, Ar1, qn1, Sz1, N_1, H_1, Gn1⟩ := id Ab1
 refine Wk.arrlen X0 hx hZ e0 Ar1 Sz1 N_1 (hD d32_2) (n := 3) rfl ?_
 have hc3_2 : ¬ (i1 = (Int32.ofNat 16)) := by rw [hi]; decide
 refine Wk.icmpYes X0 hx (hD d32_3) (feq hc3_2).2 (by decide) (n := 14) (by decide) ?_
 refine Wk.iloadN X0 hx (hD d32_14) (n := 15) rfl rfl ?_
 refine Wk.newPE X0 hx hZ (oW hw 22 rfl) e0 (hD d32_15) (n := 17) rfl (by rw [hi]; decide) (cap := 34) (by rw [hi]; decide) (by decide) (by decide) (by decide) (ad := "[B") (by decide) fun T3 H3 b3 k3 gn3 X3 e3 Ex3 An3 Aq3 => ?_
 have gn3 := nx gn3
 have sz3 := Ex3.1
 have K3 := K0.ext Ex3
 have Vn3 : Arv Z H3 b3 k3 .byte i1 (List.replicate 34 (.int (0 : Int32))) (.int (0 : Int32)) := (Arv.new An3 (by rw [hi]; decide)).pad (pad_rep [] (.int (0 : Int32)) 34)
 have lt3 := ny Vn3.lt
 refine Wk.astoreN X3 hx (hD d32_17) (n := 18) rfl rfl (L' := #[.val (.ref t1), .val (.int i1), .val (.ref b3)]) rfl ?_
 refine Wk.aloadN X3 hx (hD d32_18) (n := 19) rfl rfl rfl ?_
 refine Wk.iconst X3 hx (hD d32_19) (n := 20) rfl (z := (0 : Int32)) rfl ?_
 refine Wk.aloadN X3 hx (hD d32_20) (n := 21) rfl rfl rfl ?_
 refine Wk.iconst X3 hx (hD d32_21) (n := 22) rfl (z := (0 : Int32)) rfl ?_
 refine Wk.aloadN X3 hx (hD d32_22) (n := 23) rfl rfl rfl ?_
 have f4 := (Ab1.ext Ex3)
 obtain ⟨cl5, Ar5, qn5, Sz5, N_5, H_5, Gn5⟩ := id f4
 refine Wk.arrlen X3 hx hZ e3 Ar5 Sz5 N_5 (hD d32_23) (n := 24) rfl ?_
 refine Wk.iloadN X3 hx (hD d32_24) (n := 25) rfl rfl ?_
 have cl6_ := fun Ls (hLs : LsOk c Ls) => Jvm.LawKit.callS X3 hx (y := mn19) hown (mW hZ hw 171 rfl) (mW hZ hw 172 rfl) (mW hZ hw 163 rfl) (mW hZ hw 173 rfl) (by decide) (backOf (W := 4) (sbM2 l Z a0 hw [] (Int32.ofNat 16) i1 H3 n0 (by omega) (by rw [hi]; decide)) hZ (oW hw 173 rfl) (oW hw 163 rfl) (by decide) (by decide)) (g := mkF m 25 Ls [(.int i1), (.int (Int32.ofNat 16)), (.int (0 : Int32)), (.ref b3), (.int (0 : Int32)), (.ref t1)]) rfl hLs (argsL := [(.int (Int32.ofNat 16)), (.int i1)]) (rest := [(.int (0 : Int32)), (.ref b3), (.int (0 : Int32)), (.ref t1)]) (lenOf pd_11 rfl) rfl (leq0 rfl) (hD d32_25) (fun _ _ => ⟨rfl, e3, (by decide : 1 + 0 ≤ _), (by decide : 34 + 0 ≤ _)⟩)
 refine Wk.backS (n := 28) (rc := 0) (rs := 0) (Q := Q_sbM2 Z (Int32.ofNat 16) i1 H3 n0) (cl6_ _ (lsok hml rfl)) fun vn6 T6 L6 X6 hQ6 => ?_
 clear cl6_
 obtain ⟨rfl, M6, e6⟩ := hQ6
 have N6 := Fr.app N0 M6
 show Wk p e below _ T6 (mkF m 28 _ [(.int (Int32.ofNat 16)), (.int (0 : Int32)), (.ref b3), (.int (0 : Int32)), (.ref t1)])
 refine Wk.cpA X6 hx hZ hown (oW hw 174 rfl) (oW hw 150 rfl) (oW hw 148 rfl) (oW hw 149 rfl) e6 f4 Vn3 (Or.inl ⟨rfl, rfl⟩) (i := 0) (j := 0) (q := 16) rfl rfl rfl (by decide) (by decide) (by decide) (by decide) (by rw [hi]; decide) rfl (by simp) N6 (by omega) (vn := ((List.range 16).map (fun y => (bsV cs).getD (0 + y) (Value.int (0 : Int32))) ++ List.replicate 18 (Value.int (0 : Int32)))) rfl (by rw [hml]; rfl) (hD d32_28) (n := 31) rfl (by decide) (w := 0) (Nat.le_of_eq rfl) (by decide) fun T7 H7 Lc7 X7 e7 N7 J7 Vn7 => ?_
 have sz7 := J7.1
 have K7 := K3.trans J7 (allS (Or.inr (by omega)) all0)
 refine Wk.aloadN X7 hx (hD d32_31) (n := 32) rfl rfl rfl ?_
 have f8 := (Aq3.keep J7)
 exact Wk.leave X7 (v := some (.ref b3)) (fun h => by rw [Bd.returns] at h; cases h) hlk e7 ⟨b3, k3, rfl, N7, K7, (by have q := Arv.pad Vn7 (own_cp16 hcs); rw [hi] at q; exact q), f8, (by omega)⟩ (by decide) (by decide) (fun fs hr => retA X7 hx rfl Bd.returns rfl (hD d32_32) hr)
def Q_sbEG (Z : State) (a1 : Addr) (i1 : Int32) (t1 : Addr) (k1 : ClassId) (cs : List Int32) (qz : Nat) (h0 : Heap) (n0 : Nat) (v : Option Value) (h : Heap) (L : List Loc) : Prop := ∃ (t : Addr) (kb : ClassId), v = none ∧ Fr n0 L ∧ Keep h0 h [a1] ∧ Exa Z h a1 "java/lang/StringBuilder" ∧ Fld Z h a1 "java/lang/AbstractStringBuilder" "value" "[B" (.ref t) ∧ Fld Z h a1 "java/lang/AbstractStringBuilder" "coder" "B" (.int (0 : Int32)) ∧ Fld Z h a1 "java/lang/AbstractStringBuilder" "count" "I" (.int (Int32.ofNat cs.length)) ∧ Arv Z h t kb .byte (Int32.ofNat 34) (bsV cs) (.int (0 : Int32)) ∧ Exa Z h t "[B" ∧ (h0.size ≤ t)
theorem ef_sbEG (m : MethodId) (x0 : Addr) (x1 : Int32) : entryFrame m #[(.ref x0), (.int x1)] 3 = mkF m 0 #[.val (.ref x0), .val (.int x1), .unset] [] := by first | (simp [entryFrame, mkF, argsToLocals, Value.category]; done) | rfl
theorem d8_17 : decode B8_ 17 = .ok (.aload_n 0, 1) := by decide +kernel
theorem d8_18 : decode B8_ 18 = .ok (.aload_n 0, 1) := by decide +kernel
theorem d8_19 : decode B8_ 19 = .ok (.getfield 15, 3) := by decide +kernel
theorem d8_22 : decode B8_ 22 = .ok (.aload_n 0, 1) := by decide +kernel
theorem d8_23 : decode B8_ 23 = .ok (.iload_n 1, 1) := by decide +kernel
theorem d8_24 : decode B8_ 24 = .ok (.invokevirtual 104, 3) := by decide +kernel
theorem d8_27 : decode B8_ 27 = .ok (.aload_n 0, 1) := by decide +kernel
theorem d8_28 : decode B8_ 28 = .ok (.getfield 22, 3) := by decide +kernel
theorem d8_31 : decode B8_ 31 = .ok (.ishl, 1) := by decide +kernel
theorem d8_32 : decode B8_ 32 = .ok (.invokestatic 108, 3) := by decide +kernel
theorem pd_21 : parseMethodDescriptor "([BI)[B" = some ⟨[(.array .byte), .int], some (.array .byte)⟩ := by decide +kernel
theorem d8_35 : decode B8_ 35 = .ok (.putfield 15, 3) := by decide +kernel
theorem sbEG (hw : HW a0 Z) (ws : List Jvm.Cond) (a1 : Addr) (i1 : Int32) (t1 : Addr) (k1 : ClassId) (cs : List Int32) (qz : Nat) (h0 : Heap) (n0 : Nat) (Z0 : n0 ≤ h0.size) (Eb1 : Exa Z h0 a1 "java/lang/StringBuilder") (Gv1 : Fld Z h0 a1 "java/lang/AbstractStringBuilder" "value" "[B" (.ref t1)) (Gc1 : Fld Z h0 a1 "java/lang/AbstractStringBuilder" "coder" "B" (.int (0 : Int32))) (Gn1 : Fld Z h0 a1 "java/lang/AbstractStringBuilder" "count" "I" (.int (Int32.ofNat cs.length))) (Ab1 : Arv Z h0 t1 k1 .byte (Int32.ofNat 16) (bsV cs) (.int (0 : Int32))) (Et1 : Exa Z h0 t1 "[B") (hi : i1 = Int32.ofNat qz) (hq1 : 16 < qz) (hq2 : qz ≤ 33) (hcs : cs.length ≤ 16) (g2 : n0 ≤ a1) (hn2 : ¬ @Eq Nat t1 a1) : MetN l Z mn8 jdk_68_method_9_code 3 none ws (rM 3 1 34 50) #[(.ref a1), (.int i1)] h0 (Q_sbEG Z a1 i1 t1 k1 cs qz h0 n0) := by
 refine enterN (plainFor_of_name pn_java_lang_AbstractStringBuilder) (fun m => ef_sbEG m _ _) fun p e s m below meth c s₁ Bd hZ hx hD hlk hml hown hnm X0 e0 => ?_
 have N0 := Fr.nil n0
 have K0 := Keep.refl h0 [a1]
 have lt_Eb1 := ny Eb1.lt
 have lt_Gv1 := ny Gv1.lt
 have lt_Gc1 := ny Gc1.lt
 have lt_Gn1 := ny Gn1.lt
 have lt_Ab1 := ny Ab1.lt
 have lt_Et1 := ny Et1.lt
 refine Wk.aloadN X0 hx (hD d8_0) (n := 1) rfl rfl rfl ?_
 refine Wk.getF X0 hx hZ hown (host := "") (Or.inl (oW hw 93 rfl)) Via.refl e0 Gv1 (hD d8_1) (n := 4) rfl fun T1 X1 e1 => ?_
 obtain ⟨cl2, Ar2, qn2, Sz2, N_2, H_2, Gn2⟩ := id Ab1
 refine Wk.arrlen X1 hx hZ e1 Ar2 Sz2 N_2 (hD d8_4) (n := 5) rfl ?_
 refine Wk.aloadN X1 hx (hD d8_5) (n := 6) rfl rfl rfl ?_
 refine Wk.getF X1 hx hZ hown (host := "") (Or.inl (oW hw 95 rfl)) Via.refl e1 Gc1 (hD d8_6) (n := 9) rfl fun T3 X3 e3 => ?_
 refine Wk.ishr X3 hx (hD d8_9) (n := 10) rfl ?_
 refine Wk.istoreN X3 hx (hD d8_10) (n := 11) rfl (L' := #[.val (.ref a1), .val (.int i1), .val (.int ((Int32.ofNat 16) >>> ((0 : Int32) &&& 31)))]) rfl ?_
 refine Wk.iloadN X3 hx (hD d8_11) (n := 12) rfl rfl ?_
 refine Wk.iloadN X3 hx (hD d8_12) (n := 13) rfl rfl ?_
 refine Wk.isub X3 hx (hD d8_13) (n := 14) rfl ?_
 have hc14_4 : (0 : Int32) < (i1 - ((Int32.ofNat 16) >>> ((0 : Int32) &&& 31))) := by rw [hi]; exact own_ecg hq1 hq2
 refine Wk.ifNo X3 hx (hD d8_14) (n := 17) rfl ((if0 _ _).trans (tlt hc14_4).2.2.2) ?_
 refine Wk.aloadN X3 hx (hD d8_17) (n := 18) rfl rfl rfl ?_
 refine Wk.aloadN X3 hx (hD d8_18) (n := 19) rfl rfl rfl ?_
 refine Wk.getF X3 hx hZ hown (host := "") (Or.inl (oW hw 93 rfl)) Via.refl e3 Gv1 (hD d8_19) (n := 22) rfl fun T5 X5 e5 => ?_
 refine Wk.aloadN X5 hx (hD d8_22) (n := 23) rfl rfl rfl ?_
 refine Wk.iloadN X5 hx (hD d8_23) (n := 24) rfl rfl ?_
 obtain ⟨cq6, kq6, qn6a, qn6b, qn6c⟩ := isOf hZ e5 Eb1
 have cl6_ := fun Ls (hLs : LsOk c Ls) => X5.virtualBack hx (y := mn32) (z := mn32) hown (mW hZ hw 152 rfl) (mvT hZ (own_decl (oW hw 153 rfl) (oW hw 156 rfl))) (notFace_of_selects (args := #[]) (mW hZ hw 155 rfl)) (mW hZ hw 155 rfl) (mW hZ hw 153 rfl) (by decide) (backOf (W := 2) (sbNC l Z a0 hw [] a1 i1 t1 k1 cs qz h0 n0 (by omega) Eb1 Gv1 Gc1 Gn1 Ab1 Et1 hi (by omega) (by omega)) hZ (oW hw 156 rfl) (oW hw 89 rfl) (by decide) (by decide)) qn6a qn6c (g := mkF m 24 Ls [(.int i1), (.ref a1), (.ref t1), (.ref a1)]) rfl hLs (Steps.refl _) (argsL := [(.int i1)]) (rest := [(.ref t1), (.ref a1)]) (lenOf pd_17 rfl) rfl (leq0 rfl) (hD d8_24) (fun _ _ => ⟨rfl, e5, (by decide : 0 + 0 ≤ _), (by decide : 0 + 0 ≤ _)⟩)
 refine Wk.back (n := 27) (rc := 0) (rs := 0) (Q := Q_sbNC Z a1 i1 t1 k1 cs qz h0 n0) (cl6_ _ (lsok hml rfl)) fun vn6 T6 L6 X6 hQ6 => ?_
 clear cl6_
 obtain ⟨rfl, M6, e6⟩ := hQ6
 have N6 := Fr.app N0 M6
 show Wk p e below _ T6 (mkF m 27 _ [(.int (34 : Int32)), (.ref t1), (.ref a1)])
 refine Wk.aloadN X6 hx (hD d8_27) (n := 28) rfl rfl rfl ?_
 refine Wk.getF X6 hx hZ hown (host := "") (Or.inl (oW hw 95 rfl)) Via.refl e6 Gc1 (hD d8_28) (n := 31) rfl fun T7 X7 e7 => ?_
 refine Wk.ishl X7 hx (hD d8_31) (n := 32) rfl ?_
 have cl8_ := fun Ls (hLs : LsOk c Ls) => Jvm.LawKit.callS X7 hx (y := mn33) hown (mW hZ hw 167 rfl) (mW hZ hw 168 rfl) (mW hZ hw 169 rfl) (mW hZ hw 170 rfl) (by decide) (backOf (W := 1) (sbCO l Z a0 hw [] t1 k1 cs ((34 : Int32) <<< ((0 : Int32) &&& 31)) h0 n0 (by omega) Ab1 (own_shl0 _) (by omega)) hZ (oW hw 170 rfl) (oW hw 169 rfl) (by decide) (by decide)) (g := mkF m 32 Ls [(.int ((34 : Int32) <<< ((0 : Int32) &&& 31))), (.ref t1), (.ref a1)]) rfl hLs (argsL := [(.ref t1), (.int ((34 : Int32) <<< ((0 : Int32) &&& 31)))]) (rest := [(.ref a1)]) (lenOf pd_21 rfl) rfl (leq0 rfl) (hD d8_32) (fun _ _ => ⟨rfl, e7, (by decide : 0 + 1 ≤ _), (by decide : 0 + 34 ≤ _)⟩)
 refine Wk.backS (n := 35) (rc := 1) (rs := 34) (Q := Q_sbCO Z t1 k1 cs ((34 : Int32) <<< ((0 : Int32) &&& 31)) h0 n0) (cl8_ _ (lsok hml rfl)) fun vn8 T8 L8 X8 hQ8 => ?_
 clear cl8_
 obtain ⟨t_8, kb_8, rfl, M8, J8, p8_0, p8_1, gt_8⟩ := hQ8
 have N8 := Fr.app N6 M8
 have sz8 := J8.1
 have K8 := K0.trans J8 (fun x hx => nomatch hx)
 have lt_p8_0 := ny p8_0.lt
 show Wk p e below _ T8 (mkF m 35 _ [(.ref t_8), (.ref a1)])
 have f9 := (Gv1.keep J8 nin0)
 have f10 := (Eb1.keep J8)
 refine Wk.putF X8 hx hZ hown (host := "") (Or.inl (oW hw 93 rfl)) Via.refl rfl f9 f10 (Or.inl (oW hw 94 rfl)) (oW hw 80 rfl) (ty := (.array .byte)) (by decide) rfl rfl (hD d8_35) (n := 38) rfl fun T11 H11 X11 e11 Wn11 => ?_
 have sz11 := Wn11.size
 have Fn11 := f9.same Wn11
 have K11 := K8.wr Wn11 (Or.inl (List.mem_of_getElem? (i := 0) rfl))
 have N11 := Fr.snoc X11 N8 (by omega)
 have f12 := (f10.wr Wn11)
 have f13 := ((Gc1.keep J8 nin0).other Wn11 (Or.inr (slot_ne (Or.inl (oW hw 96 rfl)) (Or.inl (oW hw 94 rfl)) (by decide) (t := .byte) (t' := (.array .byte)) (by decide) (by decide))))
 have f14 := ((Gn1.keep J8 nin0).other Wn11 (Or.inr (slot_ne (Or.inl (oW hw 125 rfl)) (Or.inl (oW hw 94 rfl)) (by decide) (t := .int) (t' := (.array .byte)) (by decide) (by decide))))
 have f15 := (p8_0.other Wn11 (nz (by omega)))
 have f16 := (p8_1.wr Wn11)
 exact Wk.leave X11 (v := none) (fun _ => rfl) hlk e11 ⟨t_8, kb_8, rfl, N11, K11, f12, Fn11, f13, f14, f15, f16, (by omega)⟩ (by decide) (by decide) (fun fs hr => X11.returnOut hx Bd.returns (hD d8_38) hr)
def Q_sbAG (Z : State) (a1 : Addr) (x1 : Addr) (t2 : Addr) (k2 : ClassId) (cx : List Int32) (t1 : Addr) (k1 : ClassId) (cs : List Int32) (zc : Int32) (h0 : Heap) (n0 : Nat) (v : Option Value) (h : Heap) (L : List Loc) : Prop := ∃ (t : Addr) (kb : ClassId), v = some (.ref a1) ∧ Fr n0 L ∧ Keep h0 h [a1] ∧ Exa Z h a1 "java/lang/StringBuilder" ∧ Fld Z h a1 "java/lang/AbstractStringBuilder" "value" "[B" (.ref t) ∧ Fld Z h a1 "java/lang/AbstractStringBuilder" "coder" "B" (.int (0 : Int32)) ∧ Fld Z h a1 "java/lang/AbstractStringBuilder" "count" "I" (.int (Int32.ofNat (cs ++ cx).length)) ∧ Arv Z h t kb .byte (Int32.ofNat 34) (bsV (cs ++ cx)) (.int (0 : Int32)) ∧ Exa Z h t "[B" ∧ (h0.size ≤ t)
theorem ef_sbAG (m : MethodId) (x0 : Addr) (x1 : Addr) : entryFrame m #[(.ref x0), (.ref x1)] 3 = mkF m 0 #[.val (.ref x0), .val (.ref x1), .unset] [] := by first | (simp [entryFrame, mkF, argsToLocals, Value.category]; done) | rfl
theorem sbAG (hw : HW a0 Z) (ws : List Jvm.Cond) (a1 : Addr) (x1 : Addr) (t2 : Addr) (k2 : ClassId) (cx : List Int32) (t1 : Addr) (k1 : ClassId) (cs : List Int32) (zc : Int32) (h0 : Heap) (n0 : Nat) (Z0 : n0 ≤ h0.size) (Eb1 : Exa Z h0 a1 "java/lang/StringBuilder") (Gv1 : Fld Z h0 a1 "java/lang/AbstractStringBuilder" "value" "[B" (.ref t1)) (Gc1 : Fld Z h0 a1 "java/lang/AbstractStringBuilder" "coder" "B" (.int (0 : Int32))) (Gn1 : Fld Z h0 a1 "java/lang/AbstractStringBuilder" "count" "I" (.int (Int32.ofNat cs.length))) (Ab1 : Arv Z h0 t1 k1 .byte (Int32.ofNat 16) (bsV cs) (.int (0 : Int32))) (Et1 : Exa Z h0 t1 "[B") (Es1 : Exa Z h0 x1 "java/lang/String") (Fv1 : Fld Z h0 x1 "java/lang/String" "value" "[B" (.ref t2)) (Fc1 : Fld Z h0 x1 "java/lang/String" "coder" "B" (.int (0 : Int32))) (As1 : Arv Z h0 t2 k2 .byte (Int32.ofNat cx.length) (bsV cx) (.int (0 : Int32))) (S4 : Sta Z Z.heap "java/lang/String" "COMPACT_STRINGS" "Z" (.int zc)) (O1 : Old Z n0 h0) (hCS : ¬ zc = 0) (hp : ∀ c ∈ cx, ¬ c < 0 ∧ ¬ (255 : Int32) < c) (hN1 : 16 < cs.length + cx.length) (hN2 : cs.length + cx.length ≤ 33) (hcs : cs.length ≤ 16) (g2 : n0 ≤ a1) (hn2 : ¬ @Eq Nat t1 a1) (hn3 : ¬ @Eq Nat t2 a1) (hn4 : ¬ @Eq Nat x1 a1) : MetN l Z mn13 jdk_68_method_22_code 3 (some (.object "java/lang/AbstractStringBuilder")) ws (rM 4 1 34 64) #[(.ref a1), (.ref x1)] h0 (Q_sbAG Z a1 x1 t2 k2 cx t1 k1 cs zc h0 n0) := by
 refine enterN (plainFor_of_name pn_java_lang_AbstractStringBuilder) (fun m => ef_sbAG m _ _) fun p e s m below meth c s₁ Bd hZ hx hD hlk hml hown hnm X0 e0 => ?_
 have N0 := Fr.nil n0
 have K0 := Keep.refl h0 [a1]
 have lt_Eb1 := ny Eb1.lt
 have lt_Gv1 := ny Gv1.lt
 have lt_Gc1 := ny Gc1.lt
 have lt_Gn1 := ny Gn1.lt
 have lt_Ab1 := ny Ab1.lt
 have lt_Et1 := ny Et1.lt
 have lt_Es1 := ny Es1.lt
 have lt_Fv1 := ny Fv1.lt
 have lt_Fc1 := ny Fc1.lt
 have lt_As1 := ny As1.lt
 refine Wk.aloadN X0 hx (hD d12_0) (n := 1) rfl rfl rfl ?_
 refine Wk.ifnonnullYes X0 hx (hD d12_1) (by decide) (n := 9) (by decide) ?_
 refine Wk.aloadN X0 hx (hD d12_9) (n := 10) rfl rfl rfl ?_
 obtain ⟨cq1, kq1, qn1a, qn1b, qn1c⟩ := isOf hZ e0 Es1
 have cl1_ := fun Ls (hLs : LsOk c Ls) => X0.virtualBack hx (y := mn12) (z := mn12) hown (mW hZ hw 114 rfl) (mW hZ hw 115 rfl) (notFace_of_selects (args := #[]) (mW hZ hw 117 rfl)) (mW hZ hw 117 rfl) (mW hZ hw 116 rfl) (by decide) (StrChars.Road.lenW (W := 0) hZ (fun d hd => hw d (own_wl d hd)) (kI := 4) (oW hw 5 rfl) Es1 Fv1 Fc1 As1 (StrChars.Road.codOf (cs := cx) (n := cx.length) rfl (fun c hc => (hp c hc).2)) (own_up hp) (Sta.ext O1.2 S4) hCS (by omega) (by decide) (by decide)) qn1a qn1c (g := mkF m 10 Ls [(.ref x1)]) rfl hLs (Steps.refl _) (argsL := []) (rest := []) (lenOf pd_7 rfl) rfl (leq0 rfl) (hD d12_10) (fun _ _ => ⟨rfl, e0, (by decide : 0 + 0 ≤ _), (by decide : 0 + 0 ≤ _)⟩)
 refine Wk.back (n := 13) (rc := 0) (rs := 0) (Q := fun v h' L => (v = some (.int (Int32.ofNat (cx : List Int32).length)) ∧ L = [] ∧ h' = h0)) (cl1_ _ (lsok hml rfl)) fun vn1 T1 L1 X1 hQ1 => ?_
 clear cl1_
 obtain ⟨rfl, rfl, e1⟩ := hQ1
 have N1 := Fr.app N0 (Fr.nil n0)
 show Wk p e below _ T1 (mkF m 13 _ [(.int (Int32.ofNat cx.length))])
 refine Wk.istoreN X1 hx (hD d12_13) (n := 14) rfl (L' := #[.val (.ref a1), .val (.ref x1), .val (.int (Int32.ofNat cx.length))]) rfl ?_
 refine Wk.aloadN X1 hx (hD d12_14) (n := 15) rfl rfl rfl ?_
 refine Wk.aloadN X1 hx (hD d12_15) (n := 16) rfl rfl rfl ?_
 refine Wk.getF X1 hx hZ hown (host := "") (Or.inl (oW hw 124 rfl)) Via.refl e1 Gn1 (hD d12_16) (n := 19) rfl fun T2 X2 e2 => ?_
 refine Wk.iloadN X2 hx (hD d12_19) (n := 20) rfl rfl ?_
 refine Wk.iadd X2 hx (hD d12_20) (n := 21) rfl ?_
 obtain ⟨cq3, kq3, qn3a, qn3b, qn3c⟩ := isOf hZ e2 Eb1
 have cl3_ := fun Ls (hLs : LsOk c Ls) => X2.virtualBack hx (y := mn8) (z := mn8) hown (mW hZ hw 126 rfl) (mvT hZ (own_decl (oW hw 127 rfl) (oW hw 130 rfl))) (notFace_of_selects (args := #[]) (mW hZ hw 129 rfl)) (mW hZ hw 129 rfl) (mW hZ hw 127 rfl) (by decide) (backOf (W := 0) (sbEG l Z a0 hw [] a1 ((Int32.ofNat cs.length) + (Int32.ofNat cx.length)) t1 k1 cs (cs.length + cx.length) h0 n0 (by omega) Eb1 Gv1 Gc1 Gn1 Ab1 Et1 (own_ofadd _ _) (by omega) (by omega) (by omega) (by omega) (by omega)) hZ (oW hw 130 rfl) (oW hw 89 rfl) (by decide) (by decide)) qn3a qn3c (g := mkF m 21 Ls [(.int ((Int32.ofNat cs.length) + (Int32.ofNat cx.length))), (.ref a1)]) rfl hLs (Steps.refl _) (argsL := [(.int ((Int32.ofNat cs.length) + (Int32.ofNat cx.length)))]) (rest := []) (lenOf pd_3 rfl) rfl (leq0 rfl) (hD d12_21) (fun _ _ => ⟨rfl, e2, (by decide : 0 + 1 ≤ _), (by decide : 0 + 34 ≤ _)⟩)
 refine Wk.back (n := 24) (rc := 1) (rs := 34) (Q := Q_sbEG Z a1 ((Int32.ofNat cs.length) + (Int32.ofNat cx.length)) t1 k1 cs (cs.length + cx.length) h0 n0) (cl3_ _ (lsok hml rfl)) fun vn3 T3 L3 X3 hQ3 => ?_
 clear cl3_
 obtain ⟨t_3, kb_3, rfl, M3, J3, p3_0, p3_1, p3_2, p3_3, p3_4, p3_5, gt_3⟩ := hQ3
 have N3 := Fr.app N1 M3
 have sz3 := J3.1
 have K3 := K0.trans J3 (allS (Or.inl (List.mem_of_getElem? (i := 0) rfl)) all0)
 have lt_p3_0 := ny p3_0.lt
 have lt_p3_4 := ny p3_4.lt
 show Wk p e below _ T3 (mkF m 24 _ [])
 refine Wk.aloadN X3 hx (hD d12_24) (n := 25) rfl rfl rfl ?_
 refine Wk.aloadN X3 hx (hD d12_25) (n := 26) rfl rfl rfl ?_
 refine Wk.getF X3 hx hZ hown (host := "") (Or.inl (oW hw 124 rfl)) Via.refl rfl p3_3 (hD d12_26) (n := 29) rfl fun T4 X4 e4 => ?_
 refine Wk.aloadN X4 hx (hD d12_29) (n := 30) rfl rfl rfl ?_
 have f5 := (Es1.keep J3)
 have f6 := (Fv1.keep J3 (ninS (nz (by omega)) nin0))
 have f7 := (Fc1.keep J3 (ninS (nz (by omega)) nin0))
 have f8 := (As1.keep J3 (ninS (nz (by omega)) nin0))
 have f9 := (O1.keep J3 (allS (by omega) all0))
 obtain ⟨cq10, kq10, qn10a, qn10b, qn10c⟩ := isOf hZ e4 p3_0
 have cl10_ := fun Ls (hLs : LsOk c Ls) => X4.virtualBack hx (y := mn11) (z := mn11) hown (mW hZ hw 131 rfl) (mvT hZ (own_decl (oW hw 132 rfl) (oW hw 135 rfl))) (notFace_of_selects (args := #[]) (mW hZ hw 134 rfl)) (mW hZ hw 134 rfl) (mW hZ hw 132 rfl) (by decide) (backOf (W := 0) (sbPS l Z a0 hw [] a1 (Int32.ofNat cs.length) x1 t2 k2 cx t_3 kb_3 cs zc 34 T3.heap n0 (by omega) p3_0 p3_1 p3_2 p3_4 p3_5 f5 f6 f7 f8 S4 f9 hCS rfl (by omega) (by omega) (by omega)) hZ (oW hw 135 rfl) (oW hw 89 rfl) (by decide) (by decide)) qn10a qn10c (g := mkF m 30 Ls [(.ref x1), (.int (Int32.ofNat cs.length)), (.ref a1)]) rfl hLs (Steps.refl _) (argsL := [(.int (Int32.ofNat cs.length)), (.ref x1)]) (rest := []) (lenOf pd_8 rfl) rfl (leq0 rfl) (hD d12_30) (fun _ _ => ⟨rfl, e4, (by decide : 1 + 0 ≤ _), (by decide : 34 + 0 ≤ _)⟩)
 refine Wk.back (n := 33) (rc := 0) (rs := 0) (Q := Q_sbPS Z a1 (Int32.ofNat cs.length) x1 t2 k2 cx t_3 kb_3 cs zc 34 T3.heap n0) (cl10_ _ (lsok hml rfl)) fun vn10 T10 L10 X10 hQ10 => ?_
 clear cl10_
 obtain ⟨rfl, M10, J10, p10_0⟩ := hQ10
 have N10 := Fr.app N3 M10
 have sz10 := J10.1
 have K10 := K3.trans J10 (allS (Or.inr (by omega)) all0)
 have lt_p10_0 := ny p10_0.lt
 show Wk p e below _ T10 (mkF m 33 _ [])
 refine Wk.aloadN X10 hx (hD d12_33) (n := 34) rfl rfl rfl ?_
 refine Wk.dup X10 hx (hD d12_34) (n := 35) rfl rfl ?_
 have f11 := (p3_3.keep J10 (ninS (nz (by omega)) nin0))
 refine Wk.getF X10 hx hZ hown (host := "") (Or.inl (oW hw 124 rfl)) Via.refl rfl f11 (hD d12_35) (n := 38) rfl fun T12 X12 e12 => ?_
 refine Wk.iloadN X12 hx (hD d12_38) (n := 39) rfl rfl ?_
 refine Wk.iadd X12 hx (hD d12_39) (n := 40) rfl ?_
 have f13 := (p3_0.keep J10)
 refine Wk.putF X12 hx hZ hown (host := "") (Or.inl (oW hw 124 rfl)) Via.refl e12 f11 f13 (Or.inl (oW hw 125 rfl)) (oW hw 80 rfl) (ty := .int) (by decide) rfl rfl (hD d12_40) (n := 43) rfl fun T14 H14 X14 e14 Wn14 => ?_
 have sz14 := Wn14.size
 have Fn14 := f11.same Wn14
 have K14 := K10.wr Wn14 (Or.inl (List.mem_of_getElem? (i := 0) rfl))
 have N14 := Fr.snoc X14 N10 (by omega)
 refine Wk.aloadN X14 hx (hD d12_43) (n := 44) rfl rfl rfl ?_
 have f15 := (f13.wr Wn14)
 have f16 := ((p3_1.keep J10 (ninS (nz (by omega)) nin0)).other Wn14 (Or.inr (slot_ne (Or.inl (oW hw 94 rfl)) (Or.inl (oW hw 125 rfl)) (by decide) (t := (.array .byte)) (t' := .int) (by decide) (by decide))))
 have f17 := ((p3_2.keep J10 (ninS (nz (by omega)) nin0)).other Wn14 (Or.inr (slot_ne (Or.inl (oW hw 96 rfl)) (Or.inl (oW hw 125 rfl)) (by decide) (t := .byte) (t' := .int) (by decide) (by decide))))
 have f18 := (p10_0.other Wn14 (nz (by omega)))
 have f19 := ((p3_5.keep J10).wr Wn14)
 exact Wk.leave X14 (v := some (.ref a1)) (fun h => by rw [Bd.returns] at h; cases h) hlk e14 ⟨t_3, kb_3, rfl, N14, K14, f15, f16, f17, (by have q := Fn14; rw [own_ofadd, ← List.length_append] at q; exact q), f18, f19, (by omega)⟩ (by decide) (by decide) (fun fs hr => retA X14 hx rfl Bd.returns rfl (hD d12_44) hr)
def Q_sbSAg (Z : State) (a1 : Addr) (x1 : Addr) (t2 : Addr) (k2 : ClassId) (cx : List Int32) (t1 : Addr) (k1 : ClassId) (cs : List Int32) (zc : Int32) (h0 : Heap) (n0 : Nat) (v : Option Value) (h : Heap) (L : List Loc) : Prop := ∃ (t : Addr) (kb : ClassId), v = some (.ref a1) ∧ Fr n0 L ∧ Keep h0 h [a1] ∧ Exa Z h a1 "java/lang/StringBuilder" ∧ Fld Z h a1 "java/lang/AbstractStringBuilder" "value" "[B" (.ref t) ∧ Fld Z h a1 "java/lang/AbstractStringBuilder" "coder" "B" (.int (0 : Int32)) ∧ Fld Z h a1 "java/lang/AbstractStringBuilder" "count" "I" (.int (Int32.ofNat (cs ++ cx).length)) ∧ Arv Z h t kb .byte (Int32.ofNat 34) (bsV (cs ++ cx)) (.int (0 : Int32)) ∧ Exa Z h t "[B" ∧ (h0.size ≤ t)
theorem ef_sbSAg (m : MethodId) (x0 : Addr) (x1 : Addr) : entryFrame m #[(.ref x0), (.ref x1)] 2 = mkF m 0 #[.val (.ref x0), .val (.ref x1)] [] := by first | (simp [entryFrame, mkF, argsToLocals, Value.category]; done) | rfl
theorem sbSAg (hw : HW a0 Z) (ws : List Jvm.Cond) (a1 : Addr) (x1 : Addr) (t2 : Addr) (k2 : ClassId) (cx : List Int32) (t1 : Addr) (k1 : ClassId) (cs : List Int32) (zc : Int32) (h0 : Heap) (n0 : Nat) (Z0 : n0 ≤ h0.size) (Eb1 : Exa Z h0 a1 "java/lang/StringBuilder") (Gv1 : Fld Z h0 a1 "java/lang/AbstractStringBuilder" "value" "[B" (.ref t1)) (Gc1 : Fld Z h0 a1 "java/lang/AbstractStringBuilder" "coder" "B" (.int (0 : Int32))) (Gn1 : Fld Z h0 a1 "java/lang/AbstractStringBuilder" "count" "I" (.int (Int32.ofNat cs.length))) (Ab1 : Arv Z h0 t1 k1 .byte (Int32.ofNat 16) (bsV cs) (.int (0 : Int32))) (Et1 : Exa Z h0 t1 "[B") (Es1 : Exa Z h0 x1 "java/lang/String") (Fv1 : Fld Z h0 x1 "java/lang/String" "value" "[B" (.ref t2)) (Fc1 : Fld Z h0 x1 "java/lang/String" "coder" "B" (.int (0 : Int32))) (As1 : Arv Z h0 t2 k2 .byte (Int32.ofNat cx.length) (bsV cx) (.int (0 : Int32))) (S4 : Sta Z Z.heap "java/lang/String" "COMPACT_STRINGS" "Z" (.int zc)) (O1 : Old Z n0 h0) (hCS : ¬ zc = 0) (hp : ∀ c ∈ cx, ¬ c < 0 ∧ ¬ (255 : Int32) < c) (hN1 : 16 < cs.length + cx.length) (hN2 : cs.length + cx.length ≤ 33) (hcs : cs.length ≤ 16) (g2 : n0 ≤ a1) (hn2 : ¬ @Eq Nat t1 a1) (hn3 : ¬ @Eq Nat t2 a1) (hn4 : ¬ @Eq Nat x1 a1) : MetN l Z mn14 jdk_67_method_7_code 2 (some (.object "java/lang/StringBuilder")) ws (rM 5 1 34 78) #[(.ref a1), (.ref x1)] h0 (Q_sbSAg Z a1 x1 t2 k2 cx t1 k1 cs zc h0 n0) := by
 refine enterN (plainFor_of_name pn_java_lang_StringBuilder) (fun m => ef_sbSAg m _ _) fun p e s m below meth c s₁ Bd hZ hx hD hlk hml hown hnm X0 e0 => ?_
 have N0 := Fr.nil n0
 have K0 := Keep.refl h0 [a1]
 have lt_Eb1 := ny Eb1.lt
 have lt_Gv1 := ny Gv1.lt
 have lt_Gc1 := ny Gc1.lt
 have lt_Gn1 := ny Gn1.lt
 have lt_Ab1 := ny Ab1.lt
 have lt_Et1 := ny Et1.lt
 have lt_Es1 := ny Es1.lt
 have lt_Fv1 := ny Fv1.lt
 have lt_Fc1 := ny Fc1.lt
 have lt_As1 := ny As1.lt
 refine Wk.aloadN X0 hx (hD d13_0) (n := 1) rfl rfl rfl ?_
 refine Wk.aloadN X0 hx (hD d13_1) (n := 2) rfl rfl rfl ?_
 have cl1_ := fun Ls (hLs : LsOk c Ls) => superBack X0 hx hZ (y := mn13) hown (oW hw 109 rfl) (own_same (oW hw 110 rfl) (oW hw 127 rfl) (oW hw 129 rfl) (by decide)) (oW hw 110 rfl) (oW hw 111 rfl) (by decide) (backOf (W := 0) (sbAG l Z a0 hw [] a1 x1 t2 k2 cx t1 k1 cs zc h0 n0 (by omega) Eb1 Gv1 Gc1 Gn1 Ab1 Et1 Es1 Fv1 Fc1 As1 S4 O1 hCS hp (by omega) (by omega) (by omega) (by omega) (by omega) (by omega) (by omega)) hZ (oW hw 113 rfl) (oW hw 89 rfl) (by decide) (by decide)) e0 (Ins.self Eb1) (g := mkF m 2 Ls [(.ref x1), (.ref a1)]) rfl hLs (oW hw 113 rfl) (argsL := [(.ref x1)]) (rest := []) (lenOf pd_9 rfl) rfl (leq0 rfl) (hD d13_2) (fun _ _ => ⟨rfl, e0, (by decide : 0 + 1 ≤ _), (by decide : 0 + 34 ≤ _)⟩)
 refine Wk.back (n := 5) (rc := 1) (rs := 34) (Q := Q_sbAG Z a1 x1 t2 k2 cx t1 k1 cs zc h0 n0) (cl1_ _ (lsok hml rfl)) fun vn1 T1 L1 X1 hQ1 => ?_
 clear cl1_
 obtain ⟨t_1, kb_1, rfl, M1, J1, p1_0, p1_1, p1_2, p1_3, p1_4, p1_5, gt_1⟩ := hQ1
 have N1 := Fr.app N0 M1
 have sz1 := J1.1
 have K1 := K0.trans J1 (allS (Or.inl (List.mem_of_getElem? (i := 0) rfl)) all0)
 have lt_p1_0 := ny p1_0.lt
 have lt_p1_4 := ny p1_4.lt
 show Wk p e below _ T1 (mkF m 5 _ [(.ref a1)])
 refine Wk.pop X1 hx (hD d13_5) (n := 6) rfl rfl ?_
 refine Wk.aloadN X1 hx (hD d13_6) (n := 7) rfl rfl rfl ?_
 exact Wk.leave X1 (v := some (.ref a1)) (fun h => by rw [Bd.returns] at h; cases h) hlk rfl ⟨t_1, kb_1, rfl, N1, K1, p1_0, p1_1, p1_2, p1_3, p1_4, p1_5, (by omega)⟩ (by decide) (by decide) (fun fs hr => retA X1 hx rfl Bd.returns rfl (hD d13_7) hr)
def Q_sbAJ (Z : State) (a1 : Addr) (p1 : Int32) (t1 : Addr) (k1 : ClassId) (cs : List Int32) (zc : Int32) (dO : Addr) (kO : ClassId) (dT : Addr) (kT : ClassId) (h0 : Heap) (n0 : Nat) (v : Option Value) (h : Heap) (L : List Loc) : Prop := ∃ (t : Addr) (kb : ClassId), v = some (.ref a1) ∧ Fr n0 L ∧ Keep h0 h [a1] ∧ Exa Z h a1 "java/lang/StringBuilder" ∧ Fld Z h a1 "java/lang/AbstractStringBuilder" "value" "[B" (.ref t) ∧ Fld Z h a1 "java/lang/AbstractStringBuilder" "coder" "B" (.int (0 : Int32)) ∧ Fld Z h a1 "java/lang/AbstractStringBuilder" "count" "I" (.int (Int32.ofNat (cs ++ (sgl p1 ++ dl (mg p1))).length)) ∧ Arv Z h t kb .byte (Int32.ofNat 34) (bsV (cs ++ (sgl p1 ++ dl (mg p1)))) (.int (0 : Int32)) ∧ Exa Z h t "[B" ∧ (h0.size ≤ t)
theorem ef_sbAJ (m : MethodId) (x0 : Addr) (x1 : Int32) : entryFrame m #[(.ref x0), (.int x1)] 4 = mkF m 0 #[.val (.ref x0), .val (.int x1), .unset, .unset] [] := by first | (simp [entryFrame, mkF, argsToLocals, Value.category]; done) | rfl
theorem sbAJ (hw : HW a0 Z) (ws : List Jvm.Cond) (a1 : Addr) (p1 : Int32) (t1 : Addr) (k1 : ClassId) (cs : List Int32) (zc : Int32) (dO : Addr) (kO : ClassId) (dT : Addr) (kT : ClassId) (h0 : Heap) (n0 : Nat) (Z0 : n0 ≤ h0.size) (Eb1 : Exa Z h0 a1 "java/lang/StringBuilder") (Gv1 : Fld Z h0 a1 "java/lang/AbstractStringBuilder" "value" "[B" (.ref t1)) (Gc1 : Fld Z h0 a1 "java/lang/AbstractStringBuilder" "coder" "B" (.int (0 : Int32))) (Gn1 : Fld Z h0 a1 "java/lang/AbstractStringBuilder" "count" "I" (.int (Int32.ofNat cs.length))) (Ab1 : Arv Z h0 t1 k1 .byte (Int32.ofNat 16) (bsV cs) (.int (0 : Int32))) (Et1 : Exa Z h0 t1 "[B") (S4 : Sta Z Z.heap "java/lang/String" "COMPACT_STRINGS" "Z" (.int zc)) (O1 : Old Z n0 h0) (S6 : Sta Z Z.heap "java/lang/Integer" "DigitOnes" "[B" (.ref dO)) (S7 : Sta Z Z.heap "java/lang/Integer" "DigitTens" "[B" (.ref dT)) (A6 : Arv Z Z.heap dO kO .byte (100 : Int32) dgO (.int (0 : Int32))) (A7 : Arv Z Z.heap dT kT .byte (100 : Int32) dgT (.int (0 : Int32))) (hCS : ¬ zc = 0) (hN1 : 16 < cs.length + (sgl p1 ++ dl (mg p1)).length) (hN2 : cs.length + (sgl p1 ++ dl (mg p1)).length ≤ 33) (hcs : cs.length ≤ 16) (g2 : n0 ≤ a1) (hn2 : ¬ @Eq Nat t1 a1) : MetN l Z mn28 jdk_68_method_32_code 4 (some (.object "java/lang/AbstractStringBuilder")) ws (rM 4 1 34 64) #[(.ref a1), (.int p1)] h0 (Q_sbAJ Z a1 p1 t1 k1 cs zc dO kO dT kT h0 n0) := by
 refine enterN (plainFor_of_name pn_java_lang_AbstractStringBuilder) (fun m => ef_sbAJ m _ _) fun p e s m below meth c s₁ Bd hZ hx hD hlk hml hown hnm X0 e0 => ?_
 have N0 := Fr.nil n0
 have K0 := Keep.refl h0 [a1]
 have lt_Eb1 := ny Eb1.lt
 have lt_Gv1 := ny Gv1.lt
 have lt_Gc1 := ny Gc1.lt
 have lt_Gn1 := ny Gn1.lt
 have lt_Ab1 := ny Ab1.lt
 have lt_Et1 := ny Et1.lt
 refine Wk.aloadN X0 hx (hD d27_0) (n := 1) rfl rfl rfl ?_
 refine Wk.getF X0 hx hZ hown (host := "") (Or.inl (oW hw 124 rfl)) Via.refl e0 Gn1 (hD d27_1) (n := 4) rfl fun T1 X1 e1 => ?_
 refine Wk.istoreN X1 hx (hD d27_4) (n := 5) rfl (L' := #[.val (.ref a1), .val (.int p1), .val (.int (Int32.ofNat cs.length)), .unset]) rfl ?_
 refine Wk.iloadN X1 hx (hD d27_5) (n := 6) rfl rfl ?_
 refine Wk.iloadN X1 hx (hD d27_6) (n := 7) rfl rfl ?_
 have cl2_ := fun Ls (hLs : LsOk c Ls) => Jvm.LawKit.callS X1 hx (y := mn26) hown (mW hZ hw 185 rfl) (mW hZ hw 186 rfl) (mW hZ hw 187 rfl) (mW hZ hw 188 rfl) (by decide) (backOf (W := 1) (sbSS l Z a0 hw [] p1 h0 n0 (by omega)) hZ (oW hw 188 rfl) (oW hw 187 rfl) (by decide) (by decide)) (g := mkF m 7 Ls [(.int p1), (.int (Int32.ofNat cs.length))]) rfl hLs (argsL := [(.int p1)]) (rest := [(.int (Int32.ofNat cs.length))]) (lenOf pd_17 rfl) rfl (leq0 rfl) (hD d27_7) (fun _ _ => ⟨rfl, e1, (by decide : 0 + 0 ≤ _), (by decide : 0 + 0 ≤ _)⟩)
 refine Wk.backS (n := 10) (rc := 0) (rs := 0) (Q := Q_sbSS Z p1 h0 n0) (cl2_ _ (lsok hml rfl)) fun vn2 T2 L2 X2 hQ2 => ?_
 clear cl2_
 obtain ⟨rfl, M2, e2⟩ := hQ2
 have N2 := Fr.app N0 M2
 show Wk p e below _ T2 (mkF m 10 _ [(.int (Int32.ofNat (sgl p1 ++ dl (mg p1)).length)), (.int (Int32.ofNat cs.length))])
 refine Wk.iadd X2 hx (hD d27_10) (n := 11) rfl ?_
 refine Wk.istoreN X2 hx (hD d27_11) (n := 12) rfl (L' := #[.val (.ref a1), .val (.int p1), .val (.int (Int32.ofNat cs.length)), .val (.int ((Int32.ofNat cs.length) + (Int32.ofNat (sgl p1 ++ dl (mg p1)).length)))]) rfl ?_
 refine Wk.aloadN X2 hx (hD d27_12) (n := 13) rfl rfl rfl ?_
 refine Wk.iloadN X2 hx (hD d27_13) (n := 14) rfl rfl ?_
 obtain ⟨cq3, kq3, qn3a, qn3b, qn3c⟩ := isOf hZ e2 Eb1
 have cl3_ := fun Ls (hLs : LsOk c Ls) => X2.virtualBack hx (y := mn8) (z := mn8) hown (mW hZ hw 126 rfl) (mvT hZ (own_decl (oW hw 127 rfl) (oW hw 130 rfl))) (notFace_of_selects (args := #[]) (mW hZ hw 129 rfl)) (mW hZ hw 129 rfl) (mW hZ hw 127 rfl) (by decide) (backOf (W := 0) (sbEG l Z a0 hw [] a1 ((Int32.ofNat cs.length) + (Int32.ofNat (sgl p1 ++ dl (mg p1)).length)) t1 k1 cs (cs.length + (sgl p1 ++ dl (mg p1)).length) h0 n0 (by omega) Eb1 Gv1 Gc1 Gn1 Ab1 Et1 (own_ofadd _ _) (by omega) (by omega) (by omega) (by omega) (by omega)) hZ (oW hw 130 rfl) (oW hw 89 rfl) (by decide) (by decide)) qn3a qn3c (g := mkF m 14 Ls [(.int ((Int32.ofNat cs.length) + (Int32.ofNat (sgl p1 ++ dl (mg p1)).length))), (.ref a1)]) rfl hLs (Steps.refl _) (argsL := [(.int ((Int32.ofNat cs.length) + (Int32.ofNat (sgl p1 ++ dl (mg p1)).length)))]) (rest := []) (lenOf pd_3 rfl) rfl (leq0 rfl) (hD d27_14) (fun _ _ => ⟨rfl, e2, (by decide : 0 + 1 ≤ _), (by decide : 0 + 34 ≤ _)⟩)
 refine Wk.back (n := 17) (rc := 1) (rs := 34) (Q := Q_sbEG Z a1 ((Int32.ofNat cs.length) + (Int32.ofNat (sgl p1 ++ dl (mg p1)).length)) t1 k1 cs (cs.length + (sgl p1 ++ dl (mg p1)).length) h0 n0) (cl3_ _ (lsok hml rfl)) fun vn3 T3 L3 X3 hQ3 => ?_
 clear cl3_
 obtain ⟨t_3, kb_3, rfl, M3, J3, p3_0, p3_1, p3_2, p3_3, p3_4, p3_5, gt_3⟩ := hQ3
 have N3 := Fr.app N2 M3
 have sz3 := J3.1
 have K3 := K0.trans J3 (allS (Or.inl (List.mem_of_getElem? (i := 0) rfl)) all0)
 have lt_p3_0 := ny p3_0.lt
 have lt_p3_4 := ny p3_4.lt
 show Wk p e below _ T3 (mkF m 17 _ [])
 refine Wk.aloadN X3 hx (hD d27_17) (n := 18) rfl rfl rfl ?_
 have f4 := (O1.keep J3 (allS (by omega) all0))
 obtain ⟨cq5, kq5, qn5a, qn5b, qn5c⟩ := isOf hZ rfl p3_0
 have cl5_ := fun Ls (hLs : LsOk c Ls) => X3.virtualBack hx (y := mn18) (z := mn18) hown (mW hZ hw 189 rfl) (mW hZ hw 190 rfl) (notFace_of_selects (args := #[]) (mW hZ hw 192 rfl)) (mW hZ hw 192 rfl) (mW hZ hw 191 rfl) (by decide) (backOf (W := 0) (sbIL l Z a0 hw [] a1 zc T3.heap n0 (by omega) p3_2 S4 f4 hCS) hZ (oW hw 193 rfl) (oW hw 89 rfl) (by decide) (by decide)) qn5a qn5c (g := mkF m 18 Ls [(.ref a1)]) rfl hLs (Steps.refl _) (argsL := []) (rest := []) (lenOf pd_14 rfl) rfl (leq0 rfl) (hD d27_18) (fun _ _ => ⟨rfl, rfl, (by decide : 1 + 0 ≤ _), (by decide : 34 + 0 ≤ _)⟩)
 refine Wk.back (n := 21) (rc := 0) (rs := 0) (Q := Q_sbIL Z a1 zc T3.heap n0) (cl5_ _ (lsok hml rfl)) fun vn5 T5 L5 X5 hQ5 => ?_
 clear cl5_
 obtain ⟨rfl, M5, e5⟩ := hQ5
 have N5 := Fr.app N3 M5
 show Wk p e below _ T5 (mkF m 21 _ [(.int (1 : Int32))])
 have hc21_6 : ¬ ((1 : Int32) = (0 : Int32)) := by decide
 refine Wk.ifNo X5 hx (hD d27_21) (n := 24) rfl ((if0 _ _).trans (feq hc21_6).1) ?_
 refine Wk.iloadN X5 hx (hD d27_24) (n := 25) rfl rfl ?_
 refine Wk.iloadN X5 hx (hD d27_25) (n := 26) rfl rfl ?_
 refine Wk.aloadN X5 hx (hD d27_26) (n := 27) rfl rfl rfl ?_
 refine Wk.getF X5 hx hZ hown (host := "") (Or.inl (oW hw 93 rfl)) Via.refl e5 p3_1 (hD d27_27) (n := 30) rfl fun T7 X7 e7 => ?_
 have cl8_ := fun Ls (hLs : LsOk c Ls) => Jvm.LawKit.callS X7 hx (y := mn27) hown (mW hZ hw 194 rfl) (mW hZ hw 195 rfl) (mW hZ hw 187 rfl) (mW hZ hw 196 rfl) (by decide) (backOf (W := 0) (sbGC l Z a0 hw [] p1 ((Int32.ofNat cs.length) + (Int32.ofNat (sgl p1 ++ dl (mg p1)).length)) t_3 kb_3 cs dO kO dT kT 34 T3.heap n0 (by omega) p3_4 f4 S6 S7 A6 A7 (by omega) (own_ofadd _ _) (by omega) (by omega)) hZ (oW hw 196 rfl) (oW hw 187 rfl) (by decide) (by decide)) (g := mkF m 30 Ls [(.ref t_3), (.int ((Int32.ofNat cs.length) + (Int32.ofNat (sgl p1 ++ dl (mg p1)).length))), (.int p1)]) rfl hLs (argsL := [(.int p1), (.int ((Int32.ofNat cs.length) + (Int32.ofNat (sgl p1 ++ dl (mg p1)).length))), (.ref t_3)]) (rest := []) (lenOf pd_18 rfl) rfl (leq0 rfl) (hD d27_30) (fun _ _ => ⟨rfl, e7, (by decide : 1 + 0 ≤ _), (by decide : 34 + 0 ≤ _)⟩)
 refine Wk.backS (n := 33) (rc := 0) (rs := 0) (Q := Q_sbGC Z p1 ((Int32.ofNat cs.length) + (Int32.ofNat (sgl p1 ++ dl (mg p1)).length)) t_3 kb_3 cs dO kO dT kT 34 T3.heap n0) (cl8_ _ (lsok hml rfl)) fun vn8 T8 L8 X8 hQ8 => ?_
 clear cl8_
 obtain ⟨z_8, rfl, M8, J8, p8_0⟩ := hQ8
 have N8 := Fr.app N5 M8
 have sz8 := J8.1
 have K8 := K3.trans J8 (allS (Or.inr (by omega)) all0)
 have lt_p8_0 := ny p8_0.lt
 show Wk p e below _ T8 (mkF m 33 _ [(.int z_8)])
 refine Wk.pop X8 hx (hD d27_33) (n := 34) rfl rfl ?_
 refine Wk.goto X8 hx (hD d27_34) (by decide) (n := 48) (by decide) ?_
 refine Wk.aloadN X8 hx (hD d27_48) (n := 49) rfl rfl rfl ?_
 refine Wk.iloadN X8 hx (hD d27_49) (n := 50) rfl rfl ?_
 have f9 := (p3_3.keep J8 (ninS (nz (by omega)) nin0))
 have f10 := (p3_0.keep J8)
 refine Wk.putF X8 hx hZ hown (host := "") (Or.inl (oW hw 124 rfl)) Via.refl rfl f9 f10 (Or.inl (oW hw 125 rfl)) (oW hw 80 rfl) (ty := .int) (by decide) rfl rfl (hD d27_50) (n := 53) rfl fun T11 H11 X11 e11 Wn11 => ?_
 have sz11 := Wn11.size
 have Fn11 := f9.same Wn11
 have K11 := K8.wr Wn11 (Or.inl (List.mem_of_getElem? (i := 0) rfl))
 have N11 := Fr.snoc X11 N8 (by omega)
 refine Wk.aloadN X11 hx (hD d27_53) (n := 54) rfl rfl rfl ?_
 have f12 := (f10.wr Wn11)
 have f13 := ((p3_1.keep J8 (ninS (nz (by omega)) nin0)).other Wn11 (Or.inr (slot_ne (Or.inl (oW hw 94 rfl)) (Or.inl (oW hw 125 rfl)) (by decide) (t := (.array .byte)) (t' := .int) (by decide) (by decide))))
 have f14 := ((p3_2.keep J8 (ninS (nz (by omega)) nin0)).other Wn11 (Or.inr (slot_ne (Or.inl (oW hw 96 rfl)) (Or.inl (oW hw 125 rfl)) (by decide) (t := .byte) (t' := .int) (by decide) (by decide))))
 have f15 := (p8_0.other Wn11 (nz (by omega)))
 have f16 := ((p3_5.keep J8).wr Wn11)
 exact Wk.leave X11 (v := some (.ref a1)) (fun h => by rw [Bd.returns] at h; cases h) hlk e11 ⟨t_3, kb_3, rfl, N11, K11, f12, f13, f14, (by have q := Fn11; rw [own_ofadd, ← List.length_append] at q; exact q), f15, f16, (by omega)⟩ (by decide) (by decide) (fun fs hr => retA X11 hx rfl Bd.returns rfl (hD d27_54) hr)
def Q_sbSIg (Z : State) (a1 : Addr) (p1 : Int32) (t1 : Addr) (k1 : ClassId) (cs : List Int32) (zc : Int32) (dO : Addr) (kO : ClassId) (dT : Addr) (kT : ClassId) (h0 : Heap) (n0 : Nat) (v : Option Value) (h : Heap) (L : List Loc) : Prop := ∃ (t : Addr) (kb : ClassId), v = some (.ref a1) ∧ Fr n0 L ∧ Keep h0 h [a1] ∧ Exa Z h a1 "java/lang/StringBuilder" ∧ Fld Z h a1 "java/lang/AbstractStringBuilder" "value" "[B" (.ref t) ∧ Fld Z h a1 "java/lang/AbstractStringBuilder" "coder" "B" (.int (0 : Int32)) ∧ Fld Z h a1 "java/lang/AbstractStringBuilder" "count" "I" (.int (Int32.ofNat (cs ++ (sgl p1 ++ dl (mg p1))).length)) ∧ Arv Z h t kb .byte (Int32.ofNat 34) (bsV (cs ++ (sgl p1 ++ dl (mg p1)))) (.int (0 : Int32)) ∧ Exa Z h t "[B" ∧ (h0.size ≤ t)
theorem ef_sbSIg (m : MethodId) (x0 : Addr) (x1 : Int32) : entryFrame m #[(.ref x0), (.int x1)] 2 = mkF m 0 #[.val (.ref x0), .val (.int x1)] [] := by first | (simp [entryFrame, mkF, argsToLocals, Value.category]; done) | rfl
theorem sbSIg (hw : HW a0 Z) (ws : List Jvm.Cond) (a1 : Addr) (p1 : Int32) (t1 : Addr) (k1 : ClassId) (cs : List Int32) (zc : Int32) (dO : Addr) (kO : ClassId) (dT : Addr) (kT : ClassId) (h0 : Heap) (n0 : Nat) (Z0 : n0 ≤ h0.size) (Eb1 : Exa Z h0 a1 "java/lang/StringBuilder") (Gv1 : Fld Z h0 a1 "java/lang/AbstractStringBuilder" "value" "[B" (.ref t1)) (Gc1 : Fld Z h0 a1 "java/lang/AbstractStringBuilder" "coder" "B" (.int (0 : Int32))) (Gn1 : Fld Z h0 a1 "java/lang/AbstractStringBuilder" "count" "I" (.int (Int32.ofNat cs.length))) (Ab1 : Arv Z h0 t1 k1 .byte (Int32.ofNat 16) (bsV cs) (.int (0 : Int32))) (Et1 : Exa Z h0 t1 "[B") (S4 : Sta Z Z.heap "java/lang/String" "COMPACT_STRINGS" "Z" (.int zc)) (O1 : Old Z n0 h0) (S6 : Sta Z Z.heap "java/lang/Integer" "DigitOnes" "[B" (.ref dO)) (S7 : Sta Z Z.heap "java/lang/Integer" "DigitTens" "[B" (.ref dT)) (A6 : Arv Z Z.heap dO kO .byte (100 : Int32) dgO (.int (0 : Int32))) (A7 : Arv Z Z.heap dT kT .byte (100 : Int32) dgT (.int (0 : Int32))) (hCS : ¬ zc = 0) (hN1 : 16 < cs.length + (sgl p1 ++ dl (mg p1)).length) (hN2 : cs.length + (sgl p1 ++ dl (mg p1)).length ≤ 33) (hcs : cs.length ≤ 16) (g2 : n0 ≤ a1) (hn2 : ¬ @Eq Nat t1 a1) : MetN l Z mn29 jdk_67_method_15_code 2 (some (.object "java/lang/StringBuilder")) ws (rM 5 1 34 79) #[(.ref a1), (.int p1)] h0 (Q_sbSIg Z a1 p1 t1 k1 cs zc dO kO dT kT h0 n0) := by
 refine enterN (plainFor_of_name pn_java_lang_StringBuilder) (fun m => ef_sbSIg m _ _) fun p e s m below meth c s₁ Bd hZ hx hD hlk hml hown hnm X0 e0 => ?_
 have N0 := Fr.nil n0
 have K0 := Keep.refl h0 [a1]
 have lt_Eb1 := ny Eb1.lt
 have lt_Gv1 := ny Gv1.lt
 have lt_Gc1 := ny Gc1.lt
 have lt_Gn1 := ny Gn1.lt
 have lt_Ab1 := ny Ab1.lt
 have lt_Et1 := ny Et1.lt
 refine Wk.aloadN X0 hx (hD d28_0) (n := 1) rfl rfl rfl ?_
 refine Wk.iloadN X0 hx (hD d28_1) (n := 2) rfl rfl ?_
 have cl1_ := fun Ls (hLs : LsOk c Ls) => superBack X0 hx hZ (y := mn28) hown (oW hw 181 rfl) (own_same (oW hw 182 rfl) (oW hw 127 rfl) (oW hw 129 rfl) (by decide)) (oW hw 182 rfl) (oW hw 111 rfl) (by decide) (backOf (W := 0) (sbAJ l Z a0 hw [] a1 p1 t1 k1 cs zc dO kO dT kT h0 n0 (by omega) Eb1 Gv1 Gc1 Gn1 Ab1 Et1 S4 O1 S6 S7 A6 A7 hCS (by omega) (by omega) (by omega) (by omega) (by omega)) hZ (oW hw 184 rfl) (oW hw 89 rfl) (by decide) (by decide)) e0 (Ins.self Eb1) (g := mkF m 2 Ls [(.int p1), (.ref a1)]) rfl hLs (oW hw 184 rfl) (argsL := [(.int p1)]) (rest := []) (lenOf pd_19 rfl) rfl (leq0 rfl) (hD d28_2) (fun _ _ => ⟨rfl, e0, (by decide : 0 + 1 ≤ _), (by decide : 0 + 34 ≤ _)⟩)
 refine Wk.back (n := 5) (rc := 1) (rs := 34) (Q := Q_sbAJ Z a1 p1 t1 k1 cs zc dO kO dT kT h0 n0) (cl1_ _ (lsok hml rfl)) fun vn1 T1 L1 X1 hQ1 => ?_
 clear cl1_
 obtain ⟨t_1, kb_1, rfl, M1, J1, p1_0, p1_1, p1_2, p1_3, p1_4, p1_5, gt_1⟩ := hQ1
 have N1 := Fr.app N0 M1
 have sz1 := J1.1
 have K1 := K0.trans J1 (allS (Or.inl (List.mem_of_getElem? (i := 0) rfl)) all0)
 have lt_p1_0 := ny p1_0.lt
 have lt_p1_4 := ny p1_4.lt
 show Wk p e below _ T1 (mkF m 5 _ [(.ref a1)])
 refine Wk.pop X1 hx (hD d28_5) (n := 6) rfl rfl ?_
 refine Wk.aloadN X1 hx (hD d28_6) (n := 7) rfl rfl rfl ?_
 exact Wk.leave X1 (v := some (.ref a1)) (fun h => by rw [Bd.returns] at h; cases h) hlk rfl ⟨t_1, kb_1, rfl, N1, K1, p1_0, p1_1, p1_2, p1_3, p1_4, p1_5, (by omega)⟩ (by decide) (by decide) (fun fs hr => retA X1 hx rfl Bd.returns rfl (hD d28_7) hr)
def Q_sbCC (Z : State) (t1 : Addr) (k1 : ClassId) (cs : List Int32) (i1 : Int32) (h0 : Heap) (n0 : Nat) (v : Option Value) (h : Heap) (L : List Loc) : Prop := ∃ (t : Addr) (kb : ClassId), v = some (.ref t) ∧ Fr n0 L ∧ Keep h0 h [] ∧ Arv Z h t kb .byte (Int32.ofNat cs.length) (bsV cs) (.int (0 : Int32)) ∧ (h0.size ≤ t)
theorem ef_sbCC (m : MethodId) (x0 : Addr) (x2 : Int32) : entryFrame m #[(.ref x0), (.int (0 : Int32)), (.int x2)] 3 = mkF m 0 #[.val (.ref x0), .val (.int (0 : Int32)), .val (.int x2)] [] := by first | (simp [entryFrame, mkF, argsToLocals, Value.category]; done) | rfl
theorem d21_17 : decode B21_ 17 = .ok (.aload_n 0, 1) := by decide +kernel
theorem d21_18 : decode B21_ 18 = .ok (.invokevirtual 310, 3) := by decide +kernel
theorem d21_21 : decode B21_ 21 = .ok (.checkcast 311, 3) := by decide +kernel
theorem d21_24 : decode B21_ 24 = .ok (.areturn, 1) := by decide +kernel
theorem sbCC (hw : HW a0 Z) (ws : List Jvm.Cond) (t1 : Addr) (k1 : ClassId) (cs : List Int32) (i1 : Int32) (h0 : Heap) (n0 : Nat) (Z0 : n0 ≤ h0.size) (Ab1 : Arv Z h0 t1 k1 .byte (Int32.ofNat 16) (bsV cs) (.int (0 : Int32))) (Et1 : Exa Z h0 t1 "[B") (hi : i1 = Int32.ofNat cs.length) (hN : cs.length = 16) : MetN l Z mn22 jdk_65_method_132_code 3 (some (.array .byte)) ws (rM 1 1 16 20) #[(.ref t1), (.int (0 : Int32)), (.int i1)] h0 (Q_sbCC Z t1 k1 cs i1 h0 n0) := by
 refine enterN (plainFor_of_name pn_java_util_Arrays) (fun m => ef_sbCC m _ _) fun p e s m below meth c s₁ Bd hZ hx hD hlk hml hown hnm X0 e0 => ?_
 have N0 := Fr.nil n0
 have K0 := Keep.refl h0 []
 have lt_Ab1 := ny Ab1.lt
 have lt_Et1 := ny Et1.lt
 refine Wk.iloadN X0 hx (hD d21_0) (n := 1) rfl rfl ?_
 have hc1_1 : (0 : Int32) = (0 : Int32) := rfl
 refine Wk.ifNo X0 hx (hD d21_1) (n := 4) rfl ((if0 _ _).trans (teq hc1_1).2) ?_
 refine Wk.iloadN X0 hx (hD d21_4) (n := 5) rfl rfl ?_
 refine Wk.aloadN X0 hx (hD d21_5) (n := 6) rfl rfl rfl ?_
 obtain ⟨cl2, Ar2, qn2, Sz2, N_2, H_2, Gn2⟩ := id Ab1
 refine Wk.arrlen X0 hx hZ e0 Ar2 Sz2 N_2 (hD d21_6) (n := 7) rfl ?_
 have hc7_3 : i1 = (Int32.ofNat 16) := by rw [hi, hN]
 refine Wk.icmpYes X0 hx (hD d21_7) (teq hc7_3).1 (by decide) (n := 17) (by decide) ?_
 refine Wk.aloadN X0 hx (hD d21_17) (n := 18) rfl rfl rfl ?_
 obtain ⟨cl4, Ar4, qn4, Sz4, N_4, H_4, Gn4⟩ := id Ab1
 have cl4_ := fun (Ls : Array Slot) (hLs : Ls.size = c.maxLocals) => cloneA X0 hx hZ hown (ad := "[B") (oW hw 283 rfl) (oW hw 284 rfl) (oW hw 288 rfl) (oW hw 286 rfl) (oW hw 287 rfl) (oW hw 289 rfl) e0 Ar4 Et1 (own_fitc Ar4 H_4 Gn4) (g := mkF m 18 Ls [(.ref t1)]) rfl hLs (rest := []) rfl (hD d21_18) (by decide) (W := 0) (by show 2 * 0 + _ ≤ _; exact Nat.le_of_eq rfl) (by decide) (cap := 16) (Nat.le_of_eq Sz4) (by decide) (by decide)
 obtain ⟨T4, H4, X4, e4, Ex4, A4_, An4, st4_⟩ := cl4_ #[.val (.ref t1), .val (.int (0 : Int32)), .val (.int i1)] (by rw [hml]; rfl)
 refine Wk.go st4_ ?_
 clear st4_ cl4_
 obtain ⟨b4, gn4⟩ : ∃ z : Addr, @Eq Nat z h0.size := ⟨_, rfl⟩
 rw [← (gn4 : b4 = Array.size h0)] at A4_ An4
 have sz4 := Ex4.1
 have K4 := K0.ext Ex4
 have Vn4 := own_clb A4_ Sz4 N_4 H_4 Gn4
 have lt4 := ny Vn4.lt
 show Wk p e below _ T4 (mkF m 21 _ [.ref (Array.size _)])
 rw [← (gn4 : b4 = Array.size _)]
 refine Wk.castY X4 hx hZ hown (oW hw 290 rfl) e4 (Ins.self An4) (hD d21_21) (n := 24) rfl fun T5 X5 e5 => ?_
 exact Wk.leave X5 (v := some (.ref b4)) (fun h => by rw [Bd.returns] at h; cases h) hlk e5 ⟨b4, cl4.cls, rfl, N0, K4, (by have q := Vn4; rw [← hN] at q; exact q), (by omega)⟩ (by decide) (by decide) (fun fs hr => retA X5 hx rfl Bd.returns rfl (hD d21_24) hr)
def Q_sbVC (Z : State) (x1 : Addr) (a1 : Addr) (t1 : Addr) (k1 : ClassId) (cs : List Int32) (zc : Int32) (u1 : Value) (h0 : Heap) (n0 : Nat) (v : Option Value) (h : Heap) (L : List Loc) : Prop := ∃ (t : Addr) (kb : ClassId), v = none ∧ Fr n0 L ∧ Keep h0 h [x1] ∧ Exa Z h x1 "java/lang/String" ∧ Fld Z h x1 "java/lang/String" "value" "[B" (.ref t) ∧ Fld Z h x1 "java/lang/String" "coder" "B" (.int (0 : Int32)) ∧ Arv Z h t kb .byte (Int32.ofNat cs.length) (bsV cs) (.int (0 : Int32)) ∧ (h0.size ≤ t)
theorem ef_sbVC (m : MethodId) (x0 : Addr) (x1 : Addr) : entryFrame m #[(.ref x0), (.ref x1), .null] 5 = mkF m 0 #[.val (.ref x0), .val (.ref x1), .val .null, .unset, .unset] [] := by first | (simp [entryFrame, mkF, argsToLocals, Value.category]; done) | rfl
theorem sbVC (hw : HW a0 Z) (ws : List Jvm.Cond) (x1 : Addr) (a1 : Addr) (t1 : Addr) (k1 : ClassId) (cs : List Int32) (zc : Int32) (u1 : Value) (h0 : Heap) (n0 : Nat) (Z0 : n0 ≤ h0.size) (E1 : Exa Z h0 x1 "java/lang/String") (F1 : Fld Z h0 x1 "java/lang/String" "value" "[B" u1) (F2 : Fld Z h0 x1 "java/lang/String" "coder" "B" (.int (0 : Int32))) (Eb1 : Exa Z h0 a1 "java/lang/StringBuilder") (Gv1 : Fld Z h0 a1 "java/lang/AbstractStringBuilder" "value" "[B" (.ref t1)) (Gc1 : Fld Z h0 a1 "java/lang/AbstractStringBuilder" "coder" "B" (.int (0 : Int32))) (Gn1 : Fld Z h0 a1 "java/lang/AbstractStringBuilder" "count" "I" (.int (Int32.ofNat cs.length))) (Ab1 : Arv Z h0 t1 k1 .byte (Int32.ofNat 16) (bsV cs) (.int (0 : Int32))) (Et1 : Exa Z h0 t1 "[B") (S4 : Sta Z Z.heap "java/lang/String" "COMPACT_STRINGS" "Z" (.int zc)) (O1 : Old Z n0 h0) (hCS : ¬ zc = 0) (hN : cs.length = 16) (g1 : n0 ≤ x1) (hn1 : ¬ @Eq Nat x1 a1) (hn2 : ¬ @Eq Nat x1 t1) : MetN l Z mn23 jdk_42_method_150_code 5 none ws (rM 3 1 16 63) #[(.ref x1), (.ref a1), .null] h0 (Q_sbVC Z x1 a1 t1 k1 cs zc u1 h0 n0) := by
 refine enterN (plainFor_of_name pn_java_lang_String) (fun m => ef_sbVC m _ _) fun p e s m below meth c s₁ Bd hZ hx hD hlk hml hown hnm X0 e0 => ?_
 have N0 := Fr.nil n0
 have K0 := Keep.refl h0 [x1]
 have lt_E1 := ny E1.lt
 have lt_F1 := ny F1.lt
 have lt_F2 := ny F2.lt
 have lt_Eb1 := ny Eb1.lt
 have lt_Gv1 := ny Gv1.lt
 have lt_Gc1 := ny Gc1.lt
 have lt_Gn1 := ny Gn1.lt
 have lt_Ab1 := ny Ab1.lt
 have lt_Et1 := ny Et1.lt
 refine Wk.aloadN X0 hx (hD d22_0) (n := 1) rfl rfl rfl ?_
 refine Wk.initO X0 hx hZ hown (oW hw 14 rfl) (oW hw 15 rfl) (oW hw 16 rfl) e0 (by rw [hml]; rfl) (hD d22_1) (n := 4) rfl (by decide) (w := 0) (Nat.le_of_eq rfl) (by decide) fun T1 X1 e1 => ?_
 refine Wk.aloadN X1 hx (hD d22_4) (n := 5) rfl rfl rfl ?_
 obtain ⟨cq2, kq2, qn2a, qn2b, qn2c⟩ := isOf hZ e1 Eb1
 have cl2_ := fun Ls (hLs : LsOk c Ls) => X1.virtualBack hx (y := mn15) (z := mn15) hown (mW hZ hw 210 rfl) (mW hZ hw 211 rfl) (notFace_of_selects (args := #[]) (mW hZ hw 213 rfl)) (mW hZ hw 213 rfl) (mW hZ hw 212 rfl) (by decide) (backOf (W := 0) (sbGV l Z a0 hw [] a1 t1 h0 n0 (by omega) Gv1) hZ (oW hw 214 rfl) (oW hw 89 rfl) (by decide) (by decide)) qn2a qn2c (g := mkF m 5 Ls [(.ref a1)]) rfl hLs (Steps.refl _) (argsL := []) (rest := []) (lenOf pd_13 rfl) rfl (leq0 rfl) (hD d22_5) (fun _ _ => ⟨rfl, e1, (by decide : 0 + 0 ≤ _), (by decide : 0 + 0 ≤ _)⟩)
 refine Wk.back (n := 8) (rc := 0) (rs := 0) (Q := Q_sbGV Z a1 t1 h0 n0) (cl2_ _ (lsok hml rfl)) fun vn2 T2 L2 X2 hQ2 => ?_
 clear cl2_
 obtain ⟨rfl, M2, e2⟩ := hQ2
 have N2 := Fr.app N0 M2
 show Wk p e below _ T2 (mkF m 8 _ [(.ref t1)])
 refine Wk.astoreN X2 hx (hD d22_8) (n := 9) rfl rfl (L' := #[.val (.ref x1), .val (.ref a1), .val .null, .val (.ref t1), .unset]) rfl ?_
 refine Wk.aloadN X2 hx (hD d22_9) (n := 10) rfl rfl rfl ?_
 obtain ⟨cq3, kq3, qn3a, qn3b, qn3c⟩ := isOf hZ e2 Eb1
 have cl3_ := fun Ls (hLs : LsOk c Ls) => X2.virtualBack hx (y := mn16) (z := mn17) hown (mW hZ hw 215 rfl) (mW hZ hw 216 rfl) (own_nf (args := #[]) (mW hZ hw 216 rfl) (mW hZ hw 212 rfl) (mW hZ hw 213 rfl)) (mW hZ hw 218 rfl) (mW hZ hw 219 rfl) (by decide) (backOf (W := 0) (sbL0 l Z a0 hw [] a1 (Int32.ofNat cs.length) h0 n0 (by omega) Eb1 Gn1) hZ (oW hw 220 rfl) (oW hw 81 rfl) (by decide) (by decide)) qn3a qn3c (g := mkF m 10 Ls [(.ref a1)]) rfl hLs (Steps.refl _) (argsL := []) (rest := []) (lenOf pd_7 rfl) rfl (leq0 rfl) (hD d22_10) (fun _ _ => ⟨rfl, e2, (by decide : 0 + 0 ≤ _), (by decide : 0 + 0 ≤ _)⟩)
 refine Wk.back (n := 13) (rc := 0) (rs := 0) (Q := Q_sbL0 Z a1 (Int32.ofNat cs.length) h0 n0) (cl3_ _ (lsok hml rfl)) fun vn3 T3 L3 X3 hQ3 => ?_
 clear cl3_
 obtain ⟨rfl, M3, e3⟩ := hQ3
 have N3 := Fr.app N2 M3
 show Wk p e below _ T3 (mkF m 13 _ [(.int (Int32.ofNat cs.length))])
 refine Wk.istore X3 hx (hD d22_13) (n := 15) rfl (L' := #[.val (.ref x1), .val (.ref a1), .val .null, .val (.ref t1), .val (.int (Int32.ofNat cs.length))]) rfl ?_
 refine Wk.aloadN X3 hx (hD d22_15) (n := 16) rfl rfl rfl ?_
 obtain ⟨cq4, kq4, qn4a, qn4b, qn4c⟩ := isOf hZ e3 Eb1
 have cl4_ := fun Ls (hLs : LsOk c Ls) => X3.virtualBack hx (y := mn18) (z := mn18) hown (mW hZ hw 223 rfl) (mW hZ hw 190 rfl) (notFace_of_selects (args := #[]) (mW hZ hw 192 rfl)) (mW hZ hw 192 rfl) (mW hZ hw 191 rfl) (by decide) (backOf (W := 0) (sbIL l Z a0 hw [] a1 zc h0 n0 (by omega) Gc1 S4 O1 hCS) hZ (oW hw 193 rfl) (oW hw 89 rfl) (by decide) (by decide)) qn4a qn4c (g := mkF m 16 Ls [(.ref a1)]) rfl hLs (Steps.refl _) (argsL := []) (rest := []) (lenOf pd_14 rfl) rfl (leq0 rfl) (hD d22_16) (fun _ _ => ⟨rfl, e3, (by decide : 0 + 0 ≤ _), (by decide : 0 + 0 ≤ _)⟩)
 refine Wk.back (n := 19) (rc := 0) (rs := 0) (Q := Q_sbIL Z a1 zc h0 n0) (cl4_ _ (lsok hml rfl)) fun vn4 T4 L4 X4 hQ4 => ?_
 clear cl4_
 obtain ⟨rfl, M4, e4⟩ := hQ4
 have N4 := Fr.app N3 M4
 show Wk p e below _ T4 (mkF m 19 _ [(.int (1 : Int32))])
 have hc19_5 : ¬ ((1 : Int32) = (0 : Int32)) := by decide
 refine Wk.ifNo X4 hx (hD d22_19) (n := 22) rfl ((if0 _ _).trans (feq hc19_5).1) ?_
 refine Wk.aloadN X4 hx (hD d22_22) (n := 23) rfl rfl rfl ?_
 refine Wk.iconst X4 hx (hD d22_23) (n := 24) rfl (z := (0 : Int32)) rfl ?_
 refine Wk.putFN X4 hx hZ hown (oW hw 29 rfl) Via.refl e4 F2 E1 (Or.inr ⟨(oW hw 30 rfl), rfl, hnm⟩) (oW hw 5 rfl) (ty := .byte) (by decide) (v' := (.int (0 : Int32))) rfl rfl (hD d22_24) (n := 27) rfl fun T6 H6 X6 e6 Wn6 => ?_
 have sz6 := Wn6.size
 have Fn6 := F2.same Wn6
 have K6 := K0.wr Wn6 (Or.inl (List.mem_of_getElem? (i := 0) rfl))
 have N6 := Fr.snoc X6 N4 (by omega)
 refine Wk.aloadN X6 hx (hD d22_27) (n := 28) rfl rfl rfl ?_
 refine Wk.aloadN X6 hx (hD d22_28) (n := 29) rfl rfl rfl ?_
 refine Wk.iconst X6 hx (hD d22_29) (n := 30) rfl (z := (0 : Int32)) rfl ?_
 refine Wk.iload X6 hx (hD d22_30) (n := 32) rfl rfl ?_
 have f7 := (Ab1.other Wn6 (nz (by omega)))
 have f8 := (Et1.wr Wn6)
 have cl9_ := fun Ls (hLs : LsOk c Ls) => Jvm.LawKit.callS X6 hx (y := mn22) hown (mW hZ hw 224 rfl) (mW hZ hw 225 rfl) (mW hZ hw 169 rfl) (mW hZ hw 226 rfl) (by decide) (backOf (W := 1) (sbCC l Z a0 hw [] t1 k1 cs (Int32.ofNat cs.length) H6 n0 (by omega) f7 f8 rfl (by omega)) hZ (oW hw 226 rfl) (oW hw 169 rfl) (by decide) (by decide)) (g := mkF m 32 Ls [(.int (Int32.ofNat cs.length)), (.int (0 : Int32)), (.ref t1), (.ref x1)]) rfl hLs (argsL := [(.ref t1), (.int (0 : Int32)), (.int (Int32.ofNat cs.length))]) (rest := [(.ref x1)]) (lenOf pd_12 rfl) rfl (leq0 rfl) (hD d22_32) (fun _ _ => ⟨rfl, e6, (by decide : 0 + 1 ≤ _), (by decide : 0 + 16 ≤ _)⟩)
 refine Wk.backS (n := 35) (rc := 1) (rs := 16) (Q := Q_sbCC Z t1 k1 cs (Int32.ofNat cs.length) H6 n0) (cl9_ _ (lsok hml rfl)) fun vn9 T9 L9 X9 hQ9 => ?_
 clear cl9_
 obtain ⟨t_9, kb_9, rfl, M9, J9, p9_0, gt_9⟩ := hQ9
 have N9 := Fr.app N6 M9
 have sz9 := J9.1
 have K9 := K6.trans J9 (fun x hx => nomatch hx)
 have lt_p9_0 := ny p9_0.lt
 show Wk p e below _ T9 (mkF m 35 _ [(.ref t_9), (.ref x1)])
 have f10 := ((F1.other Wn6 (Or.inr (slot_ne (Or.inr (oW hw 32 rfl)) (Or.inr (oW hw 30 rfl)) (by decide) (t := (.array .byte)) (t' := .byte) (by decide) (by decide)))).keep J9 nin0)
 have f11 := ((E1.wr Wn6).keep J9)
 refine Wk.putF X9 hx hZ hown (host := "") (Or.inl (oW hw 31 rfl)) Via.refl rfl f10 f11 (Or.inr ⟨(oW hw 32 rfl), rfl, hnm⟩) (oW hw 5 rfl) (ty := (.array .byte)) (by decide) rfl rfl (hD d22_35) (n := 38) rfl fun T12 H12 X12 e12 Wn12 => ?_
 have sz12 := Wn12.size
 have Fn12 := f10.same Wn12
 have K12 := K9.wr Wn12 (Or.inl (List.mem_of_getElem? (i := 0) rfl))
 have N12 := Fr.snoc X12 N9 (by omega)
 refine Wk.goto X12 hx (hD d22_38) (by decide) (n := 97) (by decide) ?_
 have f13 := (f11.wr Wn12)
 have f14 := ((Fn6.keep J9 nin0).other Wn12 (Or.inr (slot_ne (Or.inr (oW hw 30 rfl)) (Or.inr (oW hw 32 rfl)) (by decide) (t := .byte) (t' := (.array .byte)) (by decide) (by decide))))
 have f15 := (p9_0.other Wn12 (nz (by omega)))
 exact Wk.leave X12 (v := none) (fun _ => rfl) hlk e12 ⟨t_9, kb_9, rfl, N12, K12, f13, Fn12, f14, f15, (by omega)⟩ (by decide) (by decide) (fun fs hr => X12.returnOut hx Bd.returns (hD d22_97) hr)
def Q_sbWC (Z : State) (x1 : Addr) (a1 : Addr) (t1 : Addr) (k1 : ClassId) (cs : List Int32) (zc : Int32) (u1 : Value) (h0 : Heap) (n0 : Nat) (v : Option Value) (h : Heap) (L : List Loc) : Prop := ∃ (t : Addr) (kb : ClassId), v = none ∧ Fr n0 L ∧ Keep h0 h [x1] ∧ Exa Z h x1 "java/lang/String" ∧ Fld Z h x1 "java/lang/String" "value" "[B" (.ref t) ∧ Fld Z h x1 "java/lang/String" "coder" "B" (.int (0 : Int32)) ∧ Arv Z h t kb .byte (Int32.ofNat cs.length) (bsV cs) (.int (0 : Int32)) ∧ (h0.size ≤ t)
theorem ef_sbWC (m : MethodId) (x0 : Addr) (x1 : Addr) : entryFrame m #[(.ref x0), (.ref x1)] 2 = mkF m 0 #[.val (.ref x0), .val (.ref x1)] [] := by first | (simp [entryFrame, mkF, argsToLocals, Value.category]; done) | rfl
theorem sbWC (hw : HW a0 Z) (ws : List Jvm.Cond) (x1 : Addr) (a1 : Addr) (t1 : Addr) (k1 : ClassId) (cs : List Int32) (zc : Int32) (u1 : Value) (h0 : Heap) (n0 : Nat) (Z0 : n0 ≤ h0.size) (E1 : Exa Z h0 x1 "java/lang/String") (F1 : Fld Z h0 x1 "java/lang/String" "value" "[B" u1) (F2 : Fld Z h0 x1 "java/lang/String" "coder" "B" (.int (0 : Int32))) (Eb1 : Exa Z h0 a1 "java/lang/StringBuilder") (Gv1 : Fld Z h0 a1 "java/lang/AbstractStringBuilder" "value" "[B" (.ref t1)) (Gc1 : Fld Z h0 a1 "java/lang/AbstractStringBuilder" "coder" "B" (.int (0 : Int32))) (Gn1 : Fld Z h0 a1 "java/lang/AbstractStringBuilder" "count" "I" (.int (Int32.ofNat cs.length))) (Ab1 : Arv Z h0 t1 k1 .byte (Int32.ofNat 16) (bsV cs) (.int (0 : Int32))) (Et1 : Exa Z h0 t1 "[B") (S4 : Sta Z Z.heap "java/lang/String" "COMPACT_STRINGS" "Z" (.int zc)) (O1 : Old Z n0 h0) (hCS : ¬ zc = 0) (hN : cs.length = 16) (g1 : n0 ≤ x1) (hn1 : ¬ @Eq Nat x1 a1) (hn2 : ¬ @Eq Nat x1 t1) : MetN l Z mn24 jdk_42_method_53_code 2 none ws (rM 4 1 16 79) #[(.ref x1), (.ref a1)] h0 (Q_sbWC Z x1 a1 t1 k1 cs zc u1 h0 n0) := by
 refine enterN (plainFor_of_name pn_java_lang_String) (fun m => ef_sbWC m _ _) fun p e s m below meth c s₁ Bd hZ hx hD hlk hml hown hnm X0 e0 => ?_
 have N0 := Fr.nil n0
 have K0 := Keep.refl h0 [x1]
 have lt_E1 := ny E1.lt
 have lt_F1 := ny F1.lt
 have lt_F2 := ny F2.lt
 have lt_Eb1 := ny Eb1.lt
 have lt_Gv1 := ny Gv1.lt
 have lt_Gc1 := ny Gc1.lt
 have lt_Gn1 := ny Gn1.lt
 have lt_Ab1 := ny Ab1.lt
 have lt_Et1 := ny Et1.lt
 refine Wk.aloadN X0 hx (hD d23_0) (n := 1) rfl rfl rfl ?_
 refine Wk.aloadN X0 hx (hD d23_1) (n := 2) rfl rfl rfl ?_
 refine Wk.aconstNull X0 hx (hD d23_2) (n := 3) rfl ?_
 have cl1_ := fun Ls (hLs : LsOk c Ls) => X0.specialBack hx (y := mn23) rfl hown (mW hZ hw 207 rfl) (mW hZ hw 208 rfl) (mW hZ hw 209 rfl) (by decide) (backOf (W := 0) (sbVC l Z a0 hw [] x1 a1 t1 k1 cs zc u1 h0 n0 (by omega) E1 F1 F2 Eb1 Gv1 Gc1 Gn1 Ab1 Et1 S4 O1 hCS (by omega) (by omega) (by omega) (by omega)) hZ (oW hw 209 rfl) (oW hw 6 rfl) (by decide) (by decide)) (g := mkF m 3 Ls [.null, (.ref a1), (.ref x1)]) rfl hLs (Steps.refl _) (a := x1) (argsL := [(.ref a1), .null]) (rest := []) (lenOf pd_15 rfl) rfl (leq0 rfl) (hD d23_3) (fun _ _ => ⟨rfl, e0, (by decide : 0 + 1 ≤ _), (by decide : 0 + 16 ≤ _)⟩)
 refine Wk.back (n := 6) (rc := 1) (rs := 16) (Q := Q_sbVC Z x1 a1 t1 k1 cs zc u1 h0 n0) (cl1_ _ (lsok hml rfl)) fun vn1 T1 L1 X1 hQ1 => ?_
 clear cl1_
 obtain ⟨t_1, kb_1, rfl, M1, J1, p1_0, p1_1, p1_2, p1_3, gt_1⟩ := hQ1
 have N1 := Fr.app N0 M1
 have sz1 := J1.1
 have K1 := K0.trans J1 (allS (Or.inl (List.mem_of_getElem? (i := 0) rfl)) all0)
 have lt_p1_0 := ny p1_0.lt
 have lt_p1_3 := ny p1_3.lt
 show Wk p e below _ T1 (mkF m 6 _ [])
 exact Wk.leave X1 (v := none) (fun _ => rfl) hlk rfl ⟨t_1, kb_1, rfl, N1, K1, p1_0, p1_1, p1_2, p1_3, (by omega)⟩ (by decide) (by decide) (fun fs hr => X1.returnOut hx Bd.returns (hD d23_6) hr)
def Q_sbTSc (Z : State) (a1 : Addr) (t1 : Addr) (k1 : ClassId) (cs : List Int32) (zc : Int32) (h0 : Heap) (n0 : Nat) (v : Option Value) (h : Heap) (L : List Loc) : Prop := ∃ (r : Addr) (t : Addr) (kb : ClassId), v = some (.ref r) ∧ Fr n0 L ∧ Keep h0 h [] ∧ Exa Z h r "java/lang/String" ∧ Fld Z h r "java/lang/String" "value" "[B" (.ref t) ∧ Fld Z h r "java/lang/String" "coder" "B" (.int (0 : Int32)) ∧ Arv Z h t kb .byte (Int32.ofNat cs.length) (bsV cs) (.int (0 : Int32)) ∧ (h0.size ≤ r) ∧ (h0.size ≤ t)
theorem ef_sbTSc (m : MethodId) (x0 : Addr) : entryFrame m #[(.ref x0)] 1 = mkF m 0 #[.val (.ref x0)] [] := by first | (simp [entryFrame, mkF, argsToLocals, Value.category]; done) | rfl
theorem sbTSc (hw : HW a0 Z) (ws : List Jvm.Cond) (a1 : Addr) (t1 : Addr) (k1 : ClassId) (cs : List Int32) (zc : Int32) (h0 : Heap) (n0 : Nat) (Z0 : n0 ≤ h0.size) (Eb1 : Exa Z h0 a1 "java/lang/StringBuilder") (Gv1 : Fld Z h0 a1 "java/lang/AbstractStringBuilder" "value" "[B" (.ref t1)) (Gc1 : Fld Z h0 a1 "java/lang/AbstractStringBuilder" "coder" "B" (.int (0 : Int32))) (Gn1 : Fld Z h0 a1 "java/lang/AbstractStringBuilder" "count" "I" (.int (Int32.ofNat cs.length))) (Ab1 : Arv Z h0 t1 k1 .byte (Int32.ofNat 16) (bsV cs) (.int (0 : Int32))) (Et1 : Exa Z h0 t1 "[B") (S4 : Sta Z Z.heap "java/lang/String" "COMPACT_STRINGS" "Z" (.int zc)) (O1 : Old Z n0 h0) (hCS : ¬ zc = 0) (hN : cs.length = 16) : MetN l Z mn25 jdk_67_method_42_code 1 (some (.object "java/lang/String")) ws (rM 5 2 20 93) #[(.ref a1)] h0 (Q_sbTSc Z a1 t1 k1 cs zc h0 n0) := by
 refine enterN (plainFor_of_name pn_java_lang_StringBuilder) (fun m => ef_sbTSc m _) fun p e s m below meth c s₁ Bd hZ hx hD hlk hml hown hnm X0 e0 => ?_
 have N0 := Fr.nil n0
 have K0 := Keep.refl h0 []
 have lt_Eb1 := ny Eb1.lt
 have lt_Gv1 := ny Gv1.lt
 have lt_Gc1 := ny Gc1.lt
 have lt_Gn1 := ny Gn1.lt
 have lt_Ab1 := ny Ab1.lt
 have lt_Et1 := ny Et1.lt
 refine Wk.newO X0 hx hZ hown (oW hw 203 rfl) (oW hw 5 rfl) (oW hw 6 rfl) e0 (hD d24_0) (n := 3) rfl (by decide) (by decide) fun T1 H1 b1 gn1 X1 e1 Ex1 An1 Dn1 Yn1 => ?_
 have gn1 := nx gn1
 have sz1 := Ex1.1
 have lt1 := ny An1.lt
 have K1 := K0.ext Ex1
 have Fn1_coder : Fld Z H1 b1 "java/lang/String" "coder" "B" (.int (0 : Int32)) := Dn1 (Or.inr (oW hw 30 rfl)) (ty := .byte) (by decide)
 have Fn1_value : Fld Z H1 b1 "java/lang/String" "value" "[B" .null := Dn1 (Or.inr (oW hw 32 rfl)) (ty := (.array .byte)) (by decide)
 refine Wk.dup X1 hx (hD d24_3) (n := 4) rfl rfl ?_
 refine Wk.aloadN X1 hx (hD d24_4) (n := 5) rfl rfl rfl ?_
 have f2 := (Eb1.ext Ex1)
 have f3 := (Gv1.ext Ex1)
 have f4 := (Gc1.ext Ex1)
 have f5 := (Gn1.ext Ex1)
 have f6 := (Ab1.ext Ex1)
 have f7 := (Et1.ext Ex1)
 have f8 := (O1.ext Ex1)
 have cl9_ := fun Ls (hLs : LsOk c Ls) => X1.specialBack hx (y := mn24) rfl hown (mW hZ hw 204 rfl) (mW hZ hw 205 rfl) (mW hZ hw 206 rfl) (by decide) (backOf (W := 1) (sbWC l Z a0 hw [] b1 a1 t1 k1 cs zc .null H1 n0 (by omega) An1 Fn1_value Fn1_coder f2 f3 f4 f5 f6 f7 S4 f8 hCS (by omega) (by omega) (by omega) (by omega)) hZ (oW hw 206 rfl) (oW hw 6 rfl) (by decide) (by decide)) (g := mkF m 5 Ls [(.ref a1), (.ref b1), (.ref b1)]) rfl hLs (Steps.refl _) (a := b1) (argsL := [(.ref a1)]) (rest := [(.ref b1)]) (lenOf pd_16 rfl) rfl (leq0 rfl) (hD d24_5) (fun _ _ => ⟨rfl, e1, (by decide : 1 + 1 ≤ _), (by decide : 4 + 16 ≤ _)⟩)
 refine Wk.back (n := 8) (rc := 1) (rs := 16) (Q := Q_sbWC Z b1 a1 t1 k1 cs zc .null H1 n0) (cl9_ _ (lsok hml rfl)) fun vn9 T9 L9 X9 hQ9 => ?_
 clear cl9_
 obtain ⟨t_9, kb_9, rfl, M9, J9, p9_0, p9_1, p9_2, p9_3, gt_9⟩ := hQ9
 have N9 := Fr.app N0 M9
 have sz9 := J9.1
 have K9 := K1.trans J9 (allS (Or.inr (by omega)) all0)
 have lt_p9_0 := ny p9_0.lt
 have lt_p9_3 := ny p9_3.lt
 show Wk p e below _ T9 (mkF m 8 _ [(.ref b1)])
 exact Wk.leave X9 (v := some (.ref b1)) (fun h => by rw [Bd.returns] at h; cases h) hlk rfl ⟨b1, t_9, kb_9, rfl, N9, K9, p9_0, p9_1, p9_2, p9_3, (by omega), (by omega)⟩ (by decide) (by decide) (fun fs hr => retA X9 hx rfl Bd.returns rfl (hD d24_8) hr)
def Q_rmRI (Z : State) (a1 : Addr) (h0 : Heap) (n0 : Nat) (v : Option Value) (h : Heap) (L : List Loc) : Prop := v = none ∧ Fr n0 L ∧ h = h0
theorem ef_rmRI (m : MethodId) (x0 : Addr) : entryFrame m #[(.ref x0)] 1 = mkF m 0 #[.val (.ref x0)] [] := by first | (simp [entryFrame, mkF, argsToLocals, Value.category]; done) | rfl
theorem pn_java_lang_Record : plainName "java/lang/Record" = true := by first | (simp [plainName, overriddenIn]; done) | decide +kernel
theorem d33_0 : decode B33_ 0 = .ok (.aload_n 0, 1) := by decide +kernel
theorem d33_1 : decode B33_ 1 = .ok (.invokespecial 1, 3) := by decide +kernel
theorem d33_4 : decode B33_ 4 = .ok (.return_, 1) := by decide +kernel
theorem rmRI (hw : HW a0 Z) (ws : List Jvm.Cond) (a1 : Addr) (h0 : Heap) (n0 : Nat) (Z0 : n0 ≤ h0.size) : MetN l Z mn34 jdk_30_method_1_code 1 none ws (rM 1 0 0 12) #[(.ref a1)] h0 (Q_rmRI Z a1 h0 n0) := by
 refine enterN (plainFor_of_name pn_java_lang_Record) (fun m => ef_rmRI m _) fun p e s m below meth c s₁ Bd hZ hx hD hlk hml hown hnm X0 e0 => ?_
 have N0 := Fr.nil n0
 have K0 := Keep.refl h0 []
 refine Wk.aloadN X0 hx (hD d33_0) (n := 1) rfl rfl rfl ?_
 refine Wk.initO X0 hx hZ hown (oW hw 61 rfl) (oW hw 15 rfl) (oW hw 16 rfl) e0 (by rw [hml]; rfl) (hD d33_1) (n := 4) rfl (by decide) (w := 0) (Nat.le_of_eq rfl) (by decide) fun T1 X1 e1 => ?_
 exact Wk.leave X1 (v := none) (fun _ => rfl) hlk e1 ⟨rfl, N0, rfl⟩ (by decide) (by decide) (fun fs hr => X1.returnOut hx Bd.returns (hD d33_4) hr)
def Q_rmAI (Z : State) (a1 : Addr) (y1 : Addr) (y2 : Addr) (p1 : Int32) (y3 : Addr) (y4 : Addr) (u : Value) (u0 : Value) (u1 : Value) (u2 : Value) (u3 : Value) (u4 : Value) (u5 : Value) (h0 : Heap) (n0 : Nat) (v : Option Value) (h : Heap) (L : List Loc) : Prop := v = none ∧ Fr n0 L ∧ Keep h0 h [a1] ∧ Exa Z h a1 "com/example/mulock/mulock/sql/SqlAddress" ∧ Fld Z h a1 "com/example/mulock/mulock/sql/SqlAddress" "database" "Lcom/example/mulock/mulock/sql/SqlDatabase;" (.ref y1) ∧ Fld Z h a1 "com/example/mulock/mulock/sql/SqlAddress" "host" "Ljava/lang/String;" (.ref y2) ∧ Fld Z h a1 "com/example/mulock/mulock/sql/SqlAddress" "port" "I" (.int p1)
theorem ef_rmAI (m : MethodId) (x0 : Addr) (x1 : Addr) (x2 : Addr) (x3 : Int32) (x4 : Addr) (x5 : Addr) (x6 : Value) (hq6 : x6.isRef = true) : entryFrame m #[(.ref x0), (.ref x1), (.ref x2), (.int x3), (.ref x4), (.ref x5), x6] 7 = mkF m 0 #[.val (.ref x0), .val (.ref x1), .val (.ref x2), .val (.int x3), .val (.ref x4), .val (.ref x5), .val x6] [] := by rcases ref_cases hq6 with rfl | ⟨z6, rfl⟩ <;> first | (simp [entryFrame, mkF, argsToLocals, Value.category]; done) | rfl
theorem pn_com_example_mulock_mulock_sql_SqlAddress : plainName "com/example/mulock/mulock/sql/SqlAddress" = true := by first | (simp [plainName, overriddenIn]; done) | decide +kernel
theorem d34_0 : decode B34_ 0 = .ok (.aload_n 0, 1) := by decide +kernel
theorem d34_1 : decode B34_ 1 = .ok (.invokespecial 1, 3) := by decide +kernel
theorem pd_22 : parseMethodDescriptor "()V" = some ⟨[], none⟩ := by decide +kernel
theorem d34_4 : decode B34_ 4 = .ok (.aload_n 0, 1) := by decide +kernel
theorem d34_5 : decode B34_ 5 = .ok (.aload_n 1, 1) := by decide +kernel
theorem d34_6 : decode B34_ 6 = .ok (.putfield 7, 3) := by decide +kernel
theorem d34_9 : decode B34_ 9 = .ok (.aload_n 0, 1) := by decide +kernel
theorem d34_10 : decode B34_ 10 = .ok (.aload_n 2, 1) := by decide +kernel
theorem d34_11 : decode B34_ 11 = .ok (.putfield 13, 3) := by decide +kernel
theorem d34_14 : decode B34_ 14 = .ok (.aload_n 0, 1) := by decide +kernel
theorem d34_15 : decode B34_ 15 = .ok (.iload_n 3, 1) := by decide +kernel
theorem d34_16 : decode B34_ 16 = .ok (.putfield 17, 3) := by decide +kernel
theorem d34_19 : decode B34_ 19 = .ok (.aload_n 0, 1) := by decide +kernel
theorem d34_20 : decode B34_ 20 = .ok (.aload 4, 2) := by decide +kernel
theorem d34_22 : decode B34_ 22 = .ok (.putfield 21, 3) := by decide +kernel
theorem d34_25 : decode B34_ 25 = .ok (.aload_n 0, 1) := by decide +kernel
theorem d34_26 : decode B34_ 26 = .ok (.aload 5, 2) := by decide +kernel
theorem d34_28 : decode B34_ 28 = .ok (.putfield 24, 3) := by decide +kernel
theorem d34_31 : decode B34_ 31 = .ok (.aload_n 0, 1) := by decide +kernel
theorem d34_32 : decode B34_ 32 = .ok (.aload 6, 2) := by decide +kernel
theorem d34_34 : decode B34_ 34 = .ok (.putfield 27, 3) := by decide +kernel
theorem d34_37 : decode B34_ 37 = .ok (.return_, 1) := by decide +kernel
theorem rmAI (hw : HW a0 Z) (ws : List Jvm.Cond) (a1 : Addr) (y1 : Addr) (y2 : Addr) (p1 : Int32) (y3 : Addr) (y4 : Addr) (u : Value) (u0 : Value) (u1 : Value) (u2 : Value) (u3 : Value) (u4 : Value) (u5 : Value) (h0 : Heap) (n0 : Nat) (Z0 : n0 ≤ h0.size) (E1 : Exa Z h0 a1 "com/example/mulock/mulock/sql/SqlAddress") (F1 : Fld Z h0 a1 "com/example/mulock/mulock/sql/SqlAddress" "database" "Lcom/example/mulock/mulock/sql/SqlDatabase;" u0) (F2 : Fld Z h0 a1 "com/example/mulock/mulock/sql/SqlAddress" "host" "Ljava/lang/String;" u1) (F3 : Fld Z h0 a1 "com/example/mulock/mulock/sql/SqlAddress" "port" "I" u2) (F4 : Fld Z h0 a1 "com/example/mulock/mulock/sql/SqlAddress" "databaseName" "Ljava/lang/String;" u3) (F5 : Fld Z h0 a1 "com/example/mulock/mulock/sql/SqlAddress" "user" "Ljava/lang/String;" u4) (F6 : Fld Z h0 a1 "com/example/mulock/mulock/sql/SqlAddress" "password" "Ljava/lang/String;" u5) (g1 : n0 ≤ a1) (hu : u.isRef = true) : MetN l Z mn35 prog_18_method_1_code 7 none ws (rM 2 0 0 24) #[(.ref a1), (.ref y1), (.ref y2), (.int p1), (.ref y3), (.ref y4), u] h0 (Q_rmAI Z a1 y1 y2 p1 y3 y4 u u0 u1 u2 u3 u4 u5 h0 n0) := by
 refine enterN (plainFor_of_name pn_com_example_mulock_mulock_sql_SqlAddress) (fun m => ef_rmAI m _ _ _ _ _ _ _ hu) fun p e s m below meth c s₁ Bd hZ hx hD hlk hml hown hnm X0 e0 => ?_
 have N0 := Fr.nil n0
 have K0 := Keep.refl h0 [a1]
 have lt_E1 := ny E1.lt
 have lt_F1 := ny F1.lt
 have lt_F2 := ny F2.lt
 have lt_F3 := ny F3.lt
 have lt_F4 := ny F4.lt
 have lt_F5 := ny F5.lt
 have lt_F6 := ny F6.lt
 refine Wk.aloadN X0 hx (hD d34_0) (n := 1) rfl rfl rfl ?_
 have cl1_ := fun Ls (hLs : LsOk c Ls) => X0.specialBack hx (y := mn34) rfl hown (mW hZ hw 56 rfl) (mW hZ hw 57 rfl) (mW hZ hw 60 rfl) (by decide) (backOf (W := 0) (rmRI l Z a0 hw [] a1 h0 n0 (by omega)) hZ (oW hw 60 rfl) (oW hw 59 rfl) (by decide) (by decide)) (g := mkF m 1 Ls [(.ref a1)]) rfl hLs (Steps.refl _) (a := a1) (argsL := []) (rest := []) (lenOf pd_22 rfl) rfl (leq0 rfl) (hD d34_1) (fun _ _ => ⟨rfl, e0, (by decide : 0 + 0 ≤ _), (by decide : 0 + 0 ≤ _)⟩)
 refine Wk.back (n := 4) (rc := 0) (rs := 0) (Q := Q_rmRI Z a1 h0 n0) (cl1_ _ (lsok hml rfl)) fun vn1 T1 L1 X1 hQ1 => ?_
 clear cl1_
 obtain ⟨rfl, M1, e1⟩ := hQ1
 have N1 := Fr.app N0 M1
 show Wk p e below _ T1 (mkF m 4 _ [])
 refine Wk.aloadN X1 hx (hD d34_4) (n := 5) rfl rfl rfl ?_
 refine Wk.aloadN X1 hx (hD d34_5) (n := 6) rfl rfl rfl ?_
 refine Wk.putF X1 hx hZ hown (host := "") (Or.inl (oW hw 62 rfl)) Via.refl e1 F1 E1 (Or.inr ⟨(oW hw 63 rfl), rfl, hnm⟩) (oW hw 48 rfl) (ty := (.object "com/example/mulock/mulock/sql/SqlDatabase")) (by decide) rfl rfl (hD d34_6) (n := 9) rfl fun T2 H2 X2 e2 Wn2 => ?_
 have sz2 := Wn2.size
 have Fn2 := F1.same Wn2
 have K2 := K0.wr Wn2 (Or.inl (List.mem_of_getElem? (i := 0) rfl))
 have N2 := Fr.snoc X2 N1 (by omega)
 refine Wk.aloadN X2 hx (hD d34_9) (n := 10) rfl rfl rfl ?_
 refine Wk.aloadN X2 hx (hD d34_10) (n := 11) rfl rfl rfl ?_
 have f3 := (F2.other Wn2 (Or.inr (slot_ne (Or.inr (oW hw 65 rfl)) (Or.inr (oW hw 63 rfl)) (by decide) (t := (.object "java/lang/String")) (t' := (.object "com/example/mulock/mulock/sql/SqlDatabase")) (by decide) (by decide))))
 have f4 := (E1.wr Wn2)
 refine Wk.putF X2 hx hZ hown (host := "") (Or.inl (oW hw 64 rfl)) Via.refl e2 f3 f4 (Or.inr ⟨(oW hw 65 rfl), rfl, hnm⟩) (oW hw 48 rfl) (ty := (.object "java/lang/String")) (by decide) rfl rfl (hD d34_11) (n := 14) rfl fun T5 H5 X5 e5 Wn5 => ?_
 have sz5 := Wn5.size
 have Fn5 := f3.same Wn5
 have K5 := K2.wr Wn5 (Or.inl (List.mem_of_getElem? (i := 0) rfl))
 have N5 := Fr.snoc X5 N2 (by omega)
 refine Wk.aloadN X5 hx (hD d34_14) (n := 15) rfl rfl rfl ?_
 refine Wk.iloadN X5 hx (hD d34_15) (n := 16) rfl rfl ?_
 have f6 := ((F3.other Wn2 (Or.inr (slot_ne (Or.inr (oW hw 67 rfl)) (Or.inr (oW hw 63 rfl)) (by decide) (t := .int) (t' := (.object "com/example/mulock/mulock/sql/SqlDatabase")) (by decide) (by decide)))).other Wn5 (Or.inr (slot_ne (Or.inr (oW hw 67 rfl)) (Or.inr (oW hw 65 rfl)) (by decide) (t := .int) (t' := (.object "java/lang/String")) (by decide) (by decide))))
 have f7 := (f4.wr Wn5)
 refine Wk.putF X5 hx hZ hown (host := "") (Or.inl (oW hw 66 rfl)) Via.refl e5 f6 f7 (Or.inr ⟨(oW hw 67 rfl), rfl, hnm⟩) (oW hw 48 rfl) (ty := .int) (by decide) rfl rfl (hD d34_16) (n := 19) rfl fun T8 H8 X8 e8 Wn8 => ?_
 have sz8 := Wn8.size
 have Fn8 := f6.same Wn8
 have K8 := K5.wr Wn8 (Or.inl (List.mem_of_getElem? (i := 0) rfl))
 have N8 := Fr.snoc X8 N5 (by omega)
 refine Wk.aloadN X8 hx (hD d34_19) (n := 20) rfl rfl rfl ?_
 refine Wk.aload X8 hx (hD d34_20) (n := 22) rfl rfl rfl ?_
 have f9 := (((F4.other Wn2 (Or.inr (slot_ne (Or.inr (oW hw 69 rfl)) (Or.inr (oW hw 63 rfl)) (by decide) (t := (.object "java/lang/String")) (t' := (.object "com/example/mulock/mulock/sql/SqlDatabase")) (by decide) (by decide)))).other Wn5 (Or.inr (slot_ne (Or.inr (oW hw 69 rfl)) (Or.inr (oW hw 65 rfl)) (by decide) (t := (.object "java/lang/String")) (t' := (.object "java/lang/String")) (by decide) (by decide)))).other Wn8 (Or.inr (slot_ne (Or.inr (oW hw 69 rfl)) (Or.inr (oW hw 67 rfl)) (by decide) (t := (.object "java/lang/String")) (t' := .int) (by decide) (by decide))))
 have f10 := (f7.wr Wn8)
 refine Wk.putF X8 hx hZ hown (host := "") (Or.inl (oW hw 68 rfl)) Via.refl e8 f9 f10 (Or.inr ⟨(oW hw 69 rfl), rfl, hnm⟩) (oW hw 48 rfl) (ty := (.object "java/lang/String")) (by decide) rfl rfl (hD d34_22) (n := 25) rfl fun T11 H11 X11 e11 Wn11 => ?_
 have sz11 := Wn11.size
 have Fn11 := f9.same Wn11
 have K11 := K8.wr Wn11 (Or.inl (List.mem_of_getElem? (i := 0) rfl))
 have N11 := Fr.snoc X11 N8 (by omega)
 refine Wk.aloadN X11 hx (hD d34_25) (n := 26) rfl rfl rfl ?_
 refine Wk.aload X11 hx (hD d34_26) (n := 28) rfl rfl rfl ?_
 have f12 := ((((F5.other Wn2 (Or.inr (slot_ne (Or.inr (oW hw 71 rfl)) (Or.inr (oW hw 63 rfl)) (by decide) (t := (.object "java/lang/String")) (t' := (.object "com/example/mulock/mulock/sql/SqlDatabase")) (by decide) (by decide)))).other Wn5 (Or.inr (slot_ne (Or.inr (oW hw 71 rfl)) (Or.inr (oW hw 65 rfl)) (by decide) (t := (.object "java/lang/String")) (t' := (.object "java/lang/String")) (by decide) (by decide)))).other Wn8 (Or.inr (slot_ne (Or.inr (oW hw 71 rfl)) (Or.inr (oW hw 67 rfl)) (by decide) (t := (.object "java/lang/String")) (t' := .int) (by decide) (by decide)))).other Wn11 (Or.inr (slot_ne (Or.inr (oW hw 71 rfl)) (Or.inr (oW hw 69 rfl)) (by decide) (t := (.object "java/lang/String")) (t' := (.object "java/lang/String")) (by decide) (by decide))))
 have f13 := (f10.wr Wn11)
 refine Wk.putF X11 hx hZ hown (host := "") (Or.inl (oW hw 70 rfl)) Via.refl e11 f12 f13 (Or.inr ⟨(oW hw 71 rfl), rfl, hnm⟩) (oW hw 48 rfl) (ty := (.object "java/lang/String")) (by decide) rfl rfl (hD d34_28) (n := 31) rfl fun T14 H14 X14 e14 Wn14 => ?_
 have sz14 := Wn14.size
 have Fn14 := f12.same Wn14
 have K14 := K11.wr Wn14 (Or.inl (List.mem_of_getElem? (i := 0) rfl))
 have N14 := Fr.snoc X14 N11 (by omega)
 refine Wk.aloadN X14 hx (hD d34_31) (n := 32) rfl rfl rfl ?_
 refine Wk.aload X14 hx (hD d34_32) (n := 34) rfl rfl hu ?_
 have f15 := (((((F6.other Wn2 (Or.inr (slot_ne (Or.inr (oW hw 73 rfl)) (Or.inr (oW hw 63 rfl)) (by decide) (t := (.object "java/lang/String")) (t' := (.object "com/example/mulock/mulock/sql/SqlDatabase")) (by decide) (by decide)))).other Wn5 (Or.inr (slot_ne (Or.inr (oW hw 73 rfl)) (Or.inr (oW hw 65 rfl)) (by decide) (t := (.object "java/lang/String")) (t' := (.object "java/lang/String")) (by decide) (by decide)))).other Wn8 (Or.inr (slot_ne (Or.inr (oW hw 73 rfl)) (Or.inr (oW hw 67 rfl)) (by decide) (t := (.object "java/lang/String")) (t' := .int) (by decide) (by decide)))).other Wn11 (Or.inr (slot_ne (Or.inr (oW hw 73 rfl)) (Or.inr (oW hw 69 rfl)) (by decide) (t := (.object "java/lang/String")) (t' := (.object "java/lang/String")) (by decide) (by decide)))).other Wn14 (Or.inr (slot_ne (Or.inr (oW hw 73 rfl)) (Or.inr (oW hw 71 rfl)) (by decide) (t := (.object "java/lang/String")) (t' := (.object "java/lang/String")) (by decide) (by decide))))
 have f16 := (f13.wr Wn14)
 refine Wk.putF X14 hx hZ hown (host := "") (Or.inl (oW hw 72 rfl)) Via.refl e14 f15 f16 (Or.inr ⟨(oW hw 73 rfl), rfl, hnm⟩) (oW hw 48 rfl) (ty := (.object "java/lang/String")) (by decide) (own_narr hu) (own_fitr hu) (hD d34_34) (n := 37) rfl fun T17 H17 X17 e17 Wn17 => ?_
 have sz17 := Wn17.size
 have Fn17 := f15.same Wn17
 have K17 := K14.wr Wn17 (Or.inl (List.mem_of_getElem? (i := 0) rfl))
 have N17 := Fr.snoc X17 N14 (by omega)
 have f18 := (f16.wr Wn17)
 have f19 := (((((Fn2.other Wn5 (Or.inr (slot_ne (Or.inr (oW hw 63 rfl)) (Or.inr (oW hw 65 rfl)) (by decide) (t := (.object "com/example/mulock/mulock/sql/SqlDatabase")) (t' := (.object "java/lang/String")) (by decide) (by decide)))).other Wn8 (Or.inr (slot_ne (Or.inr (oW hw 63 rfl)) (Or.inr (oW hw 67 rfl)) (by decide) (t := (.object "com/example/mulock/mulock/sql/SqlDatabase")) (t' := .int) (by decide) (by decide)))).other Wn11 (Or.inr (slot_ne (Or.inr (oW hw 63 rfl)) (Or.inr (oW hw 69 rfl)) (by decide) (t := (.object "com/example/mulock/mulock/sql/SqlDatabase")) (t' := (.object "java/lang/String")) (by decide) (by decide)))).other Wn14 (Or.inr (slot_ne (Or.inr (oW hw 63 rfl)) (Or.inr (oW hw 71 rfl)) (by decide) (t := (.object "com/example/mulock/mulock/sql/SqlDatabase")) (t' := (.object "java/lang/String")) (by decide) (by decide)))).other Wn17 (Or.inr (slot_ne (Or.inr (oW hw 63 rfl)) (Or.inr (oW hw 73 rfl)) (by decide) (t := (.object "com/example/mulock/mulock/sql/SqlDatabase")) (t' := (.object "java/lang/String")) (by decide) (by decide))))
 have f20 := ((((Fn5.other Wn8 (Or.inr (slot_ne (Or.inr (oW hw 65 rfl)) (Or.inr (oW hw 67 rfl)) (by decide) (t := (.object "java/lang/String")) (t' := .int) (by decide) (by decide)))).other Wn11 (Or.inr (slot_ne (Or.inr (oW hw 65 rfl)) (Or.inr (oW hw 69 rfl)) (by decide) (t := (.object "java/lang/String")) (t' := (.object "java/lang/String")) (by decide) (by decide)))).other Wn14 (Or.inr (slot_ne (Or.inr (oW hw 65 rfl)) (Or.inr (oW hw 71 rfl)) (by decide) (t := (.object "java/lang/String")) (t' := (.object "java/lang/String")) (by decide) (by decide)))).other Wn17 (Or.inr (slot_ne (Or.inr (oW hw 65 rfl)) (Or.inr (oW hw 73 rfl)) (by decide) (t := (.object "java/lang/String")) (t' := (.object "java/lang/String")) (by decide) (by decide))))
 have f21 := (((Fn8.other Wn11 (Or.inr (slot_ne (Or.inr (oW hw 67 rfl)) (Or.inr (oW hw 69 rfl)) (by decide) (t := .int) (t' := (.object "java/lang/String")) (by decide) (by decide)))).other Wn14 (Or.inr (slot_ne (Or.inr (oW hw 67 rfl)) (Or.inr (oW hw 71 rfl)) (by decide) (t := .int) (t' := (.object "java/lang/String")) (by decide) (by decide)))).other Wn17 (Or.inr (slot_ne (Or.inr (oW hw 67 rfl)) (Or.inr (oW hw 73 rfl)) (by decide) (t := .int) (t' := (.object "java/lang/String")) (by decide) (by decide))))
 exact Wk.leave X17 (v := none) (fun _ => rfl) hlk e17 ⟨rfl, N17, K17, f18, f19, f20, f21⟩ (by decide) (by decide) (fun fs hr => X17.returnOut hx Bd.returns (hD d34_37) hr)
def Q_rmPR (Z : State) (a1 : Addr) (y1 : Addr) (h0 : Heap) (n0 : Nat) (v : Option Value) (h : Heap) (L : List Loc) : Prop := v = some (.ref y1) ∧ Fr n0 L ∧ h = h0
theorem ef_rmPR (m : MethodId) (x0 : Addr) : entryFrame m #[(.ref x0)] 1 = mkF m 0 #[.val (.ref x0)] [] := by first | (simp [entryFrame, mkF, argsToLocals, Value.category]; done) | rfl
theorem pn_com_example_mulock_mulock_sql_SqlDatabase : plainName "com/example/mulock/mulock/sql/SqlDatabase" = true := by first | (simp [plainName, overriddenIn]; done) | decide +kernel
theorem d35_0 : decode B35_ 0 = .ok (.aload_n 0, 1) := by decide +kernel
theorem d35_1 : decode B35_ 1 = .ok (.getfield 29, 3) := by decide +kernel
theorem d35_4 : decode B35_ 4 = .ok (.areturn, 1) := by decide +kernel
theorem rmPR (hw : HW a0 Z) (ws : List Jvm.Cond) (a1 : Addr) (y1 : Addr) (h0 : Heap) (n0 : Nat) (Z0 : n0 ≤ h0.size) (F1 : Fld Z h0 a1 "com/example/mulock/mulock/sql/SqlDatabase" "product" "Ljava/lang/String;" (.ref y1)) : MetN l Z mn36 prog_20_method_4_code 1 (some (.object "java/lang/String")) ws (rM 0 0 0 0) #[(.ref a1)] h0 (Q_rmPR Z a1 y1 h0 n0) := by
 refine enterN (plainFor_of_name pn_com_example_mulock_mulock_sql_SqlDatabase) (fun m => ef_rmPR m _) fun p e s m below meth c s₁ Bd hZ hx hD hlk hml hown hnm X0 e0 => ?_
 have N0 := Fr.nil n0
 have K0 := Keep.refl h0 []
 have lt_F1 := ny F1.lt
 refine Wk.aloadN X0 hx (hD d35_0) (n := 1) rfl rfl rfl ?_
 refine Wk.getF X0 hx hZ hown (host := "") (Or.inl (oW hw 102 rfl)) Via.refl e0 F1 (hD d35_1) (n := 4) rfl fun T1 X1 e1 => ?_
 exact Wk.leave X1 (v := some (.ref y1)) (fun h => by rw [Bd.returns] at h; cases h) hlk e1 ⟨rfl, N0, rfl⟩ (by decide) (by decide) (fun fs hr => retA X1 hx rfl Bd.returns rfl (hD d35_4) hr)
def Q_rmWhP (Z : State) (a1 : Addr) (w1 : Addr) (p1 : Int32) (x1 : Addr) (t1 : Addr) (k1 : ClassId) (x2 : Addr) (t2 : Addr) (k2 : ClassId) (h0_ : Int32) (h1_ : Int32) (h2_ : Int32) (zc : Int32) (dO : Addr) (kO : ClassId) (dT : Addr) (kT : ClassId) (h0 : Heap) (n0 : Nat) (v : Option Value) (h : Heap) (L : List Loc) : Prop := ∃ (r : Addr) (t : Addr) (kb : ClassId), v = some (.ref r) ∧ Fr n0 L ∧ Keep h0 h [] ∧ Exa Z h r "java/lang/String" ∧ Fld Z h r "java/lang/String" "value" "[B" (.ref t) ∧ Fld Z h r "java/lang/String" "coder" "B" (.int (0 : Int32)) ∧ Arv Z h t kb .byte (Int32.ofNat ([80, 111, 115, 116, 103, 114, 101, 83, 81, 76, 32, 97, 116, 32, h0_, h1_, h2_, 58] ++ (sgl p1 ++ dl (mg p1))).length) (bsV ([80, 111, 115, 116, 103, 114, 101, 83, 81, 76, 32, 97, 116, 32, h0_, h1_, h2_, 58] ++ (sgl p1 ++ dl (mg p1)))) (.int (0 : Int32))
theorem ef_rmWhP (m : MethodId) (x0 : Addr) : entryFrame m #[(.ref x0)] 1 = mkF m 0 #[.val (.ref x0)] [] := by first | (simp [entryFrame, mkF, argsToLocals, Value.category]; done) | rfl
theorem d36_0 : decode B36_ 0 = .ok (.new 30, 3) := by decide +kernel
theorem d36_3 : decode B36_ 3 = .ok (.dup, 1) := by decide +kernel
theorem d36_4 : decode B36_ 4 = .ok (.invokespecial 32, 3) := by decide +kernel
theorem d36_7 : decode B36_ 7 = .ok (.aload_n 0, 1) := by decide +kernel
theorem d36_8 : decode B36_ 8 = .ok (.getfield 7, 3) := by decide +kernel
theorem d36_11 : decode B36_ 11 = .ok (.invokevirtual 39, 3) := by decide +kernel
theorem pd_23 : parseMethodDescriptor "()Ljava/lang/String;" = some ⟨[], some (.object "java/lang/String")⟩ := by decide +kernel
theorem d36_14 : decode B36_ 14 = .ok (.invokevirtual 35, 3) := by decide +kernel
theorem pd_24 : parseMethodDescriptor "(Ljava/lang/String;)Ljava/lang/StringBuilder;" = some ⟨[(.object "java/lang/String")], some (.object "java/lang/StringBuilder")⟩ := by decide +kernel
theorem d36_17 : decode B36_ 17 = .ok (.ldc 122, 2) := by decide +kernel
theorem d36_19 : decode B36_ 19 = .ok (.invokevirtual 35, 3) := by decide +kernel
theorem d36_22 : decode B36_ 22 = .ok (.aload_n 0, 1) := by decide +kernel
theorem d36_23 : decode B36_ 23 = .ok (.getfield 13, 3) := by decide +kernel
theorem d36_26 : decode B36_ 26 = .ok (.invokevirtual 35, 3) := by decide +kernel
theorem d36_29 : decode B36_ 29 = .ok (.ldc 124, 2) := by decide +kernel
theorem d36_31 : decode B36_ 31 = .ok (.invokevirtual 35, 3) := by decide +kernel
theorem d36_34 : decode B36_ 34 = .ok (.aload_n 0, 1) := by decide +kernel
theorem d36_35 : decode B36_ 35 = .ok (.getfield 17, 3) := by decide +kernel
theorem d36_38 : decode B36_ 38 = .ok (.invokevirtual 126, 3) := by decide +kernel
theorem pd_25 : parseMethodDescriptor "(I)Ljava/lang/StringBuilder;" = some ⟨[.int], some (.object "java/lang/StringBuilder")⟩ := by decide +kernel
theorem d36_41 : decode B36_ 41 = .ok (.invokevirtual 52, 3) := by decide +kernel
theorem d36_44 : decode B36_ 44 = .ok (.areturn, 1) := by decide +kernel
theorem rmWhP (hw : HW a0 Z) (ws : List Jvm.Cond) (a1 : Addr) (w1 : Addr) (p1 : Int32) (x1 : Addr) (t1 : Addr) (k1 : ClassId) (x2 : Addr) (t2 : Addr) (k2 : ClassId) (h0_ : Int32) (h1_ : Int32) (h2_ : Int32) (zc : Int32) (dO : Addr) (kO : ClassId) (dT : Addr) (kT : ClassId) (h0 : Heap) (n0 : Nat) (Z0 : n0 ≤ h0.size) (E1 : Exa Z h0 a1 "com/example/mulock/mulock/sql/SqlAddress") (F1 : Fld Z h0 a1 "com/example/mulock/mulock/sql/SqlAddress" "database" "Lcom/example/mulock/mulock/sql/SqlDatabase;" (.ref w1)) (F2 : Fld Z h0 a1 "com/example/mulock/mulock/sql/SqlAddress" "host" "Ljava/lang/String;" (.ref x2)) (F3 : Fld Z h0 a1 "com/example/mulock/mulock/sql/SqlAddress" "port" "I" (.int p1)) (E2 : Exa Z h0 w1 "com/example/mulock/mulock/sql/SqlDatabase") (F4 : Fld Z h0 w1 "com/example/mulock/mulock/sql/SqlDatabase" "product" "Ljava/lang/String;" (.ref x1)) (Es1 : Exa Z h0 x1 "java/lang/String") (Fv1 : Fld Z h0 x1 "java/lang/String" "value" "[B" (.ref t1)) (Fc1 : Fld Z h0 x1 "java/lang/String" "coder" "B" (.int (0 : Int32))) (As1 : Arv Z h0 t1 k1 .byte (Int32.ofNat [80, 111, 115, 116, 103, 114, 101, 83, 81, 76].length) (bsV [80, 111, 115, 116, 103, 114, 101, 83, 81, 76]) (.int (0 : Int32))) (Es2 : Exa Z h0 x2 "java/lang/String") (Fv2 : Fld Z h0 x2 "java/lang/String" "value" "[B" (.ref t2)) (Fc2 : Fld Z h0 x2 "java/lang/String" "coder" "B" (.int (0 : Int32))) (As2 : Arv Z h0 t2 k2 .byte (Int32.ofNat [h0_, h1_, h2_].length) (bsV [h0_, h1_, h2_]) (.int (0 : Int32))) (S4 : Sta Z Z.heap "java/lang/String" "COMPACT_STRINGS" "Z" (.int zc)) (O1 : Old Z n0 h0) (S6 : Sta Z Z.heap "java/lang/Integer" "DigitOnes" "[B" (.ref dO)) (S7 : Sta Z Z.heap "java/lang/Integer" "DigitTens" "[B" (.ref dT)) (A6 : Arv Z Z.heap dO kO .byte (100 : Int32) dgO (.int (0 : Int32))) (A7 : Arv Z Z.heap dT kT .byte (100 : Int32) dgT (.int (0 : Int32))) (hCS : ¬ zc = 0) (q2 : ∀ c ∈ [h0_, h1_, h2_], ¬ c < 0 ∧ ¬ (255 : Int32) < c) : MetW l Z mn37 prog_18_method_3_code 1 (some (.object "java/lang/String")) ws (rM 6 10 150 112) #[(.ref a1)] h0 (Q_rmWhP Z a1 w1 p1 x1 t1 k1 x2 t2 k2 h0_ h1_ h2_ zc dO kO dT kT h0 n0) own_EL [] := by
 refine enterW (plainFor_of_name pn_com_example_mulock_mulock_sql_SqlAddress) (fun m => ef_rmWhP m _) fun p e s m below meth c s₁ Bd hZ hx hD hlk hml hown hnm X0 e0 hh hCH hSf => ?_
 have N0 := Fr.nil n0
 have K0 := Keep.refl h0 []
 have Bs0 := Base.start s h0.size
 have R0 := CHr.refl hCH
 have hELw := own_ew hw
 have lt_E1 := ny E1.lt
 have lt_F1 := ny F1.lt
 have lt_F2 := ny F2.lt
 have lt_F3 := ny F3.lt
 have lt_E2 := ny E2.lt
 have lt_F4 := ny F4.lt
 have lt_Es1 := ny Es1.lt
 have lt_Fv1 := ny Fv1.lt
 have lt_Fc1 := ny Fc1.lt
 have lt_As1 := ny As1.lt
 have lt_Es2 := ny Es2.lt
 have lt_Fv2 := ny Fv2.lt
 have lt_Fc2 := ny Fc2.lt
 have lt_As2 := ny As2.lt
 have lG1 := sgl_le p1
 have lG2 := dl_le (mg p1) (mg_le p1)
 have lG3 := dl_pos (mg p1)
 refine Wk.newO X0 hx hZ hown (oW hw 79 rfl) (oW hw 80 rfl) (oW hw 81 rfl) e0 (hD d36_0) (n := 3) rfl (by decide) (by decide) fun T1 H1 b1 gn1 X1 e1 Ex1 An1 Dn1 Yn1 => ?_
 have gn1 := nx gn1
 have sz1 := Ex1.1
 have lt1 := ny An1.lt
 have K1 := K0.ext Ex1
 have R1 := R0.trans (CHr.ext Ex1 R0.1)
 have Fn1_value : Fld Z H1 b1 "java/lang/AbstractStringBuilder" "value" "[B" .null := Dn1 (Or.inl (oW hw 94 rfl)) (ty := (.array .byte)) (by decide)
 have Fn1_coder : Fld Z H1 b1 "java/lang/AbstractStringBuilder" "coder" "B" (.int (0 : Int32)) := Dn1 (Or.inl (oW hw 96 rfl)) (ty := .byte) (by decide)
 have Fn1_count : Fld Z H1 b1 "java/lang/AbstractStringBuilder" "count" "I" (.int (0 : Int32)) := Dn1 (Or.inl (oW hw 125 rfl)) (ty := .int) (by decide)
 refine Wk.dup X1 hx (hD d36_3) (n := 4) rfl rfl ?_
 have f2 := (O1.ext Ex1)
 have cl3_ := fun Ls (hLs : LsOk c Ls) => X1.specialBack hx (y := mn6) rfl hown (mW hZ hw 82 rfl) (mW hZ hw 83 rfl) (mW hZ hw 84 rfl) (by decide) (backOf (W := 1) (sbI0 l Z a0 hw [] b1 .null zc H1 n0 (by omega) An1 Fn1_value Fn1_coder Fn1_count S4 f2 (by omega) hCS) hZ (oW hw 84 rfl) (oW hw 81 rfl) (by decide) (by decide)) (g := mkF m 4 Ls [(.ref b1), (.ref b1)]) rfl hLs (Steps.refl _) (a := b1) (argsL := []) (rest := [(.ref b1)]) (lenOf pd_22 rfl) rfl (leq0 rfl) (hD d36_4) (fun _ _ => ⟨rfl, e1, (by decide : 1 + 1 ≤ _), (by decide : 4 + 16 ≤ _)⟩)
 refine Wk.back (n := 7) (rc := 1) (rs := 16) (Q := Q_sbI0 Z b1 .null zc H1 n0) (cl3_ _ (lsok hml rfl)) fun vn3 T3 L3 X3 hQ3 => ?_
 clear cl3_
 obtain ⟨t_3, kb_3, rfl, M3, J3, p3_0, p3_1, p3_2, p3_3, p3_4, p3_5, gt_3⟩ := hQ3
 have N3 := Fr.app N0 M3
 have sz3 := J3.1
 have hs3 : ∀ x ∈ ([b1] : List Addr), Safe Z own_EL s.vm H1 x := (sfS (Safe.exa (EL := own_EL) hZ.alike An1 (by decide) (by decide)) sf0)
 have R3 := R1.trans (CHr.keep J3 hs3 R1.1)
 have K3 := K1.trans J3 (allS (Or.inr (by omega)) all0)
 have lt_p3_0 := ny p3_0.lt
 have lt_p3_4 := ny p3_4.lt
 have Sf3_t := Safe.keep (x := t_3) J3 hs3 R1.1 (Safe.new (by omega))
 show Wk p e below _ T3 (mkF m 7 _ [(.ref b1)])
 refine Wk.aloadN X3 hx (hD d36_7) (n := 8) rfl rfl rfl ?_
 have f4 := ((F1.ext Ex1).keep J3 (ninS (nz (by omega)) nin0))
 refine Wk.getF X3 hx hZ hown (host := "") (Or.inl (oW hw 62 rfl)) Via.refl rfl f4 (hD d36_8) (n := 11) rfl fun T5 X5 e5 => ?_
 have f6 := ((F4.ext Ex1).keep J3 (ninS (nz (by omega)) nin0))
 have f8 := ((E2.ext Ex1).keep J3)
 obtain ⟨cq7, kq7, qn7a, qn7b, qn7c⟩ := isOf hZ e5 f8
 have cl7_ := fun Ls (hLs : LsOk c Ls) => X5.virtualBack hx (y := mn36) (z := mn36) hown (mW hZ hw 97 rfl) (mW hZ hw 98 rfl) (notFace_of_selects (args := #[]) (mW hZ hw 100 rfl)) (mW hZ hw 100 rfl) (mW hZ hw 99 rfl) (by decide) (backOf (W := 1) (rmPR l Z a0 hw [] w1 x1 T3.heap n0 (by omega) f6) hZ (oW hw 101 rfl) (oW hw 1 rfl) (by decide) (by decide)) qn7a qn7c (g := mkF m 11 Ls [(.ref w1), (.ref b1)]) rfl hLs (Steps.refl _) (argsL := []) (rest := [(.ref b1)]) (lenOf pd_23 rfl) rfl (leq0 rfl) (hD d36_11) (fun _ _ => ⟨rfl, e5, (by decide : 2 + 0 ≤ _), (by decide : 20 + 0 ≤ _)⟩)
 refine Wk.back (n := 14) (rc := 0) (rs := 0) (Q := Q_rmPR Z w1 x1 T3.heap n0) (cl7_ _ (lsok hml rfl)) fun vn7 T7 L7 X7 hQ7 => ?_
 clear cl7_
 obtain ⟨rfl, M7, e7⟩ := hQ7
 have N7 := Fr.app N3 M7
 show Wk p e below _ T7 (mkF m 14 _ [(.ref x1), (.ref b1)])
 have f9 := ((Es1.ext Ex1).keep J3)
 have f10 := ((Fv1.ext Ex1).keep J3 (ninS (nz (by omega)) nin0))
 have f11 := ((Fc1.ext Ex1).keep J3 (ninS (nz (by omega)) nin0))
 have f12 := ((As1.ext Ex1).keep J3 (ninS (nz (by omega)) nin0))
 have f13 := (f2.keep J3 (allS (by omega) all0))
 obtain ⟨cq14, kq14, qn14a, qn14b, qn14c⟩ := isOf hZ e7 p3_0
 have cl14_ := fun Ls (hLs : LsOk c Ls) => X7.virtualBack hx (y := mn14) (z := mn14) hown (mW hZ hw 104 rfl) (mW hZ hw 105 rfl) (notFace_of_selects (args := #[]) (mW hZ hw 107 rfl)) (mW hZ hw 107 rfl) (mW hZ hw 106 rfl) (by decide) (backOf (W := 0) (sbSA l Z a0 hw [] b1 x1 t1 k1 ([80, 111, 115, 116, 103, 114, 101, 83, 81, 76]) t_3 kb_3 ([] : List Int32) zc 16 T3.heap n0 (by omega) p3_0 p3_1 p3_2 p3_3 p3_4 p3_5 f9 f10 f11 f12 S4 f13 hCS (by decide) (by simp only [List.length_append, List.length_cons, List.length_nil]; omega) (by omega) (by omega) (by omega) (by omega) (by omega)) hZ (oW hw 108 rfl) (oW hw 81 rfl) (by decide) (by decide)) qn14a qn14c (g := mkF m 14 Ls [(.ref x1), (.ref b1)]) rfl hLs (Steps.refl _) (argsL := [(.ref x1)]) (rest := []) (lenOf pd_24 rfl) rfl (leq0 rfl) (hD d36_14) (fun _ _ => ⟨rfl, e7, (by decide : 2 + 0 ≤ _), (by decide : 20 + 0 ≤ _)⟩)
 refine Wk.back (n := 17) (rc := 0) (rs := 0) (Q := Q_sbSA Z b1 x1 t1 k1 ([80, 111, 115, 116, 103, 114, 101, 83, 81, 76]) t_3 kb_3 ([] : List Int32) zc 16 T3.heap n0) (cl14_ _ (lsok hml rfl)) fun vn14 T14 L14 X14 hQ14 => ?_
 clear cl14_
 obtain ⟨rfl, M14, J14, p14_0, p14_1, p14_2, p14_3, p14_4, p14_5⟩ := hQ14
 have N14 := Fr.app N7 M14
 have sz14 := J14.1
 have hs14 : ∀ x ∈ ([b1, t_3] : List Addr), Safe Z own_EL s.vm T3.heap x := (sfS (Safe.exa (EL := own_EL) hZ.alike p3_0 (by decide) (by decide)) (sfS Sf3_t sf0))
 have R14 := R3.trans (CHr.keep J14 hs14 R3.1)
 have K14 := K3.trans J14 (allS (Or.inr (by omega)) (allS (Or.inr (by omega)) all0))
 have lt_p14_0 := ny p14_0.lt
 have lt_p14_4 := ny p14_4.lt
 show Wk p e below _ T14 (mkF m 17 _ [(.ref b1)])
 refine Wk.ldcL (text := " at ") X14 hx hZ hown (oW hw 151 rfl) (fun d hd => hw d (own_wS d hd)) rfl Bs0 (by omega) hELw (by decide) R14 (vs := (bsV [32, 97, 116, 32])) (z := (Int32.ofNat ([32, 97, 116, 32] : List Int32).length)) ⟨by decide, rfl⟩ (by decide) (by decide) (hD d36_17) (n := 19) rfl (nn := 16) (by decide) (by decide) (by decide) (by decide) fun us15 T15 H15 a15_ t15_ k15_ X15 e15 Ex15 Bs15 hZ hown An15 Fn15_c Fn15_v Vn15 A_15 R15 hne15 => ?_
 have sz15 := Ex15.1
 have lt15 := ny An15.lt
 have lu15 := ny Vn15.lt
 have K15 := K14.ext Ex15
 have f16 := (A_15.safe (ny (by omega)) (Safe.keep J14 hs14 R3.1 Sf3_t))
 have nl15_t_3 := nw (hne15 _ f16).1
 have nm15_t_3 := nw (hne15 _ f16).2
 have f17 := (p14_0.ext Ex15)
 have f18 := (p14_1.ext Ex15)
 have f19 := (p14_2.ext Ex15)
 have f20 := (p14_3.ext Ex15)
 have f21 := (p14_4.ext Ex15)
 have f22 := (p14_5.ext Ex15)
 have f23 := ((f13.keep J14 (allS (by omega) (allS (by omega) all0))).ext Ex15)
 obtain ⟨cq24, kq24, qn24a, qn24b, qn24c⟩ := isOf hZ e15 f17
 have cl24_ := fun Ls (hLs : LsOk c Ls) => X15.virtualBack hx (y := mn14) (z := mn14) hown (mW hZ hw 104 rfl) (mW hZ hw 105 rfl) (notFace_of_selects (args := #[]) (mW hZ hw 107 rfl)) (mW hZ hw 107 rfl) (mW hZ hw 106 rfl) (by decide) (backOf (W := 0) (sbSA l Z a0 hw [] b1 a15_ t15_ k15_ ([32, 97, 116, 32] : List Int32) t_3 kb_3 (([] : List Int32) ++ [80, 111, 115, 116, 103, 114, 101, 83, 81, 76]) zc 16 H15 n0 (by omega) f17 f18 f19 f20 f21 f22 An15 Fn15_v Fn15_c Vn15 S4 f23 hCS (by decide) (by simp only [List.length_append, List.length_cons, List.length_nil]; omega) (by omega) (by omega) (by omega) (by omega) (by omega)) hZ (oW hw 108 rfl) (oW hw 81 rfl) (by decide) (by decide)) qn24a qn24c (g := mkF m 19 Ls [(.ref a15_), (.ref b1)]) rfl hLs (Steps.refl _) (argsL := [(.ref a15_)]) (rest := []) (lenOf pd_24 rfl) rfl (leq0 rfl) (hD d36_19) (fun _ _ => ⟨rfl, e15, (by decide : 4 + 0 ≤ _), (by decide : 40 + 0 ≤ _)⟩)
 refine Wk.back (n := 22) (rc := 0) (rs := 0) (Q := Q_sbSA Z b1 a15_ t15_ k15_ ([32, 97, 116, 32] : List Int32) t_3 kb_3 (([] : List Int32) ++ [80, 111, 115, 116, 103, 114, 101, 83, 81, 76]) zc 16 H15 n0) (cl24_ _ (lsok hml rfl)) fun vn24 T24 L24 X24 hQ24 => ?_
 clear cl24_
 obtain ⟨rfl, M24, J24, p24_0, p24_1, p24_2, p24_3, p24_4, p24_5⟩ := hQ24
 have N24 := Fr.app N14 M24
 have sz24 := J24.1
 have hs24 : ∀ x ∈ ([b1, t_3] : List Addr), Safe Z own_EL us15.vm H15 x := (sfS (Safe.exa (EL := own_EL) hZ.alike f17 (by decide) (by decide)) (sfS f16 sf0))
 have R24 := R15.trans (CHr.keep J24 hs24 R15.1)
 have K24 := K15.trans J24 (allS (Or.inr (by omega)) (allS (Or.inr (by omega)) all0))
 have lt_p24_0 := ny p24_0.lt
 have lt_p24_4 := ny p24_4.lt
 show Wk p e below _ T24 (mkF m 22 _ [(.ref b1)])
 refine Wk.aloadN X24 hx (hD d36_22) (n := 23) rfl rfl rfl ?_
 have f25 := (((((F2.ext Ex1).keep J3 (ninS (nz (by omega)) nin0)).keep J14 (ninS (nz (by omega)) (ninS (nz (by omega)) nin0))).ext Ex15).keep J24 (ninS (nz (by omega)) (ninS (nz (by omega)) nin0)))
 refine Wk.getF X24 hx hZ hown (host := "") (Or.inl (oW hw 64 rfl)) Via.refl rfl f25 (hD d36_23) (n := 26) rfl fun T26 X26 e26 => ?_
 have f27 := (((((Es2.ext Ex1).keep J3).keep J14).ext Ex15).keep J24)
 have f28 := (((((Fv2.ext Ex1).keep J3 (ninS (nz (by omega)) nin0)).keep J14 (ninS (nz (by omega)) (ninS (nz (by omega)) nin0))).ext Ex15).keep J24 (ninS (nz (by omega)) (ninS (nz (by omega)) nin0)))
 have f29 := (((((Fc2.ext Ex1).keep J3 (ninS (nz (by omega)) nin0)).keep J14 (ninS (nz (by omega)) (ninS (nz (by omega)) nin0))).ext Ex15).keep J24 (ninS (nz (by omega)) (ninS (nz (by omega)) nin0)))
 have f30 := (((((As2.ext Ex1).keep J3 (ninS (nz (by omega)) nin0)).keep J14 (ninS (nz (by omega)) (ninS (nz (by omega)) nin0))).ext Ex15).keep J24 (ninS (nz (by omega)) (ninS (nz (by omega)) nin0)))
 have f31 := (f23.keep J24 (allS (by omega) (allS (by omega) all0)))
 obtain ⟨cq32, kq32, qn32a, qn32b, qn32c⟩ := isOf hZ e26 p24_0
 have cl32_ := fun Ls (hLs : LsOk c Ls) => X26.virtualBack hx (y := mn14) (z := mn14) hown (mW hZ hw 104 rfl) (mW hZ hw 105 rfl) (notFace_of_selects (args := #[]) (mW hZ hw 107 rfl)) (mW hZ hw 107 rfl) (mW hZ hw 106 rfl) (by decide) (backOf (W := 0) (sbSAg l Z a0 hw [] b1 x2 t2 k2 ([h0_, h1_, h2_]) t_3 kb_3 ((([] : List Int32) ++ [80, 111, 115, 116, 103, 114, 101, 83, 81, 76]) ++ ([32, 97, 116, 32] : List Int32)) zc T24.heap n0 (by omega) p24_0 p24_1 p24_2 p24_3 p24_4 p24_5 f27 f28 f29 f30 S4 f31 hCS q2 (by simp only [List.length_append, List.length_cons, List.length_nil]; omega) (by simp only [List.length_append, List.length_cons, List.length_nil]; omega) (by simp only [List.length_append, List.length_cons, List.length_nil]; omega) (by omega) (by omega) (by omega) (by omega)) hZ (oW hw 108 rfl) (oW hw 81 rfl) (by decide) (by decide)) qn32a qn32c (g := mkF m 26 Ls [(.ref x2), (.ref b1)]) rfl hLs (Steps.refl _) (argsL := [(.ref x2)]) (rest := []) (lenOf pd_24 rfl) rfl (leq0 rfl) (hD d36_26) (fun _ _ => ⟨rfl, e26, (by decide : 4 + 1 ≤ _), (by decide : 40 + 34 ≤ _)⟩)
 refine Wk.back (n := 29) (rc := 1) (rs := 34) (Q := Q_sbSAg Z b1 x2 t2 k2 ([h0_, h1_, h2_]) t_3 kb_3 ((([] : List Int32) ++ [80, 111, 115, 116, 103, 114, 101, 83, 81, 76]) ++ ([32, 97, 116, 32] : List Int32)) zc T24.heap n0) (cl32_ _ (lsok hml rfl)) fun vn32 T32 L32 X32 hQ32 => ?_
 clear cl32_
 obtain ⟨t_32, kb_32, rfl, M32, J32, p32_0, p32_1, p32_2, p32_3, p32_4, p32_5, gt_32⟩ := hQ32
 have N32 := Fr.app N24 M32
 have sz32 := J32.1
 have hs32 : ∀ x ∈ ([b1] : List Addr), Safe Z own_EL us15.vm T24.heap x := (sfS (Safe.exa (EL := own_EL) hZ.alike p24_0 (by decide) (by decide)) sf0)
 have R32 := R24.trans (CHr.keep J32 hs32 R24.1)
 have K32 := K24.trans J32 (allS (Or.inr (by omega)) all0)
 have lt_p32_0 := ny p32_0.lt
 have lt_p32_4 := ny p32_4.lt
 have Sf32_t := Safe.keep (x := t_32) J32 hs32 R24.1 (Safe.new (by omega))
 show Wk p e below _ T32 (mkF m 29 _ [(.ref b1)])
 refine Wk.ldcL (text := ":") X32 hx hZ hown (oW hw 175 rfl) (fun d hd => hw d (own_wS d hd)) rfl Bs15 (by omega) hELw (by decide) R32 (vs := (bsV [58])) (z := (Int32.ofNat ([58] : List Int32).length)) ⟨by decide, rfl⟩ (by decide) (by decide) (hD d36_29) (n := 31) rfl (nn := 4) (by decide) (by decide) (by decide) (by decide) fun us33 T33 H33 a33_ t33_ k33_ X33 e33 Ex33 Bs33 hZ hown An33 Fn33_c Fn33_v Vn33 A_33 R33 hne33 => ?_
 have sz33 := Ex33.1
 have lt33 := ny An33.lt
 have lu33 := ny Vn33.lt
 have K33 := K32.ext Ex33
 have f34 := (A_33.safe (ny (by omega)) (Safe.keep J32 hs32 R24.1 (Safe.keep J24 hs24 R15.1 f16)))
 have nl33_t_3 := nw (hne33 _ f34).1
 have nm33_t_3 := nw (hne33 _ f34).2
 have f35 := (A_33.safe (ny (by omega)) Sf32_t)
 have nl33_t_32 := nw (hne33 _ f35).1
 have nm33_t_32 := nw (hne33 _ f35).2
 have f36 := (p32_0.ext Ex33)
 have f37 := (p32_1.ext Ex33)
 have f38 := (p32_2.ext Ex33)
 have f39 := (p32_3.ext Ex33)
 have f40 := (p32_4.ext Ex33)
 have f41 := (p32_5.ext Ex33)
 have f42 := ((f31.keep J32 (allS (by omega) all0)).ext Ex33)
 obtain ⟨cq43, kq43, qn43a, qn43b, qn43c⟩ := isOf hZ e33 f36
 have cl43_ := fun Ls (hLs : LsOk c Ls) => X33.virtualBack hx (y := mn14) (z := mn14) hown (mW hZ hw 104 rfl) (mW hZ hw 105 rfl) (notFace_of_selects (args := #[]) (mW hZ hw 107 rfl)) (mW hZ hw 107 rfl) (mW hZ hw 106 rfl) (by decide) (backOf (W := 0) (sbSA l Z a0 hw [] b1 a33_ t33_ k33_ ([58] : List Int32) t_32 kb_32 (((([] : List Int32) ++ [80, 111, 115, 116, 103, 114, 101, 83, 81, 76]) ++ ([32, 97, 116, 32] : List Int32)) ++ [h0_, h1_, h2_]) zc 34 H33 n0 (by omega) f36 f37 f38 f39 f40 f41 An33 Fn33_v Fn33_c Vn33 S4 f42 hCS (by decide) (by simp only [List.length_append, List.length_cons, List.length_nil]; omega) (by omega) (by omega) (by omega) (by omega) (by omega)) hZ (oW hw 108 rfl) (oW hw 81 rfl) (by decide) (by decide)) qn43a qn43c (g := mkF m 31 Ls [(.ref a33_), (.ref b1)]) rfl hLs (Steps.refl _) (argsL := [(.ref a33_)]) (rest := []) (lenOf pd_24 rfl) rfl (leq0 rfl) (hD d36_31) (fun _ _ => ⟨rfl, e33, (by decide : 7 + 0 ≤ _), (by decide : 82 + 0 ≤ _)⟩)
 refine Wk.back (n := 34) (rc := 0) (rs := 0) (Q := Q_sbSA Z b1 a33_ t33_ k33_ ([58] : List Int32) t_32 kb_32 (((([] : List Int32) ++ [80, 111, 115, 116, 103, 114, 101, 83, 81, 76]) ++ ([32, 97, 116, 32] : List Int32)) ++ [h0_, h1_, h2_]) zc 34 H33 n0) (cl43_ _ (lsok hml rfl)) fun vn43 T43 L43 X43 hQ43 => ?_
 clear cl43_
 obtain ⟨rfl, M43, J43, p43_0, p43_1, p43_2, p43_3, p43_4, p43_5⟩ := hQ43
 have N43 := Fr.app N32 M43
 have sz43 := J43.1
 have hs43 : ∀ x ∈ ([b1, t_32] : List Addr), Safe Z own_EL us33.vm H33 x := (sfS (Safe.exa (EL := own_EL) hZ.alike f36 (by decide) (by decide)) (sfS f35 sf0))
 have R43 := R33.trans (CHr.keep J43 hs43 R33.1)
 have K43 := K33.trans J43 (allS (Or.inr (by omega)) (allS (Or.inr (by omega)) all0))
 have lt_p43_0 := ny p43_0.lt
 have lt_p43_4 := ny p43_4.lt
 show Wk p e below _ T43 (mkF m 34 _ [(.ref b1)])
 refine Wk.aloadN X43 hx (hD d36_34) (n := 35) rfl rfl rfl ?_
 have f44 := ((((((((F3.ext Ex1).keep J3 (ninS (nz (by omega)) nin0)).keep J14 (ninS (nz (by omega)) (ninS (nz (by omega)) nin0))).ext Ex15).keep J24 (ninS (nz (by omega)) (ninS (nz (by omega)) nin0))).keep J32 (ninS (nz (by omega)) nin0)).ext Ex33).keep J43 (ninS (nz (by omega)) (ninS (nz (by omega)) nin0)))
 refine Wk.getF X43 hx hZ hown (host := "") (Or.inl (oW hw 66 rfl)) Via.refl rfl f44 (hD d36_35) (n := 38) rfl fun T45 X45 e45 => ?_
 have f46 := (f42.keep J43 (allS (by omega) (allS (by omega) all0)))
 obtain ⟨cq47, kq47, qn47a, qn47b, qn47c⟩ := isOf hZ e45 p43_0
 have cl47_ := fun Ls (hLs : LsOk c Ls) => X45.virtualBack hx (y := mn29) (z := mn29) hown (mW hZ hw 176 rfl) (mW hZ hw 177 rfl) (notFace_of_selects (args := #[]) (mW hZ hw 179 rfl)) (mW hZ hw 179 rfl) (mW hZ hw 178 rfl) (by decide) (backOf (W := 0) (sbSI2 l Z a0 hw [] b1 p1 t_32 kb_32 ((((([] : List Int32) ++ [80, 111, 115, 116, 103, 114, 101, 83, 81, 76]) ++ ([32, 97, 116, 32] : List Int32)) ++ [h0_, h1_, h2_]) ++ ([58] : List Int32)) zc dO kO dT kT 34 T43.heap n0 (by omega) p43_0 p43_1 p43_2 p43_3 p43_4 p43_5 S4 f46 S6 S7 A6 A7 hCS (by simp only [List.length_append, List.length_cons, List.length_nil]; omega) (by omega) (by omega) (by omega) (by omega)) hZ (oW hw 180 rfl) (oW hw 81 rfl) (by decide) (by decide)) qn47a qn47c (g := mkF m 38 Ls [(.int p1), (.ref b1)]) rfl hLs (Steps.refl _) (argsL := [(.int p1)]) (rest := []) (lenOf pd_25 rfl) rfl (leq0 rfl) (hD d36_38) (fun _ _ => ⟨rfl, e45, (by decide : 7 + 0 ≤ _), (by decide : 82 + 0 ≤ _)⟩)
 refine Wk.back (n := 41) (rc := 0) (rs := 0) (Q := Q_sbSI2 Z b1 p1 t_32 kb_32 ((((([] : List Int32) ++ [80, 111, 115, 116, 103, 114, 101, 83, 81, 76]) ++ ([32, 97, 116, 32] : List Int32)) ++ [h0_, h1_, h2_]) ++ ([58] : List Int32)) zc dO kO dT kT 34 T43.heap n0) (cl47_ _ (lsok hml rfl)) fun vn47 T47 L47 X47 hQ47 => ?_
 clear cl47_
 obtain ⟨rfl, M47, J47, p47_0, p47_1, p47_2, p47_3, p47_4, p47_5⟩ := hQ47
 have N47 := Fr.app N43 M47
 have sz47 := J47.1
 have f48 := (Safe.keep J43 hs43 R33.1 f35)
 have hs47 : ∀ x ∈ ([b1, t_32] : List Addr), Safe Z own_EL us33.vm T43.heap x := (sfS (Safe.exa (EL := own_EL) hZ.alike p43_0 (by decide) (by decide)) (sfS f48 sf0))
 have R47 := R43.trans (CHr.keep J47 hs47 R43.1)
 have K47 := K43.trans J47 (allS (Or.inr (by omega)) (allS (Or.inr (by omega)) all0))
 have lt_p47_0 := ny p47_0.lt
 have lt_p47_4 := ny p47_4.lt
 show Wk p e below _ T47 (mkF m 41 _ [(.ref b1)])
 have f49 := (f46.keep J47 (allS (by omega) (allS (by omega) all0)))
 obtain ⟨cq50, kq50, qn50a, qn50b, qn50c⟩ := isOf hZ rfl p47_0
 have cl50_ := fun Ls (hLs : LsOk c Ls) => X47.virtualBack hx (y := mn25) (z := mn25) hown (mW hZ hw 198 rfl) (mW hZ hw 199 rfl) (notFace_of_selects (args := #[]) (mW hZ hw 201 rfl)) (mW hZ hw 201 rfl) (mW hZ hw 200 rfl) (by decide) (backOf (W := 0) (sbTS l Z a0 hw [] b1 t_32 kb_32 (((((([] : List Int32) ++ [80, 111, 115, 116, 103, 114, 101, 83, 81, 76]) ++ ([32, 97, 116, 32] : List Int32)) ++ [h0_, h1_, h2_]) ++ ([58] : List Int32)) ++ (sgl p1 ++ dl (mg p1))) zc 34 T47.heap n0 (by omega) p47_0 p47_1 p47_2 p47_3 p47_4 p47_5 S4 f49 hCS (by simp only [List.length_append, List.length_cons, List.length_nil]; omega) (by omega)) hZ (oW hw 202 rfl) (oW hw 81 rfl) (by decide) (by decide)) qn50a qn50c (g := mkF m 41 Ls [(.ref b1)]) rfl hLs (Steps.refl _) (argsL := []) (rest := []) (lenOf pd_23 rfl) rfl (leq0 rfl) (hD d36_41) (fun _ _ => ⟨rfl, rfl, (by decide : 7 + 2 ≤ _), (by decide : 82 + 44 ≤ _)⟩)
 refine Wk.back (n := 44) (rc := 2) (rs := 44) (Q := Q_sbTS Z b1 t_32 kb_32 (((((([] : List Int32) ++ [80, 111, 115, 116, 103, 114, 101, 83, 81, 76]) ++ ([32, 97, 116, 32] : List Int32)) ++ [h0_, h1_, h2_]) ++ ([58] : List Int32)) ++ (sgl p1 ++ dl (mg p1))) zc 34 T47.heap n0) (cl50_ _ (lsok hml rfl)) fun vn50 T50 L50 X50 hQ50 => ?_
 clear cl50_
 obtain ⟨r_50, t_50, kb_50, rfl, M50, J50, p50_0, p50_1, p50_2, p50_3, gr_50, gt_50⟩ := hQ50
 have N50 := Fr.app N47 M50
 have sz50 := J50.1
 have hs50 : ∀ x ∈ ([] : List Addr), Safe Z own_EL us33.vm T47.heap x := sf0
 have R50 := R47.trans (CHr.keep J50 hs50 R47.1)
 have K50 := K47.trans J50 (fun x hx => nomatch hx)
 have lt_p50_0 := ny p50_0.lt
 have lt_p50_3 := ny p50_3.lt
 have Sf50_r := Safe.keep (x := r_50) J50 hs50 R47.1 (Safe.new (by omega))
 have Sf50_t := Safe.keep (x := t_50) J50 hs50 R47.1 (Safe.new (by omega))
 show Wk p e below _ T50 (mkF m 44 _ [(.ref r_50)])
 exact Wk.leaveW X50 Bs33 (by omega) (v := some (.ref r_50)) (fun h => by rw [Bd.returns] at h; cases h) hlk rfl hh ⟨r_50, t_50, kb_50, rfl, N50, K50, p50_0, p50_1, p50_2, p50_3⟩ hZ hELw R50 (by decide) (by decide) (fun fs hr => retA X50 hx rfl Bd.returns rfl (hD d36_44) hr)
def Q_rmWhM (Z : State) (a1 : Addr) (w1 : Addr) (p1 : Int32) (x1 : Addr) (t1 : Addr) (k1 : ClassId) (x2 : Addr) (t2 : Addr) (k2 : ClassId) (h0_ : Int32) (h1_ : Int32) (h2_ : Int32) (zc : Int32) (dO : Addr) (kO : ClassId) (dT : Addr) (kT : ClassId) (h0 : Heap) (n0 : Nat) (v : Option Value) (h : Heap) (L : List Loc) : Prop := ∃ (r : Addr) (t : Addr) (kb : ClassId), v = some (.ref r) ∧ Fr n0 L ∧ Keep h0 h [] ∧ Exa Z h r "java/lang/String" ∧ Fld Z h r "java/lang/String" "value" "[B" (.ref t) ∧ Fld Z h r "java/lang/String" "coder" "B" (.int (0 : Int32)) ∧ Arv Z h t kb .byte (Int32.ofNat ([77, 97, 114, 105, 97, 68, 66, 32, 97, 116, 32, h0_, h1_, h2_, 58] ++ (sgl p1 ++ dl (mg p1))).length) (bsV ([77, 97, 114, 105, 97, 68, 66, 32, 97, 116, 32, h0_, h1_, h2_, 58] ++ (sgl p1 ++ dl (mg p1)))) (.int (0 : Int32))
theorem ef_rmWhM (m : MethodId) (x0 : Addr) : entryFrame m #[(.ref x0)] 1 = mkF m 0 #[.val (.ref x0)] [] := by first | (simp [entryFrame, mkF, argsToLocals, Value.category]; done) | rfl
theorem rmWhM (hw : HW a0 Z) (ws : List Jvm.Cond) (a1 : Addr) (w1 : Addr) (p1 : Int32) (x1 : Addr) (t1 : Addr) (k1 : ClassId) (x2 : Addr) (t2 : Addr) (k2 : ClassId) (h0_ : Int32) (h1_ : Int32) (h2_ : Int32) (zc : Int32) (dO : Addr) (kO : ClassId) (dT : Addr) (kT : ClassId) (h0 : Heap) (n0 : Nat) (Z0 : n0 ≤ h0.size) (E1 : Exa Z h0 a1 "com/example/mulock/mulock/sql/SqlAddress") (F1 : Fld Z h0 a1 "com/example/mulock/mulock/sql/SqlAddress" "database" "Lcom/example/mulock/mulock/sql/SqlDatabase;" (.ref w1)) (F2 : Fld Z h0 a1 "com/example/mulock/mulock/sql/SqlAddress" "host" "Ljava/lang/String;" (.ref x2)) (F3 : Fld Z h0 a1 "com/example/mulock/mulock/sql/SqlAddress" "port" "I" (.int p1)) (E2 : Exa Z h0 w1 "com/example/mulock/mulock/sql/SqlDatabase") (F4 : Fld Z h0 w1 "com/example/mulock/mulock/sql/SqlDatabase" "product" "Ljava/lang/String;" (.ref x1)) (Es1 : Exa Z h0 x1 "java/lang/String") (Fv1 : Fld Z h0 x1 "java/lang/String" "value" "[B" (.ref t1)) (Fc1 : Fld Z h0 x1 "java/lang/String" "coder" "B" (.int (0 : Int32))) (As1 : Arv Z h0 t1 k1 .byte (Int32.ofNat [77, 97, 114, 105, 97, 68, 66].length) (bsV [77, 97, 114, 105, 97, 68, 66]) (.int (0 : Int32))) (Es2 : Exa Z h0 x2 "java/lang/String") (Fv2 : Fld Z h0 x2 "java/lang/String" "value" "[B" (.ref t2)) (Fc2 : Fld Z h0 x2 "java/lang/String" "coder" "B" (.int (0 : Int32))) (As2 : Arv Z h0 t2 k2 .byte (Int32.ofNat [h0_, h1_, h2_].length) (bsV [h0_, h1_, h2_]) (.int (0 : Int32))) (S4 : Sta Z Z.heap "java/lang/String" "COMPACT_STRINGS" "Z" (.int zc)) (O1 : Old Z n0 h0) (S6 : Sta Z Z.heap "java/lang/Integer" "DigitOnes" "[B" (.ref dO)) (S7 : Sta Z Z.heap "java/lang/Integer" "DigitTens" "[B" (.ref dT)) (A6 : Arv Z Z.heap dO kO .byte (100 : Int32) dgO (.int (0 : Int32))) (A7 : Arv Z Z.heap dT kT .byte (100 : Int32) dgT (.int (0 : Int32))) (hCS : ¬ zc = 0) (q2 : ∀ c ∈ [h0_, h1_, h2_], ¬ c < 0 ∧ ¬ (255 : Int32) < c) : MetW l Z mn37 prog_18_method_3_code 1 (some (.object "java/lang/String")) ws (rM 6 10 150 112) #[(.ref a1)] h0 (Q_rmWhM Z a1 w1 p1 x1 t1 k1 x2 t2 k2 h0_ h1_ h2_ zc dO kO dT kT h0 n0) own_EL [] := by
 refine enterW (plainFor_of_name pn_com_example_mulock_mulock_sql_SqlAddress) (fun m => ef_rmWhM m _) fun p e s m below meth c s₁ Bd hZ hx hD hlk hml hown hnm X0 e0 hh hCH hSf => ?_
 have N0 := Fr.nil n0
 have K0 := Keep.refl h0 []
 have Bs0 := Base.start s h0.size
 have R0 := CHr.refl hCH
 have hELw := own_ew hw
 have lt_E1 := ny E1.lt
 have lt_F1 := ny F1.lt
 have lt_F2 := ny F2.lt
 have lt_F3 := ny F3.lt
 have lt_E2 := ny E2.lt
 have lt_F4 := ny F4.lt
 have lt_Es1 := ny Es1.lt
 have lt_Fv1 := ny Fv1.lt
 have lt_Fc1 := ny Fc1.lt
 have lt_As1 := ny As1.lt
 have lt_Es2 := ny Es2.lt
 have lt_Fv2 := ny Fv2.lt
 have lt_Fc2 := ny Fc2.lt
 have lt_As2 := ny As2.lt
 have lG1 := sgl_le p1
 have lG2 := dl_le (mg p1) (mg_le p1)
 have lG3 := dl_pos (mg p1)
 refine Wk.newO X0 hx hZ hown (oW hw 79 rfl) (oW hw 80 rfl) (oW hw 81 rfl) e0 (hD d36_0) (n := 3) rfl (by decide) (by decide) fun T1 H1 b1 gn1 X1 e1 Ex1 An1 Dn1 Yn1 => ?_
 have gn1 := nx gn1
 have sz1 := Ex1.1
 have lt1 := ny An1.lt
 have K1 := K0.ext Ex1
 have R1 := R0.trans (CHr.ext Ex1 R0.1)
 have Fn1_value : Fld Z H1 b1 "java/lang/AbstractStringBuilder" "value" "[B" .null := Dn1 (Or.inl (oW hw 94 rfl)) (ty := (.array .byte)) (by decide)
 have Fn1_coder : Fld Z H1 b1 "java/lang/AbstractStringBuilder" "coder" "B" (.int (0 : Int32)) := Dn1 (Or.inl (oW hw 96 rfl)) (ty := .byte) (by decide)
 have Fn1_count : Fld Z H1 b1 "java/lang/AbstractStringBuilder" "count" "I" (.int (0 : Int32)) := Dn1 (Or.inl (oW hw 125 rfl)) (ty := .int) (by decide)
 refine Wk.dup X1 hx (hD d36_3) (n := 4) rfl rfl ?_
 have f2 := (O1.ext Ex1)
 have cl3_ := fun Ls (hLs : LsOk c Ls) => X1.specialBack hx (y := mn6) rfl hown (mW hZ hw 82 rfl) (mW hZ hw 83 rfl) (mW hZ hw 84 rfl) (by decide) (backOf (W := 1) (sbI0 l Z a0 hw [] b1 .null zc H1 n0 (by omega) An1 Fn1_value Fn1_coder Fn1_count S4 f2 (by omega) hCS) hZ (oW hw 84 rfl) (oW hw 81 rfl) (by decide) (by decide)) (g := mkF m 4 Ls [(.ref b1), (.ref b1)]) rfl hLs (Steps.refl _) (a := b1) (argsL := []) (rest := [(.ref b1)]) (lenOf pd_22 rfl) rfl (leq0 rfl) (hD d36_4) (fun _ _ => ⟨rfl, e1, (by decide : 1 + 1 ≤ _), (by decide : 4 + 16 ≤ _)⟩)
 refine Wk.back (n := 7) (rc := 1) (rs := 16) (Q := Q_sbI0 Z b1 .null zc H1 n0) (cl3_ _ (lsok hml rfl)) fun vn3 T3 L3 X3 hQ3 => ?_
 clear cl3_
 obtain ⟨t_3, kb_3, rfl, M3, J3, p3_0, p3_1, p3_2, p3_3, p3_4, p3_5, gt_3⟩ := hQ3
 have N3 := Fr.app N0 M3
 have sz3 := J3.1
 have hs3 : ∀ x ∈ ([b1] : List Addr), Safe Z own_EL s.vm H1 x := (sfS (Safe.exa (EL := own_EL) hZ.alike An1 (by decide) (by decide)) sf0)
 have R3 := R1.trans (CHr.keep J3 hs3 R1.1)
 have K3 := K1.trans J3 (allS (Or.inr (by omega)) all0)
 have lt_p3_0 := ny p3_0.lt
 have lt_p3_4 := ny p3_4.lt
 have Sf3_t := Safe.keep (x := t_3) J3 hs3 R1.1 (Safe.new (by omega))
 show Wk p e below _ T3 (mkF m 7 _ [(.ref b1)])
 refine Wk.aloadN X3 hx (hD d36_7) (n := 8) rfl rfl rfl ?_
 have f4 := ((F1.ext Ex1).keep J3 (ninS (nz (by omega)) nin0))
 refine Wk.getF X3 hx hZ hown (host := "") (Or.inl (oW hw 62 rfl)) Via.refl rfl f4 (hD d36_8) (n := 11) rfl fun T5 X5 e5 => ?_
 have f6 := ((F4.ext Ex1).keep J3 (ninS (nz (by omega)) nin0))
 have f8 := ((E2.ext Ex1).keep J3)
 obtain ⟨cq7, kq7, qn7a, qn7b, qn7c⟩ := isOf hZ e5 f8
 have cl7_ := fun Ls (hLs : LsOk c Ls) => X5.virtualBack hx (y := mn36) (z := mn36) hown (mW hZ hw 97 rfl) (mW hZ hw 98 rfl) (notFace_of_selects (args := #[]) (mW hZ hw 100 rfl)) (mW hZ hw 100 rfl) (mW hZ hw 99 rfl) (by decide) (backOf (W := 1) (rmPR l Z a0 hw [] w1 x1 T3.heap n0 (by omega) f6) hZ (oW hw 101 rfl) (oW hw 1 rfl) (by decide) (by decide)) qn7a qn7c (g := mkF m 11 Ls [(.ref w1), (.ref b1)]) rfl hLs (Steps.refl _) (argsL := []) (rest := [(.ref b1)]) (lenOf pd_23 rfl) rfl (leq0 rfl) (hD d36_11) (fun _ _ => ⟨rfl, e5, (by decide : 2 + 0 ≤ _), (by decide : 20 + 0 ≤ _)⟩)
 refine Wk.back (n := 14) (rc := 0) (rs := 0) (Q := Q_rmPR Z w1 x1 T3.heap n0) (cl7_ _ (lsok hml rfl)) fun vn7 T7 L7 X7 hQ7 => ?_
 clear cl7_
 obtain ⟨rfl, M7, e7⟩ := hQ7
 have N7 := Fr.app N3 M7
 show Wk p e below _ T7 (mkF m 14 _ [(.ref x1), (.ref b1)])
 have f9 := ((Es1.ext Ex1).keep J3)
 have f10 := ((Fv1.ext Ex1).keep J3 (ninS (nz (by omega)) nin0))
 have f11 := ((Fc1.ext Ex1).keep J3 (ninS (nz (by omega)) nin0))
 have f12 := ((As1.ext Ex1).keep J3 (ninS (nz (by omega)) nin0))
 have f13 := (f2.keep J3 (allS (by omega) all0))
 obtain ⟨cq14, kq14, qn14a, qn14b, qn14c⟩ := isOf hZ e7 p3_0
 have cl14_ := fun Ls (hLs : LsOk c Ls) => X7.virtualBack hx (y := mn14) (z := mn14) hown (mW hZ hw 104 rfl) (mW hZ hw 105 rfl) (notFace_of_selects (args := #[]) (mW hZ hw 107 rfl)) (mW hZ hw 107 rfl) (mW hZ hw 106 rfl) (by decide) (backOf (W := 0) (sbSA l Z a0 hw [] b1 x1 t1 k1 ([77, 97, 114, 105, 97, 68, 66]) t_3 kb_3 ([] : List Int32) zc 16 T3.heap n0 (by omega) p3_0 p3_1 p3_2 p3_3 p3_4 p3_5 f9 f10 f11 f12 S4 f13 hCS (by decide) (by simp only [List.length_append, List.length_cons, List.length_nil]; omega) (by omega) (by omega) (by omega) (by omega) (by omega)) hZ (oW hw 108 rfl) (oW hw 81 rfl) (by decide) (by decide)) qn14a qn14c (g := mkF m 14 Ls [(.ref x1), (.ref b1)]) rfl hLs (Steps.refl _) (argsL := [(.ref x1)]) (rest := []) (lenOf pd_24 rfl) rfl (leq0 rfl) (hD d36_14) (fun _ _ => ⟨rfl, e7, (by decide : 2 + 0 ≤ _), (by decide : 20 + 0 ≤ _)⟩)
 refine Wk.back (n := 17) (rc := 0) (rs := 0) (Q := Q_sbSA Z b1 x1 t1 k1 ([77, 97, 114, 105, 97, 68, 66]) t_3 kb_3 ([] : List Int32) zc 16 T3.heap n0) (cl14_ _ (lsok hml rfl)) fun vn14 T14 L14 X14 hQ14 => ?_
 clear cl14_
 obtain ⟨rfl, M14, J14, p14_0, p14_1, p14_2, p14_3, p14_4, p14_5⟩ := hQ14
 have N14 := Fr.app N7 M14
 have sz14 := J14.1
 have hs14 : ∀ x ∈ ([b1, t_3] : List Addr), Safe Z own_EL s.vm T3.heap x := (sfS (Safe.exa (EL := own_EL) hZ.alike p3_0 (by decide) (by decide)) (sfS Sf3_t sf0))
 have R14 := R3.trans (CHr.keep J14 hs14 R3.1)
 have K14 := K3.trans J14 (allS (Or.inr (by omega)) (allS (Or.inr (by omega)) all0))
 have lt_p14_0 := ny p14_0.lt
 have lt_p14_4 := ny p14_4.lt
 show Wk p e below _ T14 (mkF m 17 _ [(.ref b1)])
 refine Wk.ldcL (text := " at ") X14 hx hZ hown (oW hw 151 rfl) (fun d hd => hw d (own_wS d hd)) rfl Bs0 (by omega) hELw (by decide) R14 (vs := (bsV [32, 97, 116, 32])) (z := (Int32.ofNat ([32, 97, 116, 32] : List Int32).length)) ⟨by decide, rfl⟩ (by decide) (by decide) (hD d36_17) (n := 19) rfl (nn := 16) (by decide) (by decide) (by decide) (by decide) fun us15 T15 H15 a15_ t15_ k15_ X15 e15 Ex15 Bs15 hZ hown An15 Fn15_c Fn15_v Vn15 A_15 R15 hne15 => ?_
 have sz15 := Ex15.1
 have lt15 := ny An15.lt
 have lu15 := ny Vn15.lt
 have K15 := K14.ext Ex15
 have f16 := (A_15.safe (ny (by omega)) (Safe.keep J14 hs14 R3.1 Sf3_t))
 have nl15_t_3 := nw (hne15 _ f16).1
 have nm15_t_3 := nw (hne15 _ f16).2
 have f17 := (p14_0.ext Ex15)
 have f18 := (p14_1.ext Ex15)
 have f19 := (p14_2.ext Ex15)
 have f20 := (p14_3.ext Ex15)
 have f21 := (p14_4.ext Ex15)
 have f22 := (p14_5.ext Ex15)
 have f23 := ((f13.keep J14 (allS (by omega) (allS (by omega) all0))).ext Ex15)
 obtain ⟨cq24, kq24, qn24a, qn24b, qn24c⟩ := isOf hZ e15 f17
 have cl24_ := fun Ls (hLs : LsOk c Ls) => X15.virtualBack hx (y := mn14) (z := mn14) hown (mW hZ hw 104 rfl) (mW hZ hw 105 rfl) (notFace_of_selects (args := #[]) (mW hZ hw 107 rfl)) (mW hZ hw 107 rfl) (mW hZ hw 106 rfl) (by decide) (backOf (W := 0) (sbSA l Z a0 hw [] b1 a15_ t15_ k15_ ([32, 97, 116, 32] : List Int32) t_3 kb_3 (([] : List Int32) ++ [77, 97, 114, 105, 97, 68, 66]) zc 16 H15 n0 (by omega) f17 f18 f19 f20 f21 f22 An15 Fn15_v Fn15_c Vn15 S4 f23 hCS (by decide) (by simp only [List.length_append, List.length_cons, List.length_nil]; omega) (by omega) (by omega) (by omega) (by omega) (by omega)) hZ (oW hw 108 rfl) (oW hw 81 rfl) (by decide) (by decide)) qn24a qn24c (g := mkF m 19 Ls [(.ref a15_), (.ref b1)]) rfl hLs (Steps.refl _) (argsL := [(.ref a15_)]) (rest := []) (lenOf pd_24 rfl) rfl (leq0 rfl) (hD d36_19) (fun _ _ => ⟨rfl, e15, (by decide : 4 + 0 ≤ _), (by decide : 40 + 0 ≤ _)⟩)
 refine Wk.back (n := 22) (rc := 0) (rs := 0) (Q := Q_sbSA Z b1 a15_ t15_ k15_ ([32, 97, 116, 32] : List Int32) t_3 kb_3 (([] : List Int32) ++ [77, 97, 114, 105, 97, 68, 66]) zc 16 H15 n0) (cl24_ _ (lsok hml rfl)) fun vn24 T24 L24 X24 hQ24 => ?_
 clear cl24_
 obtain ⟨rfl, M24, J24, p24_0, p24_1, p24_2, p24_3, p24_4, p24_5⟩ := hQ24
 have N24 := Fr.app N14 M24
 have sz24 := J24.1
 have hs24 : ∀ x ∈ ([b1, t_3] : List Addr), Safe Z own_EL us15.vm H15 x := (sfS (Safe.exa (EL := own_EL) hZ.alike f17 (by decide) (by decide)) (sfS f16 sf0))
 have R24 := R15.trans (CHr.keep J24 hs24 R15.1)
 have K24 := K15.trans J24 (allS (Or.inr (by omega)) (allS (Or.inr (by omega)) all0))
 have lt_p24_0 := ny p24_0.lt
 have lt_p24_4 := ny p24_4.lt
 show Wk p e below _ T24 (mkF m 22 _ [(.ref b1)])
 refine Wk.aloadN X24 hx (hD d36_22) (n := 23) rfl rfl rfl ?_
 have f25 := (((((F2.ext Ex1).keep J3 (ninS (nz (by omega)) nin0)).keep J14 (ninS (nz (by omega)) (ninS (nz (by omega)) nin0))).ext Ex15).keep J24 (ninS (nz (by omega)) (ninS (nz (by omega)) nin0)))
 refine Wk.getF X24 hx hZ hown (host := "") (Or.inl (oW hw 64 rfl)) Via.refl rfl f25 (hD d36_23) (n := 26) rfl fun T26 X26 e26 => ?_
 have f27 := (((((Es2.ext Ex1).keep J3).keep J14).ext Ex15).keep J24)
 have f28 := (((((Fv2.ext Ex1).keep J3 (ninS (nz (by omega)) nin0)).keep J14 (ninS (nz (by omega)) (ninS (nz (by omega)) nin0))).ext Ex15).keep J24 (ninS (nz (by omega)) (ninS (nz (by omega)) nin0)))
 have f29 := (((((Fc2.ext Ex1).keep J3 (ninS (nz (by omega)) nin0)).keep J14 (ninS (nz (by omega)) (ninS (nz (by omega)) nin0))).ext Ex15).keep J24 (ninS (nz (by omega)) (ninS (nz (by omega)) nin0)))
 have f30 := (((((As2.ext Ex1).keep J3 (ninS (nz (by omega)) nin0)).keep J14 (ninS (nz (by omega)) (ninS (nz (by omega)) nin0))).ext Ex15).keep J24 (ninS (nz (by omega)) (ninS (nz (by omega)) nin0)))
 have f31 := (f23.keep J24 (allS (by omega) (allS (by omega) all0)))
 obtain ⟨cq32, kq32, qn32a, qn32b, qn32c⟩ := isOf hZ e26 p24_0
 have cl32_ := fun Ls (hLs : LsOk c Ls) => X26.virtualBack hx (y := mn14) (z := mn14) hown (mW hZ hw 104 rfl) (mW hZ hw 105 rfl) (notFace_of_selects (args := #[]) (mW hZ hw 107 rfl)) (mW hZ hw 107 rfl) (mW hZ hw 106 rfl) (by decide) (backOf (W := 0) (sbSA l Z a0 hw [] b1 x2 t2 k2 ([h0_, h1_, h2_]) t_3 kb_3 ((([] : List Int32) ++ [77, 97, 114, 105, 97, 68, 66]) ++ ([32, 97, 116, 32] : List Int32)) zc 16 T24.heap n0 (by omega) p24_0 p24_1 p24_2 p24_3 p24_4 p24_5 f27 f28 f29 f30 S4 f31 hCS q2 (by simp only [List.length_append, List.length_cons, List.length_nil]; omega) (by omega) (by omega) (by omega) (by omega) (by omega)) hZ (oW hw 108 rfl) (oW hw 81 rfl) (by decide) (by decide)) qn32a qn32c (g := mkF m 26 Ls [(.ref x2), (.ref b1)]) rfl hLs (Steps.refl _) (argsL := [(.ref x2)]) (rest := []) (lenOf pd_24 rfl) rfl (leq0 rfl) (hD d36_26) (fun _ _ => ⟨rfl, e26, (by decide : 4 + 0 ≤ _), (by decide : 40 + 0 ≤ _)⟩)
 refine Wk.back (n := 29) (rc := 0) (rs := 0) (Q := Q_sbSA Z b1 x2 t2 k2 ([h0_, h1_, h2_]) t_3 kb_3 ((([] : List Int32) ++ [77, 97, 114, 105, 97, 68, 66]) ++ ([32, 97, 116, 32] : List Int32)) zc 16 T24.heap n0) (cl32_ _ (lsok hml rfl)) fun vn32 T32 L32 X32 hQ32 => ?_
 clear cl32_
 obtain ⟨rfl, M32, J32, p32_0, p32_1, p32_2, p32_3, p32_4, p32_5⟩ := hQ32
 have N32 := Fr.app N24 M32
 have sz32 := J32.1
 have f33 := (Safe.keep J24 hs24 R15.1 f16)
 have hs32 : ∀ x ∈ ([b1, t_3] : List Addr), Safe Z own_EL us15.vm T24.heap x := (sfS (Safe.exa (EL := own_EL) hZ.alike p24_0 (by decide) (by decide)) (sfS f33 sf0))
 have R32 := R24.trans (CHr.keep J32 hs32 R24.1)
 have K32 := K24.trans J32 (allS (Or.inr (by omega)) (allS (Or.inr (by omega)) all0))
 have lt_p32_0 := ny p32_0.lt
 have lt_p32_4 := ny p32_4.lt
 show Wk p e below _ T32 (mkF m 29 _ [(.ref b1)])
 refine Wk.ldcL (text := ":") X32 hx hZ hown (oW hw 175 rfl) (fun d hd => hw d (own_wS d hd)) rfl Bs15 (by omega) hELw (by decide) R32 (vs := (bsV [58])) (z := (Int32.ofNat ([58] : List Int32).length)) ⟨by decide, rfl⟩ (by decide) (by decide) (hD d36_29) (n := 31) rfl (nn := 4) (by decide) (by decide) (by decide) (by decide) fun us34 T34 H34 a34_ t34_ k34_ X34 e34 Ex34 Bs34 hZ hown An34 Fn34_c Fn34_v Vn34 A_34 R34 hne34 => ?_
 have sz34 := Ex34.1
 have lt34 := ny An34.lt
 have lu34 := ny Vn34.lt
 have K34 := K32.ext Ex34
 have f35 := (A_34.safe (ny (by omega)) (Safe.keep J32 hs32 R24.1 f33))
 have nl34_t_3 := nw (hne34 _ f35).1
 have nm34_t_3 := nw (hne34 _ f35).2
 have f36 := (p32_0.ext Ex34)
 have f37 := (p32_1.ext Ex34)
 have f38 := (p32_2.ext Ex34)
 have f39 := (p32_3.ext Ex34)
 have f40 := (p32_4.ext Ex34)
 have f41 := (p32_5.ext Ex34)
 have f42 := ((f31.keep J32 (allS (by omega) (allS (by omega) all0))).ext Ex34)
 obtain ⟨cq43, kq43, qn43a, qn43b, qn43c⟩ := isOf hZ e34 f36
 have cl43_ := fun Ls (hLs : LsOk c Ls) => X34.virtualBack hx (y := mn14) (z := mn14) hown (mW hZ hw 104 rfl) (mW hZ hw 105 rfl) (notFace_of_selects (args := #[]) (mW hZ hw 107 rfl)) (mW hZ hw 107 rfl) (mW hZ hw 106 rfl) (by decide) (backOf (W := 0) (sbSA l Z a0 hw [] b1 a34_ t34_ k34_ ([58] : List Int32) t_3 kb_3 (((([] : List Int32) ++ [77, 97, 114, 105, 97, 68, 66]) ++ ([32, 97, 116, 32] : List Int32)) ++ [h0_, h1_, h2_]) zc 16 H34 n0 (by omega) f36 f37 f38 f39 f40 f41 An34 Fn34_v Fn34_c Vn34 S4 f42 hCS (by decide) (by simp only [List.length_append, List.length_cons, List.length_nil]; omega) (by omega) (by omega) (by omega) (by omega) (by omega)) hZ (oW hw 108 rfl) (oW hw 81 rfl) (by decide) (by decide)) qn43a qn43c (g := mkF m 31 Ls [(.ref a34_), (.ref b1)]) rfl hLs (Steps.refl _) (argsL := [(.ref a34_)]) (rest := []) (lenOf pd_24 rfl) rfl (leq0 rfl) (hD d36_31) (fun _ _ => ⟨rfl, e34, (by decide : 6 + 0 ≤ _), (by decide : 48 + 0 ≤ _)⟩)
 refine Wk.back (n := 34) (rc := 0) (rs := 0) (Q := Q_sbSA Z b1 a34_ t34_ k34_ ([58] : List Int32) t_3 kb_3 (((([] : List Int32) ++ [77, 97, 114, 105, 97, 68, 66]) ++ ([32, 97, 116, 32] : List Int32)) ++ [h0_, h1_, h2_]) zc 16 H34 n0) (cl43_ _ (lsok hml rfl)) fun vn43 T43 L43 X43 hQ43 => ?_
 clear cl43_
 obtain ⟨rfl, M43, J43, p43_0, p43_1, p43_2, p43_3, p43_4, p43_5⟩ := hQ43
 have N43 := Fr.app N32 M43
 have sz43 := J43.1
 have hs43 : ∀ x ∈ ([b1, t_3] : List Addr), Safe Z own_EL us34.vm H34 x := (sfS (Safe.exa (EL := own_EL) hZ.alike f36 (by decide) (by decide)) (sfS f35 sf0))
 have R43 := R34.trans (CHr.keep J43 hs43 R34.1)
 have K43 := K34.trans J43 (allS (Or.inr (by omega)) (allS (Or.inr (by omega)) all0))
 have lt_p43_0 := ny p43_0.lt
 have lt_p43_4 := ny p43_4.lt
 show Wk p e below _ T43 (mkF m 34 _ [(.ref b1)])
 by_cases hg : (sgl p1 ++ dl (mg p1)).length ≤ 1
 ·
  refine Wk.aloadN X43 hx (hD d36_34) (n := 35) rfl rfl rfl ?_
  have f44 := ((((((((F3.ext Ex1).keep J3 (ninS (nz (by omega)) nin0)).keep J14 (ninS (nz (by omega)) (ninS (nz (by omega)) nin0))).ext Ex15).keep J24 (ninS (nz (by omega)) (ninS (nz (by omega)) nin0))).keep J32 (ninS (nz (by omega)) (ninS (nz (by omega)) nin0))).ext Ex34).keep J43 (ninS (nz (by omega)) (ninS (nz (by omega)) nin0)))
  refine Wk.getF X43 hx hZ hown (host := "") (Or.inl (oW hw 66 rfl)) Via.refl rfl f44 (hD d36_35) (n := 38) rfl fun T45 X45 e45 => ?_
  have f46 := (f42.keep J43 (allS (by omega) (allS (by omega) all0)))
  obtain ⟨cq47, kq47, qn47a, qn47b, qn47c⟩ := isOf hZ e45 p43_0
  have cl47_ := fun Ls (hLs : LsOk c Ls) => X45.virtualBack hx (y := mn29) (z := mn29) hown (mW hZ hw 176 rfl) (mW hZ hw 177 rfl) (notFace_of_selects (args := #[]) (mW hZ hw 179 rfl)) (mW hZ hw 179 rfl) (mW hZ hw 178 rfl) (by decide) (backOf (W := 0) (sbSI2 l Z a0 hw [] b1 p1 t_3 kb_3 ((((([] : List Int32) ++ [77, 97, 114, 105, 97, 68, 66]) ++ ([32, 97, 116, 32] : List Int32)) ++ [h0_, h1_, h2_]) ++ ([58] : List Int32)) zc dO kO dT kT 16 T43.heap n0 (by omega) p43_0 p43_1 p43_2 p43_3 p43_4 p43_5 S4 f46 S6 S7 A6 A7 hCS (by simp only [List.length_append, List.length_cons, List.length_nil] at *; omega) (by omega) (by omega) (by omega) (by omega)) hZ (oW hw 180 rfl) (oW hw 81 rfl) (by decide) (by decide)) qn47a qn47c (g := mkF m 38 Ls [(.int p1), (.ref b1)]) rfl hLs (Steps.refl _) (argsL := [(.int p1)]) (rest := []) (lenOf pd_25 rfl) rfl (leq0 rfl) (hD d36_38) (fun _ _ => ⟨rfl, e45, (by decide : 6 + 0 ≤ _), (by decide : 48 + 0 ≤ _)⟩)
  refine Wk.back (n := 41) (rc := 0) (rs := 0) (Q := Q_sbSI2 Z b1 p1 t_3 kb_3 ((((([] : List Int32) ++ [77, 97, 114, 105, 97, 68, 66]) ++ ([32, 97, 116, 32] : List Int32)) ++ [h0_, h1_, h2_]) ++ ([58] : List Int32)) zc dO kO dT kT 16 T43.heap n0) (cl47_ _ (lsok hml rfl)) fun vn47 T47 L47 X47 hQ47 => ?_
  clear cl47_
  obtain ⟨rfl, M47, J47, p47_0, p47_1, p47_2, p47_3, p47_4, p47_5⟩ := hQ47
  have N47 := Fr.app N43 M47
  have sz47 := J47.1
  have f48 := (Safe.keep J43 hs43 R34.1 f35)
  have hs47 : ∀ x ∈ ([b1, t_3] : List Addr), Safe Z own_EL us34.vm T43.heap x := (sfS (Safe.exa (EL := own_EL) hZ.alike p43_0 (by decide) (by decide)) (sfS f48 sf0))
  have R47 := R43.trans (CHr.keep J47 hs47 R43.1)
  have K47 := K43.trans J47 (allS (Or.inr (by omega)) (allS (Or.inr (by omega)) all0))
  have lt_p47_0 := ny p47_0.lt
  have lt_p47_4 := ny p47_4.lt
  show Wk p e below _ T47 (mkF m 41 _ [(.ref b1)])
  have f49 := (f46.keep J47 (allS (by omega) (allS (by omega) all0)))
  obtain ⟨cq50, kq50, qn50a, qn50b, qn50c⟩ := isOf hZ rfl p47_0
  have cl50_ := fun Ls (hLs : LsOk c Ls) => X47.virtualBack hx (y := mn25) (z := mn25) hown (mW hZ hw 198 rfl) (mW hZ hw 199 rfl) (notFace_of_selects (args := #[]) (mW hZ hw 201 rfl)) (mW hZ hw 201 rfl) (mW hZ hw 200 rfl) (by decide) (backOf (W := 0) (sbTSc l Z a0 hw [] b1 t_3 kb_3 (((((([] : List Int32) ++ [77, 97, 114, 105, 97, 68, 66]) ++ ([32, 97, 116, 32] : List Int32)) ++ [h0_, h1_, h2_]) ++ ([58] : List Int32)) ++ (sgl p1 ++ dl (mg p1))) zc T47.heap n0 (by omega) p47_0 p47_1 p47_2 p47_3 p47_4 p47_5 S4 f49 hCS (by simp only [List.length_append, List.length_cons, List.length_nil] at *; omega)) hZ (oW hw 202 rfl) (oW hw 81 rfl) (by decide) (by decide)) qn50a qn50c (g := mkF m 41 Ls [(.ref b1)]) rfl hLs (Steps.refl _) (argsL := []) (rest := []) (lenOf pd_23 rfl) rfl (leq0 rfl) (hD d36_41) (fun _ _ => ⟨rfl, rfl, (by decide : 6 + 2 ≤ _), (by decide : 48 + 20 ≤ _)⟩)
  refine Wk.back (n := 44) (rc := 2) (rs := 20) (Q := Q_sbTSc Z b1 t_3 kb_3 (((((([] : List Int32) ++ [77, 97, 114, 105, 97, 68, 66]) ++ ([32, 97, 116, 32] : List Int32)) ++ [h0_, h1_, h2_]) ++ ([58] : List Int32)) ++ (sgl p1 ++ dl (mg p1))) zc T47.heap n0) (cl50_ _ (lsok hml rfl)) fun vn50 T50 L50 X50 hQ50 => ?_
  clear cl50_
  obtain ⟨r_50, t_50, kb_50, rfl, M50, J50, p50_0, p50_1, p50_2, p50_3, gr_50, gt_50⟩ := hQ50
  have N50 := Fr.app N47 M50
  have sz50 := J50.1
  have hs50 : ∀ x ∈ ([] : List Addr), Safe Z own_EL us34.vm T47.heap x := sf0
  have R50 := R47.trans (CHr.keep J50 hs50 R47.1)
  have K50 := K47.trans J50 (fun x hx => nomatch hx)
  have lt_p50_0 := ny p50_0.lt
  have lt_p50_3 := ny p50_3.lt
  have Sf50_r := Safe.keep (x := r_50) J50 hs50 R47.1 (Safe.new (by omega))
  have Sf50_t := Safe.keep (x := t_50) J50 hs50 R47.1 (Safe.new (by omega))
  show Wk p e below _ T50 (mkF m 44 _ [(.ref r_50)])
  exact Wk.leaveW X50 Bs34 (by omega) (v := some (.ref r_50)) (fun h => by rw [Bd.returns] at h; cases h) hlk rfl hh ⟨r_50, t_50, kb_50, rfl, N50, K50, p50_0, p50_1, p50_2, p50_3⟩ hZ hELw R50 (by decide) (by decide) (fun fs hr => retA X50 hx rfl Bd.returns rfl (hD d36_44) hr)
 ·
  refine Wk.aloadN X43 hx (hD d36_34) (n := 35) rfl rfl rfl ?_
  have f51 := ((((((((F3.ext Ex1).keep J3 (ninS (nz (by omega)) nin0)).keep J14 (ninS (nz (by omega)) (ninS (nz (by omega)) nin0))).ext Ex15).keep J24 (ninS (nz (by omega)) (ninS (nz (by omega)) nin0))).keep J32 (ninS (nz (by omega)) (ninS (nz (by omega)) nin0))).ext Ex34).keep J43 (ninS (nz (by omega)) (ninS (nz (by omega)) nin0)))
  refine Wk.getF X43 hx hZ hown (host := "") (Or.inl (oW hw 66 rfl)) Via.refl rfl f51 (hD d36_35) (n := 38) rfl fun T52 X52 e52 => ?_
  have f53 := (f42.keep J43 (allS (by omega) (allS (by omega) all0)))
  obtain ⟨cq54, kq54, qn54a, qn54b, qn54c⟩ := isOf hZ e52 p43_0
  have cl54_ := fun Ls (hLs : LsOk c Ls) => X52.virtualBack hx (y := mn29) (z := mn29) hown (mW hZ hw 176 rfl) (mW hZ hw 177 rfl) (notFace_of_selects (args := #[]) (mW hZ hw 179 rfl)) (mW hZ hw 179 rfl) (mW hZ hw 178 rfl) (by decide) (backOf (W := 0) (sbSIg l Z a0 hw [] b1 p1 t_3 kb_3 ((((([] : List Int32) ++ [77, 97, 114, 105, 97, 68, 66]) ++ ([32, 97, 116, 32] : List Int32)) ++ [h0_, h1_, h2_]) ++ ([58] : List Int32)) zc dO kO dT kT T43.heap n0 (by omega) p43_0 p43_1 p43_2 p43_3 p43_4 p43_5 S4 f53 S6 S7 A6 A7 hCS (by simp only [List.length_append, List.length_cons, List.length_nil] at *; omega) (by simp only [List.length_append, List.length_cons, List.length_nil] at *; omega) (by simp only [List.length_append, List.length_cons, List.length_nil]; omega) (by omega) (by omega)) hZ (oW hw 180 rfl) (oW hw 81 rfl) (by decide) (by decide)) qn54a qn54c (g := mkF m 38 Ls [(.int p1), (.ref b1)]) rfl hLs (Steps.refl _) (argsL := [(.int p1)]) (rest := []) (lenOf pd_25 rfl) rfl (leq0 rfl) (hD d36_38) (fun _ _ => ⟨rfl, e52, (by decide : 6 + 1 ≤ _), (by decide : 48 + 34 ≤ _)⟩)
  refine Wk.back (n := 41) (rc := 1) (rs := 34) (Q := Q_sbSIg Z b1 p1 t_3 kb_3 ((((([] : List Int32) ++ [77, 97, 114, 105, 97, 68, 66]) ++ ([32, 97, 116, 32] : List Int32)) ++ [h0_, h1_, h2_]) ++ ([58] : List Int32)) zc dO kO dT kT T43.heap n0) (cl54_ _ (lsok hml rfl)) fun vn54 T54 L54 X54 hQ54 => ?_
  clear cl54_
  obtain ⟨t_54, kb_54, rfl, M54, J54, p54_0, p54_1, p54_2, p54_3, p54_4, p54_5, gt_54⟩ := hQ54
  have N54 := Fr.app N43 M54
  have sz54 := J54.1
  have hs54 : ∀ x ∈ ([b1] : List Addr), Safe Z own_EL us34.vm T43.heap x := (sfS (Safe.exa (EL := own_EL) hZ.alike p43_0 (by decide) (by decide)) sf0)
  have R54 := R43.trans (CHr.keep J54 hs54 R43.1)
  have K54 := K43.trans J54 (allS (Or.inr (by omega)) all0)
  have lt_p54_0 := ny p54_0.lt
  have lt_p54_4 := ny p54_4.lt
  have Sf54_t := Safe.keep (x := t_54) J54 hs54 R43.1 (Safe.new (by omega))
  show Wk p e below _ T54 (mkF m 41 _ [(.ref b1)])
  have f55 := (f53.keep J54 (allS (by omega) all0))
  obtain ⟨cq56, kq56, qn56a, qn56b, qn56c⟩ := isOf hZ rfl p54_0
  have cl56_ := fun Ls (hLs : LsOk c Ls) => X54.virtualBack hx (y := mn25) (z := mn25) hown (mW hZ hw 198 rfl) (mW hZ hw 199 rfl) (notFace_of_selects (args := #[]) (mW hZ hw 201 rfl)) (mW hZ hw 201 rfl) (mW hZ hw 200 rfl) (by decide) (backOf (W := 0) (sbTS l Z a0 hw [] b1 t_54 kb_54 (((((([] : List Int32) ++ [77, 97, 114, 105, 97, 68, 66]) ++ ([32, 97, 116, 32] : List Int32)) ++ [h0_, h1_, h2_]) ++ ([58] : List Int32)) ++ (sgl p1 ++ dl (mg p1))) zc 34 T54.heap n0 (by omega) p54_0 p54_1 p54_2 p54_3 p54_4 p54_5 S4 f55 hCS (by simp only [List.length_append, List.length_cons, List.length_nil] at *; omega) (by omega)) hZ (oW hw 202 rfl) (oW hw 81 rfl) (by decide) (by decide)) qn56a qn56c (g := mkF m 41 Ls [(.ref b1)]) rfl hLs (Steps.refl _) (argsL := []) (rest := []) (lenOf pd_23 rfl) rfl (leq0 rfl) (hD d36_41) (fun _ _ => ⟨rfl, rfl, (by decide : 7 + 2 ≤ _), (by decide : 82 + 44 ≤ _)⟩)
  refine Wk.back (n := 44) (rc := 2) (rs := 44) (Q := Q_sbTS Z b1 t_54 kb_54 (((((([] : List Int32) ++ [77, 97, 114, 105, 97, 68, 66]) ++ ([32, 97, 116, 32] : List Int32)) ++ [h0_, h1_, h2_]) ++ ([58] : List Int32)) ++ (sgl p1 ++ dl (mg p1))) zc 34 T54.heap n0) (cl56_ _ (lsok hml rfl)) fun vn56 T56 L56 X56 hQ56 => ?_
  clear cl56_
  obtain ⟨r_56, t_56, kb_56, rfl, M56, J56, p56_0, p56_1, p56_2, p56_3, gr_56, gt_56⟩ := hQ56
  have N56 := Fr.app N54 M56
  have sz56 := J56.1
  have hs56 : ∀ x ∈ ([] : List Addr), Safe Z own_EL us34.vm T54.heap x := sf0
  have R56 := R54.trans (CHr.keep J56 hs56 R54.1)
  have K56 := K54.trans J56 (fun x hx => nomatch hx)
  have lt_p56_0 := ny p56_0.lt
  have lt_p56_3 := ny p56_3.lt
  have Sf56_r := Safe.keep (x := r_56) J56 hs56 R54.1 (Safe.new (by omega))
  have Sf56_t := Safe.keep (x := t_56) J56 hs56 R54.1 (Safe.new (by omega))
  show Wk p e below _ T56 (mkF m 44 _ [(.ref r_56)])
  exact Wk.leaveW X56 Bs34 (by omega) (v := some (.ref r_56)) (fun h => by rw [Bd.returns] at h; cases h) hlk rfl hh ⟨r_56, t_56, kb_56, rfl, N56, K56, p56_0, p56_1, p56_2, p56_3⟩ hZ hELw R56 (by decide) (by decide) (fun fs hr => retA X56 hx rfl Bd.returns rfl (hD d36_44) hr)
def Q_rmPut (Z : State) (eA : Addr) (ke : ClassId) (cp : List Int32) (n1 : Int32) (x1 : Addr) (t1 : Addr) (k1 : ClassId) (ct : List Int32) (zc : Int32) (fm : Value) (h0 : Heap) (n0 : Nat) (v : Option Value) (h : Heap) (L : List Loc) : Prop := v = some (.int (Int32.ofNat (cp ++ ct).length)) ∧ Fr n0 L ∧ Keep h0 h [eA] ∧ Arv Z h eA ke .char (32 : Int32) (chV (cp ++ ct)) (.int (0 : Int32))
theorem ef_rmPut (m : MethodId) (x0 : Addr) (x1 : Int32) (x2 : Addr) : entryFrame m #[(.ref x0), (.int x1), (.ref x2)] 4 = mkF m 0 #[.val (.ref x0), .val (.int x1), .val (.ref x2), .unset] [] := by first | (simp [entryFrame, mkF, argsToLocals, Value.category]; done) | rfl
theorem pn_com_example_mulock_mulock_sql_SqlAddressWherePinLaw : plainName "com/example/mulock/mulock/sql/SqlAddressWherePinLaw" = true := by first | (simp [plainName, overriddenIn]; done) | decide +kernel
theorem d37_0 : decode B37_ 0 = .ok (.aload_n 2, 1) := by decide +kernel
theorem d37_1 : decode B37_ 1 = .ok (.invokevirtual 52, 3) := by decide +kernel
theorem d37_4 : decode B37_ 4 = .ok (.istore_n 3, 1) := by decide +kernel
theorem d37_5 : decode B37_ 5 = .ok (.iload_n 3, 1) := by decide +kernel
theorem d37_6 : decode B37_ 6 = .ok (.ifCond .le 11, 3) := by decide +kernel
theorem d37_9 : decode B37_ 9 = .ok (.aload_n 0, 1) := by decide +kernel
theorem d37_10 : decode B37_ 10 = .ok (.iload_n 1, 1) := by decide +kernel
theorem d37_11 : decode B37_ 11 = .ok (.aload_n 2, 1) := by decide +kernel
theorem d37_12 : decode B37_ 12 = .ok (.iconst 0, 1) := by decide +kernel
theorem d37_13 : decode B37_ 13 = .ok (.invokevirtual 60, 3) := by decide +kernel
theorem pd_26 : parseMethodDescriptor "(I)C" = some ⟨[.int], some .char⟩ := by decide +kernel
theorem d37_16 : decode B37_ 16 = .ok (.castore, 1) := by decide +kernel
theorem d37_17 : decode B37_ 17 = .ok (.iload_n 3, 1) := by decide +kernel
theorem d37_18 : decode B37_ 18 = .ok (.iconst 1, 1) := by decide +kernel
theorem d37_19 : decode B37_ 19 = .ok (.if_icmp .le 13, 3) := by decide +kernel
theorem d37_22 : decode B37_ 22 = .ok (.aload_n 0, 1) := by decide +kernel
theorem d37_23 : decode B37_ 23 = .ok (.iload_n 1, 1) := by decide +kernel
theorem d37_24 : decode B37_ 24 = .ok (.iconst 1, 1) := by decide +kernel
theorem d37_25 : decode B37_ 25 = .ok (.iadd, 1) := by decide +kernel
theorem d37_26 : decode B37_ 26 = .ok (.aload_n 2, 1) := by decide +kernel
theorem d37_27 : decode B37_ 27 = .ok (.iconst 1, 1) := by decide +kernel
theorem d37_28 : decode B37_ 28 = .ok (.invokevirtual 60, 3) := by decide +kernel
theorem d37_31 : decode B37_ 31 = .ok (.castore, 1) := by decide +kernel
theorem d37_32 : decode B37_ 32 = .ok (.iload_n 3, 1) := by decide +kernel
theorem d37_33 : decode B37_ 33 = .ok (.iconst 2, 1) := by decide +kernel
theorem d37_34 : decode B37_ 34 = .ok (.if_icmp .le 13, 3) := by decide +kernel
theorem d37_37 : decode B37_ 37 = .ok (.aload_n 0, 1) := by decide +kernel
theorem d37_38 : decode B37_ 38 = .ok (.iload_n 1, 1) := by decide +kernel
theorem d37_39 : decode B37_ 39 = .ok (.iconst 2, 1) := by decide +kernel
theorem d37_40 : decode B37_ 40 = .ok (.iadd, 1) := by decide +kernel
theorem d37_41 : decode B37_ 41 = .ok (.aload_n 2, 1) := by decide +kernel
theorem d37_42 : decode B37_ 42 = .ok (.iconst 2, 1) := by decide +kernel
theorem d37_43 : decode B37_ 43 = .ok (.invokevirtual 60, 3) := by decide +kernel
theorem d37_46 : decode B37_ 46 = .ok (.castore, 1) := by decide +kernel
theorem d37_47 : decode B37_ 47 = .ok (.iload_n 3, 1) := by decide +kernel
theorem d37_48 : decode B37_ 48 = .ok (.iconst 3, 1) := by decide +kernel
theorem d37_49 : decode B37_ 49 = .ok (.if_icmp .le 13, 3) := by decide +kernel
theorem d37_52 : decode B37_ 52 = .ok (.aload_n 0, 1) := by decide +kernel
theorem d37_53 : decode B37_ 53 = .ok (.iload_n 1, 1) := by decide +kernel
theorem d37_54 : decode B37_ 54 = .ok (.iconst 3, 1) := by decide +kernel
theorem d37_55 : decode B37_ 55 = .ok (.iadd, 1) := by decide +kernel
theorem d37_56 : decode B37_ 56 = .ok (.aload_n 2, 1) := by decide +kernel
theorem d37_57 : decode B37_ 57 = .ok (.iconst 3, 1) := by decide +kernel
theorem d37_58 : decode B37_ 58 = .ok (.invokevirtual 60, 3) := by decide +kernel
theorem d37_61 : decode B37_ 61 = .ok (.castore, 1) := by decide +kernel
theorem d37_62 : decode B37_ 62 = .ok (.iload_n 3, 1) := by decide +kernel
theorem d37_63 : decode B37_ 63 = .ok (.iconst 4, 1) := by decide +kernel
theorem d37_64 : decode B37_ 64 = .ok (.if_icmp .le 13, 3) := by decide +kernel
theorem d37_67 : decode B37_ 67 = .ok (.aload_n 0, 1) := by decide +kernel
theorem d37_68 : decode B37_ 68 = .ok (.iload_n 1, 1) := by decide +kernel
theorem d37_69 : decode B37_ 69 = .ok (.iconst 4, 1) := by decide +kernel
theorem d37_70 : decode B37_ 70 = .ok (.iadd, 1) := by decide +kernel
theorem d37_71 : decode B37_ 71 = .ok (.aload_n 2, 1) := by decide +kernel
theorem d37_72 : decode B37_ 72 = .ok (.iconst 4, 1) := by decide +kernel
theorem d37_73 : decode B37_ 73 = .ok (.invokevirtual 60, 3) := by decide +kernel
theorem d37_76 : decode B37_ 76 = .ok (.castore, 1) := by decide +kernel
theorem d37_77 : decode B37_ 77 = .ok (.iload_n 3, 1) := by decide +kernel
theorem d37_78 : decode B37_ 78 = .ok (.iconst 5, 1) := by decide +kernel
theorem d37_79 : decode B37_ 79 = .ok (.if_icmp .le 13, 3) := by decide +kernel
theorem d37_82 : decode B37_ 82 = .ok (.aload_n 0, 1) := by decide +kernel
theorem d37_83 : decode B37_ 83 = .ok (.iload_n 1, 1) := by decide +kernel
theorem d37_84 : decode B37_ 84 = .ok (.iconst 5, 1) := by decide +kernel
theorem d37_85 : decode B37_ 85 = .ok (.iadd, 1) := by decide +kernel
theorem d37_86 : decode B37_ 86 = .ok (.aload_n 2, 1) := by decide +kernel
theorem d37_87 : decode B37_ 87 = .ok (.iconst 5, 1) := by decide +kernel
theorem d37_88 : decode B37_ 88 = .ok (.invokevirtual 60, 3) := by decide +kernel
theorem d37_91 : decode B37_ 91 = .ok (.castore, 1) := by decide +kernel
theorem d37_92 : decode B37_ 92 = .ok (.iload_n 3, 1) := by decide +kernel
theorem d37_93 : decode B37_ 93 = .ok (.bipush 6, 2) := by decide +kernel
theorem d37_95 : decode B37_ 95 = .ok (.if_icmp .le 15, 3) := by decide +kernel
theorem d37_98 : decode B37_ 98 = .ok (.aload_n 0, 1) := by decide +kernel
theorem d37_99 : decode B37_ 99 = .ok (.iload_n 1, 1) := by decide +kernel
theorem d37_100 : decode B37_ 100 = .ok (.bipush 6, 2) := by decide +kernel
theorem d37_102 : decode B37_ 102 = .ok (.iadd, 1) := by decide +kernel
theorem d37_103 : decode B37_ 103 = .ok (.aload_n 2, 1) := by decide +kernel
theorem d37_104 : decode B37_ 104 = .ok (.bipush 6, 2) := by decide +kernel
theorem d37_106 : decode B37_ 106 = .ok (.invokevirtual 60, 3) := by decide +kernel
theorem d37_109 : decode B37_ 109 = .ok (.castore, 1) := by decide +kernel
theorem d37_110 : decode B37_ 110 = .ok (.iload_n 3, 1) := by decide +kernel
theorem d37_111 : decode B37_ 111 = .ok (.bipush 7, 2) := by decide +kernel
theorem d37_113 : decode B37_ 113 = .ok (.if_icmp .le 15, 3) := by decide +kernel
theorem d37_116 : decode B37_ 116 = .ok (.aload_n 0, 1) := by decide +kernel
theorem d37_117 : decode B37_ 117 = .ok (.iload_n 1, 1) := by decide +kernel
theorem d37_118 : decode B37_ 118 = .ok (.bipush 7, 2) := by decide +kernel
theorem d37_120 : decode B37_ 120 = .ok (.iadd, 1) := by decide +kernel
theorem d37_121 : decode B37_ 121 = .ok (.aload_n 2, 1) := by decide +kernel
theorem d37_122 : decode B37_ 122 = .ok (.bipush 7, 2) := by decide +kernel
theorem d37_124 : decode B37_ 124 = .ok (.invokevirtual 60, 3) := by decide +kernel
theorem d37_127 : decode B37_ 127 = .ok (.castore, 1) := by decide +kernel
theorem d37_128 : decode B37_ 128 = .ok (.iload_n 3, 1) := by decide +kernel
theorem d37_129 : decode B37_ 129 = .ok (.bipush 8, 2) := by decide +kernel
theorem d37_131 : decode B37_ 131 = .ok (.if_icmp .le 15, 3) := by decide +kernel
theorem d37_134 : decode B37_ 134 = .ok (.aload_n 0, 1) := by decide +kernel
theorem d37_135 : decode B37_ 135 = .ok (.iload_n 1, 1) := by decide +kernel
theorem d37_136 : decode B37_ 136 = .ok (.bipush 8, 2) := by decide +kernel
theorem d37_138 : decode B37_ 138 = .ok (.iadd, 1) := by decide +kernel
theorem d37_139 : decode B37_ 139 = .ok (.aload_n 2, 1) := by decide +kernel
theorem d37_140 : decode B37_ 140 = .ok (.bipush 8, 2) := by decide +kernel
theorem d37_142 : decode B37_ 142 = .ok (.invokevirtual 60, 3) := by decide +kernel
theorem d37_145 : decode B37_ 145 = .ok (.castore, 1) := by decide +kernel
theorem d37_146 : decode B37_ 146 = .ok (.iload_n 3, 1) := by decide +kernel
theorem d37_147 : decode B37_ 147 = .ok (.bipush 9, 2) := by decide +kernel
theorem d37_149 : decode B37_ 149 = .ok (.if_icmp .le 15, 3) := by decide +kernel
theorem d37_152 : decode B37_ 152 = .ok (.aload_n 0, 1) := by decide +kernel
theorem d37_153 : decode B37_ 153 = .ok (.iload_n 1, 1) := by decide +kernel
theorem d37_154 : decode B37_ 154 = .ok (.bipush 9, 2) := by decide +kernel
theorem d37_156 : decode B37_ 156 = .ok (.iadd, 1) := by decide +kernel
theorem d37_157 : decode B37_ 157 = .ok (.aload_n 2, 1) := by decide +kernel
theorem d37_158 : decode B37_ 158 = .ok (.bipush 9, 2) := by decide +kernel
theorem d37_160 : decode B37_ 160 = .ok (.invokevirtual 60, 3) := by decide +kernel
theorem d37_163 : decode B37_ 163 = .ok (.castore, 1) := by decide +kernel
theorem d37_164 : decode B37_ 164 = .ok (.iload_n 1, 1) := by decide +kernel
theorem d37_165 : decode B37_ 165 = .ok (.iload_n 3, 1) := by decide +kernel
theorem d37_166 : decode B37_ 166 = .ok (.iadd, 1) := by decide +kernel
theorem d37_167 : decode B37_ 167 = .ok (.ireturn, 1) := by decide +kernel
theorem rmPut (hw : HW a0 Z) (ws : List Jvm.Cond) (eA : Addr) (ke : ClassId) (cp : List Int32) (n1 : Int32) (x1 : Addr) (t1 : Addr) (k1 : ClassId) (ct : List Int32) (zc : Int32) (fm : Value) (h0 : Heap) (n0 : Nat) (Z0 : n0 ≤ h0.size) (A1 : Arv Z h0 eA ke .char (32 : Int32) (chV cp) (.int (0 : Int32))) (Es1 : Exa Z h0 x1 "java/lang/String") (Fv1 : Fld Z h0 x1 "java/lang/String" "value" "[B" (.ref t1)) (Fc1 : Fld Z h0 x1 "java/lang/String" "coder" "B" (.int (0 : Int32))) (As1 : Arv Z h0 t1 k1 .byte (Int32.ofNat ct.length) (bsV ct) (.int (0 : Int32))) (S4 : Sta Z Z.heap "java/lang/String" "COMPACT_STRINGS" "Z" (.int zc)) (O1 : Old Z n0 h0) (S5 : Sta Z Z.heap "jdk/internal/util/Preconditions" "SIOOBE_FORMATTER" "Ljava/util/function/BiFunction;" fm) (hCS : ¬ zc = 0) (hFM : fm.isRef = true) (hp : ∀ c ∈ ct, ¬ c < 0 ∧ ¬ (255 : Int32) < c) (g1 : n0 ≤ eA) (hn1 : ¬ @Eq Nat x1 eA) (hn2 : ¬ @Eq Nat t1 eA) (qn : n1 = Int32.ofNat cp.length) (lcp : cp.length ≤ 20) (lct : ct.length ≤ 10) : MetN l Z mn39 method_4_code 4 (some .int) ws (rM 4 0 0 60) #[(.ref eA), (.int n1), (.ref x1)] h0 (Q_rmPut Z eA ke cp n1 x1 t1 k1 ct zc fm h0 n0) := by
 refine enterN (plainFor_of_name pn_com_example_mulock_mulock_sql_SqlAddressWherePinLaw) (fun m => ef_rmPut m _ _ _) fun p e s m below meth c s₁ Bd hZ hx hD hlk hml hown hnm X0 e0 => ?_
 have N0 := Fr.nil n0
 have K0 := Keep.refl h0 [eA]
 have lt_A1 := ny A1.lt
 have lt_Es1 := ny Es1.lt
 have lt_Fv1 := ny Fv1.lt
 have lt_Fc1 := ny Fc1.lt
 have lt_As1 := ny As1.lt
 have Pd := own_arv (own_p0 cp ct) (Arv.pad A1 (pad_rep (chV cp) (.int (0 : Int32)) ct.length))
 refine Wk.aloadN X0 hx (hD d37_0) (n := 1) rfl rfl rfl ?_
 obtain ⟨cq1, kq1, qn1a, qn1b, qn1c⟩ := isOf hZ e0 Es1
 have cl1_ := fun Ls (hLs : LsOk c Ls) => X0.virtualBack hx (y := mn12) (z := mn12) hown (mW hZ hw 238 rfl) (mW hZ hw 115 rfl) (notFace_of_selects (args := #[]) (mW hZ hw 117 rfl)) (mW hZ hw 117 rfl) (mW hZ hw 116 rfl) (by decide) (StrChars.Road.lenW (W := 0) hZ (fun d hd => hw d (own_wl d hd)) (kI := 4) (oW hw 5 rfl) Es1 Fv1 Fc1 As1 (StrChars.Road.codOf (cs := ct) (n := ct.length) rfl (fun c hc => (hp c hc).2)) (own_up hp) (Sta.ext O1.2 S4) hCS (by omega) (by decide) (by decide)) qn1a qn1c (g := mkF m 1 Ls [(.ref x1)]) rfl hLs (Steps.refl _) (argsL := []) (rest := []) (lenOf pd_7 rfl) rfl (leq0 rfl) (hD d37_1) (fun _ _ => ⟨rfl, e0, (by decide : 0 + 0 ≤ _), (by decide : 0 + 0 ≤ _)⟩)
 refine Wk.back (n := 4) (rc := 0) (rs := 0) (Q := fun v h' L => (v = some (.int (Int32.ofNat (ct : List Int32).length)) ∧ L = [] ∧ h' = h0)) (cl1_ _ (lsok hml rfl)) fun vn1 T1 L1 X1 hQ1 => ?_
 clear cl1_
 obtain ⟨rfl, rfl, e1⟩ := hQ1
 have N1 := Fr.app N0 (Fr.nil n0)
 show Wk p e below _ T1 (mkF m 4 _ [(.int (Int32.ofNat ct.length))])
 refine Wk.istoreN X1 hx (hD d37_4) (n := 5) rfl (L' := #[.val (.ref eA), .val (.int n1), .val (.ref x1), .val (.int (Int32.ofNat ct.length))]) rfl ?_
 refine Wk.iloadN X1 hx (hD d37_5) (n := 6) rfl rfl ?_
 by_cases hc6 : (0 : Int32) < (Int32.ofNat ct.length)
 ·
  refine Wk.ifNo X1 hx (hD d37_6) (n := 9) rfl ((if0 _ _).trans (tlt hc6).2.2.2) ?_
  have gk0 : 0 < ct.length := (own_lt (a := 0) (by decide) (by omega)).mp hc6
  refine Wk.aloadN X1 hx (hD d37_9) (n := 10) rfl rfl rfl ?_
  refine Wk.iloadN X1 hx (hD d37_10) (n := 11) rfl rfl ?_
  refine Wk.aloadN X1 hx (hD d37_11) (n := 12) rfl rfl rfl ?_
  refine Wk.iconst X1 hx (hD d37_12) (n := 13) rfl (z := (0 : Int32)) rfl ?_
  obtain ⟨cq2, kq2, qn2a, qn2b, qn2c⟩ := isOf hZ e1 Es1
  have cl2_ := fun Ls (hLs : LsOk c Ls) => X1.virtualBack hx (y := mn38) (z := mn38) hown (mW hZ hw 239 rfl) (mW hZ hw 240 rfl) (notFace_of_selects (args := #[]) (mW hZ hw 242 rfl)) (mW hZ hw 242 rfl) (mW hZ hw 241 rfl) (by decide) (StrChars.Road.chN (W := 2) hZ (fun d hd => hw d (own_wc d hd)) (kI := 4) (oW hw 5 rfl) Es1 Fv1 Fc1 As1 (StrChars.Road.codOf (cs := ct) (n := ct.length) rfl (fun c hc => (hp c hc).2)) (own_up hp) (Sta.ext O1.2 S4) hCS (Sta.ext O1.2 S5) hFM (by omega) (i := 0) gk0 (j := (0 : Int32)) rfl (by decide) (by decide)) qn2a qn2c (g := mkF m 13 Ls [(.int (0 : Int32)), (.ref x1), (.int n1), (.ref eA)]) rfl hLs (Steps.refl _) (argsL := [(.int (0 : Int32))]) (rest := [(.int n1), (.ref eA)]) (lenOf pd_26 rfl) rfl (leq0 rfl) (hD d37_13) (fun _ _ => ⟨rfl, e1, (by decide : 0 + 0 ≤ _), (by decide : 0 + 0 ≤ _)⟩)
  refine Wk.back (n := 16) (rc := 0) (rs := 0) (Q := fun v h' L => (v = some (.int ((ct : List Int32).getD 0 0)) ∧ L = [] ∧ h' = h0)) (cl2_ _ (lsok hml rfl)) fun vn2 T2 L2 X2 hQ2 => ?_
  clear cl2_
  obtain ⟨rfl, rfl, e2⟩ := hQ2
  have N2 := Fr.app N1 (Fr.nil n0)
  show Wk p e below _ T2 (mkF m 16 _ [(.int (ct.getD 0 0)), (.int n1), (.ref eA)])
  have jl0 : (cp ++ ct.take 0).length = cp.length + 0 := by rw [List.length_append, List.length_take]; omega
  have jx0 : n1 = Int32.ofNat (cp ++ ct.take 0).length := by rw [jl0, qn]; rfl
  obtain ⟨cl3, Ar3, qn3, Sz3, N_3, H_3, Gn3⟩ := id Pd
  have hin3 : ¬ (n1 < 0 ∨ cl3.slots.size ≤ (n1).toNatClampNeg) := inb_of Sz3 (by rw [jx0]; exact ⟨own_nonneg (by omega), (own_lt (b := 32) (by omega) (by decide)).mpr (by omega)⟩)
  refine Wk.stC X2 hx hZ e2 Ar3 hin3 (hD d37_16) (n := 17) rfl fun T3 H3 X3 e3 Wn3 => ?_
  have Vn3 := Arv.set Ar3 qn3 Sz3 N_3 H_3 Gn3 (fits_nar_char _) Wn3 (cp ++ ct.take 0).length (by rw [jx0]; exact own_cl (by omega)) (by simp only [List.length_append, List.length_replicate, chV_len]; omega)
  have Un3 : Arv Z H3 eA ke .char (32 : Int32) (chV (cp ++ ct.take 1) ++ List.replicate (ct.length - 1) (Value.int (0 : Int32))) (.int (0 : Int32)) := own_arv (own_stf (own_ncr hp gk0) (by omega) (own_tk gk0)) Vn3
  have sz3 := Wn3.size
  have K3 := K0.wr Wn3 (Or.inl (List.mem_of_getElem? (i := 0) rfl))
  have N3 := Fr.snoc X3 N2 (by omega)
  refine Wk.iloadN X3 hx (hD d37_17) (n := 18) rfl rfl ?_
  refine Wk.iconst X3 hx (hD d37_18) (n := 19) rfl (z := (1 : Int32)) rfl ?_
  by_cases hc19 : (1 : Int32) < (Int32.ofNat ct.length)
  ·
   refine Wk.icmpNo X3 hx (hD d37_19) (n := 22) rfl (tlt hc19).2.2.2 ?_
   have gk1 : 1 < ct.length := (own_lt (a := 1) (by decide) (by omega)).mp hc19
   refine Wk.aloadN X3 hx (hD d37_22) (n := 23) rfl rfl rfl ?_
   refine Wk.iloadN X3 hx (hD d37_23) (n := 24) rfl rfl ?_
   refine Wk.iconst X3 hx (hD d37_24) (n := 25) rfl (z := (1 : Int32)) rfl ?_
   refine Wk.iadd X3 hx (hD d37_25) (n := 26) rfl ?_
   refine Wk.aloadN X3 hx (hD d37_26) (n := 27) rfl rfl rfl ?_
   refine Wk.iconst X3 hx (hD d37_27) (n := 28) rfl (z := (1 : Int32)) rfl ?_
   have f5 := (Es1.wr Wn3)
   have f6 := (Fv1.other Wn3 (Or.inl (nz (by omega))))
   have f7 := (Fc1.other Wn3 (Or.inl (nz (by omega))))
   have f8 := (As1.other Wn3 (nz (by omega)))
   have f9 := (O1.wr Wn3 (by omega))
   obtain ⟨cq4, kq4, qn4a, qn4b, qn4c⟩ := isOf hZ e3 f5
   have cl4_ := fun Ls (hLs : LsOk c Ls) => X3.virtualBack hx (y := mn38) (z := mn38) hown (mW hZ hw 239 rfl) (mW hZ hw 240 rfl) (notFace_of_selects (args := #[]) (mW hZ hw 242 rfl)) (mW hZ hw 242 rfl) (mW hZ hw 241 rfl) (by decide) (StrChars.Road.chN (W := 2) hZ (fun d hd => hw d (own_wc d hd)) (kI := 4) (oW hw 5 rfl) f5 f6 f7 f8 (StrChars.Road.codOf (cs := ct) (n := ct.length) rfl (fun c hc => (hp c hc).2)) (own_up hp) (Sta.ext f9.2 S4) hCS (Sta.ext f9.2 S5) hFM (by omega) (i := 1) gk1 (j := (1 : Int32)) rfl (by decide) (by decide)) qn4a qn4c (g := mkF m 28 Ls [(.int (1 : Int32)), (.ref x1), (.int (n1 + (1 : Int32))), (.ref eA)]) rfl hLs (Steps.refl _) (argsL := [(.int (1 : Int32))]) (rest := [(.int (n1 + (1 : Int32))), (.ref eA)]) (lenOf pd_26 rfl) rfl (leq0 rfl) (hD d37_28) (fun _ _ => ⟨rfl, e3, (by decide : 0 + 0 ≤ _), (by decide : 0 + 0 ≤ _)⟩)
   refine Wk.back (n := 31) (rc := 0) (rs := 0) (Q := fun v h' L => (v = some (.int ((ct : List Int32).getD 1 0)) ∧ L = [] ∧ h' = H3)) (cl4_ _ (lsok hml rfl)) fun vn4 T4 L4 X4 hQ4 => ?_
   clear cl4_
   obtain ⟨rfl, rfl, e4⟩ := hQ4
   have N4 := Fr.app N3 (Fr.nil n0)
   show Wk p e below _ T4 (mkF m 31 _ [(.int (ct.getD 1 0)), (.int (n1 + (1 : Int32))), (.ref eA)])
   have jl1 : (cp ++ ct.take 1).length = cp.length + 1 := by rw [List.length_append, List.length_take]; omega
   have jx1 : (n1 + (1 : Int32)) = Int32.ofNat (cp ++ ct.take 1).length := by rw [jl1, qn]; exact own_ofadd _ 1
   obtain ⟨cl10, Ar10, qn10, Sz10, N_10, H_10, Gn10⟩ := id Un3
   have hin10 : ¬ ((n1 + (1 : Int32)) < 0 ∨ cl10.slots.size ≤ ((n1 + (1 : Int32))).toNatClampNeg) := inb_of Sz10 (by rw [jx1]; exact ⟨own_nonneg (by omega), (own_lt (b := 32) (by omega) (by decide)).mpr (by omega)⟩)
   refine Wk.stC X4 hx hZ e4 Ar10 hin10 (hD d37_31) (n := 32) rfl fun T10 H10 X10 e10 Wn10 => ?_
   have Vn10 := Arv.set Ar10 qn10 Sz10 N_10 H_10 Gn10 (fits_nar_char _) Wn10 (cp ++ ct.take 1).length (by rw [jx1]; exact own_cl (by omega)) (by simp only [List.length_append, List.length_replicate, chV_len]; omega)
   have Un10 : Arv Z H10 eA ke .char (32 : Int32) (chV (cp ++ ct.take 2) ++ List.replicate (ct.length - 2) (Value.int (0 : Int32))) (.int (0 : Int32)) := own_arv (own_stf (own_ncr hp gk1) (by omega) (own_tk gk1)) Vn10
   have sz10 := Wn10.size
   have K10 := K3.wr Wn10 (Or.inl (List.mem_of_getElem? (i := 0) rfl))
   have N10 := Fr.snoc X10 N4 (by omega)
   refine Wk.iloadN X10 hx (hD d37_32) (n := 33) rfl rfl ?_
   refine Wk.iconst X10 hx (hD d37_33) (n := 34) rfl (z := (2 : Int32)) rfl ?_
   by_cases hc34 : (2 : Int32) < (Int32.ofNat ct.length)
   ·
    refine Wk.icmpNo X10 hx (hD d37_34) (n := 37) rfl (tlt hc34).2.2.2 ?_
    have gk2 : 2 < ct.length := (own_lt (a := 2) (by decide) (by omega)).mp hc34
    refine Wk.aloadN X10 hx (hD d37_37) (n := 38) rfl rfl rfl ?_
    refine Wk.iloadN X10 hx (hD d37_38) (n := 39) rfl rfl ?_
    refine Wk.iconst X10 hx (hD d37_39) (n := 40) rfl (z := (2 : Int32)) rfl ?_
    refine Wk.iadd X10 hx (hD d37_40) (n := 41) rfl ?_
    refine Wk.aloadN X10 hx (hD d37_41) (n := 42) rfl rfl rfl ?_
    refine Wk.iconst X10 hx (hD d37_42) (n := 43) rfl (z := (2 : Int32)) rfl ?_
    have f12 := (f5.wr Wn10)
    have f13 := (f6.other Wn10 (Or.inl (nz (by omega))))
    have f14 := (f7.other Wn10 (Or.inl (nz (by omega))))
    have f15 := (f8.other Wn10 (nz (by omega)))
    have f16 := (f9.wr Wn10 (by omega))
    obtain ⟨cq11, kq11, qn11a, qn11b, qn11c⟩ := isOf hZ e10 f12
    have cl11_ := fun Ls (hLs : LsOk c Ls) => X10.virtualBack hx (y := mn38) (z := mn38) hown (mW hZ hw 239 rfl) (mW hZ hw 240 rfl) (notFace_of_selects (args := #[]) (mW hZ hw 242 rfl)) (mW hZ hw 242 rfl) (mW hZ hw 241 rfl) (by decide) (StrChars.Road.chN (W := 2) hZ (fun d hd => hw d (own_wc d hd)) (kI := 4) (oW hw 5 rfl) f12 f13 f14 f15 (StrChars.Road.codOf (cs := ct) (n := ct.length) rfl (fun c hc => (hp c hc).2)) (own_up hp) (Sta.ext f16.2 S4) hCS (Sta.ext f16.2 S5) hFM (by omega) (i := 2) gk2 (j := (2 : Int32)) rfl (by decide) (by decide)) qn11a qn11c (g := mkF m 43 Ls [(.int (2 : Int32)), (.ref x1), (.int (n1 + (2 : Int32))), (.ref eA)]) rfl hLs (Steps.refl _) (argsL := [(.int (2 : Int32))]) (rest := [(.int (n1 + (2 : Int32))), (.ref eA)]) (lenOf pd_26 rfl) rfl (leq0 rfl) (hD d37_43) (fun _ _ => ⟨rfl, e10, (by decide : 0 + 0 ≤ _), (by decide : 0 + 0 ≤ _)⟩)
    refine Wk.back (n := 46) (rc := 0) (rs := 0) (Q := fun v h' L => (v = some (.int ((ct : List Int32).getD 2 0)) ∧ L = [] ∧ h' = H10)) (cl11_ _ (lsok hml rfl)) fun vn11 T11 L11 X11 hQ11 => ?_
    clear cl11_
    obtain ⟨rfl, rfl, e11⟩ := hQ11
    have N11 := Fr.app N10 (Fr.nil n0)
    show Wk p e below _ T11 (mkF m 46 _ [(.int (ct.getD 2 0)), (.int (n1 + (2 : Int32))), (.ref eA)])
    have jl2 : (cp ++ ct.take 2).length = cp.length + 2 := by rw [List.length_append, List.length_take]; omega
    have jx2 : (n1 + (2 : Int32)) = Int32.ofNat (cp ++ ct.take 2).length := by rw [jl2, qn]; exact own_ofadd _ 2
    obtain ⟨cl17, Ar17, qn17, Sz17, N_17, H_17, Gn17⟩ := id Un10
    have hin17 : ¬ ((n1 + (2 : Int32)) < 0 ∨ cl17.slots.size ≤ ((n1 + (2 : Int32))).toNatClampNeg) := inb_of Sz17 (by rw [jx2]; exact ⟨own_nonneg (by omega), (own_lt (b := 32) (by omega) (by decide)).mpr (by omega)⟩)
    refine Wk.stC X11 hx hZ e11 Ar17 hin17 (hD d37_46) (n := 47) rfl fun T17 H17 X17 e17 Wn17 => ?_
    have Vn17 := Arv.set Ar17 qn17 Sz17 N_17 H_17 Gn17 (fits_nar_char _) Wn17 (cp ++ ct.take 2).length (by rw [jx2]; exact own_cl (by omega)) (by simp only [List.length_append, List.length_replicate, chV_len]; omega)
    have Un17 : Arv Z H17 eA ke .char (32 : Int32) (chV (cp ++ ct.take 3) ++ List.replicate (ct.length - 3) (Value.int (0 : Int32))) (.int (0 : Int32)) := own_arv (own_stf (own_ncr hp gk2) (by omega) (own_tk gk2)) Vn17
    have sz17 := Wn17.size
    have K17 := K10.wr Wn17 (Or.inl (List.mem_of_getElem? (i := 0) rfl))
    have N17 := Fr.snoc X17 N11 (by omega)
    refine Wk.iloadN X17 hx (hD d37_47) (n := 48) rfl rfl ?_
    refine Wk.iconst X17 hx (hD d37_48) (n := 49) rfl (z := (3 : Int32)) rfl ?_
    by_cases hc49 : (3 : Int32) < (Int32.ofNat ct.length)
    ·
     refine Wk.icmpNo X17 hx (hD d37_49) (n := 52) rfl (tlt hc49).2.2.2 ?_
     have gk3 : 3 < ct.length := (own_lt (a := 3) (by decide) (by omega)).mp hc49
     refine Wk.aloadN X17 hx (hD d37_52) (n := 53) rfl rfl rfl ?_
     refine Wk.iloadN X17 hx (hD d37_53) (n := 54) rfl rfl ?_
     refine Wk.iconst X17 hx (hD d37_54) (n := 55) rfl (z := (3 : Int32)) rfl ?_
     refine Wk.iadd X17 hx (hD d37_55) (n := 56) rfl ?_
     refine Wk.aloadN X17 hx (hD d37_56) (n := 57) rfl rfl rfl ?_
     refine Wk.iconst X17 hx (hD d37_57) (n := 58) rfl (z := (3 : Int32)) rfl ?_
     have f19 := (f12.wr Wn17)
     have f20 := (f13.other Wn17 (Or.inl (nz (by omega))))
     have f21 := (f14.other Wn17 (Or.inl (nz (by omega))))
     have f22 := (f15.other Wn17 (nz (by omega)))
     have f23 := (f16.wr Wn17 (by omega))
     obtain ⟨cq18, kq18, qn18a, qn18b, qn18c⟩ := isOf hZ e17 f19
     have cl18_ := fun Ls (hLs : LsOk c Ls) => X17.virtualBack hx (y := mn38) (z := mn38) hown (mW hZ hw 239 rfl) (mW hZ hw 240 rfl) (notFace_of_selects (args := #[]) (mW hZ hw 242 rfl)) (mW hZ hw 242 rfl) (mW hZ hw 241 rfl) (by decide) (StrChars.Road.chN (W := 2) hZ (fun d hd => hw d (own_wc d hd)) (kI := 4) (oW hw 5 rfl) f19 f20 f21 f22 (StrChars.Road.codOf (cs := ct) (n := ct.length) rfl (fun c hc => (hp c hc).2)) (own_up hp) (Sta.ext f23.2 S4) hCS (Sta.ext f23.2 S5) hFM (by omega) (i := 3) gk3 (j := (3 : Int32)) rfl (by decide) (by decide)) qn18a qn18c (g := mkF m 58 Ls [(.int (3 : Int32)), (.ref x1), (.int (n1 + (3 : Int32))), (.ref eA)]) rfl hLs (Steps.refl _) (argsL := [(.int (3 : Int32))]) (rest := [(.int (n1 + (3 : Int32))), (.ref eA)]) (lenOf pd_26 rfl) rfl (leq0 rfl) (hD d37_58) (fun _ _ => ⟨rfl, e17, (by decide : 0 + 0 ≤ _), (by decide : 0 + 0 ≤ _)⟩)
     refine Wk.back (n := 61) (rc := 0) (rs := 0) (Q := fun v h' L => (v = some (.int ((ct : List Int32).getD 3 0)) ∧ L = [] ∧ h' = H17)) (cl18_ _ (lsok hml rfl)) fun vn18 T18 L18 X18 hQ18 => ?_
     clear cl18_
     obtain ⟨rfl, rfl, e18⟩ := hQ18
     have N18 := Fr.app N17 (Fr.nil n0)
     show Wk p e below _ T18 (mkF m 61 _ [(.int (ct.getD 3 0)), (.int (n1 + (3 : Int32))), (.ref eA)])
     have jl3 : (cp ++ ct.take 3).length = cp.length + 3 := by rw [List.length_append, List.length_take]; omega
     have jx3 : (n1 + (3 : Int32)) = Int32.ofNat (cp ++ ct.take 3).length := by rw [jl3, qn]; exact own_ofadd _ 3
     obtain ⟨cl24, Ar24, qn24, Sz24, N_24, H_24, Gn24⟩ := id Un17
     have hin24 : ¬ ((n1 + (3 : Int32)) < 0 ∨ cl24.slots.size ≤ ((n1 + (3 : Int32))).toNatClampNeg) := inb_of Sz24 (by rw [jx3]; exact ⟨own_nonneg (by omega), (own_lt (b := 32) (by omega) (by decide)).mpr (by omega)⟩)
     refine Wk.stC X18 hx hZ e18 Ar24 hin24 (hD d37_61) (n := 62) rfl fun T24 H24 X24 e24 Wn24 => ?_
     have Vn24 := Arv.set Ar24 qn24 Sz24 N_24 H_24 Gn24 (fits_nar_char _) Wn24 (cp ++ ct.take 3).length (by rw [jx3]; exact own_cl (by omega)) (by simp only [List.length_append, List.length_replicate, chV_len]; omega)
     have Un24 : Arv Z H24 eA ke .char (32 : Int32) (chV (cp ++ ct.take 4) ++ List.replicate (ct.length - 4) (Value.int (0 : Int32))) (.int (0 : Int32)) := own_arv (own_stf (own_ncr hp gk3) (by omega) (own_tk gk3)) Vn24
     have sz24 := Wn24.size
     have K24 := K17.wr Wn24 (Or.inl (List.mem_of_getElem? (i := 0) rfl))
     have N24 := Fr.snoc X24 N18 (by omega)
     refine Wk.iloadN X24 hx (hD d37_62) (n := 63) rfl rfl ?_
     refine Wk.iconst X24 hx (hD d37_63) (n := 64) rfl (z := (4 : Int32)) rfl ?_
     by_cases hc64 : (4 : Int32) < (Int32.ofNat ct.length)
     ·
      refine Wk.icmpNo X24 hx (hD d37_64) (n := 67) rfl (tlt hc64).2.2.2 ?_
      have gk4 : 4 < ct.length := (own_lt (a := 4) (by decide) (by omega)).mp hc64
      refine Wk.aloadN X24 hx (hD d37_67) (n := 68) rfl rfl rfl ?_
      refine Wk.iloadN X24 hx (hD d37_68) (n := 69) rfl rfl ?_
      refine Wk.iconst X24 hx (hD d37_69) (n := 70) rfl (z := (4 : Int32)) rfl ?_
      refine Wk.iadd X24 hx (hD d37_70) (n := 71) rfl ?_
      refine Wk.aloadN X24 hx (hD d37_71) (n := 72) rfl rfl rfl ?_
      refine Wk.iconst X24 hx (hD d37_72) (n := 73) rfl (z := (4 : Int32)) rfl ?_
      have f26 := (f19.wr Wn24)
      have f27 := (f20.other Wn24 (Or.inl (nz (by omega))))
      have f28 := (f21.other Wn24 (Or.inl (nz (by omega))))
      have f29 := (f22.other Wn24 (nz (by omega)))
      have f30 := (f23.wr Wn24 (by omega))
      obtain ⟨cq25, kq25, qn25a, qn25b, qn25c⟩ := isOf hZ e24 f26
      have cl25_ := fun Ls (hLs : LsOk c Ls) => X24.virtualBack hx (y := mn38) (z := mn38) hown (mW hZ hw 239 rfl) (mW hZ hw 240 rfl) (notFace_of_selects (args := #[]) (mW hZ hw 242 rfl)) (mW hZ hw 242 rfl) (mW hZ hw 241 rfl) (by decide) (StrChars.Road.chN (W := 2) hZ (fun d hd => hw d (own_wc d hd)) (kI := 4) (oW hw 5 rfl) f26 f27 f28 f29 (StrChars.Road.codOf (cs := ct) (n := ct.length) rfl (fun c hc => (hp c hc).2)) (own_up hp) (Sta.ext f30.2 S4) hCS (Sta.ext f30.2 S5) hFM (by omega) (i := 4) gk4 (j := (4 : Int32)) rfl (by decide) (by decide)) qn25a qn25c (g := mkF m 73 Ls [(.int (4 : Int32)), (.ref x1), (.int (n1 + (4 : Int32))), (.ref eA)]) rfl hLs (Steps.refl _) (argsL := [(.int (4 : Int32))]) (rest := [(.int (n1 + (4 : Int32))), (.ref eA)]) (lenOf pd_26 rfl) rfl (leq0 rfl) (hD d37_73) (fun _ _ => ⟨rfl, e24, (by decide : 0 + 0 ≤ _), (by decide : 0 + 0 ≤ _)⟩)
      refine Wk.back (n := 76) (rc := 0) (rs := 0) (Q := fun v h' L => (v = some (.int ((ct : List Int32).getD 4 0)) ∧ L = [] ∧ h' = H24)) (cl25_ _ (lsok hml rfl)) fun vn25 T25 L25 X25 hQ25 => ?_
      clear cl25_
      obtain ⟨rfl, rfl, e25⟩ := hQ25
      have N25 := Fr.app N24 (Fr.nil n0)
      show Wk p e below _ T25 (mkF m 76 _ [(.int (ct.getD 4 0)), (.int (n1 + (4 : Int32))), (.ref eA)])
      have jl4 : (cp ++ ct.take 4).length = cp.length + 4 := by rw [List.length_append, List.length_take]; omega
      have jx4 : (n1 + (4 : Int32)) = Int32.ofNat (cp ++ ct.take 4).length := by rw [jl4, qn]; exact own_ofadd _ 4
      obtain ⟨cl31, Ar31, qn31, Sz31, N_31, H_31, Gn31⟩ := id Un24
      have hin31 : ¬ ((n1 + (4 : Int32)) < 0 ∨ cl31.slots.size ≤ ((n1 + (4 : Int32))).toNatClampNeg) := inb_of Sz31 (by rw [jx4]; exact ⟨own_nonneg (by omega), (own_lt (b := 32) (by omega) (by decide)).mpr (by omega)⟩)
      refine Wk.stC X25 hx hZ e25 Ar31 hin31 (hD d37_76) (n := 77) rfl fun T31 H31 X31 e31 Wn31 => ?_
      have Vn31 := Arv.set Ar31 qn31 Sz31 N_31 H_31 Gn31 (fits_nar_char _) Wn31 (cp ++ ct.take 4).length (by rw [jx4]; exact own_cl (by omega)) (by simp only [List.length_append, List.length_replicate, chV_len]; omega)
      have Un31 : Arv Z H31 eA ke .char (32 : Int32) (chV (cp ++ ct.take 5) ++ List.replicate (ct.length - 5) (Value.int (0 : Int32))) (.int (0 : Int32)) := own_arv (own_stf (own_ncr hp gk4) (by omega) (own_tk gk4)) Vn31
      have sz31 := Wn31.size
      have K31 := K24.wr Wn31 (Or.inl (List.mem_of_getElem? (i := 0) rfl))
      have N31 := Fr.snoc X31 N25 (by omega)
      refine Wk.iloadN X31 hx (hD d37_77) (n := 78) rfl rfl ?_
      refine Wk.iconst X31 hx (hD d37_78) (n := 79) rfl (z := (5 : Int32)) rfl ?_
      by_cases hc79 : (5 : Int32) < (Int32.ofNat ct.length)
      ·
       refine Wk.icmpNo X31 hx (hD d37_79) (n := 82) rfl (tlt hc79).2.2.2 ?_
       have gk5 : 5 < ct.length := (own_lt (a := 5) (by decide) (by omega)).mp hc79
       refine Wk.aloadN X31 hx (hD d37_82) (n := 83) rfl rfl rfl ?_
       refine Wk.iloadN X31 hx (hD d37_83) (n := 84) rfl rfl ?_
       refine Wk.iconst X31 hx (hD d37_84) (n := 85) rfl (z := (5 : Int32)) rfl ?_
       refine Wk.iadd X31 hx (hD d37_85) (n := 86) rfl ?_
       refine Wk.aloadN X31 hx (hD d37_86) (n := 87) rfl rfl rfl ?_
       refine Wk.iconst X31 hx (hD d37_87) (n := 88) rfl (z := (5 : Int32)) rfl ?_
       have f33 := (f26.wr Wn31)
       have f34 := (f27.other Wn31 (Or.inl (nz (by omega))))
       have f35 := (f28.other Wn31 (Or.inl (nz (by omega))))
       have f36 := (f29.other Wn31 (nz (by omega)))
       have f37 := (f30.wr Wn31 (by omega))
       obtain ⟨cq32, kq32, qn32a, qn32b, qn32c⟩ := isOf hZ e31 f33
       have cl32_ := fun Ls (hLs : LsOk c Ls) => X31.virtualBack hx (y := mn38) (z := mn38) hown (mW hZ hw 239 rfl) (mW hZ hw 240 rfl) (notFace_of_selects (args := #[]) (mW hZ hw 242 rfl)) (mW hZ hw 242 rfl) (mW hZ hw 241 rfl) (by decide) (StrChars.Road.chN (W := 2) hZ (fun d hd => hw d (own_wc d hd)) (kI := 4) (oW hw 5 rfl) f33 f34 f35 f36 (StrChars.Road.codOf (cs := ct) (n := ct.length) rfl (fun c hc => (hp c hc).2)) (own_up hp) (Sta.ext f37.2 S4) hCS (Sta.ext f37.2 S5) hFM (by omega) (i := 5) gk5 (j := (5 : Int32)) rfl (by decide) (by decide)) qn32a qn32c (g := mkF m 88 Ls [(.int (5 : Int32)), (.ref x1), (.int (n1 + (5 : Int32))), (.ref eA)]) rfl hLs (Steps.refl _) (argsL := [(.int (5 : Int32))]) (rest := [(.int (n1 + (5 : Int32))), (.ref eA)]) (lenOf pd_26 rfl) rfl (leq0 rfl) (hD d37_88) (fun _ _ => ⟨rfl, e31, (by decide : 0 + 0 ≤ _), (by decide : 0 + 0 ≤ _)⟩)
       refine Wk.back (n := 91) (rc := 0) (rs := 0) (Q := fun v h' L => (v = some (.int ((ct : List Int32).getD 5 0)) ∧ L = [] ∧ h' = H31)) (cl32_ _ (lsok hml rfl)) fun vn32 T32 L32 X32 hQ32 => ?_
       clear cl32_
       obtain ⟨rfl, rfl, e32⟩ := hQ32
       have N32 := Fr.app N31 (Fr.nil n0)
       show Wk p e below _ T32 (mkF m 91 _ [(.int (ct.getD 5 0)), (.int (n1 + (5 : Int32))), (.ref eA)])
       have jl5 : (cp ++ ct.take 5).length = cp.length + 5 := by rw [List.length_append, List.length_take]; omega
       have jx5 : (n1 + (5 : Int32)) = Int32.ofNat (cp ++ ct.take 5).length := by rw [jl5, qn]; exact own_ofadd _ 5
       obtain ⟨cl38, Ar38, qn38, Sz38, N_38, H_38, Gn38⟩ := id Un31
       have hin38 : ¬ ((n1 + (5 : Int32)) < 0 ∨ cl38.slots.size ≤ ((n1 + (5 : Int32))).toNatClampNeg) := inb_of Sz38 (by rw [jx5]; exact ⟨own_nonneg (by omega), (own_lt (b := 32) (by omega) (by decide)).mpr (by omega)⟩)
       refine Wk.stC X32 hx hZ e32 Ar38 hin38 (hD d37_91) (n := 92) rfl fun T38 H38 X38 e38 Wn38 => ?_
       have Vn38 := Arv.set Ar38 qn38 Sz38 N_38 H_38 Gn38 (fits_nar_char _) Wn38 (cp ++ ct.take 5).length (by rw [jx5]; exact own_cl (by omega)) (by simp only [List.length_append, List.length_replicate, chV_len]; omega)
       have Un38 : Arv Z H38 eA ke .char (32 : Int32) (chV (cp ++ ct.take 6) ++ List.replicate (ct.length - 6) (Value.int (0 : Int32))) (.int (0 : Int32)) := own_arv (own_stf (own_ncr hp gk5) (by omega) (own_tk gk5)) Vn38
       have sz38 := Wn38.size
       have K38 := K31.wr Wn38 (Or.inl (List.mem_of_getElem? (i := 0) rfl))
       have N38 := Fr.snoc X38 N32 (by omega)
       refine Wk.iloadN X38 hx (hD d37_92) (n := 93) rfl rfl ?_
       refine Wk.bipush X38 hx (hD d37_93) (n := 95) rfl (z := (6 : Int32)) rfl ?_
       by_cases hc95 : (6 : Int32) < (Int32.ofNat ct.length)
       ·
        refine Wk.icmpNo X38 hx (hD d37_95) (n := 98) rfl (tlt hc95).2.2.2 ?_
        have gk6 : 6 < ct.length := (own_lt (a := 6) (by decide) (by omega)).mp hc95
        refine Wk.aloadN X38 hx (hD d37_98) (n := 99) rfl rfl rfl ?_
        refine Wk.iloadN X38 hx (hD d37_99) (n := 100) rfl rfl ?_
        refine Wk.bipush X38 hx (hD d37_100) (n := 102) rfl (z := (6 : Int32)) rfl ?_
        refine Wk.iadd X38 hx (hD d37_102) (n := 103) rfl ?_
        refine Wk.aloadN X38 hx (hD d37_103) (n := 104) rfl rfl rfl ?_
        refine Wk.bipush X38 hx (hD d37_104) (n := 106) rfl (z := (6 : Int32)) rfl ?_
        have f40 := (f33.wr Wn38)
        have f41 := (f34.other Wn38 (Or.inl (nz (by omega))))
        have f42 := (f35.other Wn38 (Or.inl (nz (by omega))))
        have f43 := (f36.other Wn38 (nz (by omega)))
        have f44 := (f37.wr Wn38 (by omega))
        obtain ⟨cq39, kq39, qn39a, qn39b, qn39c⟩ := isOf hZ e38 f40
        have cl39_ := fun Ls (hLs : LsOk c Ls) => X38.virtualBack hx (y := mn38) (z := mn38) hown (mW hZ hw 239 rfl) (mW hZ hw 240 rfl) (notFace_of_selects (args := #[]) (mW hZ hw 242 rfl)) (mW hZ hw 242 rfl) (mW hZ hw 241 rfl) (by decide) (StrChars.Road.chN (W := 2) hZ (fun d hd => hw d (own_wc d hd)) (kI := 4) (oW hw 5 rfl) f40 f41 f42 f43 (StrChars.Road.codOf (cs := ct) (n := ct.length) rfl (fun c hc => (hp c hc).2)) (own_up hp) (Sta.ext f44.2 S4) hCS (Sta.ext f44.2 S5) hFM (by omega) (i := 6) gk6 (j := (6 : Int32)) rfl (by decide) (by decide)) qn39a qn39c (g := mkF m 106 Ls [(.int (6 : Int32)), (.ref x1), (.int (n1 + (6 : Int32))), (.ref eA)]) rfl hLs (Steps.refl _) (argsL := [(.int (6 : Int32))]) (rest := [(.int (n1 + (6 : Int32))), (.ref eA)]) (lenOf pd_26 rfl) rfl (leq0 rfl) (hD d37_106) (fun _ _ => ⟨rfl, e38, (by decide : 0 + 0 ≤ _), (by decide : 0 + 0 ≤ _)⟩)
        refine Wk.back (n := 109) (rc := 0) (rs := 0) (Q := fun v h' L => (v = some (.int ((ct : List Int32).getD 6 0)) ∧ L = [] ∧ h' = H38)) (cl39_ _ (lsok hml rfl)) fun vn39 T39 L39 X39 hQ39 => ?_
        clear cl39_
        obtain ⟨rfl, rfl, e39⟩ := hQ39
        have N39 := Fr.app N38 (Fr.nil n0)
        show Wk p e below _ T39 (mkF m 109 _ [(.int (ct.getD 6 0)), (.int (n1 + (6 : Int32))), (.ref eA)])
        have jl6 : (cp ++ ct.take 6).length = cp.length + 6 := by rw [List.length_append, List.length_take]; omega
        have jx6 : (n1 + (6 : Int32)) = Int32.ofNat (cp ++ ct.take 6).length := by rw [jl6, qn]; exact own_ofadd _ 6
        obtain ⟨cl45, Ar45, qn45, Sz45, N_45, H_45, Gn45⟩ := id Un38
        have hin45 : ¬ ((n1 + (6 : Int32)) < 0 ∨ cl45.slots.size ≤ ((n1 + (6 : Int32))).toNatClampNeg) := inb_of Sz45 (by rw [jx6]; exact ⟨own_nonneg (by omega), (own_lt (b := 32) (by omega) (by decide)).mpr (by omega)⟩)
        refine Wk.stC X39 hx hZ e39 Ar45 hin45 (hD d37_109) (n := 110) rfl fun T45 H45 X45 e45 Wn45 => ?_
        have Vn45 := Arv.set Ar45 qn45 Sz45 N_45 H_45 Gn45 (fits_nar_char _) Wn45 (cp ++ ct.take 6).length (by rw [jx6]; exact own_cl (by omega)) (by simp only [List.length_append, List.length_replicate, chV_len]; omega)
        have Un45 : Arv Z H45 eA ke .char (32 : Int32) (chV (cp ++ ct.take 7) ++ List.replicate (ct.length - 7) (Value.int (0 : Int32))) (.int (0 : Int32)) := own_arv (own_stf (own_ncr hp gk6) (by omega) (own_tk gk6)) Vn45
        have sz45 := Wn45.size
        have K45 := K38.wr Wn45 (Or.inl (List.mem_of_getElem? (i := 0) rfl))
        have N45 := Fr.snoc X45 N39 (by omega)
        refine Wk.iloadN X45 hx (hD d37_110) (n := 111) rfl rfl ?_
        refine Wk.bipush X45 hx (hD d37_111) (n := 113) rfl (z := (7 : Int32)) rfl ?_
        by_cases hc113 : (7 : Int32) < (Int32.ofNat ct.length)
        ·
         refine Wk.icmpNo X45 hx (hD d37_113) (n := 116) rfl (tlt hc113).2.2.2 ?_
         have gk7 : 7 < ct.length := (own_lt (a := 7) (by decide) (by omega)).mp hc113
         refine Wk.aloadN X45 hx (hD d37_116) (n := 117) rfl rfl rfl ?_
         refine Wk.iloadN X45 hx (hD d37_117) (n := 118) rfl rfl ?_
         refine Wk.bipush X45 hx (hD d37_118) (n := 120) rfl (z := (7 : Int32)) rfl ?_
         refine Wk.iadd X45 hx (hD d37_120) (n := 121) rfl ?_
         refine Wk.aloadN X45 hx (hD d37_121) (n := 122) rfl rfl rfl ?_
         refine Wk.bipush X45 hx (hD d37_122) (n := 124) rfl (z := (7 : Int32)) rfl ?_
         have f47 := (f40.wr Wn45)
         have f48 := (f41.other Wn45 (Or.inl (nz (by omega))))
         have f49 := (f42.other Wn45 (Or.inl (nz (by omega))))
         have f50 := (f43.other Wn45 (nz (by omega)))
         have f51 := (f44.wr Wn45 (by omega))
         obtain ⟨cq46, kq46, qn46a, qn46b, qn46c⟩ := isOf hZ e45 f47
         have cl46_ := fun Ls (hLs : LsOk c Ls) => X45.virtualBack hx (y := mn38) (z := mn38) hown (mW hZ hw 239 rfl) (mW hZ hw 240 rfl) (notFace_of_selects (args := #[]) (mW hZ hw 242 rfl)) (mW hZ hw 242 rfl) (mW hZ hw 241 rfl) (by decide) (StrChars.Road.chN (W := 2) hZ (fun d hd => hw d (own_wc d hd)) (kI := 4) (oW hw 5 rfl) f47 f48 f49 f50 (StrChars.Road.codOf (cs := ct) (n := ct.length) rfl (fun c hc => (hp c hc).2)) (own_up hp) (Sta.ext f51.2 S4) hCS (Sta.ext f51.2 S5) hFM (by omega) (i := 7) gk7 (j := (7 : Int32)) rfl (by decide) (by decide)) qn46a qn46c (g := mkF m 124 Ls [(.int (7 : Int32)), (.ref x1), (.int (n1 + (7 : Int32))), (.ref eA)]) rfl hLs (Steps.refl _) (argsL := [(.int (7 : Int32))]) (rest := [(.int (n1 + (7 : Int32))), (.ref eA)]) (lenOf pd_26 rfl) rfl (leq0 rfl) (hD d37_124) (fun _ _ => ⟨rfl, e45, (by decide : 0 + 0 ≤ _), (by decide : 0 + 0 ≤ _)⟩)
         refine Wk.back (n := 127) (rc := 0) (rs := 0) (Q := fun v h' L => (v = some (.int ((ct : List Int32).getD 7 0)) ∧ L = [] ∧ h' = H45)) (cl46_ _ (lsok hml rfl)) fun vn46 T46 L46 X46 hQ46 => ?_
         clear cl46_
         obtain ⟨rfl, rfl, e46⟩ := hQ46
         have N46 := Fr.app N45 (Fr.nil n0)
         show Wk p e below _ T46 (mkF m 127 _ [(.int (ct.getD 7 0)), (.int (n1 + (7 : Int32))), (.ref eA)])
         have jl7 : (cp ++ ct.take 7).length = cp.length + 7 := by rw [List.length_append, List.length_take]; omega
         have jx7 : (n1 + (7 : Int32)) = Int32.ofNat (cp ++ ct.take 7).length := by rw [jl7, qn]; exact own_ofadd _ 7
         obtain ⟨cl52, Ar52, qn52, Sz52, N_52, H_52, Gn52⟩ := id Un45
         have hin52 : ¬ ((n1 + (7 : Int32)) < 0 ∨ cl52.slots.size ≤ ((n1 + (7 : Int32))).toNatClampNeg) := inb_of Sz52 (by rw [jx7]; exact ⟨own_nonneg (by omega), (own_lt (b := 32) (by omega) (by decide)).mpr (by omega)⟩)
         refine Wk.stC X46 hx hZ e46 Ar52 hin52 (hD d37_127) (n := 128) rfl fun T52 H52 X52 e52 Wn52 => ?_
         have Vn52 := Arv.set Ar52 qn52 Sz52 N_52 H_52 Gn52 (fits_nar_char _) Wn52 (cp ++ ct.take 7).length (by rw [jx7]; exact own_cl (by omega)) (by simp only [List.length_append, List.length_replicate, chV_len]; omega)
         have Un52 : Arv Z H52 eA ke .char (32 : Int32) (chV (cp ++ ct.take 8) ++ List.replicate (ct.length - 8) (Value.int (0 : Int32))) (.int (0 : Int32)) := own_arv (own_stf (own_ncr hp gk7) (by omega) (own_tk gk7)) Vn52
         have sz52 := Wn52.size
         have K52 := K45.wr Wn52 (Or.inl (List.mem_of_getElem? (i := 0) rfl))
         have N52 := Fr.snoc X52 N46 (by omega)
         refine Wk.iloadN X52 hx (hD d37_128) (n := 129) rfl rfl ?_
         refine Wk.bipush X52 hx (hD d37_129) (n := 131) rfl (z := (8 : Int32)) rfl ?_
         by_cases hc131 : (8 : Int32) < (Int32.ofNat ct.length)
         ·
          refine Wk.icmpNo X52 hx (hD d37_131) (n := 134) rfl (tlt hc131).2.2.2 ?_
          have gk8 : 8 < ct.length := (own_lt (a := 8) (by decide) (by omega)).mp hc131
          refine Wk.aloadN X52 hx (hD d37_134) (n := 135) rfl rfl rfl ?_
          refine Wk.iloadN X52 hx (hD d37_135) (n := 136) rfl rfl ?_
          refine Wk.bipush X52 hx (hD d37_136) (n := 138) rfl (z := (8 : Int32)) rfl ?_
          refine Wk.iadd X52 hx (hD d37_138) (n := 139) rfl ?_
          refine Wk.aloadN X52 hx (hD d37_139) (n := 140) rfl rfl rfl ?_
          refine Wk.bipush X52 hx (hD d37_140) (n := 142) rfl (z := (8 : Int32)) rfl ?_
          have f54 := (f47.wr Wn52)
          have f55 := (f48.other Wn52 (Or.inl (nz (by omega))))
          have f56 := (f49.other Wn52 (Or.inl (nz (by omega))))
          have f57 := (f50.other Wn52 (nz (by omega)))
          have f58 := (f51.wr Wn52 (by omega))
          obtain ⟨cq53, kq53, qn53a, qn53b, qn53c⟩ := isOf hZ e52 f54
          have cl53_ := fun Ls (hLs : LsOk c Ls) => X52.virtualBack hx (y := mn38) (z := mn38) hown (mW hZ hw 239 rfl) (mW hZ hw 240 rfl) (notFace_of_selects (args := #[]) (mW hZ hw 242 rfl)) (mW hZ hw 242 rfl) (mW hZ hw 241 rfl) (by decide) (StrChars.Road.chN (W := 2) hZ (fun d hd => hw d (own_wc d hd)) (kI := 4) (oW hw 5 rfl) f54 f55 f56 f57 (StrChars.Road.codOf (cs := ct) (n := ct.length) rfl (fun c hc => (hp c hc).2)) (own_up hp) (Sta.ext f58.2 S4) hCS (Sta.ext f58.2 S5) hFM (by omega) (i := 8) gk8 (j := (8 : Int32)) rfl (by decide) (by decide)) qn53a qn53c (g := mkF m 142 Ls [(.int (8 : Int32)), (.ref x1), (.int (n1 + (8 : Int32))), (.ref eA)]) rfl hLs (Steps.refl _) (argsL := [(.int (8 : Int32))]) (rest := [(.int (n1 + (8 : Int32))), (.ref eA)]) (lenOf pd_26 rfl) rfl (leq0 rfl) (hD d37_142) (fun _ _ => ⟨rfl, e52, (by decide : 0 + 0 ≤ _), (by decide : 0 + 0 ≤ _)⟩)
          refine Wk.back (n := 145) (rc := 0) (rs := 0) (Q := fun v h' L => (v = some (.int ((ct : List Int32).getD 8 0)) ∧ L = [] ∧ h' = H52)) (cl53_ _ (lsok hml rfl)) fun vn53 T53 L53 X53 hQ53 => ?_
          clear cl53_
          obtain ⟨rfl, rfl, e53⟩ := hQ53
          have N53 := Fr.app N52 (Fr.nil n0)
          show Wk p e below _ T53 (mkF m 145 _ [(.int (ct.getD 8 0)), (.int (n1 + (8 : Int32))), (.ref eA)])
          have jl8 : (cp ++ ct.take 8).length = cp.length + 8 := by rw [List.length_append, List.length_take]; omega
          have jx8 : (n1 + (8 : Int32)) = Int32.ofNat (cp ++ ct.take 8).length := by rw [jl8, qn]; exact own_ofadd _ 8
          obtain ⟨cl59, Ar59, qn59, Sz59, N_59, H_59, Gn59⟩ := id Un52
          have hin59 : ¬ ((n1 + (8 : Int32)) < 0 ∨ cl59.slots.size ≤ ((n1 + (8 : Int32))).toNatClampNeg) := inb_of Sz59 (by rw [jx8]; exact ⟨own_nonneg (by omega), (own_lt (b := 32) (by omega) (by decide)).mpr (by omega)⟩)
          refine Wk.stC X53 hx hZ e53 Ar59 hin59 (hD d37_145) (n := 146) rfl fun T59 H59 X59 e59 Wn59 => ?_
          have Vn59 := Arv.set Ar59 qn59 Sz59 N_59 H_59 Gn59 (fits_nar_char _) Wn59 (cp ++ ct.take 8).length (by rw [jx8]; exact own_cl (by omega)) (by simp only [List.length_append, List.length_replicate, chV_len]; omega)
          have Un59 : Arv Z H59 eA ke .char (32 : Int32) (chV (cp ++ ct.take 9) ++ List.replicate (ct.length - 9) (Value.int (0 : Int32))) (.int (0 : Int32)) := own_arv (own_stf (own_ncr hp gk8) (by omega) (own_tk gk8)) Vn59
          have sz59 := Wn59.size
          have K59 := K52.wr Wn59 (Or.inl (List.mem_of_getElem? (i := 0) rfl))
          have N59 := Fr.snoc X59 N53 (by omega)
          refine Wk.iloadN X59 hx (hD d37_146) (n := 147) rfl rfl ?_
          refine Wk.bipush X59 hx (hD d37_147) (n := 149) rfl (z := (9 : Int32)) rfl ?_
          by_cases hc149 : (9 : Int32) < (Int32.ofNat ct.length)
          ·
           refine Wk.icmpNo X59 hx (hD d37_149) (n := 152) rfl (tlt hc149).2.2.2 ?_
           have gk9 : 9 < ct.length := (own_lt (a := 9) (by decide) (by omega)).mp hc149
           refine Wk.aloadN X59 hx (hD d37_152) (n := 153) rfl rfl rfl ?_
           refine Wk.iloadN X59 hx (hD d37_153) (n := 154) rfl rfl ?_
           refine Wk.bipush X59 hx (hD d37_154) (n := 156) rfl (z := (9 : Int32)) rfl ?_
           refine Wk.iadd X59 hx (hD d37_156) (n := 157) rfl ?_
           refine Wk.aloadN X59 hx (hD d37_157) (n := 158) rfl rfl rfl ?_
           refine Wk.bipush X59 hx (hD d37_158) (n := 160) rfl (z := (9 : Int32)) rfl ?_
           have f61 := (f54.wr Wn59)
           have f62 := (f55.other Wn59 (Or.inl (nz (by omega))))
           have f63 := (f56.other Wn59 (Or.inl (nz (by omega))))
           have f64 := (f57.other Wn59 (nz (by omega)))
           have f65 := (f58.wr Wn59 (by omega))
           obtain ⟨cq60, kq60, qn60a, qn60b, qn60c⟩ := isOf hZ e59 f61
           have cl60_ := fun Ls (hLs : LsOk c Ls) => X59.virtualBack hx (y := mn38) (z := mn38) hown (mW hZ hw 239 rfl) (mW hZ hw 240 rfl) (notFace_of_selects (args := #[]) (mW hZ hw 242 rfl)) (mW hZ hw 242 rfl) (mW hZ hw 241 rfl) (by decide) (StrChars.Road.chN (W := 2) hZ (fun d hd => hw d (own_wc d hd)) (kI := 4) (oW hw 5 rfl) f61 f62 f63 f64 (StrChars.Road.codOf (cs := ct) (n := ct.length) rfl (fun c hc => (hp c hc).2)) (own_up hp) (Sta.ext f65.2 S4) hCS (Sta.ext f65.2 S5) hFM (by omega) (i := 9) gk9 (j := (9 : Int32)) rfl (by decide) (by decide)) qn60a qn60c (g := mkF m 160 Ls [(.int (9 : Int32)), (.ref x1), (.int (n1 + (9 : Int32))), (.ref eA)]) rfl hLs (Steps.refl _) (argsL := [(.int (9 : Int32))]) (rest := [(.int (n1 + (9 : Int32))), (.ref eA)]) (lenOf pd_26 rfl) rfl (leq0 rfl) (hD d37_160) (fun _ _ => ⟨rfl, e59, (by decide : 0 + 0 ≤ _), (by decide : 0 + 0 ≤ _)⟩)
           refine Wk.back (n := 163) (rc := 0) (rs := 0) (Q := fun v h' L => (v = some (.int ((ct : List Int32).getD 9 0)) ∧ L = [] ∧ h' = H59)) (cl60_ _ (lsok hml rfl)) fun vn60 T60 L60 X60 hQ60 => ?_
           clear cl60_
           obtain ⟨rfl, rfl, e60⟩ := hQ60
           have N60 := Fr.app N59 (Fr.nil n0)
           show Wk p e below _ T60 (mkF m 163 _ [(.int (ct.getD 9 0)), (.int (n1 + (9 : Int32))), (.ref eA)])
           have jl9 : (cp ++ ct.take 9).length = cp.length + 9 := by rw [List.length_append, List.length_take]; omega
           have jx9 : (n1 + (9 : Int32)) = Int32.ofNat (cp ++ ct.take 9).length := by rw [jl9, qn]; exact own_ofadd _ 9
           obtain ⟨cl66, Ar66, qn66, Sz66, N_66, H_66, Gn66⟩ := id Un59
           have hin66 : ¬ ((n1 + (9 : Int32)) < 0 ∨ cl66.slots.size ≤ ((n1 + (9 : Int32))).toNatClampNeg) := inb_of Sz66 (by rw [jx9]; exact ⟨own_nonneg (by omega), (own_lt (b := 32) (by omega) (by decide)).mpr (by omega)⟩)
           refine Wk.stC X60 hx hZ e60 Ar66 hin66 (hD d37_163) (n := 164) rfl fun T66 H66 X66 e66 Wn66 => ?_
           have Vn66 := Arv.set Ar66 qn66 Sz66 N_66 H_66 Gn66 (fits_nar_char _) Wn66 (cp ++ ct.take 9).length (by rw [jx9]; exact own_cl (by omega)) (by simp only [List.length_append, List.length_replicate, chV_len]; omega)
           have Un66 : Arv Z H66 eA ke .char (32 : Int32) (chV (cp ++ ct.take 10) ++ List.replicate (ct.length - 10) (Value.int (0 : Int32))) (.int (0 : Int32)) := own_arv (own_stf (own_ncr hp gk9) (by omega) (own_tk gk9)) Vn66
           have sz66 := Wn66.size
           have K66 := K59.wr Wn66 (Or.inl (List.mem_of_getElem? (i := 0) rfl))
           have N66 := Fr.snoc X66 N60 (by omega)
           refine Wk.iloadN X66 hx (hD d37_164) (n := 165) rfl rfl ?_
           refine Wk.iloadN X66 hx (hD d37_165) (n := 166) rfl rfl ?_
           refine Wk.iadd X66 hx (hD d37_166) (n := 167) rfl ?_
           have gl : ct.length = 10 := by omega
           exact Wk.leave X66 (v := some (.int (n1 + (Int32.ofNat ct.length)))) (fun h => by rw [Bd.returns] at h; cases h) hlk e66 ⟨(congrArg (fun z => some (Value.int z)) (by rw [qn, List.length_append]; exact own_ofadd _ _)), N66, K66, (own_arv (own_pf (m := 10) (by omega)) Un66)⟩ (by decide) (by decide) (fun fs hr => retI X66 hx Bd.returns (hD d37_167) hr)
          ·
           refine Wk.icmpYes X59 hx (hD d37_149) (flt hc149).2.2.2 (by decide) (n := 164) (by decide) ?_
           have gl : ct.length = 9 := by have q : ¬ 9 < ct.length := fun q => hc149 ((own_lt (a := 9) (by decide) (by omega)).mpr q); omega
           refine Wk.iloadN X59 hx (hD d37_164) (n := 165) rfl rfl ?_
           refine Wk.iloadN X59 hx (hD d37_165) (n := 166) rfl rfl ?_
           refine Wk.iadd X59 hx (hD d37_166) (n := 167) rfl ?_
           exact Wk.leave X59 (v := some (.int (n1 + (Int32.ofNat ct.length)))) (fun h => by rw [Bd.returns] at h; cases h) hlk e59 ⟨(congrArg (fun z => some (Value.int z)) (by rw [qn, List.length_append]; exact own_ofadd _ _)), N59, K59, (own_arv (own_pf (m := 9) (by omega)) Un59)⟩ (by decide) (by decide) (fun fs hr => retI X59 hx Bd.returns (hD d37_167) hr)
         ·
          refine Wk.icmpYes X52 hx (hD d37_131) (flt hc131).2.2.2 (by decide) (n := 146) (by decide) ?_
          have gl : ct.length = 8 := by have q : ¬ 8 < ct.length := fun q => hc131 ((own_lt (a := 8) (by decide) (by omega)).mpr q); omega
          refine Wk.iloadN X52 hx (hD d37_146) (n := 147) rfl rfl ?_
          refine Wk.bipush X52 hx (hD d37_147) (n := 149) rfl (z := (9 : Int32)) rfl ?_
          have hc149_67 : ¬ ((9 : Int32) < (Int32.ofNat ct.length)) := own_nl (a := 9) (by omega)
          refine Wk.icmpYes X52 hx (hD d37_149) (flt hc149_67).2.2.2 (by decide) (n := 164) (by decide) ?_
          refine Wk.iloadN X52 hx (hD d37_164) (n := 165) rfl rfl ?_
          refine Wk.iloadN X52 hx (hD d37_165) (n := 166) rfl rfl ?_
          refine Wk.iadd X52 hx (hD d37_166) (n := 167) rfl ?_
          exact Wk.leave X52 (v := some (.int (n1 + (Int32.ofNat ct.length)))) (fun h => by rw [Bd.returns] at h; cases h) hlk e52 ⟨(congrArg (fun z => some (Value.int z)) (by rw [qn, List.length_append]; exact own_ofadd _ _)), N52, K52, (own_arv (own_pf (m := 8) (by omega)) Un52)⟩ (by decide) (by decide) (fun fs hr => retI X52 hx Bd.returns (hD d37_167) hr)
        ·
         refine Wk.icmpYes X45 hx (hD d37_113) (flt hc113).2.2.2 (by decide) (n := 128) (by decide) ?_
         have gl : ct.length = 7 := by have q : ¬ 7 < ct.length := fun q => hc113 ((own_lt (a := 7) (by decide) (by omega)).mpr q); omega
         refine Wk.iloadN X45 hx (hD d37_128) (n := 129) rfl rfl ?_
         refine Wk.bipush X45 hx (hD d37_129) (n := 131) rfl (z := (8 : Int32)) rfl ?_
         have hc131_68 : ¬ ((8 : Int32) < (Int32.ofNat ct.length)) := own_nl (a := 8) (by omega)
         refine Wk.icmpYes X45 hx (hD d37_131) (flt hc131_68).2.2.2 (by decide) (n := 146) (by decide) ?_
         refine Wk.iloadN X45 hx (hD d37_146) (n := 147) rfl rfl ?_
         refine Wk.bipush X45 hx (hD d37_147) (n := 149) rfl (z := (9 : Int32)) rfl ?_
         have hc149_69 : ¬ ((9 : Int32) < (Int32.ofNat ct.length)) := own_nl (a := 9) (by omega)
         refine Wk.icmpYes X45 hx (hD d37_149) (flt hc149_69).2.2.2 (by decide) (n := 164) (by decide) ?_
         refine Wk.iloadN X45 hx (hD d37_164) (n := 165) rfl rfl ?_
         refine Wk.iloadN X45 hx (hD d37_165) (n := 166) rfl rfl ?_
         refine Wk.iadd X45 hx (hD d37_166) (n := 167) rfl ?_
         exact Wk.leave X45 (v := some (.int (n1 + (Int32.ofNat ct.length)))) (fun h => by rw [Bd.returns] at h; cases h) hlk e45 ⟨(congrArg (fun z => some (Value.int z)) (by rw [qn, List.length_append]; exact own_ofadd _ _)), N45, K45, (own_arv (own_pf (m := 7) (by omega)) Un45)⟩ (by decide) (by decide) (fun fs hr => retI X45 hx Bd.returns (hD d37_167) hr)
       ·
        refine Wk.icmpYes X38 hx (hD d37_95) (flt hc95).2.2.2 (by decide) (n := 110) (by decide) ?_
        have gl : ct.length = 6 := by have q : ¬ 6 < ct.length := fun q => hc95 ((own_lt (a := 6) (by decide) (by omega)).mpr q); omega
        refine Wk.iloadN X38 hx (hD d37_110) (n := 111) rfl rfl ?_
        refine Wk.bipush X38 hx (hD d37_111) (n := 113) rfl (z := (7 : Int32)) rfl ?_
        have hc113_70 : ¬ ((7 : Int32) < (Int32.ofNat ct.length)) := own_nl (a := 7) (by omega)
        refine Wk.icmpYes X38 hx (hD d37_113) (flt hc113_70).2.2.2 (by decide) (n := 128) (by decide) ?_
        refine Wk.iloadN X38 hx (hD d37_128) (n := 129) rfl rfl ?_
        refine Wk.bipush X38 hx (hD d37_129) (n := 131) rfl (z := (8 : Int32)) rfl ?_
        have hc131_71 : ¬ ((8 : Int32) < (Int32.ofNat ct.length)) := own_nl (a := 8) (by omega)
        refine Wk.icmpYes X38 hx (hD d37_131) (flt hc131_71).2.2.2 (by decide) (n := 146) (by decide) ?_
        refine Wk.iloadN X38 hx (hD d37_146) (n := 147) rfl rfl ?_
        refine Wk.bipush X38 hx (hD d37_147) (n := 149) rfl (z := (9 : Int32)) rfl ?_
        have hc149_72 : ¬ ((9 : Int32) < (Int32.ofNat ct.length)) := own_nl (a := 9) (by omega)
        refine Wk.icmpYes X38 hx (hD d37_149) (flt hc149_72).2.2.2 (by decide) (n := 164) (by decide) ?_
        refine Wk.iloadN X38 hx (hD d37_164) (n := 165) rfl rfl ?_
        refine Wk.iloadN X38 hx (hD d37_165) (n := 166) rfl rfl ?_
        refine Wk.iadd X38 hx (hD d37_166) (n := 167) rfl ?_
        exact Wk.leave X38 (v := some (.int (n1 + (Int32.ofNat ct.length)))) (fun h => by rw [Bd.returns] at h; cases h) hlk e38 ⟨(congrArg (fun z => some (Value.int z)) (by rw [qn, List.length_append]; exact own_ofadd _ _)), N38, K38, (own_arv (own_pf (m := 6) (by omega)) Un38)⟩ (by decide) (by decide) (fun fs hr => retI X38 hx Bd.returns (hD d37_167) hr)
      ·
       refine Wk.icmpYes X31 hx (hD d37_79) (flt hc79).2.2.2 (by decide) (n := 92) (by decide) ?_
       have gl : ct.length = 5 := by have q : ¬ 5 < ct.length := fun q => hc79 ((own_lt (a := 5) (by decide) (by omega)).mpr q); omega
       refine Wk.iloadN X31 hx (hD d37_92) (n := 93) rfl rfl ?_
       refine Wk.bipush X31 hx (hD d37_93) (n := 95) rfl (z := (6 : Int32)) rfl ?_
       have hc95_73 : ¬ ((6 : Int32) < (Int32.ofNat ct.length)) := own_nl (a := 6) (by omega)
       refine Wk.icmpYes X31 hx (hD d37_95) (flt hc95_73).2.2.2 (by decide) (n := 110) (by decide) ?_
       refine Wk.iloadN X31 hx (hD d37_110) (n := 111) rfl rfl ?_
       refine Wk.bipush X31 hx (hD d37_111) (n := 113) rfl (z := (7 : Int32)) rfl ?_
       have hc113_74 : ¬ ((7 : Int32) < (Int32.ofNat ct.length)) := own_nl (a := 7) (by omega)
       refine Wk.icmpYes X31 hx (hD d37_113) (flt hc113_74).2.2.2 (by decide) (n := 128) (by decide) ?_
       refine Wk.iloadN X31 hx (hD d37_128) (n := 129) rfl rfl ?_
       refine Wk.bipush X31 hx (hD d37_129) (n := 131) rfl (z := (8 : Int32)) rfl ?_
       have hc131_75 : ¬ ((8 : Int32) < (Int32.ofNat ct.length)) := own_nl (a := 8) (by omega)
       refine Wk.icmpYes X31 hx (hD d37_131) (flt hc131_75).2.2.2 (by decide) (n := 146) (by decide) ?_
       refine Wk.iloadN X31 hx (hD d37_146) (n := 147) rfl rfl ?_
       refine Wk.bipush X31 hx (hD d37_147) (n := 149) rfl (z := (9 : Int32)) rfl ?_
       have hc149_76 : ¬ ((9 : Int32) < (Int32.ofNat ct.length)) := own_nl (a := 9) (by omega)
       refine Wk.icmpYes X31 hx (hD d37_149) (flt hc149_76).2.2.2 (by decide) (n := 164) (by decide) ?_
       refine Wk.iloadN X31 hx (hD d37_164) (n := 165) rfl rfl ?_
       refine Wk.iloadN X31 hx (hD d37_165) (n := 166) rfl rfl ?_
       refine Wk.iadd X31 hx (hD d37_166) (n := 167) rfl ?_
       exact Wk.leave X31 (v := some (.int (n1 + (Int32.ofNat ct.length)))) (fun h => by rw [Bd.returns] at h; cases h) hlk e31 ⟨(congrArg (fun z => some (Value.int z)) (by rw [qn, List.length_append]; exact own_ofadd _ _)), N31, K31, (own_arv (own_pf (m := 5) (by omega)) Un31)⟩ (by decide) (by decide) (fun fs hr => retI X31 hx Bd.returns (hD d37_167) hr)
     ·
      refine Wk.icmpYes X24 hx (hD d37_64) (flt hc64).2.2.2 (by decide) (n := 77) (by decide) ?_
      have gl : ct.length = 4 := by have q : ¬ 4 < ct.length := fun q => hc64 ((own_lt (a := 4) (by decide) (by omega)).mpr q); omega
      refine Wk.iloadN X24 hx (hD d37_77) (n := 78) rfl rfl ?_
      refine Wk.iconst X24 hx (hD d37_78) (n := 79) rfl (z := (5 : Int32)) rfl ?_
      have hc79_77 : ¬ ((5 : Int32) < (Int32.ofNat ct.length)) := own_nl (a := 5) (by omega)
      refine Wk.icmpYes X24 hx (hD d37_79) (flt hc79_77).2.2.2 (by decide) (n := 92) (by decide) ?_
      refine Wk.iloadN X24 hx (hD d37_92) (n := 93) rfl rfl ?_
      refine Wk.bipush X24 hx (hD d37_93) (n := 95) rfl (z := (6 : Int32)) rfl ?_
      have hc95_78 : ¬ ((6 : Int32) < (Int32.ofNat ct.length)) := own_nl (a := 6) (by omega)
      refine Wk.icmpYes X24 hx (hD d37_95) (flt hc95_78).2.2.2 (by decide) (n := 110) (by decide) ?_
      refine Wk.iloadN X24 hx (hD d37_110) (n := 111) rfl rfl ?_
      refine Wk.bipush X24 hx (hD d37_111) (n := 113) rfl (z := (7 : Int32)) rfl ?_
      have hc113_79 : ¬ ((7 : Int32) < (Int32.ofNat ct.length)) := own_nl (a := 7) (by omega)
      refine Wk.icmpYes X24 hx (hD d37_113) (flt hc113_79).2.2.2 (by decide) (n := 128) (by decide) ?_
      refine Wk.iloadN X24 hx (hD d37_128) (n := 129) rfl rfl ?_
      refine Wk.bipush X24 hx (hD d37_129) (n := 131) rfl (z := (8 : Int32)) rfl ?_
      have hc131_80 : ¬ ((8 : Int32) < (Int32.ofNat ct.length)) := own_nl (a := 8) (by omega)
      refine Wk.icmpYes X24 hx (hD d37_131) (flt hc131_80).2.2.2 (by decide) (n := 146) (by decide) ?_
      refine Wk.iloadN X24 hx (hD d37_146) (n := 147) rfl rfl ?_
      refine Wk.bipush X24 hx (hD d37_147) (n := 149) rfl (z := (9 : Int32)) rfl ?_
      have hc149_81 : ¬ ((9 : Int32) < (Int32.ofNat ct.length)) := own_nl (a := 9) (by omega)
      refine Wk.icmpYes X24 hx (hD d37_149) (flt hc149_81).2.2.2 (by decide) (n := 164) (by decide) ?_
      refine Wk.iloadN X24 hx (hD d37_164) (n := 165) rfl rfl ?_
      refine Wk.iloadN X24 hx (hD d37_165) (n := 166) rfl rfl ?_
      refine Wk.iadd X24 hx (hD d37_166) (n := 167) rfl ?_
      exact Wk.leave X24 (v := some (.int (n1 + (Int32.ofNat ct.length)))) (fun h => by rw [Bd.returns] at h; cases h) hlk e24 ⟨(congrArg (fun z => some (Value.int z)) (by rw [qn, List.length_append]; exact own_ofadd _ _)), N24, K24, (own_arv (own_pf (m := 4) (by omega)) Un24)⟩ (by decide) (by decide) (fun fs hr => retI X24 hx Bd.returns (hD d37_167) hr)
    ·
     refine Wk.icmpYes X17 hx (hD d37_49) (flt hc49).2.2.2 (by decide) (n := 62) (by decide) ?_
     have gl : ct.length = 3 := by have q : ¬ 3 < ct.length := fun q => hc49 ((own_lt (a := 3) (by decide) (by omega)).mpr q); omega
     refine Wk.iloadN X17 hx (hD d37_62) (n := 63) rfl rfl ?_
     refine Wk.iconst X17 hx (hD d37_63) (n := 64) rfl (z := (4 : Int32)) rfl ?_
     have hc64_82 : ¬ ((4 : Int32) < (Int32.ofNat ct.length)) := own_nl (a := 4) (by omega)
     refine Wk.icmpYes X17 hx (hD d37_64) (flt hc64_82).2.2.2 (by decide) (n := 77) (by decide) ?_
     refine Wk.iloadN X17 hx (hD d37_77) (n := 78) rfl rfl ?_
     refine Wk.iconst X17 hx (hD d37_78) (n := 79) rfl (z := (5 : Int32)) rfl ?_
     have hc79_83 : ¬ ((5 : Int32) < (Int32.ofNat ct.length)) := own_nl (a := 5) (by omega)
     refine Wk.icmpYes X17 hx (hD d37_79) (flt hc79_83).2.2.2 (by decide) (n := 92) (by decide) ?_
     refine Wk.iloadN X17 hx (hD d37_92) (n := 93) rfl rfl ?_
     refine Wk.bipush X17 hx (hD d37_93) (n := 95) rfl (z := (6 : Int32)) rfl ?_
     have hc95_84 : ¬ ((6 : Int32) < (Int32.ofNat ct.length)) := own_nl (a := 6) (by omega)
     refine Wk.icmpYes X17 hx (hD d37_95) (flt hc95_84).2.2.2 (by decide) (n := 110) (by decide) ?_
     refine Wk.iloadN X17 hx (hD d37_110) (n := 111) rfl rfl ?_
     refine Wk.bipush X17 hx (hD d37_111) (n := 113) rfl (z := (7 : Int32)) rfl ?_
     have hc113_85 : ¬ ((7 : Int32) < (Int32.ofNat ct.length)) := own_nl (a := 7) (by omega)
     refine Wk.icmpYes X17 hx (hD d37_113) (flt hc113_85).2.2.2 (by decide) (n := 128) (by decide) ?_
     refine Wk.iloadN X17 hx (hD d37_128) (n := 129) rfl rfl ?_
     refine Wk.bipush X17 hx (hD d37_129) (n := 131) rfl (z := (8 : Int32)) rfl ?_
     have hc131_86 : ¬ ((8 : Int32) < (Int32.ofNat ct.length)) := own_nl (a := 8) (by omega)
     refine Wk.icmpYes X17 hx (hD d37_131) (flt hc131_86).2.2.2 (by decide) (n := 146) (by decide) ?_
     refine Wk.iloadN X17 hx (hD d37_146) (n := 147) rfl rfl ?_
     refine Wk.bipush X17 hx (hD d37_147) (n := 149) rfl (z := (9 : Int32)) rfl ?_
     have hc149_87 : ¬ ((9 : Int32) < (Int32.ofNat ct.length)) := own_nl (a := 9) (by omega)
     refine Wk.icmpYes X17 hx (hD d37_149) (flt hc149_87).2.2.2 (by decide) (n := 164) (by decide) ?_
     refine Wk.iloadN X17 hx (hD d37_164) (n := 165) rfl rfl ?_
     refine Wk.iloadN X17 hx (hD d37_165) (n := 166) rfl rfl ?_
     refine Wk.iadd X17 hx (hD d37_166) (n := 167) rfl ?_
     exact Wk.leave X17 (v := some (.int (n1 + (Int32.ofNat ct.length)))) (fun h => by rw [Bd.returns] at h; cases h) hlk e17 ⟨(congrArg (fun z => some (Value.int z)) (by rw [qn, List.length_append]; exact own_ofadd _ _)), N17, K17, (own_arv (own_pf (m := 3) (by omega)) Un17)⟩ (by decide) (by decide) (fun fs hr => retI X17 hx Bd.returns (hD d37_167) hr)
   ·
    refine Wk.icmpYes X10 hx (hD d37_34) (flt hc34).2.2.2 (by decide) (n := 47) (by decide) ?_
    have gl : ct.length = 2 := by have q : ¬ 2 < ct.length := fun q => hc34 ((own_lt (a := 2) (by decide) (by omega)).mpr q); omega
    refine Wk.iloadN X10 hx (hD d37_47) (n := 48) rfl rfl ?_
    refine Wk.iconst X10 hx (hD d37_48) (n := 49) rfl (z := (3 : Int32)) rfl ?_
    have hc49_88 : ¬ ((3 : Int32) < (Int32.ofNat ct.length)) := own_nl (a := 3) (by omega)
    refine Wk.icmpYes X10 hx (hD d37_49) (flt hc49_88).2.2.2 (by decide) (n := 62) (by decide) ?_
    refine Wk.iloadN X10 hx (hD d37_62) (n := 63) rfl rfl ?_
    refine Wk.iconst X10 hx (hD d37_63) (n := 64) rfl (z := (4 : Int32)) rfl ?_
    have hc64_89 : ¬ ((4 : Int32) < (Int32.ofNat ct.length)) := own_nl (a := 4) (by omega)
    refine Wk.icmpYes X10 hx (hD d37_64) (flt hc64_89).2.2.2 (by decide) (n := 77) (by decide) ?_
    refine Wk.iloadN X10 hx (hD d37_77) (n := 78) rfl rfl ?_
    refine Wk.iconst X10 hx (hD d37_78) (n := 79) rfl (z := (5 : Int32)) rfl ?_
    have hc79_90 : ¬ ((5 : Int32) < (Int32.ofNat ct.length)) := own_nl (a := 5) (by omega)
    refine Wk.icmpYes X10 hx (hD d37_79) (flt hc79_90).2.2.2 (by decide) (n := 92) (by decide) ?_
    refine Wk.iloadN X10 hx (hD d37_92) (n := 93) rfl rfl ?_
    refine Wk.bipush X10 hx (hD d37_93) (n := 95) rfl (z := (6 : Int32)) rfl ?_
    have hc95_91 : ¬ ((6 : Int32) < (Int32.ofNat ct.length)) := own_nl (a := 6) (by omega)
    refine Wk.icmpYes X10 hx (hD d37_95) (flt hc95_91).2.2.2 (by decide) (n := 110) (by decide) ?_
    refine Wk.iloadN X10 hx (hD d37_110) (n := 111) rfl rfl ?_
    refine Wk.bipush X10 hx (hD d37_111) (n := 113) rfl (z := (7 : Int32)) rfl ?_
    have hc113_92 : ¬ ((7 : Int32) < (Int32.ofNat ct.length)) := own_nl (a := 7) (by omega)
    refine Wk.icmpYes X10 hx (hD d37_113) (flt hc113_92).2.2.2 (by decide) (n := 128) (by decide) ?_
    refine Wk.iloadN X10 hx (hD d37_128) (n := 129) rfl rfl ?_
    refine Wk.bipush X10 hx (hD d37_129) (n := 131) rfl (z := (8 : Int32)) rfl ?_
    have hc131_93 : ¬ ((8 : Int32) < (Int32.ofNat ct.length)) := own_nl (a := 8) (by omega)
    refine Wk.icmpYes X10 hx (hD d37_131) (flt hc131_93).2.2.2 (by decide) (n := 146) (by decide) ?_
    refine Wk.iloadN X10 hx (hD d37_146) (n := 147) rfl rfl ?_
    refine Wk.bipush X10 hx (hD d37_147) (n := 149) rfl (z := (9 : Int32)) rfl ?_
    have hc149_94 : ¬ ((9 : Int32) < (Int32.ofNat ct.length)) := own_nl (a := 9) (by omega)
    refine Wk.icmpYes X10 hx (hD d37_149) (flt hc149_94).2.2.2 (by decide) (n := 164) (by decide) ?_
    refine Wk.iloadN X10 hx (hD d37_164) (n := 165) rfl rfl ?_
    refine Wk.iloadN X10 hx (hD d37_165) (n := 166) rfl rfl ?_
    refine Wk.iadd X10 hx (hD d37_166) (n := 167) rfl ?_
    exact Wk.leave X10 (v := some (.int (n1 + (Int32.ofNat ct.length)))) (fun h => by rw [Bd.returns] at h; cases h) hlk e10 ⟨(congrArg (fun z => some (Value.int z)) (by rw [qn, List.length_append]; exact own_ofadd _ _)), N10, K10, (own_arv (own_pf (m := 2) (by omega)) Un10)⟩ (by decide) (by decide) (fun fs hr => retI X10 hx Bd.returns (hD d37_167) hr)
  ·
   refine Wk.icmpYes X3 hx (hD d37_19) (flt hc19).2.2.2 (by decide) (n := 32) (by decide) ?_
   have gl : ct.length = 1 := by have q : ¬ 1 < ct.length := fun q => hc19 ((own_lt (a := 1) (by decide) (by omega)).mpr q); omega
   refine Wk.iloadN X3 hx (hD d37_32) (n := 33) rfl rfl ?_
   refine Wk.iconst X3 hx (hD d37_33) (n := 34) rfl (z := (2 : Int32)) rfl ?_
   have hc34_95 : ¬ ((2 : Int32) < (Int32.ofNat ct.length)) := own_nl (a := 2) (by omega)
   refine Wk.icmpYes X3 hx (hD d37_34) (flt hc34_95).2.2.2 (by decide) (n := 47) (by decide) ?_
   refine Wk.iloadN X3 hx (hD d37_47) (n := 48) rfl rfl ?_
   refine Wk.iconst X3 hx (hD d37_48) (n := 49) rfl (z := (3 : Int32)) rfl ?_
   have hc49_96 : ¬ ((3 : Int32) < (Int32.ofNat ct.length)) := own_nl (a := 3) (by omega)
   refine Wk.icmpYes X3 hx (hD d37_49) (flt hc49_96).2.2.2 (by decide) (n := 62) (by decide) ?_
   refine Wk.iloadN X3 hx (hD d37_62) (n := 63) rfl rfl ?_
   refine Wk.iconst X3 hx (hD d37_63) (n := 64) rfl (z := (4 : Int32)) rfl ?_
   have hc64_97 : ¬ ((4 : Int32) < (Int32.ofNat ct.length)) := own_nl (a := 4) (by omega)
   refine Wk.icmpYes X3 hx (hD d37_64) (flt hc64_97).2.2.2 (by decide) (n := 77) (by decide) ?_
   refine Wk.iloadN X3 hx (hD d37_77) (n := 78) rfl rfl ?_
   refine Wk.iconst X3 hx (hD d37_78) (n := 79) rfl (z := (5 : Int32)) rfl ?_
   have hc79_98 : ¬ ((5 : Int32) < (Int32.ofNat ct.length)) := own_nl (a := 5) (by omega)
   refine Wk.icmpYes X3 hx (hD d37_79) (flt hc79_98).2.2.2 (by decide) (n := 92) (by decide) ?_
   refine Wk.iloadN X3 hx (hD d37_92) (n := 93) rfl rfl ?_
   refine Wk.bipush X3 hx (hD d37_93) (n := 95) rfl (z := (6 : Int32)) rfl ?_
   have hc95_99 : ¬ ((6 : Int32) < (Int32.ofNat ct.length)) := own_nl (a := 6) (by omega)
   refine Wk.icmpYes X3 hx (hD d37_95) (flt hc95_99).2.2.2 (by decide) (n := 110) (by decide) ?_
   refine Wk.iloadN X3 hx (hD d37_110) (n := 111) rfl rfl ?_
   refine Wk.bipush X3 hx (hD d37_111) (n := 113) rfl (z := (7 : Int32)) rfl ?_
   have hc113_100 : ¬ ((7 : Int32) < (Int32.ofNat ct.length)) := own_nl (a := 7) (by omega)
   refine Wk.icmpYes X3 hx (hD d37_113) (flt hc113_100).2.2.2 (by decide) (n := 128) (by decide) ?_
   refine Wk.iloadN X3 hx (hD d37_128) (n := 129) rfl rfl ?_
   refine Wk.bipush X3 hx (hD d37_129) (n := 131) rfl (z := (8 : Int32)) rfl ?_
   have hc131_101 : ¬ ((8 : Int32) < (Int32.ofNat ct.length)) := own_nl (a := 8) (by omega)
   refine Wk.icmpYes X3 hx (hD d37_131) (flt hc131_101).2.2.2 (by decide) (n := 146) (by decide) ?_
   refine Wk.iloadN X3 hx (hD d37_146) (n := 147) rfl rfl ?_
   refine Wk.bipush X3 hx (hD d37_147) (n := 149) rfl (z := (9 : Int32)) rfl ?_
   have hc149_102 : ¬ ((9 : Int32) < (Int32.ofNat ct.length)) := own_nl (a := 9) (by omega)
   refine Wk.icmpYes X3 hx (hD d37_149) (flt hc149_102).2.2.2 (by decide) (n := 164) (by decide) ?_
   refine Wk.iloadN X3 hx (hD d37_164) (n := 165) rfl rfl ?_
   refine Wk.iloadN X3 hx (hD d37_165) (n := 166) rfl rfl ?_
   refine Wk.iadd X3 hx (hD d37_166) (n := 167) rfl ?_
   exact Wk.leave X3 (v := some (.int (n1 + (Int32.ofNat ct.length)))) (fun h => by rw [Bd.returns] at h; cases h) hlk e3 ⟨(congrArg (fun z => some (Value.int z)) (by rw [qn, List.length_append]; exact own_ofadd _ _)), N3, K3, (own_arv (own_pf (m := 1) (by omega)) Un3)⟩ (by decide) (by decide) (fun fs hr => retI X3 hx Bd.returns (hD d37_167) hr)
 ·
  refine Wk.ifYes X1 hx (hD d37_6) ((if0 _ _).trans (flt hc6).2.2.2) (by decide) (n := 17) (by decide) ?_
  have gl : ct.length = 0 := by have q : ¬ 0 < ct.length := fun q => hc6 ((own_lt (a := 0) (by decide) (by omega)).mpr q); omega
  refine Wk.iloadN X1 hx (hD d37_17) (n := 18) rfl rfl ?_
  refine Wk.iconst X1 hx (hD d37_18) (n := 19) rfl (z := (1 : Int32)) rfl ?_
  have hc19_103 : ¬ ((1 : Int32) < (Int32.ofNat ct.length)) := own_nl (a := 1) (by omega)
  refine Wk.icmpYes X1 hx (hD d37_19) (flt hc19_103).2.2.2 (by decide) (n := 32) (by decide) ?_
  refine Wk.iloadN X1 hx (hD d37_32) (n := 33) rfl rfl ?_
  refine Wk.iconst X1 hx (hD d37_33) (n := 34) rfl (z := (2 : Int32)) rfl ?_
  have hc34_104 : ¬ ((2 : Int32) < (Int32.ofNat ct.length)) := own_nl (a := 2) (by omega)
  refine Wk.icmpYes X1 hx (hD d37_34) (flt hc34_104).2.2.2 (by decide) (n := 47) (by decide) ?_
  refine Wk.iloadN X1 hx (hD d37_47) (n := 48) rfl rfl ?_
  refine Wk.iconst X1 hx (hD d37_48) (n := 49) rfl (z := (3 : Int32)) rfl ?_
  have hc49_105 : ¬ ((3 : Int32) < (Int32.ofNat ct.length)) := own_nl (a := 3) (by omega)
  refine Wk.icmpYes X1 hx (hD d37_49) (flt hc49_105).2.2.2 (by decide) (n := 62) (by decide) ?_
  refine Wk.iloadN X1 hx (hD d37_62) (n := 63) rfl rfl ?_
  refine Wk.iconst X1 hx (hD d37_63) (n := 64) rfl (z := (4 : Int32)) rfl ?_
  have hc64_106 : ¬ ((4 : Int32) < (Int32.ofNat ct.length)) := own_nl (a := 4) (by omega)
  refine Wk.icmpYes X1 hx (hD d37_64) (flt hc64_106).2.2.2 (by decide) (n := 77) (by decide) ?_
  refine Wk.iloadN X1 hx (hD d37_77) (n := 78) rfl rfl ?_
  refine Wk.iconst X1 hx (hD d37_78) (n := 79) rfl (z := (5 : Int32)) rfl ?_
  have hc79_107 : ¬ ((5 : Int32) < (Int32.ofNat ct.length)) := own_nl (a := 5) (by omega)
  refine Wk.icmpYes X1 hx (hD d37_79) (flt hc79_107).2.2.2 (by decide) (n := 92) (by decide) ?_
  refine Wk.iloadN X1 hx (hD d37_92) (n := 93) rfl rfl ?_
  refine Wk.bipush X1 hx (hD d37_93) (n := 95) rfl (z := (6 : Int32)) rfl ?_
  have hc95_108 : ¬ ((6 : Int32) < (Int32.ofNat ct.length)) := own_nl (a := 6) (by omega)
  refine Wk.icmpYes X1 hx (hD d37_95) (flt hc95_108).2.2.2 (by decide) (n := 110) (by decide) ?_
  refine Wk.iloadN X1 hx (hD d37_110) (n := 111) rfl rfl ?_
  refine Wk.bipush X1 hx (hD d37_111) (n := 113) rfl (z := (7 : Int32)) rfl ?_
  have hc113_109 : ¬ ((7 : Int32) < (Int32.ofNat ct.length)) := own_nl (a := 7) (by omega)
  refine Wk.icmpYes X1 hx (hD d37_113) (flt hc113_109).2.2.2 (by decide) (n := 128) (by decide) ?_
  refine Wk.iloadN X1 hx (hD d37_128) (n := 129) rfl rfl ?_
  refine Wk.bipush X1 hx (hD d37_129) (n := 131) rfl (z := (8 : Int32)) rfl ?_
  have hc131_110 : ¬ ((8 : Int32) < (Int32.ofNat ct.length)) := own_nl (a := 8) (by omega)
  refine Wk.icmpYes X1 hx (hD d37_131) (flt hc131_110).2.2.2 (by decide) (n := 146) (by decide) ?_
  refine Wk.iloadN X1 hx (hD d37_146) (n := 147) rfl rfl ?_
  refine Wk.bipush X1 hx (hD d37_147) (n := 149) rfl (z := (9 : Int32)) rfl ?_
  have hc149_111 : ¬ ((9 : Int32) < (Int32.ofNat ct.length)) := own_nl (a := 9) (by omega)
  refine Wk.icmpYes X1 hx (hD d37_149) (flt hc149_111).2.2.2 (by decide) (n := 164) (by decide) ?_
  refine Wk.iloadN X1 hx (hD d37_164) (n := 165) rfl rfl ?_
  refine Wk.iloadN X1 hx (hD d37_165) (n := 166) rfl rfl ?_
  refine Wk.iadd X1 hx (hD d37_166) (n := 167) rfl ?_
  exact Wk.leave X1 (v := some (.int (n1 + (Int32.ofNat ct.length)))) (fun h => by rw [Bd.returns] at h; cases h) hlk e1 ⟨(congrArg (fun z => some (Value.int z)) (by rw [qn, List.length_append]; exact own_ofadd _ _)), N1, K0, (own_arv (own_pf (m := 0) (by omega)) Pd)⟩ (by decide) (by decide) (fun fs hr => retI X1 hx Bd.returns (hD d37_167) hr)
def Q_rmDG (Z : State) (j1 : Int64) (xz : Nat) (h0 : Heap) (n0 : Nat) (v : Option Value) (h : Heap) (L : List Loc) : Prop := v = some (.int (Int32.ofNat (48 + xz % 10))) ∧ Fr n0 L ∧ h = h0
theorem ef_rmDG (m : MethodId) (x0 : Int64) : entryFrame m #[(.long x0)] 2 = mkF m 0 #[.val (.long x0), .second] [] := by first | (simp [entryFrame, mkF, argsToLocals, Value.category]; done) | rfl
theorem d38_0 : decode B38_ 0 = .ok (.bipush 48, 2) := by decide +kernel
theorem d38_2 : decode B38_ 2 = .ok (.lload_n 0, 1) := by decide +kernel
theorem d38_3 : decode B38_ 3 = .ok (.ldc2_w 64, 3) := by decide +kernel
theorem d38_6 : decode B38_ 6 = .ok (.lrem, 1) := by decide +kernel
theorem d38_7 : decode B38_ 7 = .ok (.l2i, 1) := by decide +kernel
theorem d38_8 : decode B38_ 8 = .ok (.iadd, 1) := by decide +kernel
theorem d38_9 : decode B38_ 9 = .ok (.i2c, 1) := by decide +kernel
theorem d38_10 : decode B38_ 10 = .ok (.ireturn, 1) := by decide +kernel
theorem rmDG (hw : HW a0 Z) (ws : List Jvm.Cond) (j1 : Int64) (xz : Nat) (h0 : Heap) (n0 : Nat) (Z0 : n0 ≤ h0.size) (hj : j1 = Int64.ofNat xz) (hx2 : xz < 2 ^ 62) : MetN l Z mn40 method_5_code 2 (some .char) ws (rM 0 0 0 0) #[(.long j1)] h0 (Q_rmDG Z j1 xz h0 n0) := by
 refine enterN (plainFor_of_name pn_com_example_mulock_mulock_sql_SqlAddressWherePinLaw) (fun m => ef_rmDG m _) fun p e s m below meth c s₁ Bd hZ hx hD hlk hml hown hnm X0 e0 => ?_
 have N0 := Fr.nil n0
 have K0 := Keep.refl h0 []
 refine Wk.bipush X0 hx (hD d38_0) (n := 2) rfl (z := (48 : Int32)) rfl ?_
 refine Wk.lloadN X0 hx (hD d38_2) (n := 3) rfl rfl ?_
 refine Wk.ldc2Long X0 hx hown (mW hZ hw 264 rfl) (hD d38_3) (n := 6) rfl ?_
 refine Wk.lrem X0 hx (hD d38_6) (n := 7) rfl (by decide) ?_
 refine Wk.l2i X0 hx (hD d38_7) (n := 8) rfl ?_
 refine Wk.iadd X0 hx (hD d38_8) (n := 9) rfl ?_
 refine Wk.i2c X0 hx (hD d38_9) (n := 10) rfl rfl ?_
 exact Wk.leave X0 (v := some (.int (Int32.ofNat (48 + xz % 10)))) (fun h => by rw [Bd.returns] at h; cases h) hlk e0 ⟨rfl, N0, rfl⟩ (by decide) (by decide) (fun fs hr => retNz X0 hx (t := .char) (by rw [hj, own_md64 hx2]; exact own_dgi (Nat.mod_lt _ (by decide))) Bd.returns (by simp) (hD d38_10) hr)
def Q_rmPI (Z : State) (eA : Addr) (i1 : Int32) (p1 : Int32) (ke : ClassId) (cp : List Int32) (h0 : Heap) (n0 : Nat) (v : Option Value) (h : Heap) (L : List Loc) : Prop := v = some (.int (Int32.ofNat (cp ++ (sgl p1 ++ dl (mg p1))).length)) ∧ Fr n0 L ∧ Keep h0 h [eA] ∧ Arv Z h eA ke .char (32 : Int32) (chV (cp ++ (sgl p1 ++ dl (mg p1)))) (.int (0 : Int32))
theorem ef_rmPI (m : MethodId) (x0 : Addr) (x1 : Int32) (x2 : Int32) : entryFrame m #[(.ref x0), (.int x1), (.int x2)] 10 = mkF m 0 #[.val (.ref x0), .val (.int x1), .val (.int x2), .unset, .unset, .unset, .unset, .unset, .unset, .unset] [] := by first | (simp [entryFrame, mkF, argsToLocals, Value.category]; done) | rfl
theorem d39_27 : decode B39_ 27 = .ok (.iconst 1, 1) := by decide +kernel
theorem d39_28 : decode B39_ 28 = .ok (.istore 6, 2) := by decide +kernel
theorem d39_143 : decode B39_ 143 = .ok (.iload_n 3, 1) := by decide +kernel
theorem d39_144 : decode B39_ 144 = .ok (.iload 6, 2) := by decide +kernel
theorem d39_146 : decode B39_ 146 = .ok (.iadd, 1) := by decide +kernel
theorem d39_147 : decode B39_ 147 = .ok (.iconst 1, 1) := by decide +kernel
theorem d39_148 : decode B39_ 148 = .ok (.isub, 1) := by decide +kernel
theorem d39_149 : decode B39_ 149 = .ok (.istore 7, 2) := by decide +kernel
theorem d39_151 : decode B39_ 151 = .ok (.lload 4, 2) := by decide +kernel
theorem d39_153 : decode B39_ 153 = .ok (.lstore 8, 2) := by decide +kernel
theorem d39_155 : decode B39_ 155 = .ok (.aload_n 0, 1) := by decide +kernel
theorem d39_156 : decode B39_ 156 = .ok (.iload 7, 2) := by decide +kernel
theorem d39_158 : decode B39_ 158 = .ok (.lload 8, 2) := by decide +kernel
theorem d39_160 : decode B39_ 160 = .ok (.invokestatic 82, 3) := by decide +kernel
theorem pd_27 : parseMethodDescriptor "(J)C" = some ⟨[.long], some .char⟩ := by decide +kernel
theorem d39_163 : decode B39_ 163 = .ok (.castore, 1) := by decide +kernel
theorem d39_164 : decode B39_ 164 = .ok (.lload 8, 2) := by decide +kernel
theorem d39_166 : decode B39_ 166 = .ok (.ldc2_w 64, 3) := by decide +kernel
theorem d39_169 : decode B39_ 169 = .ok (.ldiv, 1) := by decide +kernel
theorem d39_170 : decode B39_ 170 = .ok (.lstore 8, 2) := by decide +kernel
theorem d39_172 : decode B39_ 172 = .ok (.iload 6, 2) := by decide +kernel
theorem d39_174 : decode B39_ 174 = .ok (.iconst 1, 1) := by decide +kernel
theorem d39_175 : decode B39_ 175 = .ok (.if_icmp .le 14, 3) := by decide +kernel
theorem d39_178 : decode B39_ 178 = .ok (.aload_n 0, 1) := by decide +kernel
theorem d39_179 : decode B39_ 179 = .ok (.iload 7, 2) := by decide +kernel
theorem d39_181 : decode B39_ 181 = .ok (.iconst 1, 1) := by decide +kernel
theorem d39_182 : decode B39_ 182 = .ok (.isub, 1) := by decide +kernel
theorem d39_183 : decode B39_ 183 = .ok (.lload 8, 2) := by decide +kernel
theorem d39_185 : decode B39_ 185 = .ok (.invokestatic 82, 3) := by decide +kernel
theorem d39_188 : decode B39_ 188 = .ok (.castore, 1) := by decide +kernel
theorem d39_189 : decode B39_ 189 = .ok (.lload 8, 2) := by decide +kernel
theorem d39_191 : decode B39_ 191 = .ok (.ldc2_w 64, 3) := by decide +kernel
theorem d39_194 : decode B39_ 194 = .ok (.ldiv, 1) := by decide +kernel
theorem d39_195 : decode B39_ 195 = .ok (.lstore 8, 2) := by decide +kernel
theorem d39_197 : decode B39_ 197 = .ok (.iload 6, 2) := by decide +kernel
theorem d39_199 : decode B39_ 199 = .ok (.iconst 2, 1) := by decide +kernel
theorem d39_200 : decode B39_ 200 = .ok (.if_icmp .le 14, 3) := by decide +kernel
theorem d39_203 : decode B39_ 203 = .ok (.aload_n 0, 1) := by decide +kernel
theorem d39_204 : decode B39_ 204 = .ok (.iload 7, 2) := by decide +kernel
theorem d39_206 : decode B39_ 206 = .ok (.iconst 2, 1) := by decide +kernel
theorem d39_207 : decode B39_ 207 = .ok (.isub, 1) := by decide +kernel
theorem d39_208 : decode B39_ 208 = .ok (.lload 8, 2) := by decide +kernel
theorem d39_210 : decode B39_ 210 = .ok (.invokestatic 82, 3) := by decide +kernel
theorem d39_213 : decode B39_ 213 = .ok (.castore, 1) := by decide +kernel
theorem d39_214 : decode B39_ 214 = .ok (.lload 8, 2) := by decide +kernel
theorem d39_216 : decode B39_ 216 = .ok (.ldc2_w 64, 3) := by decide +kernel
theorem d39_219 : decode B39_ 219 = .ok (.ldiv, 1) := by decide +kernel
theorem d39_220 : decode B39_ 220 = .ok (.lstore 8, 2) := by decide +kernel
theorem d39_222 : decode B39_ 222 = .ok (.iload 6, 2) := by decide +kernel
theorem d39_224 : decode B39_ 224 = .ok (.iconst 3, 1) := by decide +kernel
theorem d39_225 : decode B39_ 225 = .ok (.if_icmp .le 14, 3) := by decide +kernel
theorem d39_228 : decode B39_ 228 = .ok (.aload_n 0, 1) := by decide +kernel
theorem d39_229 : decode B39_ 229 = .ok (.iload 7, 2) := by decide +kernel
theorem d39_231 : decode B39_ 231 = .ok (.iconst 3, 1) := by decide +kernel
theorem d39_232 : decode B39_ 232 = .ok (.isub, 1) := by decide +kernel
theorem d39_233 : decode B39_ 233 = .ok (.lload 8, 2) := by decide +kernel
theorem d39_235 : decode B39_ 235 = .ok (.invokestatic 82, 3) := by decide +kernel
theorem d39_238 : decode B39_ 238 = .ok (.castore, 1) := by decide +kernel
theorem d39_239 : decode B39_ 239 = .ok (.lload 8, 2) := by decide +kernel
theorem d39_241 : decode B39_ 241 = .ok (.ldc2_w 64, 3) := by decide +kernel
theorem d39_244 : decode B39_ 244 = .ok (.ldiv, 1) := by decide +kernel
theorem d39_245 : decode B39_ 245 = .ok (.lstore 8, 2) := by decide +kernel
theorem d39_247 : decode B39_ 247 = .ok (.iload 6, 2) := by decide +kernel
theorem d39_249 : decode B39_ 249 = .ok (.iconst 4, 1) := by decide +kernel
theorem d39_250 : decode B39_ 250 = .ok (.if_icmp .le 14, 3) := by decide +kernel
theorem d39_253 : decode B39_ 253 = .ok (.aload_n 0, 1) := by decide +kernel
theorem d39_254 : decode B39_ 254 = .ok (.iload 7, 2) := by decide +kernel
theorem d39_256 : decode B39_ 256 = .ok (.iconst 4, 1) := by decide +kernel
theorem d39_257 : decode B39_ 257 = .ok (.isub, 1) := by decide +kernel
theorem d39_258 : decode B39_ 258 = .ok (.lload 8, 2) := by decide +kernel
theorem d39_260 : decode B39_ 260 = .ok (.invokestatic 82, 3) := by decide +kernel
theorem d39_263 : decode B39_ 263 = .ok (.castore, 1) := by decide +kernel
theorem d39_264 : decode B39_ 264 = .ok (.lload 8, 2) := by decide +kernel
theorem d39_266 : decode B39_ 266 = .ok (.ldc2_w 64, 3) := by decide +kernel
theorem d39_269 : decode B39_ 269 = .ok (.ldiv, 1) := by decide +kernel
theorem d39_270 : decode B39_ 270 = .ok (.lstore 8, 2) := by decide +kernel
theorem d39_272 : decode B39_ 272 = .ok (.iload 6, 2) := by decide +kernel
theorem d39_274 : decode B39_ 274 = .ok (.iconst 5, 1) := by decide +kernel
theorem d39_275 : decode B39_ 275 = .ok (.if_icmp .le 14, 3) := by decide +kernel
theorem d39_278 : decode B39_ 278 = .ok (.aload_n 0, 1) := by decide +kernel
theorem d39_279 : decode B39_ 279 = .ok (.iload 7, 2) := by decide +kernel
theorem d39_281 : decode B39_ 281 = .ok (.iconst 5, 1) := by decide +kernel
theorem d39_282 : decode B39_ 282 = .ok (.isub, 1) := by decide +kernel
theorem d39_283 : decode B39_ 283 = .ok (.lload 8, 2) := by decide +kernel
theorem d39_285 : decode B39_ 285 = .ok (.invokestatic 82, 3) := by decide +kernel
theorem d39_288 : decode B39_ 288 = .ok (.castore, 1) := by decide +kernel
theorem d39_289 : decode B39_ 289 = .ok (.lload 8, 2) := by decide +kernel
theorem d39_291 : decode B39_ 291 = .ok (.ldc2_w 64, 3) := by decide +kernel
theorem d39_294 : decode B39_ 294 = .ok (.ldiv, 1) := by decide +kernel
theorem d39_295 : decode B39_ 295 = .ok (.lstore 8, 2) := by decide +kernel
theorem d39_297 : decode B39_ 297 = .ok (.iload 6, 2) := by decide +kernel
theorem d39_299 : decode B39_ 299 = .ok (.bipush 6, 2) := by decide +kernel
theorem d39_301 : decode B39_ 301 = .ok (.if_icmp .le 15, 3) := by decide +kernel
theorem d39_304 : decode B39_ 304 = .ok (.aload_n 0, 1) := by decide +kernel
theorem d39_305 : decode B39_ 305 = .ok (.iload 7, 2) := by decide +kernel
theorem d39_307 : decode B39_ 307 = .ok (.bipush 6, 2) := by decide +kernel
theorem d39_309 : decode B39_ 309 = .ok (.isub, 1) := by decide +kernel
theorem d39_310 : decode B39_ 310 = .ok (.lload 8, 2) := by decide +kernel
theorem d39_312 : decode B39_ 312 = .ok (.invokestatic 82, 3) := by decide +kernel
theorem d39_315 : decode B39_ 315 = .ok (.castore, 1) := by decide +kernel
theorem d39_316 : decode B39_ 316 = .ok (.lload 8, 2) := by decide +kernel
theorem d39_318 : decode B39_ 318 = .ok (.ldc2_w 64, 3) := by decide +kernel
theorem d39_321 : decode B39_ 321 = .ok (.ldiv, 1) := by decide +kernel
theorem d39_322 : decode B39_ 322 = .ok (.lstore 8, 2) := by decide +kernel
theorem d39_324 : decode B39_ 324 = .ok (.iload 6, 2) := by decide +kernel
theorem d39_326 : decode B39_ 326 = .ok (.bipush 7, 2) := by decide +kernel
theorem d39_328 : decode B39_ 328 = .ok (.if_icmp .le 15, 3) := by decide +kernel
theorem d39_331 : decode B39_ 331 = .ok (.aload_n 0, 1) := by decide +kernel
theorem d39_332 : decode B39_ 332 = .ok (.iload 7, 2) := by decide +kernel
theorem d39_334 : decode B39_ 334 = .ok (.bipush 7, 2) := by decide +kernel
theorem d39_336 : decode B39_ 336 = .ok (.isub, 1) := by decide +kernel
theorem d39_337 : decode B39_ 337 = .ok (.lload 8, 2) := by decide +kernel
theorem d39_339 : decode B39_ 339 = .ok (.invokestatic 82, 3) := by decide +kernel
theorem d39_342 : decode B39_ 342 = .ok (.castore, 1) := by decide +kernel
theorem d39_343 : decode B39_ 343 = .ok (.lload 8, 2) := by decide +kernel
theorem d39_345 : decode B39_ 345 = .ok (.ldc2_w 64, 3) := by decide +kernel
theorem d39_348 : decode B39_ 348 = .ok (.ldiv, 1) := by decide +kernel
theorem d39_349 : decode B39_ 349 = .ok (.lstore 8, 2) := by decide +kernel
theorem d39_351 : decode B39_ 351 = .ok (.iload 6, 2) := by decide +kernel
theorem d39_353 : decode B39_ 353 = .ok (.bipush 8, 2) := by decide +kernel
theorem d39_355 : decode B39_ 355 = .ok (.if_icmp .le 15, 3) := by decide +kernel
theorem d39_358 : decode B39_ 358 = .ok (.aload_n 0, 1) := by decide +kernel
theorem d39_359 : decode B39_ 359 = .ok (.iload 7, 2) := by decide +kernel
theorem d39_361 : decode B39_ 361 = .ok (.bipush 8, 2) := by decide +kernel
theorem d39_363 : decode B39_ 363 = .ok (.isub, 1) := by decide +kernel
theorem d39_364 : decode B39_ 364 = .ok (.lload 8, 2) := by decide +kernel
theorem d39_366 : decode B39_ 366 = .ok (.invokestatic 82, 3) := by decide +kernel
theorem d39_369 : decode B39_ 369 = .ok (.castore, 1) := by decide +kernel
theorem d39_370 : decode B39_ 370 = .ok (.lload 8, 2) := by decide +kernel
theorem d39_372 : decode B39_ 372 = .ok (.ldc2_w 64, 3) := by decide +kernel
theorem d39_375 : decode B39_ 375 = .ok (.ldiv, 1) := by decide +kernel
theorem d39_376 : decode B39_ 376 = .ok (.lstore 8, 2) := by decide +kernel
theorem d39_378 : decode B39_ 378 = .ok (.iload 6, 2) := by decide +kernel
theorem d39_380 : decode B39_ 380 = .ok (.bipush 9, 2) := by decide +kernel
theorem d39_382 : decode B39_ 382 = .ok (.if_icmp .le 15, 3) := by decide +kernel
theorem d39_385 : decode B39_ 385 = .ok (.aload_n 0, 1) := by decide +kernel
theorem d39_386 : decode B39_ 386 = .ok (.iload 7, 2) := by decide +kernel
theorem d39_388 : decode B39_ 388 = .ok (.bipush 9, 2) := by decide +kernel
theorem d39_390 : decode B39_ 390 = .ok (.isub, 1) := by decide +kernel
theorem d39_391 : decode B39_ 391 = .ok (.lload 8, 2) := by decide +kernel
theorem d39_393 : decode B39_ 393 = .ok (.invokestatic 82, 3) := by decide +kernel
theorem d39_396 : decode B39_ 396 = .ok (.castore, 1) := by decide +kernel
theorem d39_397 : decode B39_ 397 = .ok (.iload_n 3, 1) := by decide +kernel
theorem d39_398 : decode B39_ 398 = .ok (.iload 6, 2) := by decide +kernel
theorem d39_400 : decode B39_ 400 = .ok (.iadd, 1) := by decide +kernel
theorem d39_401 : decode B39_ 401 = .ok (.ireturn, 1) := by decide +kernel
theorem d39_30 : decode B39_ 30 = .ok (.lload 4, 2) := by decide +kernel
theorem d39_32 : decode B39_ 32 = .ok (.ldc2_w 64, 3) := by decide +kernel
theorem d39_35 : decode B39_ 35 = .ok (.lcmp, 1) := by decide +kernel
theorem d39_36 : decode B39_ 36 = .ok (.ifCond .lt 6, 3) := by decide +kernel
theorem d39_42 : decode B39_ 42 = .ok (.lload 4, 2) := by decide +kernel
theorem d39_44 : decode B39_ 44 = .ok (.ldc2_w 66, 3) := by decide +kernel
theorem d39_47 : decode B39_ 47 = .ok (.lcmp, 1) := by decide +kernel
theorem d39_48 : decode B39_ 48 = .ok (.ifCond .lt 6, 3) := by decide +kernel
theorem d39_54 : decode B39_ 54 = .ok (.lload 4, 2) := by decide +kernel
theorem d39_56 : decode B39_ 56 = .ok (.ldc2_w 68, 3) := by decide +kernel
theorem d39_59 : decode B39_ 59 = .ok (.lcmp, 1) := by decide +kernel
theorem d39_60 : decode B39_ 60 = .ok (.ifCond .lt 6, 3) := by decide +kernel
theorem d39_66 : decode B39_ 66 = .ok (.lload 4, 2) := by decide +kernel
theorem d39_68 : decode B39_ 68 = .ok (.ldc2_w 70, 3) := by decide +kernel
theorem d39_71 : decode B39_ 71 = .ok (.lcmp, 1) := by decide +kernel
theorem d39_72 : decode B39_ 72 = .ok (.ifCond .lt 6, 3) := by decide +kernel
theorem d39_78 : decode B39_ 78 = .ok (.lload 4, 2) := by decide +kernel
theorem d39_80 : decode B39_ 80 = .ok (.ldc2_w 72, 3) := by decide +kernel
theorem d39_83 : decode B39_ 83 = .ok (.lcmp, 1) := by decide +kernel
theorem d39_84 : decode B39_ 84 = .ok (.ifCond .lt 7, 3) := by decide +kernel
theorem d39_91 : decode B39_ 91 = .ok (.lload 4, 2) := by decide +kernel
theorem d39_93 : decode B39_ 93 = .ok (.ldc2_w 74, 3) := by decide +kernel
theorem d39_96 : decode B39_ 96 = .ok (.lcmp, 1) := by decide +kernel
theorem d39_97 : decode B39_ 97 = .ok (.ifCond .lt 7, 3) := by decide +kernel
theorem d39_104 : decode B39_ 104 = .ok (.lload 4, 2) := by decide +kernel
theorem d39_106 : decode B39_ 106 = .ok (.ldc2_w 76, 3) := by decide +kernel
theorem d39_109 : decode B39_ 109 = .ok (.lcmp, 1) := by decide +kernel
theorem d39_110 : decode B39_ 110 = .ok (.ifCond .lt 7, 3) := by decide +kernel
theorem d39_117 : decode B39_ 117 = .ok (.lload 4, 2) := by decide +kernel
theorem d39_119 : decode B39_ 119 = .ok (.ldc2_w 78, 3) := by decide +kernel
theorem d39_122 : decode B39_ 122 = .ok (.lcmp, 1) := by decide +kernel
theorem d39_123 : decode B39_ 123 = .ok (.ifCond .lt 7, 3) := by decide +kernel
theorem d39_130 : decode B39_ 130 = .ok (.lload 4, 2) := by decide +kernel
theorem d39_132 : decode B39_ 132 = .ok (.ldc2_w 80, 3) := by decide +kernel
theorem d39_135 : decode B39_ 135 = .ok (.lcmp, 1) := by decide +kernel
theorem d39_136 : decode B39_ 136 = .ok (.ifCond .lt 7, 3) := by decide +kernel
theorem d39_39 : decode B39_ 39 = .ok (.iconst 2, 1) := by decide +kernel
theorem d39_40 : decode B39_ 40 = .ok (.istore 6, 2) := by decide +kernel
theorem d39_51 : decode B39_ 51 = .ok (.iconst 3, 1) := by decide +kernel
theorem d39_52 : decode B39_ 52 = .ok (.istore 6, 2) := by decide +kernel
theorem d39_63 : decode B39_ 63 = .ok (.iconst 4, 1) := by decide +kernel
theorem d39_64 : decode B39_ 64 = .ok (.istore 6, 2) := by decide +kernel
theorem d39_75 : decode B39_ 75 = .ok (.iconst 5, 1) := by decide +kernel
theorem d39_76 : decode B39_ 76 = .ok (.istore 6, 2) := by decide +kernel
theorem d39_87 : decode B39_ 87 = .ok (.bipush 6, 2) := by decide +kernel
theorem d39_89 : decode B39_ 89 = .ok (.istore 6, 2) := by decide +kernel
theorem d39_100 : decode B39_ 100 = .ok (.bipush 7, 2) := by decide +kernel
theorem d39_102 : decode B39_ 102 = .ok (.istore 6, 2) := by decide +kernel
theorem d39_113 : decode B39_ 113 = .ok (.bipush 8, 2) := by decide +kernel
theorem d39_115 : decode B39_ 115 = .ok (.istore 6, 2) := by decide +kernel
theorem d39_126 : decode B39_ 126 = .ok (.bipush 9, 2) := by decide +kernel
theorem d39_128 : decode B39_ 128 = .ok (.istore 6, 2) := by decide +kernel
theorem d39_139 : decode B39_ 139 = .ok (.bipush 10, 2) := by decide +kernel
theorem d39_141 : decode B39_ 141 = .ok (.istore 6, 2) := by decide +kernel
theorem d39_0 : decode B39_ 0 = .ok (.iload_n 1, 1) := by decide +kernel
theorem d39_1 : decode B39_ 1 = .ok (.istore_n 3, 1) := by decide +kernel
theorem d39_2 : decode B39_ 2 = .ok (.iload_n 2, 1) := by decide +kernel
theorem d39_3 : decode B39_ 3 = .ok (.i2l, 1) := by decide +kernel
theorem d39_4 : decode B39_ 4 = .ok (.lstore 4, 2) := by decide +kernel
theorem d39_6 : decode B39_ 6 = .ok (.lload 4, 2) := by decide +kernel
theorem d39_8 : decode B39_ 8 = .ok (.lconst 0, 1) := by decide +kernel
theorem d39_9 : decode B39_ 9 = .ok (.lcmp, 1) := by decide +kernel
theorem d39_10 : decode B39_ 10 = .ok (.ifCond .ge 17, 3) := by decide +kernel
theorem d39_13 : decode B39_ 13 = .ok (.aload_n 0, 1) := by decide +kernel
theorem d39_14 : decode B39_ 14 = .ok (.iload_n 3, 1) := by decide +kernel
theorem d39_15 : decode B39_ 15 = .ok (.bipush 45, 2) := by decide +kernel
theorem d39_17 : decode B39_ 17 = .ok (.castore, 1) := by decide +kernel
theorem d39_18 : decode B39_ 18 = .ok (.iload_n 3, 1) := by decide +kernel
theorem d39_19 : decode B39_ 19 = .ok (.iconst 1, 1) := by decide +kernel
theorem d39_20 : decode B39_ 20 = .ok (.iadd, 1) := by decide +kernel
theorem d39_21 : decode B39_ 21 = .ok (.istore_n 3, 1) := by decide +kernel
theorem d39_22 : decode B39_ 22 = .ok (.lload 4, 2) := by decide +kernel
theorem d39_24 : decode B39_ 24 = .ok (.lneg, 1) := by decide +kernel
theorem d39_25 : decode B39_ 25 = .ok (.lstore 4, 2) := by decide +kernel
theorem rmPI (hw : HW a0 Z) (ws : List Jvm.Cond) (eA : Addr) (i1 : Int32) (p1 : Int32) (ke : ClassId) (cp : List Int32) (h0 : Heap) (n0 : Nat) (Z0 : n0 ≤ h0.size) (A1 : Arv Z h0 eA ke .char (32 : Int32) (chV cp) (.int (0 : Int32))) (hi : i1 = Int32.ofNat cp.length) (hl : cp.length ≤ 18) (g1 : n0 ≤ eA) : MetN l Z mn41 method_6_code 10 (some .int) ws (rM 1 0 0 20) #[(.ref eA), (.int i1), (.int p1)] h0 (Q_rmPI Z eA i1 p1 ke cp h0 n0) := by
 refine enterN (plainFor_of_name pn_com_example_mulock_mulock_sql_SqlAddressWherePinLaw) (fun m => ef_rmPI m _ _ _) fun p e s m below meth c s₁ Bd hZ hx hD hlk hml hown hnm X0 e0 => ?_
 have N0 := Fr.nil n0
 have K0 := Keep.refl h0 [eA]
 have lt_A1 := ny A1.lt
 have jp_a : ∀ (Tj1 : State) (Hj1 : Heap) (Lcj1 : List Loc) (cq : List Int32) (i3 : Int32) (j4 : Int64), (Stand p l e (rM 1 0 0 20) s m #[(.ref eA), (.int i1), (.int p1)] below meth c Tj1 Lcj1 0 0) → (Tj1.heap = Hj1) → (Keep h0 Hj1 [eA]) → (Fr n0 Lcj1) → (Arv Z Hj1 eA ke .char (32 : Int32) (chV cq) (.int (0 : Int32))) → (i3 = Int32.ofNat cq.length) → (j4 = Int64.ofNat (mg p1)) → (cq = cp ++ sgl p1) → (cq.length ≤ 19) → Wk p e below (EndN s (Q_rmPI Z eA i1 p1 ke cp h0 n0) (rM 1 0 0 20).cells (rM 1 0 0 20).slots) Tj1 (mkF m 27 #[.val (.ref eA), .val (.int i1), .val (.int p1), .val (.int i3), .val (.long j4), .second, .unset, .unset, .unset, .unset] []) := by
  intro Tj1 Hj1 Lcj1 cq i3 j4 Xj1 ej1 Kj1 Nj1 Aj q3 q4 hcq lcq
  have szj1 := Kj1.1
  have lt_Aj := ny Aj.lt
  have hM := mg_le p1
  have lG2 := dl_le (mg p1) hM
  refine Wk.iconst Xj1 hx (hD d39_27) (n := 28) rfl (z := (1 : Int32)) rfl ?_
  refine Wk.istore Xj1 hx (hD d39_28) (n := 30) rfl (L' := #[.val (.ref eA), .val (.int i1), .val (.int p1), .val (.int i3), .val (.long j4), .second, .val (.int (1 : Int32)), .unset, .unset, .unset]) rfl ?_
  have jp_b : ∀ (dd : Int32) (kz : Nat) (hdd : dd = Int32.ofNat kz) (hkz : (dl (mg p1)).length = kz), Wk p e below (EndN s (Q_rmPI Z eA i1 p1 ke cp h0 n0) (rM 1 0 0 20).cells (rM 1 0 0 20).slots) Tj1 (mkF m 143 #[.val (.ref eA), .val (.int i1), .val (.int p1), .val (.int i3), .val (.long j4), .second, .val (.int dd), .unset, .unset, .unset] []) := by
   intro dd kz hdd hkz
   refine Wk.iloadN Xj1 hx (hD d39_143) (n := 144) rfl rfl ?_
   refine Wk.iload Xj1 hx (hD d39_144) (n := 146) rfl rfl ?_
   refine Wk.iadd Xj1 hx (hD d39_146) (n := 147) rfl ?_
   refine Wk.iconst Xj1 hx (hD d39_147) (n := 148) rfl (z := (1 : Int32)) rfl ?_
   refine Wk.isub Xj1 hx (hD d39_148) (n := 149) rfl ?_
   generalize he7 : ((i3 + dd) - (1 : Int32)) = e7_
   refine Wk.istore Xj1 hx (hD d39_149) (n := 151) rfl (L' := #[.val (.ref eA), .val (.int i1), .val (.int p1), .val (.int i3), .val (.long j4), .second, .val (.int dd), .val (.int e7_), .unset, .unset]) rfl ?_
   obtain ⟨z1, hz1, hb1⟩ : ∃ z, Hid (z = (mg p1) / 10) ∧ z ≤ 2147483648 := ⟨_, rfl, Nat.le_trans (Nat.div_le_self _ _) hM⟩
   obtain ⟨z2, hz2, hb2⟩ : ∃ z, Hid (z = z1 / 10) ∧ z ≤ 2147483648 := ⟨_, rfl, Nat.le_trans (Nat.div_le_self _ _) hb1⟩
   obtain ⟨z3, hz3, hb3⟩ : ∃ z, Hid (z = z2 / 10) ∧ z ≤ 2147483648 := ⟨_, rfl, Nat.le_trans (Nat.div_le_self _ _) hb2⟩
   obtain ⟨z4, hz4, hb4⟩ : ∃ z, Hid (z = z3 / 10) ∧ z ≤ 2147483648 := ⟨_, rfl, Nat.le_trans (Nat.div_le_self _ _) hb3⟩
   obtain ⟨z5, hz5, hb5⟩ : ∃ z, Hid (z = z4 / 10) ∧ z ≤ 2147483648 := ⟨_, rfl, Nat.le_trans (Nat.div_le_self _ _) hb4⟩
   obtain ⟨z6, hz6, hb6⟩ : ∃ z, Hid (z = z5 / 10) ∧ z ≤ 2147483648 := ⟨_, rfl, Nat.le_trans (Nat.div_le_self _ _) hb5⟩
   obtain ⟨z7, hz7, hb7⟩ : ∃ z, Hid (z = z6 / 10) ∧ z ≤ 2147483648 := ⟨_, rfl, Nat.le_trans (Nat.div_le_self _ _) hb6⟩
   obtain ⟨z8, hz8, hb8⟩ : ∃ z, Hid (z = z7 / 10) ∧ z ≤ 2147483648 := ⟨_, rfl, Nat.le_trans (Nat.div_le_self _ _) hb7⟩
   obtain ⟨z9, hz9, hb9⟩ : ∃ z, Hid (z = z8 / 10) ∧ z ≤ 2147483648 := ⟨_, rfl, Nat.le_trans (Nat.div_le_self _ _) hb8⟩
   have kp := dl_pos (mg p1)
   have qe : e7_ = Int32.ofNat (cq.length + (kz - 1)) := by rw [← he7, q3, hdd]; exact own_end (by omega)
   have y0 := q4
   refine Wk.lload Xj1 hx (hD d39_151) (n := 153) rfl rfl ?_
   refine Wk.lstore Xj1 hx (hD d39_153) (n := 155) rfl (L' := #[.val (.ref eA), .val (.int i1), .val (.int p1), .val (.int i3), .val (.long j4), .second, .val (.int dd), .val (.int e7_), .val (.long j4), .second]) rfl ?_
   refine Wk.aloadN Xj1 hx (hD d39_155) (n := 156) rfl rfl rfl ?_
   refine Wk.iload Xj1 hx (hD d39_156) (n := 158) rfl rfl ?_
   refine Wk.lload Xj1 hx (hD d39_158) (n := 160) rfl rfl ?_
   have cl2_ := fun Ls (hLs : LsOk c Ls) => Jvm.LawKit.callS Xj1 hx (y := mn40) hown (mW hZ hw 273 rfl) (mW hZ hw 274 rfl) (mW hZ hw 236 rfl) (mW hZ hw 275 rfl) (by decide) (backOf (W := 2) (rmDG l Z a0 hw [] j4 (mg p1) Hj1 n0 (by omega) y0 (by omega)) hZ (oW hw 275 rfl) (oW hw 236 rfl) (by decide) (by decide)) (g := mkF m 160 Ls [(.long j4), (.int e7_), (.ref eA)]) rfl hLs (argsL := [(.long j4)]) (rest := [(.int e7_), (.ref eA)]) (lenOf pd_27 rfl) rfl (leq0 rfl) (hD d39_160) (fun _ _ => ⟨rfl, ej1, (by decide : 0 + 0 ≤ _), (by decide : 0 + 0 ≤ _)⟩)
   refine Wk.backS (n := 163) (rc := 0) (rs := 0) (Q := Q_rmDG Z j4 (mg p1) Hj1 n0) (cl2_ _ (lsok hml rfl)) fun vn2 T2 L2 X2 hQ2 => ?_
   clear cl2_
   obtain ⟨rfl, M2, e2⟩ := hQ2
   have N2 := Fr.app Nj1 M2
   show Wk p e below _ T2 (mkF m 163 _ [(.int (Int32.ofNat (48 + (mg p1) % 10))), (.int e7_), (.ref eA)])
   have Pd := own_arv (own_ap0k cq kz) (Arv.pad Aj (pad_rep (chV cq) (.int (0 : Int32)) kz))
   obtain ⟨cl3, Ar3, qn3, Sz3, N_3, H_3, Gn3⟩ := id Pd
   have hin3 : ¬ (e7_ < 0 ∨ cl3.slots.size ≤ (e7_).toNatClampNeg) := inb_of Sz3 (by rw [qe]; exact ⟨own_nonneg (by omega), (own_lt (b := 32) (by omega) (by decide)).mpr (by omega)⟩)
   refine Wk.stC X2 hx hZ e2 Ar3 hin3 (hD d39_163) (n := 164) rfl fun T3 H3 X3 e3 Wn3 => ?_
   have Vn3 := Arv.set Ar3 qn3 Sz3 N_3 H_3 Gn3 (fits_nar_char _) Wn3 (cq.length + (kz - 1)) (by rw [qe]; exact own_cl (by omega)) (by simp only [List.length_append, List.length_replicate, chV_len]; omega)
   have Un3 : Arv Z H3 eA ke .char (32 : Int32) (chV cq ++ List.replicate (kz - 1) (Value.int (0 : Int32)) ++ chV [(Int32.ofNat (48 + (mg p1) % 10))]) (.int (0 : Int32)) := own_arv (own_stc' cq [] (Int32.ofNat (48 + (mg p1) % 10)) (r := kz) (s := kz - 1) (own_dgn (Nat.mod_lt _ (by decide))) (by omega)) Vn3
   have sz3 := Wn3.size
   have K3 := Kj1.wr Wn3 (Or.inl (List.mem_of_getElem? (i := 0) rfl))
   have N3 := Fr.snoc X3 N2 (by omega)
   refine Wk.lload X3 hx (hD d39_164) (n := 166) rfl rfl ?_
   refine Wk.ldc2Long X3 hx hown (mW hZ hw 264 rfl) (hD d39_166) (n := 169) rfl ?_
   refine Wk.ldiv X3 hx (hD d39_169) (n := 170) rfl (by decide) ?_
   generalize hw1_ : (j4 / (10 : Int64)) = w1_
   have y1 : w1_ = Int64.ofNat z1 := by rw [← hw1_, y0, (hz1 : z1 = (mg p1) / 10)]; exact own_dv64 (b := 10) (by omega) (by decide)
   refine Wk.lstore X3 hx (hD d39_170) (n := 172) rfl (L' := #[.val (.ref eA), .val (.int i1), .val (.int p1), .val (.int i3), .val (.long j4), .second, .val (.int dd), .val (.int e7_), .val (.long w1_), .second]) rfl ?_
   refine Wk.iload X3 hx (hD d39_172) (n := 174) rfl rfl ?_
   refine Wk.iconst X3 hx (hD d39_174) (n := 175) rfl (z := (1 : Int32)) rfl ?_
   by_cases hc175 : (1 : Int32) < dd
   ·
    refine Wk.icmpNo X3 hx (hD d39_175) (n := 178) rfl (tlt hc175).2.2.2 ?_
    have gk1 : 1 < kz := by rw [hdd] at hc175; exact (own_lt (a := 1) (by decide) (by omega)).mp hc175
    refine Wk.aloadN X3 hx (hD d39_178) (n := 179) rfl rfl rfl ?_
    refine Wk.iload X3 hx (hD d39_179) (n := 181) rfl rfl ?_
    refine Wk.iconst X3 hx (hD d39_181) (n := 182) rfl (z := (1 : Int32)) rfl ?_
    refine Wk.isub X3 hx (hD d39_182) (n := 183) rfl ?_
    refine Wk.lload X3 hx (hD d39_183) (n := 185) rfl rfl ?_
    have cl4_ := fun Ls (hLs : LsOk c Ls) => Jvm.LawKit.callS X3 hx (y := mn40) hown (mW hZ hw 273 rfl) (mW hZ hw 274 rfl) (mW hZ hw 236 rfl) (mW hZ hw 275 rfl) (by decide) (backOf (W := 2) (rmDG l Z a0 hw [] w1_ z1 H3 n0 (by omega) y1 (by omega)) hZ (oW hw 275 rfl) (oW hw 236 rfl) (by decide) (by decide)) (g := mkF m 185 Ls [(.long w1_), (.int (e7_ - (1 : Int32))), (.ref eA)]) rfl hLs (argsL := [(.long w1_)]) (rest := [(.int (e7_ - (1 : Int32))), (.ref eA)]) (lenOf pd_27 rfl) rfl (leq0 rfl) (hD d39_185) (fun _ _ => ⟨rfl, e3, (by decide : 0 + 0 ≤ _), (by decide : 0 + 0 ≤ _)⟩)
    refine Wk.backS (n := 188) (rc := 0) (rs := 0) (Q := Q_rmDG Z w1_ z1 H3 n0) (cl4_ _ (lsok hml rfl)) fun vn4 T4 L4 X4 hQ4 => ?_
    clear cl4_
    obtain ⟨rfl, M4, e4⟩ := hQ4
    have N4 := Fr.app N3 M4
    show Wk p e below _ T4 (mkF m 188 _ [(.int (Int32.ofNat (48 + z1 % 10))), (.int (e7_ - (1 : Int32))), (.ref eA)])
    have qf1 : (e7_ - (1 : Int32)) = Int32.ofNat (cq.length + (kz - 1 - 1)) := by rw [qe]; exact own_endm (m := 1) rfl (by omega)
    obtain ⟨cl5, Ar5, qn5, Sz5, N_5, H_5, Gn5⟩ := id Un3
    have hin5 : ¬ ((e7_ - (1 : Int32)) < 0 ∨ cl5.slots.size ≤ ((e7_ - (1 : Int32))).toNatClampNeg) := inb_of Sz5 (by rw [qf1]; exact ⟨own_nonneg (by omega), (own_lt (b := 32) (by omega) (by decide)).mpr (by omega)⟩)
    refine Wk.stC X4 hx hZ e4 Ar5 hin5 (hD d39_188) (n := 189) rfl fun T5 H5 X5 e5 Wn5 => ?_
    have Vn5 := Arv.set Ar5 qn5 Sz5 N_5 H_5 Gn5 (fits_nar_char _) Wn5 (cq.length + ((kz - 1) - 1)) (by rw [qf1]; exact own_cl (by omega)) (by simp only [List.length_append, List.length_replicate, chV_len]; omega)
    have Un5 : Arv Z H5 eA ke .char (32 : Int32) (chV cq ++ List.replicate (kz - 2) (Value.int (0 : Int32)) ++ chV [(Int32.ofNat (48 + z1 % 10)), (Int32.ofNat (48 + (mg p1) % 10))]) (.int (0 : Int32)) := own_arv (own_stc' cq [(Int32.ofNat (48 + (mg p1) % 10))] (Int32.ofNat (48 + z1 % 10)) (r := (kz - 1)) (s := kz - 2) (own_dgn (Nat.mod_lt _ (by decide))) (by omega)) Vn5
    have sz5 := Wn5.size
    have K5 := K3.wr Wn5 (Or.inl (List.mem_of_getElem? (i := 0) rfl))
    have N5 := Fr.snoc X5 N4 (by omega)
    refine Wk.lload X5 hx (hD d39_189) (n := 191) rfl rfl ?_
    refine Wk.ldc2Long X5 hx hown (mW hZ hw 264 rfl) (hD d39_191) (n := 194) rfl ?_
    refine Wk.ldiv X5 hx (hD d39_194) (n := 195) rfl (by decide) ?_
    generalize hw2_ : (w1_ / (10 : Int64)) = w2_
    have y2 : w2_ = Int64.ofNat z2 := by rw [← hw2_, y1, (hz2 : z2 = z1 / 10)]; exact own_dv64 (b := 10) (by omega) (by decide)
    refine Wk.lstore X5 hx (hD d39_195) (n := 197) rfl (L' := #[.val (.ref eA), .val (.int i1), .val (.int p1), .val (.int i3), .val (.long j4), .second, .val (.int dd), .val (.int e7_), .val (.long w2_), .second]) rfl ?_
    refine Wk.iload X5 hx (hD d39_197) (n := 199) rfl rfl ?_
    refine Wk.iconst X5 hx (hD d39_199) (n := 200) rfl (z := (2 : Int32)) rfl ?_
    by_cases hc200 : (2 : Int32) < dd
    ·
     refine Wk.icmpNo X5 hx (hD d39_200) (n := 203) rfl (tlt hc200).2.2.2 ?_
     have gk2 : 2 < kz := by rw [hdd] at hc200; exact (own_lt (a := 2) (by decide) (by omega)).mp hc200
     refine Wk.aloadN X5 hx (hD d39_203) (n := 204) rfl rfl rfl ?_
     refine Wk.iload X5 hx (hD d39_204) (n := 206) rfl rfl ?_
     refine Wk.iconst X5 hx (hD d39_206) (n := 207) rfl (z := (2 : Int32)) rfl ?_
     refine Wk.isub X5 hx (hD d39_207) (n := 208) rfl ?_
     refine Wk.lload X5 hx (hD d39_208) (n := 210) rfl rfl ?_
     have cl6_ := fun Ls (hLs : LsOk c Ls) => Jvm.LawKit.callS X5 hx (y := mn40) hown (mW hZ hw 273 rfl) (mW hZ hw 274 rfl) (mW hZ hw 236 rfl) (mW hZ hw 275 rfl) (by decide) (backOf (W := 2) (rmDG l Z a0 hw [] w2_ z2 H5 n0 (by omega) y2 (by omega)) hZ (oW hw 275 rfl) (oW hw 236 rfl) (by decide) (by decide)) (g := mkF m 210 Ls [(.long w2_), (.int (e7_ - (2 : Int32))), (.ref eA)]) rfl hLs (argsL := [(.long w2_)]) (rest := [(.int (e7_ - (2 : Int32))), (.ref eA)]) (lenOf pd_27 rfl) rfl (leq0 rfl) (hD d39_210) (fun _ _ => ⟨rfl, e5, (by decide : 0 + 0 ≤ _), (by decide : 0 + 0 ≤ _)⟩)
     refine Wk.backS (n := 213) (rc := 0) (rs := 0) (Q := Q_rmDG Z w2_ z2 H5 n0) (cl6_ _ (lsok hml rfl)) fun vn6 T6 L6 X6 hQ6 => ?_
     clear cl6_
     obtain ⟨rfl, M6, e6⟩ := hQ6
     have N6 := Fr.app N5 M6
     show Wk p e below _ T6 (mkF m 213 _ [(.int (Int32.ofNat (48 + z2 % 10))), (.int (e7_ - (2 : Int32))), (.ref eA)])
     have qf2 : (e7_ - (2 : Int32)) = Int32.ofNat (cq.length + (kz - 2 - 1)) := by rw [qe]; exact own_endm (m := 2) rfl (by omega)
     obtain ⟨cl7, Ar7, qn7, Sz7, N_7, H_7, Gn7⟩ := id Un5
     have hin7 : ¬ ((e7_ - (2 : Int32)) < 0 ∨ cl7.slots.size ≤ ((e7_ - (2 : Int32))).toNatClampNeg) := inb_of Sz7 (by rw [qf2]; exact ⟨own_nonneg (by omega), (own_lt (b := 32) (by omega) (by decide)).mpr (by omega)⟩)
     refine Wk.stC X6 hx hZ e6 Ar7 hin7 (hD d39_213) (n := 214) rfl fun T7 H7 X7 e7 Wn7 => ?_
     have Vn7 := Arv.set Ar7 qn7 Sz7 N_7 H_7 Gn7 (fits_nar_char _) Wn7 (cq.length + ((kz - 2) - 1)) (by rw [qf2]; exact own_cl (by omega)) (by simp only [List.length_append, List.length_replicate, chV_len]; omega)
     have Un7 : Arv Z H7 eA ke .char (32 : Int32) (chV cq ++ List.replicate (kz - 3) (Value.int (0 : Int32)) ++ chV [(Int32.ofNat (48 + z2 % 10)), (Int32.ofNat (48 + z1 % 10)), (Int32.ofNat (48 + (mg p1) % 10))]) (.int (0 : Int32)) := own_arv (own_stc' cq [(Int32.ofNat (48 + z1 % 10)), (Int32.ofNat (48 + (mg p1) % 10))] (Int32.ofNat (48 + z2 % 10)) (r := (kz - 2)) (s := kz - 3) (own_dgn (Nat.mod_lt _ (by decide))) (by omega)) Vn7
     have sz7 := Wn7.size
     have K7 := K5.wr Wn7 (Or.inl (List.mem_of_getElem? (i := 0) rfl))
     have N7 := Fr.snoc X7 N6 (by omega)
     refine Wk.lload X7 hx (hD d39_214) (n := 216) rfl rfl ?_
     refine Wk.ldc2Long X7 hx hown (mW hZ hw 264 rfl) (hD d39_216) (n := 219) rfl ?_
     refine Wk.ldiv X7 hx (hD d39_219) (n := 220) rfl (by decide) ?_
     generalize hw3_ : (w2_ / (10 : Int64)) = w3_
     have y3 : w3_ = Int64.ofNat z3 := by rw [← hw3_, y2, (hz3 : z3 = z2 / 10)]; exact own_dv64 (b := 10) (by omega) (by decide)
     refine Wk.lstore X7 hx (hD d39_220) (n := 222) rfl (L' := #[.val (.ref eA), .val (.int i1), .val (.int p1), .val (.int i3), .val (.long j4), .second, .val (.int dd), .val (.int e7_), .val (.long w3_), .second]) rfl ?_
     refine Wk.iload X7 hx (hD d39_222) (n := 224) rfl rfl ?_
     refine Wk.iconst X7 hx (hD d39_224) (n := 225) rfl (z := (3 : Int32)) rfl ?_
     by_cases hc225 : (3 : Int32) < dd
     ·
      refine Wk.icmpNo X7 hx (hD d39_225) (n := 228) rfl (tlt hc225).2.2.2 ?_
      have gk3 : 3 < kz := by rw [hdd] at hc225; exact (own_lt (a := 3) (by decide) (by omega)).mp hc225
      refine Wk.aloadN X7 hx (hD d39_228) (n := 229) rfl rfl rfl ?_
      refine Wk.iload X7 hx (hD d39_229) (n := 231) rfl rfl ?_
      refine Wk.iconst X7 hx (hD d39_231) (n := 232) rfl (z := (3 : Int32)) rfl ?_
      refine Wk.isub X7 hx (hD d39_232) (n := 233) rfl ?_
      refine Wk.lload X7 hx (hD d39_233) (n := 235) rfl rfl ?_
      have cl8_ := fun Ls (hLs : LsOk c Ls) => Jvm.LawKit.callS X7 hx (y := mn40) hown (mW hZ hw 273 rfl) (mW hZ hw 274 rfl) (mW hZ hw 236 rfl) (mW hZ hw 275 rfl) (by decide) (backOf (W := 2) (rmDG l Z a0 hw [] w3_ z3 H7 n0 (by omega) y3 (by omega)) hZ (oW hw 275 rfl) (oW hw 236 rfl) (by decide) (by decide)) (g := mkF m 235 Ls [(.long w3_), (.int (e7_ - (3 : Int32))), (.ref eA)]) rfl hLs (argsL := [(.long w3_)]) (rest := [(.int (e7_ - (3 : Int32))), (.ref eA)]) (lenOf pd_27 rfl) rfl (leq0 rfl) (hD d39_235) (fun _ _ => ⟨rfl, e7, (by decide : 0 + 0 ≤ _), (by decide : 0 + 0 ≤ _)⟩)
      refine Wk.backS (n := 238) (rc := 0) (rs := 0) (Q := Q_rmDG Z w3_ z3 H7 n0) (cl8_ _ (lsok hml rfl)) fun vn8 T8 L8 X8 hQ8 => ?_
      clear cl8_
      obtain ⟨rfl, M8, e8⟩ := hQ8
      have N8 := Fr.app N7 M8
      show Wk p e below _ T8 (mkF m 238 _ [(.int (Int32.ofNat (48 + z3 % 10))), (.int (e7_ - (3 : Int32))), (.ref eA)])
      have qf3 : (e7_ - (3 : Int32)) = Int32.ofNat (cq.length + (kz - 3 - 1)) := by rw [qe]; exact own_endm (m := 3) rfl (by omega)
      obtain ⟨cl9, Ar9, qn9, Sz9, N_9, H_9, Gn9⟩ := id Un7
      have hin9 : ¬ ((e7_ - (3 : Int32)) < 0 ∨ cl9.slots.size ≤ ((e7_ - (3 : Int32))).toNatClampNeg) := inb_of Sz9 (by rw [qf3]; exact ⟨own_nonneg (by omega), (own_lt (b := 32) (by omega) (by decide)).mpr (by omega)⟩)
      refine Wk.stC X8 hx hZ e8 Ar9 hin9 (hD d39_238) (n := 239) rfl fun T9 H9 X9 e9 Wn9 => ?_
      have Vn9 := Arv.set Ar9 qn9 Sz9 N_9 H_9 Gn9 (fits_nar_char _) Wn9 (cq.length + ((kz - 3) - 1)) (by rw [qf3]; exact own_cl (by omega)) (by simp only [List.length_append, List.length_replicate, chV_len]; omega)
      have Un9 : Arv Z H9 eA ke .char (32 : Int32) (chV cq ++ List.replicate (kz - 4) (Value.int (0 : Int32)) ++ chV [(Int32.ofNat (48 + z3 % 10)), (Int32.ofNat (48 + z2 % 10)), (Int32.ofNat (48 + z1 % 10)), (Int32.ofNat (48 + (mg p1) % 10))]) (.int (0 : Int32)) := own_arv (own_stc' cq [(Int32.ofNat (48 + z2 % 10)), (Int32.ofNat (48 + z1 % 10)), (Int32.ofNat (48 + (mg p1) % 10))] (Int32.ofNat (48 + z3 % 10)) (r := (kz - 3)) (s := kz - 4) (own_dgn (Nat.mod_lt _ (by decide))) (by omega)) Vn9
      have sz9 := Wn9.size
      have K9 := K7.wr Wn9 (Or.inl (List.mem_of_getElem? (i := 0) rfl))
      have N9 := Fr.snoc X9 N8 (by omega)
      refine Wk.lload X9 hx (hD d39_239) (n := 241) rfl rfl ?_
      refine Wk.ldc2Long X9 hx hown (mW hZ hw 264 rfl) (hD d39_241) (n := 244) rfl ?_
      refine Wk.ldiv X9 hx (hD d39_244) (n := 245) rfl (by decide) ?_
      generalize hw4_ : (w3_ / (10 : Int64)) = w4_
      have y4 : w4_ = Int64.ofNat z4 := by rw [← hw4_, y3, (hz4 : z4 = z3 / 10)]; exact own_dv64 (b := 10) (by omega) (by decide)
      refine Wk.lstore X9 hx (hD d39_245) (n := 247) rfl (L' := #[.val (.ref eA), .val (.int i1), .val (.int p1), .val (.int i3), .val (.long j4), .second, .val (.int dd), .val (.int e7_), .val (.long w4_), .second]) rfl ?_
      refine Wk.iload X9 hx (hD d39_247) (n := 249) rfl rfl ?_
      refine Wk.iconst X9 hx (hD d39_249) (n := 250) rfl (z := (4 : Int32)) rfl ?_
      by_cases hc250 : (4 : Int32) < dd
      ·
       refine Wk.icmpNo X9 hx (hD d39_250) (n := 253) rfl (tlt hc250).2.2.2 ?_
       have gk4 : 4 < kz := by rw [hdd] at hc250; exact (own_lt (a := 4) (by decide) (by omega)).mp hc250
       refine Wk.aloadN X9 hx (hD d39_253) (n := 254) rfl rfl rfl ?_
       refine Wk.iload X9 hx (hD d39_254) (n := 256) rfl rfl ?_
       refine Wk.iconst X9 hx (hD d39_256) (n := 257) rfl (z := (4 : Int32)) rfl ?_
       refine Wk.isub X9 hx (hD d39_257) (n := 258) rfl ?_
       refine Wk.lload X9 hx (hD d39_258) (n := 260) rfl rfl ?_
       have cl10_ := fun Ls (hLs : LsOk c Ls) => Jvm.LawKit.callS X9 hx (y := mn40) hown (mW hZ hw 273 rfl) (mW hZ hw 274 rfl) (mW hZ hw 236 rfl) (mW hZ hw 275 rfl) (by decide) (backOf (W := 2) (rmDG l Z a0 hw [] w4_ z4 H9 n0 (by omega) y4 (by omega)) hZ (oW hw 275 rfl) (oW hw 236 rfl) (by decide) (by decide)) (g := mkF m 260 Ls [(.long w4_), (.int (e7_ - (4 : Int32))), (.ref eA)]) rfl hLs (argsL := [(.long w4_)]) (rest := [(.int (e7_ - (4 : Int32))), (.ref eA)]) (lenOf pd_27 rfl) rfl (leq0 rfl) (hD d39_260) (fun _ _ => ⟨rfl, e9, (by decide : 0 + 0 ≤ _), (by decide : 0 + 0 ≤ _)⟩)
       refine Wk.backS (n := 263) (rc := 0) (rs := 0) (Q := Q_rmDG Z w4_ z4 H9 n0) (cl10_ _ (lsok hml rfl)) fun vn10 T10 L10 X10 hQ10 => ?_
       clear cl10_
       obtain ⟨rfl, M10, e10⟩ := hQ10
       have N10 := Fr.app N9 M10
       show Wk p e below _ T10 (mkF m 263 _ [(.int (Int32.ofNat (48 + z4 % 10))), (.int (e7_ - (4 : Int32))), (.ref eA)])
       have qf4 : (e7_ - (4 : Int32)) = Int32.ofNat (cq.length + (kz - 4 - 1)) := by rw [qe]; exact own_endm (m := 4) rfl (by omega)
       obtain ⟨cl11, Ar11, qn11, Sz11, N_11, H_11, Gn11⟩ := id Un9
       have hin11 : ¬ ((e7_ - (4 : Int32)) < 0 ∨ cl11.slots.size ≤ ((e7_ - (4 : Int32))).toNatClampNeg) := inb_of Sz11 (by rw [qf4]; exact ⟨own_nonneg (by omega), (own_lt (b := 32) (by omega) (by decide)).mpr (by omega)⟩)
       refine Wk.stC X10 hx hZ e10 Ar11 hin11 (hD d39_263) (n := 264) rfl fun T11 H11 X11 e11 Wn11 => ?_
       have Vn11 := Arv.set Ar11 qn11 Sz11 N_11 H_11 Gn11 (fits_nar_char _) Wn11 (cq.length + ((kz - 4) - 1)) (by rw [qf4]; exact own_cl (by omega)) (by simp only [List.length_append, List.length_replicate, chV_len]; omega)
       have Un11 : Arv Z H11 eA ke .char (32 : Int32) (chV cq ++ List.replicate (kz - 5) (Value.int (0 : Int32)) ++ chV [(Int32.ofNat (48 + z4 % 10)), (Int32.ofNat (48 + z3 % 10)), (Int32.ofNat (48 + z2 % 10)), (Int32.ofNat (48 + z1 % 10)), (Int32.ofNat (48 + (mg p1) % 10))]) (.int (0 : Int32)) := own_arv (own_stc' cq [(Int32.ofNat (48 + z3 % 10)), (Int32.ofNat (48 + z2 % 10)), (Int32.ofNat (48 + z1 % 10)), (Int32.ofNat (48 + (mg p1) % 10))] (Int32.ofNat (48 + z4 % 10)) (r := (kz - 4)) (s := kz - 5) (own_dgn (Nat.mod_lt _ (by decide))) (by omega)) Vn11
       have sz11 := Wn11.size
       have K11 := K9.wr Wn11 (Or.inl (List.mem_of_getElem? (i := 0) rfl))
       have N11 := Fr.snoc X11 N10 (by omega)
       refine Wk.lload X11 hx (hD d39_264) (n := 266) rfl rfl ?_
       refine Wk.ldc2Long X11 hx hown (mW hZ hw 264 rfl) (hD d39_266) (n := 269) rfl ?_
       refine Wk.ldiv X11 hx (hD d39_269) (n := 270) rfl (by decide) ?_
       generalize hw5_ : (w4_ / (10 : Int64)) = w5_
       have y5 : w5_ = Int64.ofNat z5 := by rw [← hw5_, y4, (hz5 : z5 = z4 / 10)]; exact own_dv64 (b := 10) (by omega) (by decide)
       refine Wk.lstore X11 hx (hD d39_270) (n := 272) rfl (L' := #[.val (.ref eA), .val (.int i1), .val (.int p1), .val (.int i3), .val (.long j4), .second, .val (.int dd), .val (.int e7_), .val (.long w5_), .second]) rfl ?_
       refine Wk.iload X11 hx (hD d39_272) (n := 274) rfl rfl ?_
       refine Wk.iconst X11 hx (hD d39_274) (n := 275) rfl (z := (5 : Int32)) rfl ?_
       by_cases hc275 : (5 : Int32) < dd
       ·
        refine Wk.icmpNo X11 hx (hD d39_275) (n := 278) rfl (tlt hc275).2.2.2 ?_
        have gk5 : 5 < kz := by rw [hdd] at hc275; exact (own_lt (a := 5) (by decide) (by omega)).mp hc275
        refine Wk.aloadN X11 hx (hD d39_278) (n := 279) rfl rfl rfl ?_
        refine Wk.iload X11 hx (hD d39_279) (n := 281) rfl rfl ?_
        refine Wk.iconst X11 hx (hD d39_281) (n := 282) rfl (z := (5 : Int32)) rfl ?_
        refine Wk.isub X11 hx (hD d39_282) (n := 283) rfl ?_
        refine Wk.lload X11 hx (hD d39_283) (n := 285) rfl rfl ?_
        have cl12_ := fun Ls (hLs : LsOk c Ls) => Jvm.LawKit.callS X11 hx (y := mn40) hown (mW hZ hw 273 rfl) (mW hZ hw 274 rfl) (mW hZ hw 236 rfl) (mW hZ hw 275 rfl) (by decide) (backOf (W := 2) (rmDG l Z a0 hw [] w5_ z5 H11 n0 (by omega) y5 (by omega)) hZ (oW hw 275 rfl) (oW hw 236 rfl) (by decide) (by decide)) (g := mkF m 285 Ls [(.long w5_), (.int (e7_ - (5 : Int32))), (.ref eA)]) rfl hLs (argsL := [(.long w5_)]) (rest := [(.int (e7_ - (5 : Int32))), (.ref eA)]) (lenOf pd_27 rfl) rfl (leq0 rfl) (hD d39_285) (fun _ _ => ⟨rfl, e11, (by decide : 0 + 0 ≤ _), (by decide : 0 + 0 ≤ _)⟩)
        refine Wk.backS (n := 288) (rc := 0) (rs := 0) (Q := Q_rmDG Z w5_ z5 H11 n0) (cl12_ _ (lsok hml rfl)) fun vn12 T12 L12 X12 hQ12 => ?_
        clear cl12_
        obtain ⟨rfl, M12, e12⟩ := hQ12
        have N12 := Fr.app N11 M12
        show Wk p e below _ T12 (mkF m 288 _ [(.int (Int32.ofNat (48 + z5 % 10))), (.int (e7_ - (5 : Int32))), (.ref eA)])
        have qf5 : (e7_ - (5 : Int32)) = Int32.ofNat (cq.length + (kz - 5 - 1)) := by rw [qe]; exact own_endm (m := 5) rfl (by omega)
        obtain ⟨cl13, Ar13, qn13, Sz13, N_13, H_13, Gn13⟩ := id Un11
        have hin13 : ¬ ((e7_ - (5 : Int32)) < 0 ∨ cl13.slots.size ≤ ((e7_ - (5 : Int32))).toNatClampNeg) := inb_of Sz13 (by rw [qf5]; exact ⟨own_nonneg (by omega), (own_lt (b := 32) (by omega) (by decide)).mpr (by omega)⟩)
        refine Wk.stC X12 hx hZ e12 Ar13 hin13 (hD d39_288) (n := 289) rfl fun T13 H13 X13 e13 Wn13 => ?_
        have Vn13 := Arv.set Ar13 qn13 Sz13 N_13 H_13 Gn13 (fits_nar_char _) Wn13 (cq.length + ((kz - 5) - 1)) (by rw [qf5]; exact own_cl (by omega)) (by simp only [List.length_append, List.length_replicate, chV_len]; omega)
        have Un13 : Arv Z H13 eA ke .char (32 : Int32) (chV cq ++ List.replicate (kz - 6) (Value.int (0 : Int32)) ++ chV [(Int32.ofNat (48 + z5 % 10)), (Int32.ofNat (48 + z4 % 10)), (Int32.ofNat (48 + z3 % 10)), (Int32.ofNat (48 + z2 % 10)), (Int32.ofNat (48 + z1 % 10)), (Int32.ofNat (48 + (mg p1) % 10))]) (.int (0 : Int32)) := own_arv (own_stc' cq [(Int32.ofNat (48 + z4 % 10)), (Int32.ofNat (48 + z3 % 10)), (Int32.ofNat (48 + z2 % 10)), (Int32.ofNat (48 + z1 % 10)), (Int32.ofNat (48 + (mg p1) % 10))] (Int32.ofNat (48 + z5 % 10)) (r := (kz - 5)) (s := kz - 6) (own_dgn (Nat.mod_lt _ (by decide))) (by omega)) Vn13
        have sz13 := Wn13.size
        have K13 := K11.wr Wn13 (Or.inl (List.mem_of_getElem? (i := 0) rfl))
        have N13 := Fr.snoc X13 N12 (by omega)
        refine Wk.lload X13 hx (hD d39_289) (n := 291) rfl rfl ?_
        refine Wk.ldc2Long X13 hx hown (mW hZ hw 264 rfl) (hD d39_291) (n := 294) rfl ?_
        refine Wk.ldiv X13 hx (hD d39_294) (n := 295) rfl (by decide) ?_
        generalize hw6_ : (w5_ / (10 : Int64)) = w6_
        have y6 : w6_ = Int64.ofNat z6 := by rw [← hw6_, y5, (hz6 : z6 = z5 / 10)]; exact own_dv64 (b := 10) (by omega) (by decide)
        refine Wk.lstore X13 hx (hD d39_295) (n := 297) rfl (L' := #[.val (.ref eA), .val (.int i1), .val (.int p1), .val (.int i3), .val (.long j4), .second, .val (.int dd), .val (.int e7_), .val (.long w6_), .second]) rfl ?_
        refine Wk.iload X13 hx (hD d39_297) (n := 299) rfl rfl ?_
        refine Wk.bipush X13 hx (hD d39_299) (n := 301) rfl (z := (6 : Int32)) rfl ?_
        by_cases hc301 : (6 : Int32) < dd
        ·
         refine Wk.icmpNo X13 hx (hD d39_301) (n := 304) rfl (tlt hc301).2.2.2 ?_
         have gk6 : 6 < kz := by rw [hdd] at hc301; exact (own_lt (a := 6) (by decide) (by omega)).mp hc301
         refine Wk.aloadN X13 hx (hD d39_304) (n := 305) rfl rfl rfl ?_
         refine Wk.iload X13 hx (hD d39_305) (n := 307) rfl rfl ?_
         refine Wk.bipush X13 hx (hD d39_307) (n := 309) rfl (z := (6 : Int32)) rfl ?_
         refine Wk.isub X13 hx (hD d39_309) (n := 310) rfl ?_
         refine Wk.lload X13 hx (hD d39_310) (n := 312) rfl rfl ?_
         have cl14_ := fun Ls (hLs : LsOk c Ls) => Jvm.LawKit.callS X13 hx (y := mn40) hown (mW hZ hw 273 rfl) (mW hZ hw 274 rfl) (mW hZ hw 236 rfl) (mW hZ hw 275 rfl) (by decide) (backOf (W := 2) (rmDG l Z a0 hw [] w6_ z6 H13 n0 (by omega) y6 (by omega)) hZ (oW hw 275 rfl) (oW hw 236 rfl) (by decide) (by decide)) (g := mkF m 312 Ls [(.long w6_), (.int (e7_ - (6 : Int32))), (.ref eA)]) rfl hLs (argsL := [(.long w6_)]) (rest := [(.int (e7_ - (6 : Int32))), (.ref eA)]) (lenOf pd_27 rfl) rfl (leq0 rfl) (hD d39_312) (fun _ _ => ⟨rfl, e13, (by decide : 0 + 0 ≤ _), (by decide : 0 + 0 ≤ _)⟩)
         refine Wk.backS (n := 315) (rc := 0) (rs := 0) (Q := Q_rmDG Z w6_ z6 H13 n0) (cl14_ _ (lsok hml rfl)) fun vn14 T14 L14 X14 hQ14 => ?_
         clear cl14_
         obtain ⟨rfl, M14, e14⟩ := hQ14
         have N14 := Fr.app N13 M14
         show Wk p e below _ T14 (mkF m 315 _ [(.int (Int32.ofNat (48 + z6 % 10))), (.int (e7_ - (6 : Int32))), (.ref eA)])
         have qf6 : (e7_ - (6 : Int32)) = Int32.ofNat (cq.length + (kz - 6 - 1)) := by rw [qe]; exact own_endm (m := 6) rfl (by omega)
         obtain ⟨cl15, Ar15, qn15, Sz15, N_15, H_15, Gn15⟩ := id Un13
         have hin15 : ¬ ((e7_ - (6 : Int32)) < 0 ∨ cl15.slots.size ≤ ((e7_ - (6 : Int32))).toNatClampNeg) := inb_of Sz15 (by rw [qf6]; exact ⟨own_nonneg (by omega), (own_lt (b := 32) (by omega) (by decide)).mpr (by omega)⟩)
         refine Wk.stC X14 hx hZ e14 Ar15 hin15 (hD d39_315) (n := 316) rfl fun T15 H15 X15 e15 Wn15 => ?_
         have Vn15 := Arv.set Ar15 qn15 Sz15 N_15 H_15 Gn15 (fits_nar_char _) Wn15 (cq.length + ((kz - 6) - 1)) (by rw [qf6]; exact own_cl (by omega)) (by simp only [List.length_append, List.length_replicate, chV_len]; omega)
         have Un15 : Arv Z H15 eA ke .char (32 : Int32) (chV cq ++ List.replicate (kz - 7) (Value.int (0 : Int32)) ++ chV [(Int32.ofNat (48 + z6 % 10)), (Int32.ofNat (48 + z5 % 10)), (Int32.ofNat (48 + z4 % 10)), (Int32.ofNat (48 + z3 % 10)), (Int32.ofNat (48 + z2 % 10)), (Int32.ofNat (48 + z1 % 10)), (Int32.ofNat (48 + (mg p1) % 10))]) (.int (0 : Int32)) := own_arv (own_stc' cq [(Int32.ofNat (48 + z5 % 10)), (Int32.ofNat (48 + z4 % 10)), (Int32.ofNat (48 + z3 % 10)), (Int32.ofNat (48 + z2 % 10)), (Int32.ofNat (48 + z1 % 10)), (Int32.ofNat (48 + (mg p1) % 10))] (Int32.ofNat (48 + z6 % 10)) (r := (kz - 6)) (s := kz - 7) (own_dgn (Nat.mod_lt _ (by decide))) (by omega)) Vn15
         have sz15 := Wn15.size
         have K15 := K13.wr Wn15 (Or.inl (List.mem_of_getElem? (i := 0) rfl))
         have N15 := Fr.snoc X15 N14 (by omega)
         refine Wk.lload X15 hx (hD d39_316) (n := 318) rfl rfl ?_
         refine Wk.ldc2Long X15 hx hown (mW hZ hw 264 rfl) (hD d39_318) (n := 321) rfl ?_
         refine Wk.ldiv X15 hx (hD d39_321) (n := 322) rfl (by decide) ?_
         generalize hw7_ : (w6_ / (10 : Int64)) = w7_
         have y7 : w7_ = Int64.ofNat z7 := by rw [← hw7_, y6, (hz7 : z7 = z6 / 10)]; exact own_dv64 (b := 10) (by omega) (by decide)
         refine Wk.lstore X15 hx (hD d39_322) (n := 324) rfl (L' := #[.val (.ref eA), .val (.int i1), .val (.int p1), .val (.int i3), .val (.long j4), .second, .val (.int dd), .val (.int e7_), .val (.long w7_), .second]) rfl ?_
         refine Wk.iload X15 hx (hD d39_324) (n := 326) rfl rfl ?_
         refine Wk.bipush X15 hx (hD d39_326) (n := 328) rfl (z := (7 : Int32)) rfl ?_
         by_cases hc328 : (7 : Int32) < dd
         ·
          refine Wk.icmpNo X15 hx (hD d39_328) (n := 331) rfl (tlt hc328).2.2.2 ?_
          have gk7 : 7 < kz := by rw [hdd] at hc328; exact (own_lt (a := 7) (by decide) (by omega)).mp hc328
          refine Wk.aloadN X15 hx (hD d39_331) (n := 332) rfl rfl rfl ?_
          refine Wk.iload X15 hx (hD d39_332) (n := 334) rfl rfl ?_
          refine Wk.bipush X15 hx (hD d39_334) (n := 336) rfl (z := (7 : Int32)) rfl ?_
          refine Wk.isub X15 hx (hD d39_336) (n := 337) rfl ?_
          refine Wk.lload X15 hx (hD d39_337) (n := 339) rfl rfl ?_
          have cl16_ := fun Ls (hLs : LsOk c Ls) => Jvm.LawKit.callS X15 hx (y := mn40) hown (mW hZ hw 273 rfl) (mW hZ hw 274 rfl) (mW hZ hw 236 rfl) (mW hZ hw 275 rfl) (by decide) (backOf (W := 2) (rmDG l Z a0 hw [] w7_ z7 H15 n0 (by omega) y7 (by omega)) hZ (oW hw 275 rfl) (oW hw 236 rfl) (by decide) (by decide)) (g := mkF m 339 Ls [(.long w7_), (.int (e7_ - (7 : Int32))), (.ref eA)]) rfl hLs (argsL := [(.long w7_)]) (rest := [(.int (e7_ - (7 : Int32))), (.ref eA)]) (lenOf pd_27 rfl) rfl (leq0 rfl) (hD d39_339) (fun _ _ => ⟨rfl, e15, (by decide : 0 + 0 ≤ _), (by decide : 0 + 0 ≤ _)⟩)
          refine Wk.backS (n := 342) (rc := 0) (rs := 0) (Q := Q_rmDG Z w7_ z7 H15 n0) (cl16_ _ (lsok hml rfl)) fun vn16 T16 L16 X16 hQ16 => ?_
          clear cl16_
          obtain ⟨rfl, M16, e16⟩ := hQ16
          have N16 := Fr.app N15 M16
          show Wk p e below _ T16 (mkF m 342 _ [(.int (Int32.ofNat (48 + z7 % 10))), (.int (e7_ - (7 : Int32))), (.ref eA)])
          have qf7 : (e7_ - (7 : Int32)) = Int32.ofNat (cq.length + (kz - 7 - 1)) := by rw [qe]; exact own_endm (m := 7) rfl (by omega)
          obtain ⟨cl17, Ar17, qn17, Sz17, N_17, H_17, Gn17⟩ := id Un15
          have hin17 : ¬ ((e7_ - (7 : Int32)) < 0 ∨ cl17.slots.size ≤ ((e7_ - (7 : Int32))).toNatClampNeg) := inb_of Sz17 (by rw [qf7]; exact ⟨own_nonneg (by omega), (own_lt (b := 32) (by omega) (by decide)).mpr (by omega)⟩)
          refine Wk.stC X16 hx hZ e16 Ar17 hin17 (hD d39_342) (n := 343) rfl fun T17 H17 X17 e17 Wn17 => ?_
          have Vn17 := Arv.set Ar17 qn17 Sz17 N_17 H_17 Gn17 (fits_nar_char _) Wn17 (cq.length + ((kz - 7) - 1)) (by rw [qf7]; exact own_cl (by omega)) (by simp only [List.length_append, List.length_replicate, chV_len]; omega)
          have Un17 : Arv Z H17 eA ke .char (32 : Int32) (chV cq ++ List.replicate (kz - 8) (Value.int (0 : Int32)) ++ chV [(Int32.ofNat (48 + z7 % 10)), (Int32.ofNat (48 + z6 % 10)), (Int32.ofNat (48 + z5 % 10)), (Int32.ofNat (48 + z4 % 10)), (Int32.ofNat (48 + z3 % 10)), (Int32.ofNat (48 + z2 % 10)), (Int32.ofNat (48 + z1 % 10)), (Int32.ofNat (48 + (mg p1) % 10))]) (.int (0 : Int32)) := own_arv (own_stc' cq [(Int32.ofNat (48 + z6 % 10)), (Int32.ofNat (48 + z5 % 10)), (Int32.ofNat (48 + z4 % 10)), (Int32.ofNat (48 + z3 % 10)), (Int32.ofNat (48 + z2 % 10)), (Int32.ofNat (48 + z1 % 10)), (Int32.ofNat (48 + (mg p1) % 10))] (Int32.ofNat (48 + z7 % 10)) (r := (kz - 7)) (s := kz - 8) (own_dgn (Nat.mod_lt _ (by decide))) (by omega)) Vn17
          have sz17 := Wn17.size
          have K17 := K15.wr Wn17 (Or.inl (List.mem_of_getElem? (i := 0) rfl))
          have N17 := Fr.snoc X17 N16 (by omega)
          refine Wk.lload X17 hx (hD d39_343) (n := 345) rfl rfl ?_
          refine Wk.ldc2Long X17 hx hown (mW hZ hw 264 rfl) (hD d39_345) (n := 348) rfl ?_
          refine Wk.ldiv X17 hx (hD d39_348) (n := 349) rfl (by decide) ?_
          generalize hw8_ : (w7_ / (10 : Int64)) = w8_
          have y8 : w8_ = Int64.ofNat z8 := by rw [← hw8_, y7, (hz8 : z8 = z7 / 10)]; exact own_dv64 (b := 10) (by omega) (by decide)
          refine Wk.lstore X17 hx (hD d39_349) (n := 351) rfl (L' := #[.val (.ref eA), .val (.int i1), .val (.int p1), .val (.int i3), .val (.long j4), .second, .val (.int dd), .val (.int e7_), .val (.long w8_), .second]) rfl ?_
          refine Wk.iload X17 hx (hD d39_351) (n := 353) rfl rfl ?_
          refine Wk.bipush X17 hx (hD d39_353) (n := 355) rfl (z := (8 : Int32)) rfl ?_
          by_cases hc355 : (8 : Int32) < dd
          ·
           refine Wk.icmpNo X17 hx (hD d39_355) (n := 358) rfl (tlt hc355).2.2.2 ?_
           have gk8 : 8 < kz := by rw [hdd] at hc355; exact (own_lt (a := 8) (by decide) (by omega)).mp hc355
           refine Wk.aloadN X17 hx (hD d39_358) (n := 359) rfl rfl rfl ?_
           refine Wk.iload X17 hx (hD d39_359) (n := 361) rfl rfl ?_
           refine Wk.bipush X17 hx (hD d39_361) (n := 363) rfl (z := (8 : Int32)) rfl ?_
           refine Wk.isub X17 hx (hD d39_363) (n := 364) rfl ?_
           refine Wk.lload X17 hx (hD d39_364) (n := 366) rfl rfl ?_
           have cl18_ := fun Ls (hLs : LsOk c Ls) => Jvm.LawKit.callS X17 hx (y := mn40) hown (mW hZ hw 273 rfl) (mW hZ hw 274 rfl) (mW hZ hw 236 rfl) (mW hZ hw 275 rfl) (by decide) (backOf (W := 2) (rmDG l Z a0 hw [] w8_ z8 H17 n0 (by omega) y8 (by omega)) hZ (oW hw 275 rfl) (oW hw 236 rfl) (by decide) (by decide)) (g := mkF m 366 Ls [(.long w8_), (.int (e7_ - (8 : Int32))), (.ref eA)]) rfl hLs (argsL := [(.long w8_)]) (rest := [(.int (e7_ - (8 : Int32))), (.ref eA)]) (lenOf pd_27 rfl) rfl (leq0 rfl) (hD d39_366) (fun _ _ => ⟨rfl, e17, (by decide : 0 + 0 ≤ _), (by decide : 0 + 0 ≤ _)⟩)
           refine Wk.backS (n := 369) (rc := 0) (rs := 0) (Q := Q_rmDG Z w8_ z8 H17 n0) (cl18_ _ (lsok hml rfl)) fun vn18 T18 L18 X18 hQ18 => ?_
           clear cl18_
           obtain ⟨rfl, M18, e18⟩ := hQ18
           have N18 := Fr.app N17 M18
           show Wk p e below _ T18 (mkF m 369 _ [(.int (Int32.ofNat (48 + z8 % 10))), (.int (e7_ - (8 : Int32))), (.ref eA)])
           have qf8 : (e7_ - (8 : Int32)) = Int32.ofNat (cq.length + (kz - 8 - 1)) := by rw [qe]; exact own_endm (m := 8) rfl (by omega)
           obtain ⟨cl19, Ar19, qn19, Sz19, N_19, H_19, Gn19⟩ := id Un17
           have hin19 : ¬ ((e7_ - (8 : Int32)) < 0 ∨ cl19.slots.size ≤ ((e7_ - (8 : Int32))).toNatClampNeg) := inb_of Sz19 (by rw [qf8]; exact ⟨own_nonneg (by omega), (own_lt (b := 32) (by omega) (by decide)).mpr (by omega)⟩)
           refine Wk.stC X18 hx hZ e18 Ar19 hin19 (hD d39_369) (n := 370) rfl fun T19 H19 X19 e19 Wn19 => ?_
           have Vn19 := Arv.set Ar19 qn19 Sz19 N_19 H_19 Gn19 (fits_nar_char _) Wn19 (cq.length + ((kz - 8) - 1)) (by rw [qf8]; exact own_cl (by omega)) (by simp only [List.length_append, List.length_replicate, chV_len]; omega)
           have Un19 : Arv Z H19 eA ke .char (32 : Int32) (chV cq ++ List.replicate (kz - 9) (Value.int (0 : Int32)) ++ chV [(Int32.ofNat (48 + z8 % 10)), (Int32.ofNat (48 + z7 % 10)), (Int32.ofNat (48 + z6 % 10)), (Int32.ofNat (48 + z5 % 10)), (Int32.ofNat (48 + z4 % 10)), (Int32.ofNat (48 + z3 % 10)), (Int32.ofNat (48 + z2 % 10)), (Int32.ofNat (48 + z1 % 10)), (Int32.ofNat (48 + (mg p1) % 10))]) (.int (0 : Int32)) := own_arv (own_stc' cq [(Int32.ofNat (48 + z7 % 10)), (Int32.ofNat (48 + z6 % 10)), (Int32.ofNat (48 + z5 % 10)), (Int32.ofNat (48 + z4 % 10)), (Int32.ofNat (48 + z3 % 10)), (Int32.ofNat (48 + z2 % 10)), (Int32.ofNat (48 + z1 % 10)), (Int32.ofNat (48 + (mg p1) % 10))] (Int32.ofNat (48 + z8 % 10)) (r := (kz - 8)) (s := kz - 9) (own_dgn (Nat.mod_lt _ (by decide))) (by omega)) Vn19
           have sz19 := Wn19.size
           have K19 := K17.wr Wn19 (Or.inl (List.mem_of_getElem? (i := 0) rfl))
           have N19 := Fr.snoc X19 N18 (by omega)
           refine Wk.lload X19 hx (hD d39_370) (n := 372) rfl rfl ?_
           refine Wk.ldc2Long X19 hx hown (mW hZ hw 264 rfl) (hD d39_372) (n := 375) rfl ?_
           refine Wk.ldiv X19 hx (hD d39_375) (n := 376) rfl (by decide) ?_
           generalize hw9_ : (w8_ / (10 : Int64)) = w9_
           have y9 : w9_ = Int64.ofNat z9 := by rw [← hw9_, y8, (hz9 : z9 = z8 / 10)]; exact own_dv64 (b := 10) (by omega) (by decide)
           refine Wk.lstore X19 hx (hD d39_376) (n := 378) rfl (L' := #[.val (.ref eA), .val (.int i1), .val (.int p1), .val (.int i3), .val (.long j4), .second, .val (.int dd), .val (.int e7_), .val (.long w9_), .second]) rfl ?_
           refine Wk.iload X19 hx (hD d39_378) (n := 380) rfl rfl ?_
           refine Wk.bipush X19 hx (hD d39_380) (n := 382) rfl (z := (9 : Int32)) rfl ?_
           by_cases hc382 : (9 : Int32) < dd
           ·
            refine Wk.icmpNo X19 hx (hD d39_382) (n := 385) rfl (tlt hc382).2.2.2 ?_
            have gk9 : 9 < kz := by rw [hdd] at hc382; exact (own_lt (a := 9) (by decide) (by omega)).mp hc382
            refine Wk.aloadN X19 hx (hD d39_385) (n := 386) rfl rfl rfl ?_
            refine Wk.iload X19 hx (hD d39_386) (n := 388) rfl rfl ?_
            refine Wk.bipush X19 hx (hD d39_388) (n := 390) rfl (z := (9 : Int32)) rfl ?_
            refine Wk.isub X19 hx (hD d39_390) (n := 391) rfl ?_
            refine Wk.lload X19 hx (hD d39_391) (n := 393) rfl rfl ?_
            have cl20_ := fun Ls (hLs : LsOk c Ls) => Jvm.LawKit.callS X19 hx (y := mn40) hown (mW hZ hw 273 rfl) (mW hZ hw 274 rfl) (mW hZ hw 236 rfl) (mW hZ hw 275 rfl) (by decide) (backOf (W := 2) (rmDG l Z a0 hw [] w9_ z9 H19 n0 (by omega) y9 (by omega)) hZ (oW hw 275 rfl) (oW hw 236 rfl) (by decide) (by decide)) (g := mkF m 393 Ls [(.long w9_), (.int (e7_ - (9 : Int32))), (.ref eA)]) rfl hLs (argsL := [(.long w9_)]) (rest := [(.int (e7_ - (9 : Int32))), (.ref eA)]) (lenOf pd_27 rfl) rfl (leq0 rfl) (hD d39_393) (fun _ _ => ⟨rfl, e19, (by decide : 0 + 0 ≤ _), (by decide : 0 + 0 ≤ _)⟩)
            refine Wk.backS (n := 396) (rc := 0) (rs := 0) (Q := Q_rmDG Z w9_ z9 H19 n0) (cl20_ _ (lsok hml rfl)) fun vn20 T20 L20 X20 hQ20 => ?_
            clear cl20_
            obtain ⟨rfl, M20, e20⟩ := hQ20
            have N20 := Fr.app N19 M20
            show Wk p e below _ T20 (mkF m 396 _ [(.int (Int32.ofNat (48 + z9 % 10))), (.int (e7_ - (9 : Int32))), (.ref eA)])
            have qf9 : (e7_ - (9 : Int32)) = Int32.ofNat (cq.length + (kz - 9 - 1)) := by rw [qe]; exact own_endm (m := 9) rfl (by omega)
            obtain ⟨cl21, Ar21, qn21, Sz21, N_21, H_21, Gn21⟩ := id Un19
            have hin21 : ¬ ((e7_ - (9 : Int32)) < 0 ∨ cl21.slots.size ≤ ((e7_ - (9 : Int32))).toNatClampNeg) := inb_of Sz21 (by rw [qf9]; exact ⟨own_nonneg (by omega), (own_lt (b := 32) (by omega) (by decide)).mpr (by omega)⟩)
            refine Wk.stC X20 hx hZ e20 Ar21 hin21 (hD d39_396) (n := 397) rfl fun T21 H21 X21 e21 Wn21 => ?_
            have Vn21 := Arv.set Ar21 qn21 Sz21 N_21 H_21 Gn21 (fits_nar_char _) Wn21 (cq.length + ((kz - 9) - 1)) (by rw [qf9]; exact own_cl (by omega)) (by simp only [List.length_append, List.length_replicate, chV_len]; omega)
            have Un21 : Arv Z H21 eA ke .char (32 : Int32) (chV cq ++ List.replicate (kz - 10) (Value.int (0 : Int32)) ++ chV [(Int32.ofNat (48 + z9 % 10)), (Int32.ofNat (48 + z8 % 10)), (Int32.ofNat (48 + z7 % 10)), (Int32.ofNat (48 + z6 % 10)), (Int32.ofNat (48 + z5 % 10)), (Int32.ofNat (48 + z4 % 10)), (Int32.ofNat (48 + z3 % 10)), (Int32.ofNat (48 + z2 % 10)), (Int32.ofNat (48 + z1 % 10)), (Int32.ofNat (48 + (mg p1) % 10))]) (.int (0 : Int32)) := own_arv (own_stc' cq [(Int32.ofNat (48 + z8 % 10)), (Int32.ofNat (48 + z7 % 10)), (Int32.ofNat (48 + z6 % 10)), (Int32.ofNat (48 + z5 % 10)), (Int32.ofNat (48 + z4 % 10)), (Int32.ofNat (48 + z3 % 10)), (Int32.ofNat (48 + z2 % 10)), (Int32.ofNat (48 + z1 % 10)), (Int32.ofNat (48 + (mg p1) % 10))] (Int32.ofNat (48 + z9 % 10)) (r := (kz - 9)) (s := kz - 10) (own_dgn (Nat.mod_lt _ (by decide))) (by omega)) Vn21
            have sz21 := Wn21.size
            have K21 := K19.wr Wn21 (Or.inl (List.mem_of_getElem? (i := 0) rfl))
            have N21 := Fr.snoc X21 N20 (by omega)
            refine Wk.iloadN X21 hx (hD d39_397) (n := 398) rfl rfl ?_
            refine Wk.iload X21 hx (hD d39_398) (n := 400) rfl rfl ?_
            refine Wk.iadd X21 hx (hD d39_400) (n := 401) rfl ?_
            have gl : kz = 10 := by omega
            have hdl : dl (mg p1) = [(Int32.ofNat (48 + z9 % 10)), (Int32.ofNat (48 + z8 % 10)), (Int32.ofNat (48 + z7 % 10)), (Int32.ofNat (48 + z6 % 10)), (Int32.ofNat (48 + z5 % 10)), (Int32.ofNat (48 + z4 % 10)), (Int32.ofNat (48 + z3 % 10)), (Int32.ofNat (48 + z2 % 10)), (Int32.ofNat (48 + z1 % 10)), (Int32.ofNat (48 + (mg p1) % 10))] := by have q := own_dl10 (n := mg p1) (by omega); rw [← (hz1 : z1 = (mg p1) / 10), ← (hz2 : z2 = z1 / 10), ← (hz3 : z3 = z2 / 10), ← (hz4 : z4 = z3 / 10), ← (hz5 : z5 = z4 / 10), ← (hz6 : z6 = z5 / 10), ← (hz7 : z7 = z6 / 10), ← (hz8 : z8 = z7 / 10), ← (hz9 : z9 = z8 / 10)] at q; exact q
            exact Wk.leave X21 (v := some (.int (i3 + dd))) (fun h => by rw [Bd.returns] at h; cases h) hlk e21 ⟨(congrArg (fun z => some (Value.int z)) (own_rl hcq hkz q3 hdd)), N21, K21, (own_arv (own_finc (r := kz - 10) hcq hdl (by omega)) Un21)⟩ (by decide) (by decide) (fun fs hr => retI X21 hx Bd.returns (hD d39_401) hr)
           ·
            refine Wk.icmpYes X19 hx (hD d39_382) (flt hc382).2.2.2 (by decide) (n := 397) (by decide) ?_
            have gl : kz = 9 := by have q : ¬ 9 < kz := fun q => hc382 (by rw [hdd]; exact (own_lt (a := 9) (by decide) (by omega)).mpr q); omega
            refine Wk.iloadN X19 hx (hD d39_397) (n := 398) rfl rfl ?_
            refine Wk.iload X19 hx (hD d39_398) (n := 400) rfl rfl ?_
            refine Wk.iadd X19 hx (hD d39_400) (n := 401) rfl ?_
            have hdl : dl (mg p1) = [(Int32.ofNat (48 + z8 % 10)), (Int32.ofNat (48 + z7 % 10)), (Int32.ofNat (48 + z6 % 10)), (Int32.ofNat (48 + z5 % 10)), (Int32.ofNat (48 + z4 % 10)), (Int32.ofNat (48 + z3 % 10)), (Int32.ofNat (48 + z2 % 10)), (Int32.ofNat (48 + z1 % 10)), (Int32.ofNat (48 + (mg p1) % 10))] := by have q := own_dl9 (n := mg p1) (by omega); rw [← (hz1 : z1 = (mg p1) / 10), ← (hz2 : z2 = z1 / 10), ← (hz3 : z3 = z2 / 10), ← (hz4 : z4 = z3 / 10), ← (hz5 : z5 = z4 / 10), ← (hz6 : z6 = z5 / 10), ← (hz7 : z7 = z6 / 10), ← (hz8 : z8 = z7 / 10)] at q; exact q
            exact Wk.leave X19 (v := some (.int (i3 + dd))) (fun h => by rw [Bd.returns] at h; cases h) hlk e19 ⟨(congrArg (fun z => some (Value.int z)) (own_rl hcq hkz q3 hdd)), N19, K19, (own_arv (own_finc (r := kz - 9) hcq hdl (by omega)) Un19)⟩ (by decide) (by decide) (fun fs hr => retI X19 hx Bd.returns (hD d39_401) hr)
          ·
           refine Wk.icmpYes X17 hx (hD d39_355) (flt hc355).2.2.2 (by decide) (n := 370) (by decide) ?_
           have gl : kz = 8 := by have q : ¬ 8 < kz := fun q => hc355 (by rw [hdd]; exact (own_lt (a := 8) (by decide) (by omega)).mpr q); omega
           refine Wk.lload X17 hx (hD d39_370) (n := 372) rfl rfl ?_
           refine Wk.ldc2Long X17 hx hown (mW hZ hw 264 rfl) (hD d39_372) (n := 375) rfl ?_
           refine Wk.ldiv X17 hx (hD d39_375) (n := 376) rfl (by decide) ?_
           generalize (w8_ / (10 : Int64)) = w9_
           refine Wk.lstore X17 hx (hD d39_376) (n := 378) rfl (L' := #[.val (.ref eA), .val (.int i1), .val (.int p1), .val (.int i3), .val (.long j4), .second, .val (.int dd), .val (.int e7_), .val (.long w9_), .second]) rfl ?_
           refine Wk.iload X17 hx (hD d39_378) (n := 380) rfl rfl ?_
           refine Wk.bipush X17 hx (hD d39_380) (n := 382) rfl (z := (9 : Int32)) rfl ?_
           have hc382_22 : ¬ ((9 : Int32) < dd) := by rw [hdd]; exact own_nl (a := 9) (by omega)
           refine Wk.icmpYes X17 hx (hD d39_382) (flt hc382_22).2.2.2 (by decide) (n := 397) (by decide) ?_
           refine Wk.iloadN X17 hx (hD d39_397) (n := 398) rfl rfl ?_
           refine Wk.iload X17 hx (hD d39_398) (n := 400) rfl rfl ?_
           refine Wk.iadd X17 hx (hD d39_400) (n := 401) rfl ?_
           have hdl : dl (mg p1) = [(Int32.ofNat (48 + z7 % 10)), (Int32.ofNat (48 + z6 % 10)), (Int32.ofNat (48 + z5 % 10)), (Int32.ofNat (48 + z4 % 10)), (Int32.ofNat (48 + z3 % 10)), (Int32.ofNat (48 + z2 % 10)), (Int32.ofNat (48 + z1 % 10)), (Int32.ofNat (48 + (mg p1) % 10))] := by have q := own_dl8 (n := mg p1) (by omega); rw [← (hz1 : z1 = (mg p1) / 10), ← (hz2 : z2 = z1 / 10), ← (hz3 : z3 = z2 / 10), ← (hz4 : z4 = z3 / 10), ← (hz5 : z5 = z4 / 10), ← (hz6 : z6 = z5 / 10), ← (hz7 : z7 = z6 / 10)] at q; exact q
           exact Wk.leave X17 (v := some (.int (i3 + dd))) (fun h => by rw [Bd.returns] at h; cases h) hlk e17 ⟨(congrArg (fun z => some (Value.int z)) (own_rl hcq hkz q3 hdd)), N17, K17, (own_arv (own_finc (r := kz - 8) hcq hdl (by omega)) Un17)⟩ (by decide) (by decide) (fun fs hr => retI X17 hx Bd.returns (hD d39_401) hr)
         ·
          refine Wk.icmpYes X15 hx (hD d39_328) (flt hc328).2.2.2 (by decide) (n := 343) (by decide) ?_
          have gl : kz = 7 := by have q : ¬ 7 < kz := fun q => hc328 (by rw [hdd]; exact (own_lt (a := 7) (by decide) (by omega)).mpr q); omega
          refine Wk.lload X15 hx (hD d39_343) (n := 345) rfl rfl ?_
          refine Wk.ldc2Long X15 hx hown (mW hZ hw 264 rfl) (hD d39_345) (n := 348) rfl ?_
          refine Wk.ldiv X15 hx (hD d39_348) (n := 349) rfl (by decide) ?_
          generalize (w7_ / (10 : Int64)) = w8_
          refine Wk.lstore X15 hx (hD d39_349) (n := 351) rfl (L' := #[.val (.ref eA), .val (.int i1), .val (.int p1), .val (.int i3), .val (.long j4), .second, .val (.int dd), .val (.int e7_), .val (.long w8_), .second]) rfl ?_
          refine Wk.iload X15 hx (hD d39_351) (n := 353) rfl rfl ?_
          refine Wk.bipush X15 hx (hD d39_353) (n := 355) rfl (z := (8 : Int32)) rfl ?_
          have hc355_23 : ¬ ((8 : Int32) < dd) := by rw [hdd]; exact own_nl (a := 8) (by omega)
          refine Wk.icmpYes X15 hx (hD d39_355) (flt hc355_23).2.2.2 (by decide) (n := 370) (by decide) ?_
          refine Wk.lload X15 hx (hD d39_370) (n := 372) rfl rfl ?_
          refine Wk.ldc2Long X15 hx hown (mW hZ hw 264 rfl) (hD d39_372) (n := 375) rfl ?_
          refine Wk.ldiv X15 hx (hD d39_375) (n := 376) rfl (by decide) ?_
          generalize (w8_ / (10 : Int64)) = w9_
          refine Wk.lstore X15 hx (hD d39_376) (n := 378) rfl (L' := #[.val (.ref eA), .val (.int i1), .val (.int p1), .val (.int i3), .val (.long j4), .second, .val (.int dd), .val (.int e7_), .val (.long w9_), .second]) rfl ?_
          refine Wk.iload X15 hx (hD d39_378) (n := 380) rfl rfl ?_
          refine Wk.bipush X15 hx (hD d39_380) (n := 382) rfl (z := (9 : Int32)) rfl ?_
          have hc382_24 : ¬ ((9 : Int32) < dd) := by rw [hdd]; exact own_nl (a := 9) (by omega)
          refine Wk.icmpYes X15 hx (hD d39_382) (flt hc382_24).2.2.2 (by decide) (n := 397) (by decide) ?_
          refine Wk.iloadN X15 hx (hD d39_397) (n := 398) rfl rfl ?_
          refine Wk.iload X15 hx (hD d39_398) (n := 400) rfl rfl ?_
          refine Wk.iadd X15 hx (hD d39_400) (n := 401) rfl ?_
          have hdl : dl (mg p1) = [(Int32.ofNat (48 + z6 % 10)), (Int32.ofNat (48 + z5 % 10)), (Int32.ofNat (48 + z4 % 10)), (Int32.ofNat (48 + z3 % 10)), (Int32.ofNat (48 + z2 % 10)), (Int32.ofNat (48 + z1 % 10)), (Int32.ofNat (48 + (mg p1) % 10))] := by have q := own_dl7 (n := mg p1) (by omega); rw [← (hz1 : z1 = (mg p1) / 10), ← (hz2 : z2 = z1 / 10), ← (hz3 : z3 = z2 / 10), ← (hz4 : z4 = z3 / 10), ← (hz5 : z5 = z4 / 10), ← (hz6 : z6 = z5 / 10)] at q; exact q
          exact Wk.leave X15 (v := some (.int (i3 + dd))) (fun h => by rw [Bd.returns] at h; cases h) hlk e15 ⟨(congrArg (fun z => some (Value.int z)) (own_rl hcq hkz q3 hdd)), N15, K15, (own_arv (own_finc (r := kz - 7) hcq hdl (by omega)) Un15)⟩ (by decide) (by decide) (fun fs hr => retI X15 hx Bd.returns (hD d39_401) hr)
        ·
         refine Wk.icmpYes X13 hx (hD d39_301) (flt hc301).2.2.2 (by decide) (n := 316) (by decide) ?_
         have gl : kz = 6 := by have q : ¬ 6 < kz := fun q => hc301 (by rw [hdd]; exact (own_lt (a := 6) (by decide) (by omega)).mpr q); omega
         refine Wk.lload X13 hx (hD d39_316) (n := 318) rfl rfl ?_
         refine Wk.ldc2Long X13 hx hown (mW hZ hw 264 rfl) (hD d39_318) (n := 321) rfl ?_
         refine Wk.ldiv X13 hx (hD d39_321) (n := 322) rfl (by decide) ?_
         generalize (w6_ / (10 : Int64)) = w7_
         refine Wk.lstore X13 hx (hD d39_322) (n := 324) rfl (L' := #[.val (.ref eA), .val (.int i1), .val (.int p1), .val (.int i3), .val (.long j4), .second, .val (.int dd), .val (.int e7_), .val (.long w7_), .second]) rfl ?_
         refine Wk.iload X13 hx (hD d39_324) (n := 326) rfl rfl ?_
         refine Wk.bipush X13 hx (hD d39_326) (n := 328) rfl (z := (7 : Int32)) rfl ?_
         have hc328_25 : ¬ ((7 : Int32) < dd) := by rw [hdd]; exact own_nl (a := 7) (by omega)
         refine Wk.icmpYes X13 hx (hD d39_328) (flt hc328_25).2.2.2 (by decide) (n := 343) (by decide) ?_
         refine Wk.lload X13 hx (hD d39_343) (n := 345) rfl rfl ?_
         refine Wk.ldc2Long X13 hx hown (mW hZ hw 264 rfl) (hD d39_345) (n := 348) rfl ?_
         refine Wk.ldiv X13 hx (hD d39_348) (n := 349) rfl (by decide) ?_
         generalize (w7_ / (10 : Int64)) = w8_
         refine Wk.lstore X13 hx (hD d39_349) (n := 351) rfl (L' := #[.val (.ref eA), .val (.int i1), .val (.int p1), .val (.int i3), .val (.long j4), .second, .val (.int dd), .val (.int e7_), .val (.long w8_), .second]) rfl ?_
         refine Wk.iload X13 hx (hD d39_351) (n := 353) rfl rfl ?_
         refine Wk.bipush X13 hx (hD d39_353) (n := 355) rfl (z := (8 : Int32)) rfl ?_
         have hc355_26 : ¬ ((8 : Int32) < dd) := by rw [hdd]; exact own_nl (a := 8) (by omega)
         refine Wk.icmpYes X13 hx (hD d39_355) (flt hc355_26).2.2.2 (by decide) (n := 370) (by decide) ?_
         refine Wk.lload X13 hx (hD d39_370) (n := 372) rfl rfl ?_
         refine Wk.ldc2Long X13 hx hown (mW hZ hw 264 rfl) (hD d39_372) (n := 375) rfl ?_
         refine Wk.ldiv X13 hx (hD d39_375) (n := 376) rfl (by decide) ?_
         generalize (w8_ / (10 : Int64)) = w9_
         refine Wk.lstore X13 hx (hD d39_376) (n := 378) rfl (L' := #[.val (.ref eA), .val (.int i1), .val (.int p1), .val (.int i3), .val (.long j4), .second, .val (.int dd), .val (.int e7_), .val (.long w9_), .second]) rfl ?_
         refine Wk.iload X13 hx (hD d39_378) (n := 380) rfl rfl ?_
         refine Wk.bipush X13 hx (hD d39_380) (n := 382) rfl (z := (9 : Int32)) rfl ?_
         have hc382_27 : ¬ ((9 : Int32) < dd) := by rw [hdd]; exact own_nl (a := 9) (by omega)
         refine Wk.icmpYes X13 hx (hD d39_382) (flt hc382_27).2.2.2 (by decide) (n := 397) (by decide) ?_
         refine Wk.iloadN X13 hx (hD d39_397) (n := 398) rfl rfl ?_
         refine Wk.iload X13 hx (hD d39_398) (n := 400) rfl rfl ?_
         refine Wk.iadd X13 hx (hD d39_400) (n := 401) rfl ?_
         have hdl : dl (mg p1) = [(Int32.ofNat (48 + z5 % 10)), (Int32.ofNat (48 + z4 % 10)), (Int32.ofNat (48 + z3 % 10)), (Int32.ofNat (48 + z2 % 10)), (Int32.ofNat (48 + z1 % 10)), (Int32.ofNat (48 + (mg p1) % 10))] := by have q := own_dl6 (n := mg p1) (by omega); rw [← (hz1 : z1 = (mg p1) / 10), ← (hz2 : z2 = z1 / 10), ← (hz3 : z3 = z2 / 10), ← (hz4 : z4 = z3 / 10), ← (hz5 : z5 = z4 / 10)] at q; exact q
         exact Wk.leave X13 (v := some (.int (i3 + dd))) (fun h => by rw [Bd.returns] at h; cases h) hlk e13 ⟨(congrArg (fun z => some (Value.int z)) (own_rl hcq hkz q3 hdd)), N13, K13, (own_arv (own_finc (r := kz - 6) hcq hdl (by omega)) Un13)⟩ (by decide) (by decide) (fun fs hr => retI X13 hx Bd.returns (hD d39_401) hr)
       ·
        refine Wk.icmpYes X11 hx (hD d39_275) (flt hc275).2.2.2 (by decide) (n := 289) (by decide) ?_
        have gl : kz = 5 := by have q : ¬ 5 < kz := fun q => hc275 (by rw [hdd]; exact (own_lt (a := 5) (by decide) (by omega)).mpr q); omega
        refine Wk.lload X11 hx (hD d39_289) (n := 291) rfl rfl ?_
        refine Wk.ldc2Long X11 hx hown (mW hZ hw 264 rfl) (hD d39_291) (n := 294) rfl ?_
        refine Wk.ldiv X11 hx (hD d39_294) (n := 295) rfl (by decide) ?_
        generalize (w5_ / (10 : Int64)) = w6_
        refine Wk.lstore X11 hx (hD d39_295) (n := 297) rfl (L' := #[.val (.ref eA), .val (.int i1), .val (.int p1), .val (.int i3), .val (.long j4), .second, .val (.int dd), .val (.int e7_), .val (.long w6_), .second]) rfl ?_
        refine Wk.iload X11 hx (hD d39_297) (n := 299) rfl rfl ?_
        refine Wk.bipush X11 hx (hD d39_299) (n := 301) rfl (z := (6 : Int32)) rfl ?_
        have hc301_28 : ¬ ((6 : Int32) < dd) := by rw [hdd]; exact own_nl (a := 6) (by omega)
        refine Wk.icmpYes X11 hx (hD d39_301) (flt hc301_28).2.2.2 (by decide) (n := 316) (by decide) ?_
        refine Wk.lload X11 hx (hD d39_316) (n := 318) rfl rfl ?_
        refine Wk.ldc2Long X11 hx hown (mW hZ hw 264 rfl) (hD d39_318) (n := 321) rfl ?_
        refine Wk.ldiv X11 hx (hD d39_321) (n := 322) rfl (by decide) ?_
        generalize (w6_ / (10 : Int64)) = w7_
        refine Wk.lstore X11 hx (hD d39_322) (n := 324) rfl (L' := #[.val (.ref eA), .val (.int i1), .val (.int p1), .val (.int i3), .val (.long j4), .second, .val (.int dd), .val (.int e7_), .val (.long w7_), .second]) rfl ?_
        refine Wk.iload X11 hx (hD d39_324) (n := 326) rfl rfl ?_
        refine Wk.bipush X11 hx (hD d39_326) (n := 328) rfl (z := (7 : Int32)) rfl ?_
        have hc328_29 : ¬ ((7 : Int32) < dd) := by rw [hdd]; exact own_nl (a := 7) (by omega)
        refine Wk.icmpYes X11 hx (hD d39_328) (flt hc328_29).2.2.2 (by decide) (n := 343) (by decide) ?_
        refine Wk.lload X11 hx (hD d39_343) (n := 345) rfl rfl ?_
        refine Wk.ldc2Long X11 hx hown (mW hZ hw 264 rfl) (hD d39_345) (n := 348) rfl ?_
        refine Wk.ldiv X11 hx (hD d39_348) (n := 349) rfl (by decide) ?_
        generalize (w7_ / (10 : Int64)) = w8_
        refine Wk.lstore X11 hx (hD d39_349) (n := 351) rfl (L' := #[.val (.ref eA), .val (.int i1), .val (.int p1), .val (.int i3), .val (.long j4), .second, .val (.int dd), .val (.int e7_), .val (.long w8_), .second]) rfl ?_
        refine Wk.iload X11 hx (hD d39_351) (n := 353) rfl rfl ?_
        refine Wk.bipush X11 hx (hD d39_353) (n := 355) rfl (z := (8 : Int32)) rfl ?_
        have hc355_30 : ¬ ((8 : Int32) < dd) := by rw [hdd]; exact own_nl (a := 8) (by omega)
        refine Wk.icmpYes X11 hx (hD d39_355) (flt hc355_30).2.2.2 (by decide) (n := 370) (by decide) ?_
        refine Wk.lload X11 hx (hD d39_370) (n := 372) rfl rfl ?_
        refine Wk.ldc2Long X11 hx hown (mW hZ hw 264 rfl) (hD d39_372) (n := 375) rfl ?_
        refine Wk.ldiv X11 hx (hD d39_375) (n := 376) rfl (by decide) ?_
        generalize (w8_ / (10 : Int64)) = w9_
        refine Wk.lstore X11 hx (hD d39_376) (n := 378) rfl (L' := #[.val (.ref eA), .val (.int i1), .val (.int p1), .val (.int i3), .val (.long j4), .second, .val (.int dd), .val (.int e7_), .val (.long w9_), .second]) rfl ?_
        refine Wk.iload X11 hx (hD d39_378) (n := 380) rfl rfl ?_
        refine Wk.bipush X11 hx (hD d39_380) (n := 382) rfl (z := (9 : Int32)) rfl ?_
        have hc382_31 : ¬ ((9 : Int32) < dd) := by rw [hdd]; exact own_nl (a := 9) (by omega)
        refine Wk.icmpYes X11 hx (hD d39_382) (flt hc382_31).2.2.2 (by decide) (n := 397) (by decide) ?_
        refine Wk.iloadN X11 hx (hD d39_397) (n := 398) rfl rfl ?_
        refine Wk.iload X11 hx (hD d39_398) (n := 400) rfl rfl ?_
        refine Wk.iadd X11 hx (hD d39_400) (n := 401) rfl ?_
        have hdl : dl (mg p1) = [(Int32.ofNat (48 + z4 % 10)), (Int32.ofNat (48 + z3 % 10)), (Int32.ofNat (48 + z2 % 10)), (Int32.ofNat (48 + z1 % 10)), (Int32.ofNat (48 + (mg p1) % 10))] := by have q := own_dl5 (n := mg p1) (by omega); rw [← (hz1 : z1 = (mg p1) / 10), ← (hz2 : z2 = z1 / 10), ← (hz3 : z3 = z2 / 10), ← (hz4 : z4 = z3 / 10)] at q; exact q
        exact Wk.leave X11 (v := some (.int (i3 + dd))) (fun h => by rw [Bd.returns] at h; cases h) hlk e11 ⟨(congrArg (fun z => some (Value.int z)) (own_rl hcq hkz q3 hdd)), N11, K11, (own_arv (own_finc (r := kz - 5) hcq hdl (by omega)) Un11)⟩ (by decide) (by decide) (fun fs hr => retI X11 hx Bd.returns (hD d39_401) hr)
      ·
       refine Wk.icmpYes X9 hx (hD d39_250) (flt hc250).2.2.2 (by decide) (n := 264) (by decide) ?_
       have gl : kz = 4 := by have q : ¬ 4 < kz := fun q => hc250 (by rw [hdd]; exact (own_lt (a := 4) (by decide) (by omega)).mpr q); omega
       refine Wk.lload X9 hx (hD d39_264) (n := 266) rfl rfl ?_
       refine Wk.ldc2Long X9 hx hown (mW hZ hw 264 rfl) (hD d39_266) (n := 269) rfl ?_
       refine Wk.ldiv X9 hx (hD d39_269) (n := 270) rfl (by decide) ?_
       generalize (w4_ / (10 : Int64)) = w5_
       refine Wk.lstore X9 hx (hD d39_270) (n := 272) rfl (L' := #[.val (.ref eA), .val (.int i1), .val (.int p1), .val (.int i3), .val (.long j4), .second, .val (.int dd), .val (.int e7_), .val (.long w5_), .second]) rfl ?_
       refine Wk.iload X9 hx (hD d39_272) (n := 274) rfl rfl ?_
       refine Wk.iconst X9 hx (hD d39_274) (n := 275) rfl (z := (5 : Int32)) rfl ?_
       have hc275_32 : ¬ ((5 : Int32) < dd) := by rw [hdd]; exact own_nl (a := 5) (by omega)
       refine Wk.icmpYes X9 hx (hD d39_275) (flt hc275_32).2.2.2 (by decide) (n := 289) (by decide) ?_
       refine Wk.lload X9 hx (hD d39_289) (n := 291) rfl rfl ?_
       refine Wk.ldc2Long X9 hx hown (mW hZ hw 264 rfl) (hD d39_291) (n := 294) rfl ?_
       refine Wk.ldiv X9 hx (hD d39_294) (n := 295) rfl (by decide) ?_
       generalize (w5_ / (10 : Int64)) = w6_
       refine Wk.lstore X9 hx (hD d39_295) (n := 297) rfl (L' := #[.val (.ref eA), .val (.int i1), .val (.int p1), .val (.int i3), .val (.long j4), .second, .val (.int dd), .val (.int e7_), .val (.long w6_), .second]) rfl ?_
       refine Wk.iload X9 hx (hD d39_297) (n := 299) rfl rfl ?_
       refine Wk.bipush X9 hx (hD d39_299) (n := 301) rfl (z := (6 : Int32)) rfl ?_
       have hc301_33 : ¬ ((6 : Int32) < dd) := by rw [hdd]; exact own_nl (a := 6) (by omega)
       refine Wk.icmpYes X9 hx (hD d39_301) (flt hc301_33).2.2.2 (by decide) (n := 316) (by decide) ?_
       refine Wk.lload X9 hx (hD d39_316) (n := 318) rfl rfl ?_
       refine Wk.ldc2Long X9 hx hown (mW hZ hw 264 rfl) (hD d39_318) (n := 321) rfl ?_
       refine Wk.ldiv X9 hx (hD d39_321) (n := 322) rfl (by decide) ?_
       generalize (w6_ / (10 : Int64)) = w7_
       refine Wk.lstore X9 hx (hD d39_322) (n := 324) rfl (L' := #[.val (.ref eA), .val (.int i1), .val (.int p1), .val (.int i3), .val (.long j4), .second, .val (.int dd), .val (.int e7_), .val (.long w7_), .second]) rfl ?_
       refine Wk.iload X9 hx (hD d39_324) (n := 326) rfl rfl ?_
       refine Wk.bipush X9 hx (hD d39_326) (n := 328) rfl (z := (7 : Int32)) rfl ?_
       have hc328_34 : ¬ ((7 : Int32) < dd) := by rw [hdd]; exact own_nl (a := 7) (by omega)
       refine Wk.icmpYes X9 hx (hD d39_328) (flt hc328_34).2.2.2 (by decide) (n := 343) (by decide) ?_
       refine Wk.lload X9 hx (hD d39_343) (n := 345) rfl rfl ?_
       refine Wk.ldc2Long X9 hx hown (mW hZ hw 264 rfl) (hD d39_345) (n := 348) rfl ?_
       refine Wk.ldiv X9 hx (hD d39_348) (n := 349) rfl (by decide) ?_
       generalize (w7_ / (10 : Int64)) = w8_
       refine Wk.lstore X9 hx (hD d39_349) (n := 351) rfl (L' := #[.val (.ref eA), .val (.int i1), .val (.int p1), .val (.int i3), .val (.long j4), .second, .val (.int dd), .val (.int e7_), .val (.long w8_), .second]) rfl ?_
       refine Wk.iload X9 hx (hD d39_351) (n := 353) rfl rfl ?_
       refine Wk.bipush X9 hx (hD d39_353) (n := 355) rfl (z := (8 : Int32)) rfl ?_
       have hc355_35 : ¬ ((8 : Int32) < dd) := by rw [hdd]; exact own_nl (a := 8) (by omega)
       refine Wk.icmpYes X9 hx (hD d39_355) (flt hc355_35).2.2.2 (by decide) (n := 370) (by decide) ?_
       refine Wk.lload X9 hx (hD d39_370) (n := 372) rfl rfl ?_
       refine Wk.ldc2Long X9 hx hown (mW hZ hw 264 rfl) (hD d39_372) (n := 375) rfl ?_
       refine Wk.ldiv X9 hx (hD d39_375) (n := 376) rfl (by decide) ?_
       generalize (w8_ / (10 : Int64)) = w9_
       refine Wk.lstore X9 hx (hD d39_376) (n := 378) rfl (L' := #[.val (.ref eA), .val (.int i1), .val (.int p1), .val (.int i3), .val (.long j4), .second, .val (.int dd), .val (.int e7_), .val (.long w9_), .second]) rfl ?_
       refine Wk.iload X9 hx (hD d39_378) (n := 380) rfl rfl ?_
       refine Wk.bipush X9 hx (hD d39_380) (n := 382) rfl (z := (9 : Int32)) rfl ?_
       have hc382_36 : ¬ ((9 : Int32) < dd) := by rw [hdd]; exact own_nl (a := 9) (by omega)
       refine Wk.icmpYes X9 hx (hD d39_382) (flt hc382_36).2.2.2 (by decide) (n := 397) (by decide) ?_
       refine Wk.iloadN X9 hx (hD d39_397) (n := 398) rfl rfl ?_
       refine Wk.iload X9 hx (hD d39_398) (n := 400) rfl rfl ?_
       refine Wk.iadd X9 hx (hD d39_400) (n := 401) rfl ?_
       have hdl : dl (mg p1) = [(Int32.ofNat (48 + z3 % 10)), (Int32.ofNat (48 + z2 % 10)), (Int32.ofNat (48 + z1 % 10)), (Int32.ofNat (48 + (mg p1) % 10))] := by have q := own_dl4 (n := mg p1) (by omega); rw [← (hz1 : z1 = (mg p1) / 10), ← (hz2 : z2 = z1 / 10), ← (hz3 : z3 = z2 / 10)] at q; exact q
       exact Wk.leave X9 (v := some (.int (i3 + dd))) (fun h => by rw [Bd.returns] at h; cases h) hlk e9 ⟨(congrArg (fun z => some (Value.int z)) (own_rl hcq hkz q3 hdd)), N9, K9, (own_arv (own_finc (r := kz - 4) hcq hdl (by omega)) Un9)⟩ (by decide) (by decide) (fun fs hr => retI X9 hx Bd.returns (hD d39_401) hr)
     ·
      refine Wk.icmpYes X7 hx (hD d39_225) (flt hc225).2.2.2 (by decide) (n := 239) (by decide) ?_
      have gl : kz = 3 := by have q : ¬ 3 < kz := fun q => hc225 (by rw [hdd]; exact (own_lt (a := 3) (by decide) (by omega)).mpr q); omega
      refine Wk.lload X7 hx (hD d39_239) (n := 241) rfl rfl ?_
      refine Wk.ldc2Long X7 hx hown (mW hZ hw 264 rfl) (hD d39_241) (n := 244) rfl ?_
      refine Wk.ldiv X7 hx (hD d39_244) (n := 245) rfl (by decide) ?_
      generalize (w3_ / (10 : Int64)) = w4_
      refine Wk.lstore X7 hx (hD d39_245) (n := 247) rfl (L' := #[.val (.ref eA), .val (.int i1), .val (.int p1), .val (.int i3), .val (.long j4), .second, .val (.int dd), .val (.int e7_), .val (.long w4_), .second]) rfl ?_
      refine Wk.iload X7 hx (hD d39_247) (n := 249) rfl rfl ?_
      refine Wk.iconst X7 hx (hD d39_249) (n := 250) rfl (z := (4 : Int32)) rfl ?_
      have hc250_37 : ¬ ((4 : Int32) < dd) := by rw [hdd]; exact own_nl (a := 4) (by omega)
      refine Wk.icmpYes X7 hx (hD d39_250) (flt hc250_37).2.2.2 (by decide) (n := 264) (by decide) ?_
      refine Wk.lload X7 hx (hD d39_264) (n := 266) rfl rfl ?_
      refine Wk.ldc2Long X7 hx hown (mW hZ hw 264 rfl) (hD d39_266) (n := 269) rfl ?_
      refine Wk.ldiv X7 hx (hD d39_269) (n := 270) rfl (by decide) ?_
      generalize (w4_ / (10 : Int64)) = w5_
      refine Wk.lstore X7 hx (hD d39_270) (n := 272) rfl (L' := #[.val (.ref eA), .val (.int i1), .val (.int p1), .val (.int i3), .val (.long j4), .second, .val (.int dd), .val (.int e7_), .val (.long w5_), .second]) rfl ?_
      refine Wk.iload X7 hx (hD d39_272) (n := 274) rfl rfl ?_
      refine Wk.iconst X7 hx (hD d39_274) (n := 275) rfl (z := (5 : Int32)) rfl ?_
      have hc275_38 : ¬ ((5 : Int32) < dd) := by rw [hdd]; exact own_nl (a := 5) (by omega)
      refine Wk.icmpYes X7 hx (hD d39_275) (flt hc275_38).2.2.2 (by decide) (n := 289) (by decide) ?_
      refine Wk.lload X7 hx (hD d39_289) (n := 291) rfl rfl ?_
      refine Wk.ldc2Long X7 hx hown (mW hZ hw 264 rfl) (hD d39_291) (n := 294) rfl ?_
      refine Wk.ldiv X7 hx (hD d39_294) (n := 295) rfl (by decide) ?_
      generalize (w5_ / (10 : Int64)) = w6_
      refine Wk.lstore X7 hx (hD d39_295) (n := 297) rfl (L' := #[.val (.ref eA), .val (.int i1), .val (.int p1), .val (.int i3), .val (.long j4), .second, .val (.int dd), .val (.int e7_), .val (.long w6_), .second]) rfl ?_
      refine Wk.iload X7 hx (hD d39_297) (n := 299) rfl rfl ?_
      refine Wk.bipush X7 hx (hD d39_299) (n := 301) rfl (z := (6 : Int32)) rfl ?_
      have hc301_39 : ¬ ((6 : Int32) < dd) := by rw [hdd]; exact own_nl (a := 6) (by omega)
      refine Wk.icmpYes X7 hx (hD d39_301) (flt hc301_39).2.2.2 (by decide) (n := 316) (by decide) ?_
      refine Wk.lload X7 hx (hD d39_316) (n := 318) rfl rfl ?_
      refine Wk.ldc2Long X7 hx hown (mW hZ hw 264 rfl) (hD d39_318) (n := 321) rfl ?_
      refine Wk.ldiv X7 hx (hD d39_321) (n := 322) rfl (by decide) ?_
      generalize (w6_ / (10 : Int64)) = w7_
      refine Wk.lstore X7 hx (hD d39_322) (n := 324) rfl (L' := #[.val (.ref eA), .val (.int i1), .val (.int p1), .val (.int i3), .val (.long j4), .second, .val (.int dd), .val (.int e7_), .val (.long w7_), .second]) rfl ?_
      refine Wk.iload X7 hx (hD d39_324) (n := 326) rfl rfl ?_
      refine Wk.bipush X7 hx (hD d39_326) (n := 328) rfl (z := (7 : Int32)) rfl ?_
      have hc328_40 : ¬ ((7 : Int32) < dd) := by rw [hdd]; exact own_nl (a := 7) (by omega)
      refine Wk.icmpYes X7 hx (hD d39_328) (flt hc328_40).2.2.2 (by decide) (n := 343) (by decide) ?_
      refine Wk.lload X7 hx (hD d39_343) (n := 345) rfl rfl ?_
      refine Wk.ldc2Long X7 hx hown (mW hZ hw 264 rfl) (hD d39_345) (n := 348) rfl ?_
      refine Wk.ldiv X7 hx (hD d39_348) (n := 349) rfl (by decide) ?_
      generalize (w7_ / (10 : Int64)) = w8_
      refine Wk.lstore X7 hx (hD d39_349) (n := 351) rfl (L' := #[.val (.ref eA), .val (.int i1), .val (.int p1), .val (.int i3), .val (.long j4), .second, .val (.int dd), .val (.int e7_), .val (.long w8_), .second]) rfl ?_
      refine Wk.iload X7 hx (hD d39_351) (n := 353) rfl rfl ?_
      refine Wk.bipush X7 hx (hD d39_353) (n := 355) rfl (z := (8 : Int32)) rfl ?_
      have hc355_41 : ¬ ((8 : Int32) < dd) := by rw [hdd]; exact own_nl (a := 8) (by omega)
      refine Wk.icmpYes X7 hx (hD d39_355) (flt hc355_41).2.2.2 (by decide) (n := 370) (by decide) ?_
      refine Wk.lload X7 hx (hD d39_370) (n := 372) rfl rfl ?_
      refine Wk.ldc2Long X7 hx hown (mW hZ hw 264 rfl) (hD d39_372) (n := 375) rfl ?_
      refine Wk.ldiv X7 hx (hD d39_375) (n := 376) rfl (by decide) ?_
      generalize (w8_ / (10 : Int64)) = w9_
      refine Wk.lstore X7 hx (hD d39_376) (n := 378) rfl (L' := #[.val (.ref eA), .val (.int i1), .val (.int p1), .val (.int i3), .val (.long j4), .second, .val (.int dd), .val (.int e7_), .val (.long w9_), .second]) rfl ?_
      refine Wk.iload X7 hx (hD d39_378) (n := 380) rfl rfl ?_
      refine Wk.bipush X7 hx (hD d39_380) (n := 382) rfl (z := (9 : Int32)) rfl ?_
      have hc382_42 : ¬ ((9 : Int32) < dd) := by rw [hdd]; exact own_nl (a := 9) (by omega)
      refine Wk.icmpYes X7 hx (hD d39_382) (flt hc382_42).2.2.2 (by decide) (n := 397) (by decide) ?_
      refine Wk.iloadN X7 hx (hD d39_397) (n := 398) rfl rfl ?_
      refine Wk.iload X7 hx (hD d39_398) (n := 400) rfl rfl ?_
      refine Wk.iadd X7 hx (hD d39_400) (n := 401) rfl ?_
      have hdl : dl (mg p1) = [(Int32.ofNat (48 + z2 % 10)), (Int32.ofNat (48 + z1 % 10)), (Int32.ofNat (48 + (mg p1) % 10))] := by have q := own_dl3 (n := mg p1) (by omega); rw [← (hz1 : z1 = (mg p1) / 10), ← (hz2 : z2 = z1 / 10)] at q; exact q
      exact Wk.leave X7 (v := some (.int (i3 + dd))) (fun h => by rw [Bd.returns] at h; cases h) hlk e7 ⟨(congrArg (fun z => some (Value.int z)) (own_rl hcq hkz q3 hdd)), N7, K7, (own_arv (own_finc (r := kz - 3) hcq hdl (by omega)) Un7)⟩ (by decide) (by decide) (fun fs hr => retI X7 hx Bd.returns (hD d39_401) hr)
    ·
     refine Wk.icmpYes X5 hx (hD d39_200) (flt hc200).2.2.2 (by decide) (n := 214) (by decide) ?_
     have gl : kz = 2 := by have q : ¬ 2 < kz := fun q => hc200 (by rw [hdd]; exact (own_lt (a := 2) (by decide) (by omega)).mpr q); omega
     refine Wk.lload X5 hx (hD d39_214) (n := 216) rfl rfl ?_
     refine Wk.ldc2Long X5 hx hown (mW hZ hw 264 rfl) (hD d39_216) (n := 219) rfl ?_
     refine Wk.ldiv X5 hx (hD d39_219) (n := 220) rfl (by decide) ?_
     generalize (w2_ / (10 : Int64)) = w3_
     refine Wk.lstore X5 hx (hD d39_220) (n := 222) rfl (L' := #[.val (.ref eA), .val (.int i1), .val (.int p1), .val (.int i3), .val (.long j4), .second, .val (.int dd), .val (.int e7_), .val (.long w3_), .second]) rfl ?_
     refine Wk.iload X5 hx (hD d39_222) (n := 224) rfl rfl ?_
     refine Wk.iconst X5 hx (hD d39_224) (n := 225) rfl (z := (3 : Int32)) rfl ?_
     have hc225_43 : ¬ ((3 : Int32) < dd) := by rw [hdd]; exact own_nl (a := 3) (by omega)
     refine Wk.icmpYes X5 hx (hD d39_225) (flt hc225_43).2.2.2 (by decide) (n := 239) (by decide) ?_
     refine Wk.lload X5 hx (hD d39_239) (n := 241) rfl rfl ?_
     refine Wk.ldc2Long X5 hx hown (mW hZ hw 264 rfl) (hD d39_241) (n := 244) rfl ?_
     refine Wk.ldiv X5 hx (hD d39_244) (n := 245) rfl (by decide) ?_
     generalize (w3_ / (10 : Int64)) = w4_
     refine Wk.lstore X5 hx (hD d39_245) (n := 247) rfl (L' := #[.val (.ref eA), .val (.int i1), .val (.int p1), .val (.int i3), .val (.long j4), .second, .val (.int dd), .val (.int e7_), .val (.long w4_), .second]) rfl ?_
     refine Wk.iload X5 hx (hD d39_247) (n := 249) rfl rfl ?_
     refine Wk.iconst X5 hx (hD d39_249) (n := 250) rfl (z := (4 : Int32)) rfl ?_
     have hc250_44 : ¬ ((4 : Int32) < dd) := by rw [hdd]; exact own_nl (a := 4) (by omega)
     refine Wk.icmpYes X5 hx (hD d39_250) (flt hc250_44).2.2.2 (by decide) (n := 264) (by decide) ?_
     refine Wk.lload X5 hx (hD d39_264) (n := 266) rfl rfl ?_
     refine Wk.ldc2Long X5 hx hown (mW hZ hw 264 rfl) (hD d39_266) (n := 269) rfl ?_
     refine Wk.ldiv X5 hx (hD d39_269) (n := 270) rfl (by decide) ?_
     generalize (w4_ / (10 : Int64)) = w5_
     refine Wk.lstore X5 hx (hD d39_270) (n := 272) rfl (L' := #[.val (.ref eA), .val (.int i1), .val (.int p1), .val (.int i3), .val (.long j4), .second, .val (.int dd), .val (.int e7_), .val (.long w5_), .second]) rfl ?_
     refine Wk.iload X5 hx (hD d39_272) (n := 274) rfl rfl ?_
     refine Wk.iconst X5 hx (hD d39_274) (n := 275) rfl (z := (5 : Int32)) rfl ?_
     have hc275_45 : ¬ ((5 : Int32) < dd) := by rw [hdd]; exact own_nl (a := 5) (by omega)
     refine Wk.icmpYes X5 hx (hD d39_275) (flt hc275_45).2.2.2 (by decide) (n := 289) (by decide) ?_
     refine Wk.lload X5 hx (hD d39_289) (n := 291) rfl rfl ?_
     refine Wk.ldc2Long X5 hx hown (mW hZ hw 264 rfl) (hD d39_291) (n := 294) rfl ?_
     refine Wk.ldiv X5 hx (hD d39_294) (n := 295) rfl (by decide) ?_
     generalize (w5_ / (10 : Int64)) = w6_
     refine Wk.lstore X5 hx (hD d39_295) (n := 297) rfl (L' := #[.val (.ref eA), .val (.int i1), .val (.int p1), .val (.int i3), .val (.long j4), .second, .val (.int dd), .val (.int e7_), .val (.long w6_), .second]) rfl ?_
     refine Wk.iload X5 hx (hD d39_297) (n := 299) rfl rfl ?_
     refine Wk.bipush X5 hx (hD d39_299) (n := 301) rfl (z := (6 : Int32)) rfl ?_
     have hc301_46 : ¬ ((6 : Int32) < dd) := by rw [hdd]; exact own_nl (a := 6) (by omega)
     refine Wk.icmpYes X5 hx (hD d39_301) (flt hc301_46).2.2.2 (by decide) (n := 316) (by decide) ?_
     refine Wk.lload X5 hx (hD d39_316) (n := 318) rfl rfl ?_
     refine Wk.ldc2Long X5 hx hown (mW hZ hw 264 rfl) (hD d39_318) (n := 321) rfl ?_
     refine Wk.ldiv X5 hx (hD d39_321) (n := 322) rfl (by decide) ?_
     generalize (w6_ / (10 : Int64)) = w7_
     refine Wk.lstore X5 hx (hD d39_322) (n := 324) rfl (L' := #[.val (.ref eA), .val (.int i1), .val (.int p1), .val (.int i3), .val (.long j4), .second, .val (.int dd), .val (.int e7_), .val (.long w7_), .second]) rfl ?_
     refine Wk.iload X5 hx (hD d39_324) (n := 326) rfl rfl ?_
     refine Wk.bipush X5 hx (hD d39_326) (n := 328) rfl (z := (7 : Int32)) rfl ?_
     have hc328_47 : ¬ ((7 : Int32) < dd) := by rw [hdd]; exact own_nl (a := 7) (by omega)
     refine Wk.icmpYes X5 hx (hD d39_328) (flt hc328_47).2.2.2 (by decide) (n := 343) (by decide) ?_
     refine Wk.lload X5 hx (hD d39_343) (n := 345) rfl rfl ?_
     refine Wk.ldc2Long X5 hx hown (mW hZ hw 264 rfl) (hD d39_345) (n := 348) rfl ?_
     refine Wk.ldiv X5 hx (hD d39_348) (n := 349) rfl (by decide) ?_
     generalize (w7_ / (10 : Int64)) = w8_
     refine Wk.lstore X5 hx (hD d39_349) (n := 351) rfl (L' := #[.val (.ref eA), .val (.int i1), .val (.int p1), .val (.int i3), .val (.long j4), .second, .val (.int dd), .val (.int e7_), .val (.long w8_), .second]) rfl ?_
     refine Wk.iload X5 hx (hD d39_351) (n := 353) rfl rfl ?_
     refine Wk.bipush X5 hx (hD d39_353) (n := 355) rfl (z := (8 : Int32)) rfl ?_
     have hc355_48 : ¬ ((8 : Int32) < dd) := by rw [hdd]; exact own_nl (a := 8) (by omega)
     refine Wk.icmpYes X5 hx (hD d39_355) (flt hc355_48).2.2.2 (by decide) (n := 370) (by decide) ?_
     refine Wk.lload X5 hx (hD d39_370) (n := 372) rfl rfl ?_
     refine Wk.ldc2Long X5 hx hown (mW hZ hw 264 rfl) (hD d39_372) (n := 375) rfl ?_
     refine Wk.ldiv X5 hx (hD d39_375) (n := 376) rfl (by decide) ?_
     generalize (w8_ / (10 : Int64)) = w9_
     refine Wk.lstore X5 hx (hD d39_376) (n := 378) rfl (L' := #[.val (.ref eA), .val (.int i1), .val (.int p1), .val (.int i3), .val (.long j4), .second, .val (.int dd), .val (.int e7_), .val (.long w9_), .second]) rfl ?_
     refine Wk.iload X5 hx (hD d39_378) (n := 380) rfl rfl ?_
     refine Wk.bipush X5 hx (hD d39_380) (n := 382) rfl (z := (9 : Int32)) rfl ?_
     have hc382_49 : ¬ ((9 : Int32) < dd) := by rw [hdd]; exact own_nl (a := 9) (by omega)
     refine Wk.icmpYes X5 hx (hD d39_382) (flt hc382_49).2.2.2 (by decide) (n := 397) (by decide) ?_
     refine Wk.iloadN X5 hx (hD d39_397) (n := 398) rfl rfl ?_
     refine Wk.iload X5 hx (hD d39_398) (n := 400) rfl rfl ?_
     refine Wk.iadd X5 hx (hD d39_400) (n := 401) rfl ?_
     have hdl : dl (mg p1) = [(Int32.ofNat (48 + z1 % 10)), (Int32.ofNat (48 + (mg p1) % 10))] := by have q := own_dl2 (n := mg p1) (by omega); rw [← (hz1 : z1 = (mg p1) / 10)] at q; exact q
     exact Wk.leave X5 (v := some (.int (i3 + dd))) (fun h => by rw [Bd.returns] at h; cases h) hlk e5 ⟨(congrArg (fun z => some (Value.int z)) (own_rl hcq hkz q3 hdd)), N5, K5, (own_arv (own_finc (r := kz - 2) hcq hdl (by omega)) Un5)⟩ (by decide) (by decide) (fun fs hr => retI X5 hx Bd.returns (hD d39_401) hr)
   ·
    refine Wk.icmpYes X3 hx (hD d39_175) (flt hc175).2.2.2 (by decide) (n := 189) (by decide) ?_
    have gl : kz = 1 := by have q : ¬ 1 < kz := fun q => hc175 (by rw [hdd]; exact (own_lt (a := 1) (by decide) (by omega)).mpr q); omega
    refine Wk.lload X3 hx (hD d39_189) (n := 191) rfl rfl ?_
    refine Wk.ldc2Long X3 hx hown (mW hZ hw 264 rfl) (hD d39_191) (n := 194) rfl ?_
    refine Wk.ldiv X3 hx (hD d39_194) (n := 195) rfl (by decide) ?_
    generalize (w1_ / (10 : Int64)) = w2_
    refine Wk.lstore X3 hx (hD d39_195) (n := 197) rfl (L' := #[.val (.ref eA), .val (.int i1), .val (.int p1), .val (.int i3), .val (.long j4), .second, .val (.int dd), .val (.int e7_), .val (.long w2_), .second]) rfl ?_
    refine Wk.iload X3 hx (hD d39_197) (n := 199) rfl rfl ?_
    refine Wk.iconst X3 hx (hD d39_199) (n := 200) rfl (z := (2 : Int32)) rfl ?_
    have hc200_50 : ¬ ((2 : Int32) < dd) := by rw [hdd]; exact own_nl (a := 2) (by omega)
    refine Wk.icmpYes X3 hx (hD d39_200) (flt hc200_50).2.2.2 (by decide) (n := 214) (by decide) ?_
    refine Wk.lload X3 hx (hD d39_214) (n := 216) rfl rfl ?_
    refine Wk.ldc2Long X3 hx hown (mW hZ hw 264 rfl) (hD d39_216) (n := 219) rfl ?_
    refine Wk.ldiv X3 hx (hD d39_219) (n := 220) rfl (by decide) ?_
    generalize (w2_ / (10 : Int64)) = w3_
    refine Wk.lstore X3 hx (hD d39_220) (n := 222) rfl (L' := #[.val (.ref eA), .val (.int i1), .val (.int p1), .val (.int i3), .val (.long j4), .second, .val (.int dd), .val (.int e7_), .val (.long w3_), .second]) rfl ?_
    refine Wk.iload X3 hx (hD d39_222) (n := 224) rfl rfl ?_
    refine Wk.iconst X3 hx (hD d39_224) (n := 225) rfl (z := (3 : Int32)) rfl ?_
    have hc225_51 : ¬ ((3 : Int32) < dd) := by rw [hdd]; exact own_nl (a := 3) (by omega)
    refine Wk.icmpYes X3 hx (hD d39_225) (flt hc225_51).2.2.2 (by decide) (n := 239) (by decide) ?_
    refine Wk.lload X3 hx (hD d39_239) (n := 241) rfl rfl ?_
    refine Wk.ldc2Long X3 hx hown (mW hZ hw 264 rfl) (hD d39_241) (n := 244) rfl ?_
    refine Wk.ldiv X3 hx (hD d39_244) (n := 245) rfl (by decide) ?_
    generalize (w3_ / (10 : Int64)) = w4_
    refine Wk.lstore X3 hx (hD d39_245) (n := 247) rfl (L' := #[.val (.ref eA), .val (.int i1), .val (.int p1), .val (.int i3), .val (.long j4), .second, .val (.int dd), .val (.int e7_), .val (.long w4_), .second]) rfl ?_
    refine Wk.iload X3 hx (hD d39_247) (n := 249) rfl rfl ?_
    refine Wk.iconst X3 hx (hD d39_249) (n := 250) rfl (z := (4 : Int32)) rfl ?_
    have hc250_52 : ¬ ((4 : Int32) < dd) := by rw [hdd]; exact own_nl (a := 4) (by omega)
    refine Wk.icmpYes X3 hx (hD d39_250) (flt hc250_52).2.2.2 (by decide) (n := 264) (by decide) ?_
    refine Wk.lload X3 hx (hD d39_264) (n := 266) rfl rfl ?_
    refine Wk.ldc2Long X3 hx hown (mW hZ hw 264 rfl) (hD d39_266) (n := 269) rfl ?_
    refine Wk.ldiv X3 hx (hD d39_269) (n := 270) rfl (by decide) ?_
    generalize (w4_ / (10 : Int64)) = w5_
    refine Wk.lstore X3 hx (hD d39_270) (n := 272) rfl (L' := #[.val (.ref eA), .val (.int i1), .val (.int p1), .val (.int i3), .val (.long j4), .second, .val (.int dd), .val (.int e7_), .val (.long w5_), .second]) rfl ?_
    refine Wk.iload X3 hx (hD d39_272) (n := 274) rfl rfl ?_
    refine Wk.iconst X3 hx (hD d39_274) (n := 275) rfl (z := (5 : Int32)) rfl ?_
    have hc275_53 : ¬ ((5 : Int32) < dd) := by rw [hdd]; exact own_nl (a := 5) (by omega)
    refine Wk.icmpYes X3 hx (hD d39_275) (flt hc275_53).2.2.2 (by decide) (n := 289) (by decide) ?_
    refine Wk.lload X3 hx (hD d39_289) (n := 291) rfl rfl ?_
    refine Wk.ldc2Long X3 hx hown (mW hZ hw 264 rfl) (hD d39_291) (n := 294) rfl ?_
    refine Wk.ldiv X3 hx (hD d39_294) (n := 295) rfl (by decide) ?_
    generalize (w5_ / (10 : Int64)) = w6_
    refine Wk.lstore X3 hx (hD d39_295) (n := 297) rfl (L' := #[.val (.ref eA), .val (.int i1), .val (.int p1), .val (.int i3), .val (.long j4), .second, .val (.int dd), .val (.int e7_), .val (.long w6_), .second]) rfl ?_
    refine Wk.iload X3 hx (hD d39_297) (n := 299) rfl rfl ?_
    refine Wk.bipush X3 hx (hD d39_299) (n := 301) rfl (z := (6 : Int32)) rfl ?_
    have hc301_54 : ¬ ((6 : Int32) < dd) := by rw [hdd]; exact own_nl (a := 6) (by omega)
    refine Wk.icmpYes X3 hx (hD d39_301) (flt hc301_54).2.2.2 (by decide) (n := 316) (by decide) ?_
    refine Wk.lload X3 hx (hD d39_316) (n := 318) rfl rfl ?_
    refine Wk.ldc2Long X3 hx hown (mW hZ hw 264 rfl) (hD d39_318) (n := 321) rfl ?_
    refine Wk.ldiv X3 hx (hD d39_321) (n := 322) rfl (by decide) ?_
    generalize (w6_ / (10 : Int64)) = w7_
    refine Wk.lstore X3 hx (hD d39_322) (n := 324) rfl (L' := #[.val (.ref eA), .val (.int i1), .val (.int p1), .val (.int i3), .val (.long j4), .second, .val (.int dd), .val (.int e7_), .val (.long w7_), .second]) rfl ?_
    refine Wk.iload X3 hx (hD d39_324) (n := 326) rfl rfl ?_
    refine Wk.bipush X3 hx (hD d39_326) (n := 328) rfl (z := (7 : Int32)) rfl ?_
    have hc328_55 : ¬ ((7 : Int32) < dd) := by rw [hdd]; exact own_nl (a := 7) (by omega)
    refine Wk.icmpYes X3 hx (hD d39_328) (flt hc328_55).2.2.2 (by decide) (n := 343) (by decide) ?_
    refine Wk.lload X3 hx (hD d39_343) (n := 345) rfl rfl ?_
    refine Wk.ldc2Long X3 hx hown (mW hZ hw 264 rfl) (hD d39_345) (n := 348) rfl ?_
    refine Wk.ldiv X3 hx (hD d39_348) (n := 349) rfl (by decide) ?_
    generalize (w7_ / (10 : Int64)) = w8_
    refine Wk.lstore X3 hx (hD d39_349) (n := 351) rfl (L' := #[.val (.ref eA), .val (.int i1), .val (.int p1), .val (.int i3), .val (.long j4), .second, .val (.int dd), .val (.int e7_), .val (.long w8_), .second]) rfl ?_
    refine Wk.iload X3 hx (hD d39_351) (n := 353) rfl rfl ?_
    refine Wk.bipush X3 hx (hD d39_353) (n := 355) rfl (z := (8 : Int32)) rfl ?_
    have hc355_56 : ¬ ((8 : Int32) < dd) := by rw [hdd]; exact own_nl (a := 8) (by omega)
    refine Wk.icmpYes X3 hx (hD d39_355) (flt hc355_56).2.2.2 (by decide) (n := 370) (by decide) ?_
    refine Wk.lload X3 hx (hD d39_370) (n := 372) rfl rfl ?_
    refine Wk.ldc2Long X3 hx hown (mW hZ hw 264 rfl) (hD d39_372) (n := 375) rfl ?_
    refine Wk.ldiv X3 hx (hD d39_375) (n := 376) rfl (by decide) ?_
    generalize (w8_ / (10 : Int64)) = w9_
    refine Wk.lstore X3 hx (hD d39_376) (n := 378) rfl (L' := #[.val (.ref eA), .val (.int i1), .val (.int p1), .val (.int i3), .val (.long j4), .second, .val (.int dd), .val (.int e7_), .val (.long w9_), .second]) rfl ?_
    refine Wk.iload X3 hx (hD d39_378) (n := 380) rfl rfl ?_
    refine Wk.bipush X3 hx (hD d39_380) (n := 382) rfl (z := (9 : Int32)) rfl ?_
    have hc382_57 : ¬ ((9 : Int32) < dd) := by rw [hdd]; exact own_nl (a := 9) (by omega)
    refine Wk.icmpYes X3 hx (hD d39_382) (flt hc382_57).2.2.2 (by decide) (n := 397) (by decide) ?_
    refine Wk.iloadN X3 hx (hD d39_397) (n := 398) rfl rfl ?_
    refine Wk.iload X3 hx (hD d39_398) (n := 400) rfl rfl ?_
    refine Wk.iadd X3 hx (hD d39_400) (n := 401) rfl ?_
    have hdl : dl (mg p1) = [(Int32.ofNat (48 + (mg p1) % 10))] := by have q := own_dl1 (n := mg p1) (by omega); exact q
    exact Wk.leave X3 (v := some (.int (i3 + dd))) (fun h => by rw [Bd.returns] at h; cases h) hlk e3 ⟨(congrArg (fun z => some (Value.int z)) (own_rl hcq hkz q3 hdd)), N3, K3, (own_arv (own_finc (r := kz - 1) hcq hdl (by omega)) Un3)⟩ (by decide) (by decide) (fun fs hr => retI X3 hx Bd.returns (hD d39_401) hr)
  refine Wk.lload Xj1 hx (hD d39_30) (n := 32) rfl rfl ?_
  refine Wk.ldc2Long Xj1 hx hown (mW hZ hw 264 rfl) (hD d39_32) (n := 35) rfl ?_
  refine Wk.lcmp Xj1 hx (hD d39_35) (n := 36) rfl ?_
  by_cases hc36 : j4 < (10 : Int64)
  ·
   refine Wk.ifYes Xj1 hx (hD d39_36) ((if0 _ _).trans (tlt ((lw_lt j4 (10 : Int64)).mpr hc36)).1) (by decide) (n := 42) (by decide) ?_
   have ub : mg p1 < 10 := by rw [q4] at hc36; exact (own_lt64 (b := 10) (by omega) (by decide)).mp hc36
   refine Wk.lload Xj1 hx (hD d39_42) (n := 44) rfl rfl ?_
   refine Wk.ldc2Long Xj1 hx hown (mW hZ hw 265 rfl) (hD d39_44) (n := 47) rfl ?_
   refine Wk.lcmp Xj1 hx (hD d39_47) (n := 48) rfl ?_
   have hc48_58 : j4 < (100 : Int64) := by rw [q4]; exact (own_lt64 (b := 100) (by omega) (by decide)).mpr (by omega)
   refine Wk.ifYes Xj1 hx (hD d39_48) ((if0 _ _).trans (tlt ((lw_lt j4 (100 : Int64)).mpr hc48_58)).1) (by decide) (n := 54) (by decide) ?_
   refine Wk.lload Xj1 hx (hD d39_54) (n := 56) rfl rfl ?_
   refine Wk.ldc2Long Xj1 hx hown (mW hZ hw 266 rfl) (hD d39_56) (n := 59) rfl ?_
   refine Wk.lcmp Xj1 hx (hD d39_59) (n := 60) rfl ?_
   have hc60_59 : j4 < (1000 : Int64) := by rw [q4]; exact (own_lt64 (b := 1000) (by omega) (by decide)).mpr (by omega)
   refine Wk.ifYes Xj1 hx (hD d39_60) ((if0 _ _).trans (tlt ((lw_lt j4 (1000 : Int64)).mpr hc60_59)).1) (by decide) (n := 66) (by decide) ?_
   refine Wk.lload Xj1 hx (hD d39_66) (n := 68) rfl rfl ?_
   refine Wk.ldc2Long Xj1 hx hown (mW hZ hw 267 rfl) (hD d39_68) (n := 71) rfl ?_
   refine Wk.lcmp Xj1 hx (hD d39_71) (n := 72) rfl ?_
   have hc72_60 : j4 < (10000 : Int64) := by rw [q4]; exact (own_lt64 (b := 10000) (by omega) (by decide)).mpr (by omega)
   refine Wk.ifYes Xj1 hx (hD d39_72) ((if0 _ _).trans (tlt ((lw_lt j4 (10000 : Int64)).mpr hc72_60)).1) (by decide) (n := 78) (by decide) ?_
   refine Wk.lload Xj1 hx (hD d39_78) (n := 80) rfl rfl ?_
   refine Wk.ldc2Long Xj1 hx hown (mW hZ hw 268 rfl) (hD d39_80) (n := 83) rfl ?_
   refine Wk.lcmp Xj1 hx (hD d39_83) (n := 84) rfl ?_
   have hc84_61 : j4 < (100000 : Int64) := by rw [q4]; exact (own_lt64 (b := 100000) (by omega) (by decide)).mpr (by omega)
   refine Wk.ifYes Xj1 hx (hD d39_84) ((if0 _ _).trans (tlt ((lw_lt j4 (100000 : Int64)).mpr hc84_61)).1) (by decide) (n := 91) (by decide) ?_
   refine Wk.lload Xj1 hx (hD d39_91) (n := 93) rfl rfl ?_
   refine Wk.ldc2Long Xj1 hx hown (mW hZ hw 269 rfl) (hD d39_93) (n := 96) rfl ?_
   refine Wk.lcmp Xj1 hx (hD d39_96) (n := 97) rfl ?_
   have hc97_62 : j4 < (1000000 : Int64) := by rw [q4]; exact (own_lt64 (b := 1000000) (by omega) (by decide)).mpr (by omega)
   refine Wk.ifYes Xj1 hx (hD d39_97) ((if0 _ _).trans (tlt ((lw_lt j4 (1000000 : Int64)).mpr hc97_62)).1) (by decide) (n := 104) (by decide) ?_
   refine Wk.lload Xj1 hx (hD d39_104) (n := 106) rfl rfl ?_
   refine Wk.ldc2Long Xj1 hx hown (mW hZ hw 270 rfl) (hD d39_106) (n := 109) rfl ?_
   refine Wk.lcmp Xj1 hx (hD d39_109) (n := 110) rfl ?_
   have hc110_63 : j4 < (10000000 : Int64) := by rw [q4]; exact (own_lt64 (b := 10000000) (by omega) (by decide)).mpr (by omega)
   refine Wk.ifYes Xj1 hx (hD d39_110) ((if0 _ _).trans (tlt ((lw_lt j4 (10000000 : Int64)).mpr hc110_63)).1) (by decide) (n := 117) (by decide) ?_
   refine Wk.lload Xj1 hx (hD d39_117) (n := 119) rfl rfl ?_
   refine Wk.ldc2Long Xj1 hx hown (mW hZ hw 271 rfl) (hD d39_119) (n := 122) rfl ?_
   refine Wk.lcmp Xj1 hx (hD d39_122) (n := 123) rfl ?_
   have hc123_64 : j4 < (100000000 : Int64) := by rw [q4]; exact (own_lt64 (b := 100000000) (by omega) (by decide)).mpr (by omega)
   refine Wk.ifYes Xj1 hx (hD d39_123) ((if0 _ _).trans (tlt ((lw_lt j4 (100000000 : Int64)).mpr hc123_64)).1) (by decide) (n := 130) (by decide) ?_
   refine Wk.lload Xj1 hx (hD d39_130) (n := 132) rfl rfl ?_
   refine Wk.ldc2Long Xj1 hx hown (mW hZ hw 272 rfl) (hD d39_132) (n := 135) rfl ?_
   refine Wk.lcmp Xj1 hx (hD d39_135) (n := 136) rfl ?_
   have hc136_65 : j4 < (1000000000 : Int64) := by rw [q4]; exact (own_lt64 (b := 1000000000) (by omega) (by decide)).mpr (by omega)
   refine Wk.ifYes Xj1 hx (hD d39_136) ((if0 _ _).trans (tlt ((lw_lt j4 (1000000000 : Int64)).mpr hc136_65)).1) (by decide) (n := 143) (by decide) ?_
   exact jp_b _ 1 rfl (dl_len 0 (mg p1) ub (Or.inl rfl))
  ·
   refine Wk.ifNo Xj1 hx (hD d39_36) (n := 39) rfl ((if0 _ _).trans (flt (mt (lw_lt j4 (10 : Int64)).mp hc36)).1) ?_
   refine Wk.iconst Xj1 hx (hD d39_39) (n := 40) rfl (z := (2 : Int32)) rfl ?_
   refine Wk.istore Xj1 hx (hD d39_40) (n := 42) rfl (L' := #[.val (.ref eA), .val (.int i1), .val (.int p1), .val (.int i3), .val (.long j4), .second, .val (.int (2 : Int32)), .unset, .unset, .unset]) rfl ?_
   have lb0 : 10 ≤ mg p1 := Nat.le_of_not_lt fun q => hc36 (by rw [q4]; exact (own_lt64 (b := 10) (by omega) (by decide)).mpr q)
   refine Wk.lload Xj1 hx (hD d39_42) (n := 44) rfl rfl ?_
   refine Wk.ldc2Long Xj1 hx hown (mW hZ hw 265 rfl) (hD d39_44) (n := 47) rfl ?_
   refine Wk.lcmp Xj1 hx (hD d39_47) (n := 48) rfl ?_
   by_cases hc48 : j4 < (100 : Int64)
   ·
    refine Wk.ifYes Xj1 hx (hD d39_48) ((if0 _ _).trans (tlt ((lw_lt j4 (100 : Int64)).mpr hc48)).1) (by decide) (n := 54) (by decide) ?_
    have ub : mg p1 < 100 := by rw [q4] at hc48; exact (own_lt64 (b := 100) (by omega) (by decide)).mp hc48
    refine Wk.lload Xj1 hx (hD d39_54) (n := 56) rfl rfl ?_
    refine Wk.ldc2Long Xj1 hx hown (mW hZ hw 266 rfl) (hD d39_56) (n := 59) rfl ?_
    refine Wk.lcmp Xj1 hx (hD d39_59) (n := 60) rfl ?_
    have hc60_66 : j4 < (1000 : Int64) := by rw [q4]; exact (own_lt64 (b := 1000) (by omega) (by decide)).mpr (by omega)
    refine Wk.ifYes Xj1 hx (hD d39_60) ((if0 _ _).trans (tlt ((lw_lt j4 (1000 : Int64)).mpr hc60_66)).1) (by decide) (n := 66) (by decide) ?_
    refine Wk.lload Xj1 hx (hD d39_66) (n := 68) rfl rfl ?_
    refine Wk.ldc2Long Xj1 hx hown (mW hZ hw 267 rfl) (hD d39_68) (n := 71) rfl ?_
    refine Wk.lcmp Xj1 hx (hD d39_71) (n := 72) rfl ?_
    have hc72_67 : j4 < (10000 : Int64) := by rw [q4]; exact (own_lt64 (b := 10000) (by omega) (by decide)).mpr (by omega)
    refine Wk.ifYes Xj1 hx (hD d39_72) ((if0 _ _).trans (tlt ((lw_lt j4 (10000 : Int64)).mpr hc72_67)).1) (by decide) (n := 78) (by decide) ?_
    refine Wk.lload Xj1 hx (hD d39_78) (n := 80) rfl rfl ?_
    refine Wk.ldc2Long Xj1 hx hown (mW hZ hw 268 rfl) (hD d39_80) (n := 83) rfl ?_
    refine Wk.lcmp Xj1 hx (hD d39_83) (n := 84) rfl ?_
    have hc84_68 : j4 < (100000 : Int64) := by rw [q4]; exact (own_lt64 (b := 100000) (by omega) (by decide)).mpr (by omega)
    refine Wk.ifYes Xj1 hx (hD d39_84) ((if0 _ _).trans (tlt ((lw_lt j4 (100000 : Int64)).mpr hc84_68)).1) (by decide) (n := 91) (by decide) ?_
    refine Wk.lload Xj1 hx (hD d39_91) (n := 93) rfl rfl ?_
    refine Wk.ldc2Long Xj1 hx hown (mW hZ hw 269 rfl) (hD d39_93) (n := 96) rfl ?_
    refine Wk.lcmp Xj1 hx (hD d39_96) (n := 97) rfl ?_
    have hc97_69 : j4 < (1000000 : Int64) := by rw [q4]; exact (own_lt64 (b := 1000000) (by omega) (by decide)).mpr (by omega)
    refine Wk.ifYes Xj1 hx (hD d39_97) ((if0 _ _).trans (tlt ((lw_lt j4 (1000000 : Int64)).mpr hc97_69)).1) (by decide) (n := 104) (by decide) ?_
    refine Wk.lload Xj1 hx (hD d39_104) (n := 106) rfl rfl ?_
    refine Wk.ldc2Long Xj1 hx hown (mW hZ hw 270 rfl) (hD d39_106) (n := 109) rfl ?_
    refine Wk.lcmp Xj1 hx (hD d39_109) (n := 110) rfl ?_
    have hc110_70 : j4 < (10000000 : Int64) := by rw [q4]; exact (own_lt64 (b := 10000000) (by omega) (by decide)).mpr (by omega)
    refine Wk.ifYes Xj1 hx (hD d39_110) ((if0 _ _).trans (tlt ((lw_lt j4 (10000000 : Int64)).mpr hc110_70)).1) (by decide) (n := 117) (by decide) ?_
    refine Wk.lload Xj1 hx (hD d39_117) (n := 119) rfl rfl ?_
    refine Wk.ldc2Long Xj1 hx hown (mW hZ hw 271 rfl) (hD d39_119) (n := 122) rfl ?_
    refine Wk.lcmp Xj1 hx (hD d39_122) (n := 123) rfl ?_
    have hc123_71 : j4 < (100000000 : Int64) := by rw [q4]; exact (own_lt64 (b := 100000000) (by omega) (by decide)).mpr (by omega)
    refine Wk.ifYes Xj1 hx (hD d39_123) ((if0 _ _).trans (tlt ((lw_lt j4 (100000000 : Int64)).mpr hc123_71)).1) (by decide) (n := 130) (by decide) ?_
    refine Wk.lload Xj1 hx (hD d39_130) (n := 132) rfl rfl ?_
    refine Wk.ldc2Long Xj1 hx hown (mW hZ hw 272 rfl) (hD d39_132) (n := 135) rfl ?_
    refine Wk.lcmp Xj1 hx (hD d39_135) (n := 136) rfl ?_
    have hc136_72 : j4 < (1000000000 : Int64) := by rw [q4]; exact (own_lt64 (b := 1000000000) (by omega) (by decide)).mpr (by omega)
    refine Wk.ifYes Xj1 hx (hD d39_136) ((if0 _ _).trans (tlt ((lw_lt j4 (1000000000 : Int64)).mpr hc136_72)).1) (by decide) (n := 143) (by decide) ?_
    exact jp_b _ 2 rfl (dl_len 1 (mg p1) ub (Or.inr lb0))
   ·
    refine Wk.ifNo Xj1 hx (hD d39_48) (n := 51) rfl ((if0 _ _).trans (flt (mt (lw_lt j4 (100 : Int64)).mp hc48)).1) ?_
    refine Wk.iconst Xj1 hx (hD d39_51) (n := 52) rfl (z := (3 : Int32)) rfl ?_
    refine Wk.istore Xj1 hx (hD d39_52) (n := 54) rfl (L' := #[.val (.ref eA), .val (.int i1), .val (.int p1), .val (.int i3), .val (.long j4), .second, .val (.int (3 : Int32)), .unset, .unset, .unset]) rfl ?_
    have lb1 : 100 ≤ mg p1 := Nat.le_of_not_lt fun q => hc48 (by rw [q4]; exact (own_lt64 (b := 100) (by omega) (by decide)).mpr q)
    refine Wk.lload Xj1 hx (hD d39_54) (n := 56) rfl rfl ?_
    refine Wk.ldc2Long Xj1 hx hown (mW hZ hw 266 rfl) (hD d39_56) (n := 59) rfl ?_
    refine Wk.lcmp Xj1 hx (hD d39_59) (n := 60) rfl ?_
    by_cases hc60 : j4 < (1000 : Int64)
    ·
     refine Wk.ifYes Xj1 hx (hD d39_60) ((if0 _ _).trans (tlt ((lw_lt j4 (1000 : Int64)).mpr hc60)).1) (by decide) (n := 66) (by decide) ?_
     have ub : mg p1 < 1000 := by rw [q4] at hc60; exact (own_lt64 (b := 1000) (by omega) (by decide)).mp hc60
     refine Wk.lload Xj1 hx (hD d39_66) (n := 68) rfl rfl ?_
     refine Wk.ldc2Long Xj1 hx hown (mW hZ hw 267 rfl) (hD d39_68) (n := 71) rfl ?_
     refine Wk.lcmp Xj1 hx (hD d39_71) (n := 72) rfl ?_
     have hc72_73 : j4 < (10000 : Int64) := by rw [q4]; exact (own_lt64 (b := 10000) (by omega) (by decide)).mpr (by omega)
     refine Wk.ifYes Xj1 hx (hD d39_72) ((if0 _ _).trans (tlt ((lw_lt j4 (10000 : Int64)).mpr hc72_73)).1) (by decide) (n := 78) (by decide) ?_
     refine Wk.lload Xj1 hx (hD d39_78) (n := 80) rfl rfl ?_
     refine Wk.ldc2Long Xj1 hx hown (mW hZ hw 268 rfl) (hD d39_80) (n := 83) rfl ?_
     refine Wk.lcmp Xj1 hx (hD d39_83) (n := 84) rfl ?_
     have hc84_74 : j4 < (100000 : Int64) := by rw [q4]; exact (own_lt64 (b := 100000) (by omega) (by decide)).mpr (by omega)
     refine Wk.ifYes Xj1 hx (hD d39_84) ((if0 _ _).trans (tlt ((lw_lt j4 (100000 : Int64)).mpr hc84_74)).1) (by decide) (n := 91) (by decide) ?_
     refine Wk.lload Xj1 hx (hD d39_91) (n := 93) rfl rfl ?_
     refine Wk.ldc2Long Xj1 hx hown (mW hZ hw 269 rfl) (hD d39_93) (n := 96) rfl ?_
     refine Wk.lcmp Xj1 hx (hD d39_96) (n := 97) rfl ?_
     have hc97_75 : j4 < (1000000 : Int64) := by rw [q4]; exact (own_lt64 (b := 1000000) (by omega) (by decide)).mpr (by omega)
     refine Wk.ifYes Xj1 hx (hD d39_97) ((if0 _ _).trans (tlt ((lw_lt j4 (1000000 : Int64)).mpr hc97_75)).1) (by decide) (n := 104) (by decide) ?_
     refine Wk.lload Xj1 hx (hD d39_104) (n := 106) rfl rfl ?_
     refine Wk.ldc2Long Xj1 hx hown (mW hZ hw 270 rfl) (hD d39_106) (n := 109) rfl ?_
     refine Wk.lcmp Xj1 hx (hD d39_109) (n := 110) rfl ?_
     have hc110_76 : j4 < (10000000 : Int64) := by rw [q4]; exact (own_lt64 (b := 10000000) (by omega) (by decide)).mpr (by omega)
     refine Wk.ifYes Xj1 hx (hD d39_110) ((if0 _ _).trans (tlt ((lw_lt j4 (10000000 : Int64)).mpr hc110_76)).1) (by decide) (n := 117) (by decide) ?_
     refine Wk.lload Xj1 hx (hD d39_117) (n := 119) rfl rfl ?_
     refine Wk.ldc2Long Xj1 hx hown (mW hZ hw 271 rfl) (hD d39_119) (n := 122) rfl ?_
     refine Wk.lcmp Xj1 hx (hD d39_122) (n := 123) rfl ?_
     have hc123_77 : j4 < (100000000 : Int64) := by rw [q4]; exact (own_lt64 (b := 100000000) (by omega) (by decide)).mpr (by omega)
     refine Wk.ifYes Xj1 hx (hD d39_123) ((if0 _ _).trans (tlt ((lw_lt j4 (100000000 : Int64)).mpr hc123_77)).1) (by decide) (n := 130) (by decide) ?_
     refine Wk.lload Xj1 hx (hD d39_130) (n := 132) rfl rfl ?_
     refine Wk.ldc2Long Xj1 hx hown (mW hZ hw 272 rfl) (hD d39_132) (n := 135) rfl ?_
     refine Wk.lcmp Xj1 hx (hD d39_135) (n := 136) rfl ?_
     have hc136_78 : j4 < (1000000000 : Int64) := by rw [q4]; exact (own_lt64 (b := 1000000000) (by omega) (by decide)).mpr (by omega)
     refine Wk.ifYes Xj1 hx (hD d39_136) ((if0 _ _).trans (tlt ((lw_lt j4 (1000000000 : Int64)).mpr hc136_78)).1) (by decide) (n := 143) (by decide) ?_
     exact jp_b _ 3 rfl (dl_len 2 (mg p1) ub (Or.inr lb1))
    ·
     refine Wk.ifNo Xj1 hx (hD d39_60) (n := 63) rfl ((if0 _ _).trans (flt (mt (lw_lt j4 (1000 : Int64)).mp hc60)).1) ?_
     refine Wk.iconst Xj1 hx (hD d39_63) (n := 64) rfl (z := (4 : Int32)) rfl ?_
     refine Wk.istore Xj1 hx (hD d39_64) (n := 66) rfl (L' := #[.val (.ref eA), .val (.int i1), .val (.int p1), .val (.int i3), .val (.long j4), .second, .val (.int (4 : Int32)), .unset, .unset, .unset]) rfl ?_
     have lb2 : 1000 ≤ mg p1 := Nat.le_of_not_lt fun q => hc60 (by rw [q4]; exact (own_lt64 (b := 1000) (by omega) (by decide)).mpr q)
     refine Wk.lload Xj1 hx (hD d39_66) (n := 68) rfl rfl ?_
     refine Wk.ldc2Long Xj1 hx hown (mW hZ hw 267 rfl) (hD d39_68) (n := 71) rfl ?_
     refine Wk.lcmp Xj1 hx (hD d39_71) (n := 72) rfl ?_
     by_cases hc72 : j4 < (10000 : Int64)
     ·
      refine Wk.ifYes Xj1 hx (hD d39_72) ((if0 _ _).trans (tlt ((lw_lt j4 (10000 : Int64)).mpr hc72)).1) (by decide) (n := 78) (by decide) ?_
      have ub : mg p1 < 10000 := by rw [q4] at hc72; exact (own_lt64 (b := 10000) (by omega) (by decide)).mp hc72
      refine Wk.lload Xj1 hx (hD d39_78) (n := 80) rfl rfl ?_
      refine Wk.ldc2Long Xj1 hx hown (mW hZ hw 268 rfl) (hD d39_80) (n := 83) rfl ?_
      refine Wk.lcmp Xj1 hx (hD d39_83) (n := 84) rfl ?_
      have hc84_79 : j4 < (100000 : Int64) := by rw [q4]; exact (own_lt64 (b := 100000) (by omega) (by decide)).mpr (by omega)
      refine Wk.ifYes Xj1 hx (hD d39_84) ((if0 _ _).trans (tlt ((lw_lt j4 (100000 : Int64)).mpr hc84_79)).1) (by decide) (n := 91) (by decide) ?_
      refine Wk.lload Xj1 hx (hD d39_91) (n := 93) rfl rfl ?_
      refine Wk.ldc2Long Xj1 hx hown (mW hZ hw 269 rfl) (hD d39_93) (n := 96) rfl ?_
      refine Wk.lcmp Xj1 hx (hD d39_96) (n := 97) rfl ?_
      have hc97_80 : j4 < (1000000 : Int64) := by rw [q4]; exact (own_lt64 (b := 1000000) (by omega) (by decide)).mpr (by omega)
      refine Wk.ifYes Xj1 hx (hD d39_97) ((if0 _ _).trans (tlt ((lw_lt j4 (1000000 : Int64)).mpr hc97_80)).1) (by decide) (n := 104) (by decide) ?_
      refine Wk.lload Xj1 hx (hD d39_104) (n := 106) rfl rfl ?_
      refine Wk.ldc2Long Xj1 hx hown (mW hZ hw 270 rfl) (hD d39_106) (n := 109) rfl ?_
      refine Wk.lcmp Xj1 hx (hD d39_109) (n := 110) rfl ?_
      have hc110_81 : j4 < (10000000 : Int64) := by rw [q4]; exact (own_lt64 (b := 10000000) (by omega) (by decide)).mpr (by omega)
      refine Wk.ifYes Xj1 hx (hD d39_110) ((if0 _ _).trans (tlt ((lw_lt j4 (10000000 : Int64)).mpr hc110_81)).1) (by decide) (n := 117) (by decide) ?_
      refine Wk.lload Xj1 hx (hD d39_117) (n := 119) rfl rfl ?_
      refine Wk.ldc2Long Xj1 hx hown (mW hZ hw 271 rfl) (hD d39_119) (n := 122) rfl ?_
      refine Wk.lcmp Xj1 hx (hD d39_122) (n := 123) rfl ?_
      have hc123_82 : j4 < (100000000 : Int64) := by rw [q4]; exact (own_lt64 (b := 100000000) (by omega) (by decide)).mpr (by omega)
      refine Wk.ifYes Xj1 hx (hD d39_123) ((if0 _ _).trans (tlt ((lw_lt j4 (100000000 : Int64)).mpr hc123_82)).1) (by decide) (n := 130) (by decide) ?_
      refine Wk.lload Xj1 hx (hD d39_130) (n := 132) rfl rfl ?_
      refine Wk.ldc2Long Xj1 hx hown (mW hZ hw 272 rfl) (hD d39_132) (n := 135) rfl ?_
      refine Wk.lcmp Xj1 hx (hD d39_135) (n := 136) rfl ?_
      have hc136_83 : j4 < (1000000000 : Int64) := by rw [q4]; exact (own_lt64 (b := 1000000000) (by omega) (by decide)).mpr (by omega)
      refine Wk.ifYes Xj1 hx (hD d39_136) ((if0 _ _).trans (tlt ((lw_lt j4 (1000000000 : Int64)).mpr hc136_83)).1) (by decide) (n := 143) (by decide) ?_
      exact jp_b _ 4 rfl (dl_len 3 (mg p1) ub (Or.inr lb2))
     ·
      refine Wk.ifNo Xj1 hx (hD d39_72) (n := 75) rfl ((if0 _ _).trans (flt (mt (lw_lt j4 (10000 : Int64)).mp hc72)).1) ?_
      refine Wk.iconst Xj1 hx (hD d39_75) (n := 76) rfl (z := (5 : Int32)) rfl ?_
      refine Wk.istore Xj1 hx (hD d39_76) (n := 78) rfl (L' := #[.val (.ref eA), .val (.int i1), .val (.int p1), .val (.int i3), .val (.long j4), .second, .val (.int (5 : Int32)), .unset, .unset, .unset]) rfl ?_
      have lb3 : 10000 ≤ mg p1 := Nat.le_of_not_lt fun q => hc72 (by rw [q4]; exact (own_lt64 (b := 10000) (by omega) (by decide)).mpr q)
      refine Wk.lload Xj1 hx (hD d39_78) (n := 80) rfl rfl ?_
      refine Wk.ldc2Long Xj1 hx hown (mW hZ hw 268 rfl) (hD d39_80) (n := 83) rfl ?_
      refine Wk.lcmp Xj1 hx (hD d39_83) (n := 84) rfl ?_
      by_cases hc84 : j4 < (100000 : Int64)
      ·
       refine Wk.ifYes Xj1 hx (hD d39_84) ((if0 _ _).trans (tlt ((lw_lt j4 (100000 : Int64)).mpr hc84)).1) (by decide) (n := 91) (by decide) ?_
       have ub : mg p1 < 100000 := by rw [q4] at hc84; exact (own_lt64 (b := 100000) (by omega) (by decide)).mp hc84
       refine Wk.lload Xj1 hx (hD d39_91) (n := 93) rfl rfl ?_
       refine Wk.ldc2Long Xj1 hx hown (mW hZ hw 269 rfl) (hD d39_93) (n := 96) rfl ?_
       refine Wk.lcmp Xj1 hx (hD d39_96) (n := 97) rfl ?_
       have hc97_84 : j4 < (1000000 : Int64) := by rw [q4]; exact (own_lt64 (b := 1000000) (by omega) (by decide)).mpr (by omega)
       refine Wk.ifYes Xj1 hx (hD d39_97) ((if0 _ _).trans (tlt ((lw_lt j4 (1000000 : Int64)).mpr hc97_84)).1) (by decide) (n := 104) (by decide) ?_
       refine Wk.lload Xj1 hx (hD d39_104) (n := 106) rfl rfl ?_
       refine Wk.ldc2Long Xj1 hx hown (mW hZ hw 270 rfl) (hD d39_106) (n := 109) rfl ?_
       refine Wk.lcmp Xj1 hx (hD d39_109) (n := 110) rfl ?_
       have hc110_85 : j4 < (10000000 : Int64) := by rw [q4]; exact (own_lt64 (b := 10000000) (by omega) (by decide)).mpr (by omega)
       refine Wk.ifYes Xj1 hx (hD d39_110) ((if0 _ _).trans (tlt ((lw_lt j4 (10000000 : Int64)).mpr hc110_85)).1) (by decide) (n := 117) (by decide) ?_
       refine Wk.lload Xj1 hx (hD d39_117) (n := 119) rfl rfl ?_
       refine Wk.ldc2Long Xj1 hx hown (mW hZ hw 271 rfl) (hD d39_119) (n := 122) rfl ?_
       refine Wk.lcmp Xj1 hx (hD d39_122) (n := 123) rfl ?_
       have hc123_86 : j4 < (100000000 : Int64) := by rw [q4]; exact (own_lt64 (b := 100000000) (by omega) (by decide)).mpr (by omega)
       refine Wk.ifYes Xj1 hx (hD d39_123) ((if0 _ _).trans (tlt ((lw_lt j4 (100000000 : Int64)).mpr hc123_86)).1) (by decide) (n := 130) (by decide) ?_
       refine Wk.lload Xj1 hx (hD d39_130) (n := 132) rfl rfl ?_
       refine Wk.ldc2Long Xj1 hx hown (mW hZ hw 272 rfl) (hD d39_132) (n := 135) rfl ?_
       refine Wk.lcmp Xj1 hx (hD d39_135) (n := 136) rfl ?_
       have hc136_87 : j4 < (1000000000 : Int64) := by rw [q4]; exact (own_lt64 (b := 1000000000) (by omega) (by decide)).mpr (by omega)
       refine Wk.ifYes Xj1 hx (hD d39_136) ((if0 _ _).trans (tlt ((lw_lt j4 (1000000000 : Int64)).mpr hc136_87)).1) (by decide) (n := 143) (by decide) ?_
       exact jp_b _ 5 rfl (dl_len 4 (mg p1) ub (Or.inr lb3))
      ·
       refine Wk.ifNo Xj1 hx (hD d39_84) (n := 87) rfl ((if0 _ _).trans (flt (mt (lw_lt j4 (100000 : Int64)).mp hc84)).1) ?_
       refine Wk.bipush Xj1 hx (hD d39_87) (n := 89) rfl (z := (6 : Int32)) rfl ?_
       refine Wk.istore Xj1 hx (hD d39_89) (n := 91) rfl (L' := #[.val (.ref eA), .val (.int i1), .val (.int p1), .val (.int i3), .val (.long j4), .second, .val (.int (6 : Int32)), .unset, .unset, .unset]) rfl ?_
       have lb4 : 100000 ≤ mg p1 := Nat.le_of_not_lt fun q => hc84 (by rw [q4]; exact (own_lt64 (b := 100000) (by omega) (by decide)).mpr q)
       refine Wk.lload Xj1 hx (hD d39_91) (n := 93) rfl rfl ?_
       refine Wk.ldc2Long Xj1 hx hown (mW hZ hw 269 rfl) (hD d39_93) (n := 96) rfl ?_
       refine Wk.lcmp Xj1 hx (hD d39_96) (n := 97) rfl ?_
       by_cases hc97 : j4 < (1000000 : Int64)
       ·
        refine Wk.ifYes Xj1 hx (hD d39_97) ((if0 _ _).trans (tlt ((lw_lt j4 (1000000 : Int64)).mpr hc97)).1) (by decide) (n := 104) (by decide) ?_
        have ub : mg p1 < 1000000 := by rw [q4] at hc97; exact (own_lt64 (b := 1000000) (by omega) (by decide)).mp hc97
        refine Wk.lload Xj1 hx (hD d39_104) (n := 106) rfl rfl ?_
        refine Wk.ldc2Long Xj1 hx hown (mW hZ hw 270 rfl) (hD d39_106) (n := 109) rfl ?_
        refine Wk.lcmp Xj1 hx (hD d39_109) (n := 110) rfl ?_
        have hc110_88 : j4 < (10000000 : Int64) := by rw [q4]; exact (own_lt64 (b := 10000000) (by omega) (by decide)).mpr (by omega)
        refine Wk.ifYes Xj1 hx (hD d39_110) ((if0 _ _).trans (tlt ((lw_lt j4 (10000000 : Int64)).mpr hc110_88)).1) (by decide) (n := 117) (by decide) ?_
        refine Wk.lload Xj1 hx (hD d39_117) (n := 119) rfl rfl ?_
        refine Wk.ldc2Long Xj1 hx hown (mW hZ hw 271 rfl) (hD d39_119) (n := 122) rfl ?_
        refine Wk.lcmp Xj1 hx (hD d39_122) (n := 123) rfl ?_
        have hc123_89 : j4 < (100000000 : Int64) := by rw [q4]; exact (own_lt64 (b := 100000000) (by omega) (by decide)).mpr (by omega)
        refine Wk.ifYes Xj1 hx (hD d39_123) ((if0 _ _).trans (tlt ((lw_lt j4 (100000000 : Int64)).mpr hc123_89)).1) (by decide) (n := 130) (by decide) ?_
        refine Wk.lload Xj1 hx (hD d39_130) (n := 132) rfl rfl ?_
        refine Wk.ldc2Long Xj1 hx hown (mW hZ hw 272 rfl) (hD d39_132) (n := 135) rfl ?_
        refine Wk.lcmp Xj1 hx (hD d39_135) (n := 136) rfl ?_
        have hc136_90 : j4 < (1000000000 : Int64) := by rw [q4]; exact (own_lt64 (b := 1000000000) (by omega) (by decide)).mpr (by omega)
        refine Wk.ifYes Xj1 hx (hD d39_136) ((if0 _ _).trans (tlt ((lw_lt j4 (1000000000 : Int64)).mpr hc136_90)).1) (by decide) (n := 143) (by decide) ?_
        exact jp_b _ 6 rfl (dl_len 5 (mg p1) ub (Or.inr lb4))
       ·
        refine Wk.ifNo Xj1 hx (hD d39_97) (n := 100) rfl ((if0 _ _).trans (flt (mt (lw_lt j4 (1000000 : Int64)).mp hc97)).1) ?_
        refine Wk.bipush Xj1 hx (hD d39_100) (n := 102) rfl (z := (7 : Int32)) rfl ?_
        refine Wk.istore Xj1 hx (hD d39_102) (n := 104) rfl (L' := #[.val (.ref eA), .val (.int i1), .val (.int p1), .val (.int i3), .val (.long j4), .second, .val (.int (7 : Int32)), .unset, .unset, .unset]) rfl ?_
        have lb5 : 1000000 ≤ mg p1 := Nat.le_of_not_lt fun q => hc97 (by rw [q4]; exact (own_lt64 (b := 1000000) (by omega) (by decide)).mpr q)
        refine Wk.lload Xj1 hx (hD d39_104) (n := 106) rfl rfl ?_
        refine Wk.ldc2Long Xj1 hx hown (mW hZ hw 270 rfl) (hD d39_106) (n := 109) rfl ?_
        refine Wk.lcmp Xj1 hx (hD d39_109) (n := 110) rfl ?_
        by_cases hc110 : j4 < (10000000 : Int64)
        ·
         refine Wk.ifYes Xj1 hx (hD d39_110) ((if0 _ _).trans (tlt ((lw_lt j4 (10000000 : Int64)).mpr hc110)).1) (by decide) (n := 117) (by decide) ?_
         have ub : mg p1 < 10000000 := by rw [q4] at hc110; exact (own_lt64 (b := 10000000) (by omega) (by decide)).mp hc110
         refine Wk.lload Xj1 hx (hD d39_117) (n := 119) rfl rfl ?_
         refine Wk.ldc2Long Xj1 hx hown (mW hZ hw 271 rfl) (hD d39_119) (n := 122) rfl ?_
         refine Wk.lcmp Xj1 hx (hD d39_122) (n := 123) rfl ?_
         have hc123_91 : j4 < (100000000 : Int64) := by rw [q4]; exact (own_lt64 (b := 100000000) (by omega) (by decide)).mpr (by omega)
         refine Wk.ifYes Xj1 hx (hD d39_123) ((if0 _ _).trans (tlt ((lw_lt j4 (100000000 : Int64)).mpr hc123_91)).1) (by decide) (n := 130) (by decide) ?_
         refine Wk.lload Xj1 hx (hD d39_130) (n := 132) rfl rfl ?_
         refine Wk.ldc2Long Xj1 hx hown (mW hZ hw 272 rfl) (hD d39_132) (n := 135) rfl ?_
         refine Wk.lcmp Xj1 hx (hD d39_135) (n := 136) rfl ?_
         have hc136_92 : j4 < (1000000000 : Int64) := by rw [q4]; exact (own_lt64 (b := 1000000000) (by omega) (by decide)).mpr (by omega)
         refine Wk.ifYes Xj1 hx (hD d39_136) ((if0 _ _).trans (tlt ((lw_lt j4 (1000000000 : Int64)).mpr hc136_92)).1) (by decide) (n := 143) (by decide) ?_
         exact jp_b _ 7 rfl (dl_len 6 (mg p1) ub (Or.inr lb5))
        ·
         refine Wk.ifNo Xj1 hx (hD d39_110) (n := 113) rfl ((if0 _ _).trans (flt (mt (lw_lt j4 (10000000 : Int64)).mp hc110)).1) ?_
         refine Wk.bipush Xj1 hx (hD d39_113) (n := 115) rfl (z := (8 : Int32)) rfl ?_
         refine Wk.istore Xj1 hx (hD d39_115) (n := 117) rfl (L' := #[.val (.ref eA), .val (.int i1), .val (.int p1), .val (.int i3), .val (.long j4), .second, .val (.int (8 : Int32)), .unset, .unset, .unset]) rfl ?_
         have lb6 : 10000000 ≤ mg p1 := Nat.le_of_not_lt fun q => hc110 (by rw [q4]; exact (own_lt64 (b := 10000000) (by omega) (by decide)).mpr q)
         refine Wk.lload Xj1 hx (hD d39_117) (n := 119) rfl rfl ?_
         refine Wk.ldc2Long Xj1 hx hown (mW hZ hw 271 rfl) (hD d39_119) (n := 122) rfl ?_
         refine Wk.lcmp Xj1 hx (hD d39_122) (n := 123) rfl ?_
         by_cases hc123 : j4 < (100000000 : Int64)
         ·
          refine Wk.ifYes Xj1 hx (hD d39_123) ((if0 _ _).trans (tlt ((lw_lt j4 (100000000 : Int64)).mpr hc123)).1) (by decide) (n := 130) (by decide) ?_
          have ub : mg p1 < 100000000 := by rw [q4] at hc123; exact (own_lt64 (b := 100000000) (by omega) (by decide)).mp hc123
          refine Wk.lload Xj1 hx (hD d39_130) (n := 132) rfl rfl ?_
          refine Wk.ldc2Long Xj1 hx hown (mW hZ hw 272 rfl) (hD d39_132) (n := 135) rfl ?_
          refine Wk.lcmp Xj1 hx (hD d39_135) (n := 136) rfl ?_
          have hc136_93 : j4 < (1000000000 : Int64) := by rw [q4]; exact (own_lt64 (b := 1000000000) (by omega) (by decide)).mpr (by omega)
          refine Wk.ifYes Xj1 hx (hD d39_136) ((if0 _ _).trans (tlt ((lw_lt j4 (1000000000 : Int64)).mpr hc136_93)).1) (by decide) (n := 143) (by decide) ?_
          exact jp_b _ 8 rfl (dl_len 7 (mg p1) ub (Or.inr lb6))
         ·
          refine Wk.ifNo Xj1 hx (hD d39_123) (n := 126) rfl ((if0 _ _).trans (flt (mt (lw_lt j4 (100000000 : Int64)).mp hc123)).1) ?_
          refine Wk.bipush Xj1 hx (hD d39_126) (n := 128) rfl (z := (9 : Int32)) rfl ?_
          refine Wk.istore Xj1 hx (hD d39_128) (n := 130) rfl (L' := #[.val (.ref eA), .val (.int i1), .val (.int p1), .val (.int i3), .val (.long j4), .second, .val (.int (9 : Int32)), .unset, .unset, .unset]) rfl ?_
          have lb7 : 100000000 ≤ mg p1 := Nat.le_of_not_lt fun q => hc123 (by rw [q4]; exact (own_lt64 (b := 100000000) (by omega) (by decide)).mpr q)
          refine Wk.lload Xj1 hx (hD d39_130) (n := 132) rfl rfl ?_
          refine Wk.ldc2Long Xj1 hx hown (mW hZ hw 272 rfl) (hD d39_132) (n := 135) rfl ?_
          refine Wk.lcmp Xj1 hx (hD d39_135) (n := 136) rfl ?_
          by_cases hc136 : j4 < (1000000000 : Int64)
          ·
           refine Wk.ifYes Xj1 hx (hD d39_136) ((if0 _ _).trans (tlt ((lw_lt j4 (1000000000 : Int64)).mpr hc136)).1) (by decide) (n := 143) (by decide) ?_
           have ub : mg p1 < 1000000000 := by rw [q4] at hc136; exact (own_lt64 (b := 1000000000) (by omega) (by decide)).mp hc136
           exact jp_b _ 9 rfl (dl_len 8 (mg p1) ub (Or.inr lb7))
          ·
           refine Wk.ifNo Xj1 hx (hD d39_136) (n := 139) rfl ((if0 _ _).trans (flt (mt (lw_lt j4 (1000000000 : Int64)).mp hc136)).1) ?_
           refine Wk.bipush Xj1 hx (hD d39_139) (n := 141) rfl (z := (10 : Int32)) rfl ?_
           refine Wk.istore Xj1 hx (hD d39_141) (n := 143) rfl (L' := #[.val (.ref eA), .val (.int i1), .val (.int p1), .val (.int i3), .val (.long j4), .second, .val (.int (10 : Int32)), .unset, .unset, .unset]) rfl ?_
           have lb8 : 1000000000 ≤ mg p1 := Nat.le_of_not_lt fun q => hc136 (by rw [q4]; exact (own_lt64 (b := 1000000000) (by omega) (by decide)).mpr q)
           exact jp_b _ 10 rfl (dl_len 9 (mg p1) (by omega) (Or.inr lb8))
 refine Wk.iloadN X0 hx (hD d39_0) (n := 1) rfl rfl ?_
 refine Wk.istoreN X0 hx (hD d39_1) (n := 2) rfl (L' := #[.val (.ref eA), .val (.int i1), .val (.int p1), .val (.int i1), .unset, .unset, .unset, .unset, .unset, .unset]) rfl ?_
 refine Wk.iloadN X0 hx (hD d39_2) (n := 3) rfl rfl ?_
 refine Wk.i2l X0 hx (hD d39_3) (n := 4) rfl ?_
 refine Wk.lstore X0 hx (hD d39_4) (n := 6) rfl (L' := #[.val (.ref eA), .val (.int i1), .val (.int p1), .val (.int i1), .val (.long (p1.toInt64)), .second, .unset, .unset, .unset, .unset]) rfl ?_
 refine Wk.lload X0 hx (hD d39_6) (n := 8) rfl rfl ?_
 refine Wk.lconst X0 hx (hD d39_8) (n := 9) rfl (z := (0 : Int64)) rfl ?_
 refine Wk.lcmp X0 hx (hD d39_9) (n := 10) rfl ?_
 by_cases hc10 : (p1.toInt64) < (0 : Int64)
 ·
  refine Wk.ifNo X0 hx (hD d39_10) (n := 13) rfl ((if0 _ _).trans (tlt ((lw_lt (p1.toInt64) (0 : Int64)).mpr hc10)).2.1) ?_
  refine Wk.aloadN X0 hx (hD d39_13) (n := 14) rfl rfl rfl ?_
  refine Wk.iloadN X0 hx (hD d39_14) (n := 15) rfl rfl ?_
  refine Wk.bipush X0 hx (hD d39_15) (n := 17) rfl (z := (45 : Int32)) rfl ?_
  have Pd := own_arv (own_ap0 cp) (Arv.pad A1 (pad_rep (chV cp) (.int (0 : Int32)) 1))
  obtain ⟨cl94, Ar94, qn94, Sz94, N_94, H_94, Gn94⟩ := id Pd
  have hin94 : ¬ (i1 < 0 ∨ cl94.slots.size ≤ (i1).toNatClampNeg) := inb_of Sz94 (by rw [hi]; exact ⟨own_nonneg (by omega), (own_lt (b := 32) (by omega) (by decide)).mpr (by omega)⟩)
  refine Wk.stC X0 hx hZ e0 Ar94 hin94 (hD d39_17) (n := 18) rfl fun T94 H94 X94 e94 Wn94 => ?_
  have Vn94 := Arv.set Ar94 qn94 Sz94 N_94 H_94 Gn94 (fits_nar_char _) Wn94 (cp.length + (1 - 1)) (by rw [hi]; exact own_cl (by omega)) (by simp [chV])
  have Un94 : Arv Z H94 eA ke .char (32 : Int32) (chV (cp ++ [45])) (.int (0 : Int32)) := own_arv ((own_stc cp [] 45 (r := 1) (by decide) (by decide)).trans (own_ap1 cp 45)) Vn94
  have sz94 := Wn94.size
  have K94 := K0.wr Wn94 (Or.inl (List.mem_of_getElem? (i := 0) rfl))
  have N94 := Fr.snoc X94 N0 (by omega)
  refine Wk.iloadN X94 hx (hD d39_18) (n := 19) rfl rfl ?_
  refine Wk.iconst X94 hx (hD d39_19) (n := 20) rfl (z := (1 : Int32)) rfl ?_
  refine Wk.iadd X94 hx (hD d39_20) (n := 21) rfl ?_
  refine Wk.istoreN X94 hx (hD d39_21) (n := 22) rfl (L' := #[.val (.ref eA), .val (.int i1), .val (.int p1), .val (.int (i1 + (1 : Int32))), .val (.long (p1.toInt64)), .second, .unset, .unset, .unset, .unset]) rfl ?_
  refine Wk.lload X94 hx (hD d39_22) (n := 24) rfl rfl ?_
  refine Wk.lneg X94 hx (hD d39_24) (n := 25) rfl ?_
  refine Wk.lstore X94 hx (hD d39_25) (n := 27) rfl (L' := #[.val (.ref eA), .val (.int i1), .val (.int p1), .val (.int (i1 + (1 : Int32))), .val (.long (-(p1.toInt64))), .second, .unset, .unset, .unset, .unset]) rfl ?_
  exact jp_a T94 H94 _ (cp ++ [45]) (i1 + (1 : Int32)) (-(p1.toInt64)) (X94.mono (by decide) (by decide)) e94 K94 N94 Un94 (by rw [hi, List.length_append]; exact own_ofadd _ 1) (own_abs1 p1 hc10) (by rw [show sgl p1 = [45] from if_pos (own_neg64 hc10)]) (by simp; omega)
 ·
  refine Wk.ifYes X0 hx (hD d39_10) ((if0 _ _).trans (flt (mt (lw_lt (p1.toInt64) (0 : Int64)).mp hc10)).2.1) (by decide) (n := 27) (by decide) ?_
  exact jp_a s₁ h0 _ cp i1 (p1.toInt64) (X0.mono (by decide) (by decide)) e0 K0 N0 A1 hi (own_abs2 p1 hc10) (by rw [show sgl p1 = [] from if_neg (fun q => hc10 (own_neg64' q))]; simp) (by omega)
def Q_rmSM (Z : State) (x1 : Addr) (t1 : Addr) (k1 : ClassId) (cr : List Int32) (eA : Addr) (ke : ClassId) (n1 : Int32) (i1 : Int32) (iz : Nat) (zc : Int32) (fm : Value) (h0 : Heap) (n0 : Nat) (v : Option Value) (h : Heap) (L : List Loc) : Prop := v = some (.int (1 : Int32)) ∧ Fr n0 L ∧ h = h0
theorem ef_rmSM (m : MethodId) (x0 : Addr) (x1 : Addr) (x2 : Int32) (x3 : Int32) : entryFrame m #[(.ref x0), (.ref x1), (.int x2), (.int x3)] 4 = mkF m 0 #[.val (.ref x0), .val (.ref x1), .val (.int x2), .val (.int x3)] [] := by first | (simp [entryFrame, mkF, argsToLocals, Value.category]; done) | rfl
theorem d40_0 : decode B40_ 0 = .ok (.iload_n 3, 1) := by decide +kernel
theorem d40_1 : decode B40_ 1 = .ok (.iload_n 2, 1) := by decide +kernel
theorem d40_2 : decode B40_ 2 = .ok (.if_icmp .ge 14, 3) := by decide +kernel
theorem d40_5 : decode B40_ 5 = .ok (.aload_n 0, 1) := by decide +kernel
theorem d40_6 : decode B40_ 6 = .ok (.iload_n 3, 1) := by decide +kernel
theorem d40_7 : decode B40_ 7 = .ok (.invokevirtual 60, 3) := by decide +kernel
theorem d40_10 : decode B40_ 10 = .ok (.aload_n 1, 1) := by decide +kernel
theorem d40_11 : decode B40_ 11 = .ok (.iload_n 3, 1) := by decide +kernel
theorem d40_12 : decode B40_ 12 = .ok (.caload, 1) := by decide +kernel
theorem d40_13 : decode B40_ 13 = .ok (.if_icmp .ne 7, 3) := by decide +kernel
theorem d40_16 : decode B40_ 16 = .ok (.iconst 1, 1) := by decide +kernel
theorem d40_17 : decode B40_ 17 = .ok (.goto 4, 3) := by decide +kernel
theorem d40_21 : decode B40_ 21 = .ok (.ireturn, 1) := by decide +kernel
theorem rmSM (hw : HW a0 Z) (ws : List Jvm.Cond) (x1 : Addr) (t1 : Addr) (k1 : ClassId) (cr : List Int32) (eA : Addr) (ke : ClassId) (n1 : Int32) (i1 : Int32) (iz : Nat) (zc : Int32) (fm : Value) (h0 : Heap) (n0 : Nat) (Z0 : n0 ≤ h0.size) (Es1 : Exa Z h0 x1 "java/lang/String") (Fv1 : Fld Z h0 x1 "java/lang/String" "value" "[B" (.ref t1)) (Fc1 : Fld Z h0 x1 "java/lang/String" "coder" "B" (.int (0 : Int32))) (As1 : Arv Z h0 t1 k1 .byte (Int32.ofNat cr.length) (bsV cr) (.int (0 : Int32))) (A1 : Arv Z h0 eA ke .char (32 : Int32) (chV cr) (.int (0 : Int32))) (S4 : Sta Z Z.heap "java/lang/String" "COMPACT_STRINGS" "Z" (.int zc)) (O1 : Old Z n0 h0) (S5 : Sta Z Z.heap "jdk/internal/util/Preconditions" "SIOOBE_FORMATTER" "Ljava/util/function/BiFunction;" fm) (hCS : ¬ zc = 0) (hFM : fm.isRef = true) (hp : ∀ c ∈ cr, ¬ c < 0 ∧ ¬ (255 : Int32) < c) (qn : n1 = Int32.ofNat cr.length) (qi : i1 = Int32.ofNat iz) (hl : cr.length ≤ 32) (hiz : iz ≤ 31) : MetN l Z mn42 method_3_code 4 (some .boolean) ws (rM 4 0 0 54) #[(.ref x1), (.ref eA), (.int n1), (.int i1)] h0 (Q_rmSM Z x1 t1 k1 cr eA ke n1 i1 iz zc fm h0 n0) := by
 refine enterN (plainFor_of_name pn_com_example_mulock_mulock_sql_SqlAddressWherePinLaw) (fun m => ef_rmSM m _ _ _ _) fun p e s m below meth c s₁ Bd hZ hx hD hlk hml hown hnm X0 e0 => ?_
 have N0 := Fr.nil n0
 have K0 := Keep.refl h0 []
 have lt_Es1 := ny Es1.lt
 have lt_Fv1 := ny Fv1.lt
 have lt_Fc1 := ny Fc1.lt
 have lt_As1 := ny As1.lt
 have lt_A1 := ny A1.lt
 refine Wk.iloadN X0 hx (hD d40_0) (n := 1) rfl rfl ?_
 refine Wk.iloadN X0 hx (hD d40_1) (n := 2) rfl rfl ?_
 by_cases hc2 : i1 < n1
 ·
  refine Wk.icmpNo X0 hx (hD d40_2) (n := 5) rfl (tlt hc2).2.1 ?_
  refine Wk.aloadN X0 hx (hD d40_5) (n := 6) rfl rfl rfl ?_
  refine Wk.iloadN X0 hx (hD d40_6) (n := 7) rfl rfl ?_
  have iy : iz < cr.length := by rw [qi, qn] at hc2; exact (own_lt (by omega) (by omega)).mp hc2
  obtain ⟨cq1, kq1, qn1a, qn1b, qn1c⟩ := isOf hZ e0 Es1
  have cl1_ := fun Ls (hLs : LsOk c Ls) => X0.virtualBack hx (y := mn38) (z := mn38) hown (mW hZ hw 239 rfl) (mW hZ hw 240 rfl) (notFace_of_selects (args := #[]) (mW hZ hw 242 rfl)) (mW hZ hw 242 rfl) (mW hZ hw 241 rfl) (by decide) (StrChars.Road.chN (W := 0) hZ (fun d hd => hw d (own_wc d hd)) (kI := 4) (oW hw 5 rfl) Es1 Fv1 Fc1 As1 (StrChars.Road.codOf (cs := cr) (n := cr.length) rfl (fun c hc => (hp c hc).2)) (own_up hp) (Sta.ext O1.2 S4) hCS (Sta.ext O1.2 S5) hFM (by omega) (i := iz) iy (j := i1) qi (by decide) (by decide)) qn1a qn1c (g := mkF m 7 Ls [(.int i1), (.ref x1)]) rfl hLs (Steps.refl _) (argsL := [(.int i1)]) (rest := []) (lenOf pd_26 rfl) rfl (leq0 rfl) (hD d40_7) (fun _ _ => ⟨rfl, e0, (by decide : 0 + 0 ≤ _), (by decide : 0 + 0 ≤ _)⟩)
  refine Wk.back (n := 10) (rc := 0) (rs := 0) (Q := fun v h' L => (v = some (.int ((cr : List Int32).getD iz 0)) ∧ L = [] ∧ h' = h0)) (cl1_ _ (lsok hml rfl)) fun vn1 T1 L1 X1 hQ1 => ?_
  clear cl1_
  obtain ⟨rfl, rfl, e1⟩ := hQ1
  have N1 := Fr.app N0 (Fr.nil n0)
  show Wk p e below _ T1 (mkF m 10 _ [(.int (cr.getD iz 0))])
  refine Wk.aloadN X1 hx (hD d40_10) (n := 11) rfl rfl rfl ?_
  refine Wk.iloadN X1 hx (hD d40_11) (n := 12) rfl rfl ?_
  obtain ⟨cl2, Ar2, qn2, Sz2, N_2, H_2, Gn2⟩ := id A1
  have hin2 : ¬ (i1 < 0 ∨ cl2.slots.size ≤ (i1).toNatClampNeg) := inb_of Sz2 (by rw [qi]; exact ⟨own_nonneg (by omega), (own_lt (b := 32) (by omega) (by decide)).mpr (by omega)⟩)
  refine Wk.caload X1 hx hZ e1 Ar2 (v := (.int (cr.getD iz 0))) hin2 (H_2.at hin2 (by rw [qi, own_cl (by omega)]; exact own_chg iy)) (hD d40_12) (n := 13) rfl ?_
  have hc13_3 : (cr.getD iz 0) = (cr.getD iz 0) := rfl
  refine Wk.icmpNo X1 hx (hD d40_13) (n := 16) rfl (teq hc13_3).2 ?_
  refine Wk.iconst X1 hx (hD d40_16) (n := 17) rfl (z := (1 : Int32)) rfl ?_
  refine Wk.goto X1 hx (hD d40_17) (by decide) (n := 21) (by decide) ?_
  exact Wk.leave X1 (v := some (.int (1 : Int32))) (fun h => by rw [Bd.returns] at h; cases h) hlk e1 ⟨rfl, N1, rfl⟩ (by decide) (by decide) (fun fs hr => retNz X1 hx (t := .boolean) rfl Bd.returns (by simp) (hD d40_21) hr)
 ·
  refine Wk.icmpYes X0 hx (hD d40_2) (flt hc2).2.1 (by decide) (n := 16) (by decide) ?_
  refine Wk.iconst X0 hx (hD d40_16) (n := 17) rfl (z := (1 : Int32)) rfl ?_
  refine Wk.goto X0 hx (hD d40_17) (by decide) (n := 21) (by decide) ?_
  exact Wk.leave X0 (v := some (.int (1 : Int32))) (fun h => by rw [Bd.returns] at h; cases h) hlk e0 ⟨rfl, N0, rfl⟩ (by decide) (by decide) (fun fs hr => retNz X0 hx (t := .boolean) rfl Bd.returns (by simp) (hD d40_21) hr)
def Q_rm0 (Z : State) (p1 : Int32) (p2 : Int32) (p3 : Int32) (p4 : Int32) (zc : Int32) (fm : Value) (dO : Addr) (kO : ClassId) (dT : Addr) (kT : ClassId) (wP : Addr) (lP : Addr) (tP : Addr) (kP : ClassId) (wM : Addr) (lM : Addr) (tM : Addr) (kM : ClassId) (h0 : Heap) (n0 : Nat) (v : Option Value) (h : Heap) (L : List Loc) : Prop := v = some (.int (1 : Int32)) ∧ Fr n0 L ∧ Keep h0 h []
theorem ef_rm0 (m : MethodId) (x0 : Int32) (x1 : Int32) (x2 : Int32) (x3 : Int32) : entryFrame m #[(.int x0), (.int x1), (.int x2), (.int x3)] maxLocals = mkF m 0 #[.val (.int x0), .val (.int x1), .val (.int x2), .val (.int x3), .unset, .unset, .unset, .unset, .unset, .unset, .unset, .unset, .unset, .unset, .unset] [] := by first | (simp [entryFrame, mkF, argsToLocals, Value.category, maxLocals]; done) | rfl
theorem pd_28 : parseMethodDescriptor "(Ljava/lang/String;[CII)Z" = some ⟨[(.object "java/lang/String"), (.array .char), .int, .int], some .boolean⟩ := by decide +kernel
theorem pd_29 : parseMethodDescriptor "(Lcom/example/mulock/mulock/sql/SqlDatabase;Ljava/lang/String;ILjava/lang/String;Ljava/lang/String;Ljava/lang/String;)V" = some ⟨[(.object "com/example/mulock/mulock/sql/SqlDatabase"), (.object "java/lang/String"), .int, (.object "java/lang/String"), (.object "java/lang/String"), (.object "java/lang/String")], none⟩ := by decide +kernel
theorem pd_30 : parseMethodDescriptor "([CILjava/lang/String;)I" = some ⟨[(.array .char), .int, (.object "java/lang/String")], some .int⟩ := by decide +kernel
theorem pd_31 : parseMethodDescriptor "([CII)I" = some ⟨[(.array .char), .int, .int], some .int⟩ := by decide +kernel
theorem pd_32 : parseMethodDescriptor "([C)V" = some ⟨[(.array .char)], none⟩ := by decide +kernel
theorem pd_33 : parseMethodDescriptor "(C)Ljava/lang/String;" = some ⟨[.char], some (.object "java/lang/String")⟩ := by decide +kernel
theorem rm0 (hw : HW a0 Z) (ws : List Jvm.Cond) (p1 : Int32) (p2 : Int32) (p3 : Int32) (p4 : Int32) (zc : Int32) (fm : Value) (dO : Addr) (kO : ClassId) (dT : Addr) (kT : ClassId) (wP : Addr) (lP : Addr) (tP : Addr) (kP : ClassId) (wM : Addr) (lM : Addr) (tM : Addr) (kM : ClassId) (h0 : Heap) (n0 : Nat) (Z0 : n0 ≤ h0.size) (S4 : Sta Z Z.heap "java/lang/String" "COMPACT_STRINGS" "Z" (.int zc)) (O1 : Old Z n0 h0) (S5 : Sta Z Z.heap "jdk/internal/util/Preconditions" "SIOOBE_FORMATTER" "Ljava/util/function/BiFunction;" fm) (S6 : Sta Z Z.heap "java/lang/Integer" "DigitOnes" "[B" (.ref dO)) (S7 : Sta Z Z.heap "java/lang/Integer" "DigitTens" "[B" (.ref dT)) (A6 : Arv Z Z.heap dO kO .byte (100 : Int32) dgO (.int (0 : Int32))) (A7 : Arv Z Z.heap dT kT .byte (100 : Int32) dgT (.int (0 : Int32))) (SwP : Sta Z Z.heap "com/example/mulock/mulock/sql/SqlDatabase" "POSTGRESQL" "Lcom/example/mulock/mulock/sql/SqlDatabase;" (.ref wP)) (EwP : Exa Z Z.heap wP "com/example/mulock/mulock/sql/SqlDatabase") (FwP : Fld Z Z.heap wP "com/example/mulock/mulock/sql/SqlDatabase" "product" "Ljava/lang/String;" (.ref lP)) (ElP : Exa Z Z.heap lP "java/lang/String") (FvP : Fld Z Z.heap lP "java/lang/String" "value" "[B" (.ref tP)) (FcP : Fld Z Z.heap lP "java/lang/String" "coder" "B" (.int (0 : Int32))) (AtP : Arv Z Z.heap tP kP .byte (Int32.ofNat ([80, 111, 115, 116, 103, 114, 101, 83, 81, 76] : List Int32).length) (bsV [80, 111, 115, 116, 103, 114, 101, 83, 81, 76]) (.int (0 : Int32))) (SwM : Sta Z Z.heap "com/example/mulock/mulock/sql/SqlDatabase" "MARIADB" "Lcom/example/mulock/mulock/sql/SqlDatabase;" (.ref wM)) (EwM : Exa Z Z.heap wM "com/example/mulock/mulock/sql/SqlDatabase") (FwM : Fld Z Z.heap wM "com/example/mulock/mulock/sql/SqlDatabase" "product" "Ljava/lang/String;" (.ref lM)) (ElM : Exa Z Z.heap lM "java/lang/String") (FvM : Fld Z Z.heap lM "java/lang/String" "value" "[B" (.ref tM)) (FcM : Fld Z Z.heap lM "java/lang/String" "coder" "B" (.int (0 : Int32))) (AtM : Arv Z Z.heap tM kM .byte (Int32.ofNat ([77, 97, 114, 105, 97, 68, 66] : List Int32).length) (bsV [77, 97, 114, 105, 97, 68, 66]) (.int (0 : Int32))) (hCS : ¬ zc = 0) (hFM : fm.isRef = true) : MetW l Z x code maxLocals ret ws room_1 #[(.int p1), (.int p2), (.int p3), (.int p4)] h0 (Q_rm0 Z p1 p2 p3 p4 zc fm dO kO dT kT wP lP tP kP wM lM tM kM h0 n0) own_EL [] := by
 refine enterW (plainFor_of_name pn_com_example_mulock_mulock_sql_SqlAddressWherePinLaw) (fun m => ef_rm0 m _ _ _ _) fun p e s m below meth c s₁ Bd hZ hx hD hlk hml hown hnm X0 e0 hh hCH hSf => ?_
 have N0 := Fr.nil n0
 have K0 := Keep.refl h0 []
 have Bs0 := Base.start s h0.size
 have R0 := CHr.refl hCH
 have hELw := own_ew hw
 have jt_a : ∀ (Tj1 : State) (Hj1 : Heap) (Lcj1 : List Loc) (usj1 : State) (kzj1 : Nat) (m4 : Int32) (d5 : Addr) (a6 : Addr) (x7 : Addr) (x8 : Addr) (a9 : Addr) (a11 : Addr) (rr : Addr) (ee : Addr) (tr : Addr) (u10 : Value) (kr : ClassId) (ke : ClassId) (cr : List Int32), (Stand p l e room_1 usj1 m #[(.int p1), (.int p2), (.int p3), (.int p4)] below meth c Tj1 Lcj1 40 700) → (Tj1.heap = Hj1) → (Keep h0 Hj1 []) → (Fr n0 Lcj1) → (Base s usj1 kzj1) → (kzj1 ≤ Hj1.size) → (Z.Warmed39 usj1.vm) → (usj1.vm.findClass "com/example/mulock/mulock/sql/SqlAddressWherePinLaw" = some m.cls) → (CHr Z own_EL s.vm h0 usj1.vm Hj1) → (Exa Z Hj1 rr "java/lang/String") → (Fld Z Hj1 rr "java/lang/String" "value" "[B" (.ref tr)) → (Fld Z Hj1 rr "java/lang/String" "coder" "B" (.int (0 : Int32))) → (Arv Z Hj1 tr kr .byte (Int32.ofNat cr.length) (bsV cr) (.int (0 : Int32))) → (Arv Z Hj1 ee ke .char (32 : Int32) (chV cr) (.int (0 : Int32))) → (Old Z n0 Hj1) → (u10.isRef = true) → (∀ c ∈ cr, ¬ c < 0 ∧ ¬ (255 : Int32) < c) → (cr.length ≤ 32) → Wk p e below (EndW Z own_EL s (Q_rm0 Z p1 p2 p3 p4 zc fm dO kO dT kT wP lP tP kP wM lM tM kM h0 n0) room_1.cells room_1.slots) Tj1 (mkF m 267 #[.val (.int p1), .val (.int p2), .val (.int p3), .val (.int p4), .val (.int m4), .val (.ref d5), .val (.ref a6), .val (.ref x7), .val (.ref x8), .val (.ref a9), .val u10, .val (.ref a11), .val (.ref rr), .val (.ref ee), .val (.int (Int32.ofNat cr.length))] []) := by
  intro Tj1 Hj1 Lcj1 usj1 kzj1 m4 d5 a6 x7 x8 a9 a11 rr ee tr u10 kr ke cr Xj1 ej1 Kj1 Nj1 Bsj1 hkzj1 hZ hown Rj1 Es8 Fv8 Fc8 As8 Ae Olj1 hu10 qp lcr
  have szj1 := Kj1.1
  have lt_Es8 := ny Es8.lt
  have lt_Fv8 := ny Fv8.lt
  have lt_Fc8 := ny Fc8.lt
  have lt_As8 := ny As8.lt
  have lt_Ae := ny Ae.lt
  refine Wk.aload Xj1 hx (hD at_267) (n := 269) rfl rfl rfl ?_
  refine Wk.ifnullNo Xj1 hx (hD at_269) (n := 272) rfl ?_
  refine Wk.aload Xj1 hx (hD at_272) (n := 274) rfl rfl rfl ?_
  obtain ⟨cq2, kq2, qn2a, qn2b, qn2c⟩ := isOf hZ ej1 Es8
  have cl2_ := fun Ls (hLs : LsOk c Ls) => Xj1.virtualBack hx (y := mn12) (z := mn12) hown (mW hZ hw 238 rfl) (mW hZ hw 115 rfl) (notFace_of_selects (args := #[]) (mW hZ hw 117 rfl)) (mW hZ hw 117 rfl) (mW hZ hw 116 rfl) (by decide) (StrChars.Road.lenW (W := 0) hZ (fun d hd => hw d (own_wl d hd)) (kI := 4) (oW hw 5 rfl) Es8 Fv8 Fc8 As8 (StrChars.Road.codOf (cs := cr) (n := cr.length) rfl (fun c hc => (qp c hc).2)) (own_up qp) (Sta.ext Olj1.2 S4) hCS (by omega) (by decide) (by decide)) qn2a qn2c (g := mkF m 274 Ls [(.ref rr)]) rfl hLs (Steps.refl _) (argsL := []) (rest := []) (lenOf pd_7 rfl) rfl (leq0 rfl) (hD at_274) (fun _ _ => ⟨rfl, ej1, (by decide : 40 + 0 ≤ _), (by decide : 700 + 0 ≤ _)⟩)
  refine Wk.back (n := 277) (rc := 0) (rs := 0) (Q := fun v h' L => (v = some (.int (Int32.ofNat (cr : List Int32).length)) ∧ L = [] ∧ h' = Hj1)) (cl2_ _ (lsok hml rfl)) fun vn2 T2 L2 X2 hQ2 => ?_
  clear cl2_
  obtain ⟨rfl, rfl, e2⟩ := hQ2
  have N2 := Fr.app Nj1 (Fr.nil n0)
  show Wk p e below _ T2 (mkF m 277 _ [(.int (Int32.ofNat cr.length))])
  refine Wk.iload X2 hx (hD at_277) (n := 279) rfl rfl ?_
  have hc279_3 : (Int32.ofNat cr.length) = (Int32.ofNat cr.length) := rfl
  refine Wk.icmpYes X2 hx (hD at_279) (teq hc279_3).1 (by decide) (n := 284) (by decide) ?_
  refine Wk.aload X2 hx (hD at_284) (n := 286) rfl rfl rfl ?_
  refine Wk.aload X2 hx (hD at_286) (n := 288) rfl rfl rfl ?_
  refine Wk.iload X2 hx (hD at_288) (n := 290) rfl rfl ?_
  refine Wk.iconst X2 hx (hD at_290) (n := 291) rfl (z := (0 : Int32)) rfl ?_
  have cl4_ := fun Ls (hLs : LsOk c Ls) => Jvm.LawKit.callS X2 hx (y := mn42) hown (mW hZ hw 276 rfl) (mW hZ hw 277 rfl) (mW hZ hw 236 rfl) (mW hZ hw 278 rfl) (by decide) (backOf (W := 0) (rmSM l Z a0 hw [] rr tr kr cr ee ke (Int32.ofNat cr.length) (0 : Int32) 0 zc fm Hj1 n0 (by omega) Es8 Fv8 Fc8 As8 Ae S4 Olj1 S5 hCS hFM qp rfl rfl (by omega) (by decide)) hZ (oW hw 278 rfl) (oW hw 236 rfl) (by decide) (by decide)) (g := mkF m 291 Ls [(.int (0 : Int32)), (.int (Int32.ofNat cr.length)), (.ref ee), (.ref rr)]) rfl hLs (argsL := [(.ref rr), (.ref ee), (.int (Int32.ofNat cr.length)), (.int (0 : Int32))]) (rest := []) (lenOf pd_28 rfl) rfl (leq0 rfl) (hD at_291) (fun _ _ => ⟨rfl, e2, (by decide : 40 + 0 ≤ _), (by decide : 700 + 0 ≤ _)⟩)
  refine Wk.backS (n := 294) (rc := 0) (rs := 0) (Q := Q_rmSM Z rr tr kr cr ee ke (Int32.ofNat cr.length) (0 : Int32) 0 zc fm Hj1 n0) (cl4_ _ (lsok hml rfl)) fun vn4 T4 L4 X4 hQ4 => ?_
  clear cl4_
  obtain ⟨rfl, M4, e4⟩ := hQ4
  have N4 := Fr.app N2 M4
  show Wk p e below _ T4 (mkF m 294 _ [(.int (1 : Int32))])
  have hc294_5 : ¬ ((1 : Int32) = (0 : Int32)) := by decide
  refine Wk.ifNo X4 hx (hD at_294) (n := 297) rfl ((if0 _ _).trans (feq hc294_5).1) ?_
  refine Wk.aload X4 hx (hD at_297) (n := 299) rfl rfl rfl ?_
  refine Wk.aload X4 hx (hD at_299) (n := 301) rfl rfl rfl ?_
  refine Wk.iload X4 hx (hD at_301) (n := 303) rfl rfl ?_
  refine Wk.iconst X4 hx (hD at_303) (n := 304) rfl (z := (1 : Int32)) rfl ?_
  have cl6_ := fun Ls (hLs : LsOk c Ls) => Jvm.LawKit.callS X4 hx (y := mn42) hown (mW hZ hw 276 rfl) (mW hZ hw 277 rfl) (mW hZ hw 236 rfl) (mW hZ hw 278 rfl) (by decide) (backOf (W := 0) (rmSM l Z a0 hw [] rr tr kr cr ee ke (Int32.ofNat cr.length) (1 : Int32) 1 zc fm Hj1 n0 (by omega) Es8 Fv8 Fc8 As8 Ae S4 Olj1 S5 hCS hFM qp rfl rfl (by omega) (by decide)) hZ (oW hw 278 rfl) (oW hw 236 rfl) (by decide) (by decide)) (g := mkF m 304 Ls [(.int (1 : Int32)), (.int (Int32.ofNat cr.length)), (.ref ee), (.ref rr)]) rfl hLs (argsL := [(.ref rr), (.ref ee), (.int (Int32.ofNat cr.length)), (.int (1 : Int32))]) (rest := []) (lenOf pd_28 rfl) rfl (leq0 rfl) (hD at_304) (fun _ _ => ⟨rfl, e4, (by decide : 40 + 0 ≤ _), (by decide : 700 + 0 ≤ _)⟩)
  refine Wk.backS (n := 307) (rc := 0) (rs := 0) (Q := Q_rmSM Z rr tr kr cr ee ke (Int32.ofNat cr.length) (1 : Int32) 1 zc fm Hj1 n0) (cl6_ _ (lsok hml rfl)) fun vn6 T6 L6 X6 hQ6 => ?_
  clear cl6_
  obtain ⟨rfl, M6, e6⟩ := hQ6
  have N6 := Fr.app N4 M6
  show Wk p e below _ T6 (mkF m 307 _ [(.int (1 : Int32))])
  have hc307_7 : ¬ ((1 : Int32) = (0 : Int32)) := by decide
  refine Wk.ifNo X6 hx (hD at_307) (n := 310) rfl ((if0 _ _).trans (feq hc307_7).1) ?_
  refine Wk.aload X6 hx (hD at_310) (n := 312) rfl rfl rfl ?_
  refine Wk.aload X6 hx (hD at_312) (n := 314) rfl rfl rfl ?_
  refine Wk.iload X6 hx (hD at_314) (n := 316) rfl rfl ?_
  refine Wk.iconst X6 hx (hD at_316) (n := 317) rfl (z := (2 : Int32)) rfl ?_
  have cl8_ := fun Ls (hLs : LsOk c Ls) => Jvm.LawKit.callS X6 hx (y := mn42) hown (mW hZ hw 276 rfl) (mW hZ hw 277 rfl) (mW hZ hw 236 rfl) (mW hZ hw 278 rfl) (by decide) (backOf (W := 0) (rmSM l Z a0 hw [] rr tr kr cr ee ke (Int32.ofNat cr.length) (2 : Int32) 2 zc fm Hj1 n0 (by omega) Es8 Fv8 Fc8 As8 Ae S4 Olj1 S5 hCS hFM qp rfl rfl (by omega) (by decide)) hZ (oW hw 278 rfl) (oW hw 236 rfl) (by decide) (by decide)) (g := mkF m 317 Ls [(.int (2 : Int32)), (.int (Int32.ofNat cr.length)), (.ref ee), (.ref rr)]) rfl hLs (argsL := [(.ref rr), (.ref ee), (.int (Int32.ofNat cr.length)), (.int (2 : Int32))]) (rest := []) (lenOf pd_28 rfl) rfl (leq0 rfl) (hD at_317) (fun _ _ => ⟨rfl, e6, (by decide : 40 + 0 ≤ _), (by decide : 700 + 0 ≤ _)⟩)
  refine Wk.backS (n := 320) (rc := 0) (rs := 0) (Q := Q_rmSM Z rr tr kr cr ee ke (Int32.ofNat cr.length) (2 : Int32) 2 zc fm Hj1 n0) (cl8_ _ (lsok hml rfl)) fun vn8 T8 L8 X8 hQ8 => ?_
  clear cl8_
  obtain ⟨rfl, M8, e8⟩ := hQ8
  have N8 := Fr.app N6 M8
  show Wk p e below _ T8 (mkF m 320 _ [(.int (1 : Int32))])
  have hc320_9 : ¬ ((1 : Int32) = (0 : Int32)) := by decide
  refine Wk.ifNo X8 hx (hD at_320) (n := 323) rfl ((if0 _ _).trans (feq hc320_9).1) ?_
  refine Wk.aload X8 hx (hD at_323) (n := 325) rfl rfl rfl ?_
  refine Wk.aload X8 hx (hD at_325) (n := 327) rfl rfl rfl ?_
  refine Wk.iload X8 hx (hD at_327) (n := 329) rfl rfl ?_
  refine Wk.iconst X8 hx (hD at_329) (n := 330) rfl (z := (3 : Int32)) rfl ?_
  have cl10_ := fun Ls (hLs : LsOk c Ls) => Jvm.LawKit.callS X8 hx (y := mn42) hown (mW hZ hw 276 rfl) (mW hZ hw 277 rfl) (mW hZ hw 236 rfl) (mW hZ hw 278 rfl) (by decide) (backOf (W := 0) (rmSM l Z a0 hw [] rr tr kr cr ee ke (Int32.ofNat cr.length) (3 : Int32) 3 zc fm Hj1 n0 (by omega) Es8 Fv8 Fc8 As8 Ae S4 Olj1 S5 hCS hFM qp rfl rfl (by omega) (by decide)) hZ (oW hw 278 rfl) (oW hw 236 rfl) (by decide) (by decide)) (g := mkF m 330 Ls [(.int (3 : Int32)), (.int (Int32.ofNat cr.length)), (.ref ee), (.ref rr)]) rfl hLs (argsL := [(.ref rr), (.ref ee), (.int (Int32.ofNat cr.length)), (.int (3 : Int32))]) (rest := []) (lenOf pd_28 rfl) rfl (leq0 rfl) (hD at_330) (fun _ _ => ⟨rfl, e8, (by decide : 40 + 0 ≤ _), (by decide : 700 + 0 ≤ _)⟩)
  refine Wk.backS (n := 333) (rc := 0) (rs := 0) (Q := Q_rmSM Z rr tr kr cr ee ke (Int32.ofNat cr.length) (3 : Int32) 3 zc fm Hj1 n0) (cl10_ _ (lsok hml rfl)) fun vn10 T10 L10 X10 hQ10 => ?_
  clear cl10_
  obtain ⟨rfl, M10, e10⟩ := hQ10
  have N10 := Fr.app N8 M10
  show Wk p e below _ T10 (mkF m 333 _ [(.int (1 : Int32))])
  have hc333_11 : ¬ ((1 : Int32) = (0 : Int32)) := by decide
  refine Wk.ifNo X10 hx (hD at_333) (n := 336) rfl ((if0 _ _).trans (feq hc333_11).1) ?_
  refine Wk.aload X10 hx (hD at_336) (n := 338) rfl rfl rfl ?_
  refine Wk.aload X10 hx (hD at_338) (n := 340) rfl rfl rfl ?_
  refine Wk.iload X10 hx (hD at_340) (n := 342) rfl rfl ?_
  refine Wk.iconst X10 hx (hD at_342) (n := 343) rfl (z := (4 : Int32)) rfl ?_
  have cl12_ := fun Ls (hLs : LsOk c Ls) => Jvm.LawKit.callS X10 hx (y := mn42) hown (mW hZ hw 276 rfl) (mW hZ hw 277 rfl) (mW hZ hw 236 rfl) (mW hZ hw 278 rfl) (by decide) (backOf (W := 0) (rmSM l Z a0 hw [] rr tr kr cr ee ke (Int32.ofNat cr.length) (4 : Int32) 4 zc fm Hj1 n0 (by omega) Es8 Fv8 Fc8 As8 Ae S4 Olj1 S5 hCS hFM qp rfl rfl (by omega) (by decide)) hZ (oW hw 278 rfl) (oW hw 236 rfl) (by decide) (by decide)) (g := mkF m 343 Ls [(.int (4 : Int32)), (.int (Int32.ofNat cr.length)), (.ref ee), (.ref rr)]) rfl hLs (argsL := [(.ref rr), (.ref ee), (.int (Int32.ofNat cr.length)), (.int (4 : Int32))]) (rest := []) (lenOf pd_28 rfl) rfl (leq0 rfl) (hD at_343) (fun _ _ => ⟨rfl, e10, (by decide : 40 + 0 ≤ _), (by decide : 700 + 0 ≤ _)⟩)
  refine Wk.backS (n := 346) (rc := 0) (rs := 0) (Q := Q_rmSM Z rr tr kr cr ee ke (Int32.ofNat cr.length) (4 : Int32) 4 zc fm Hj1 n0) (cl12_ _ (lsok hml rfl)) fun vn12 T12 L12 X12 hQ12 => ?_
  clear cl12_
  obtain ⟨rfl, M12, e12⟩ := hQ12
  have N12 := Fr.app N10 M12
  show Wk p e below _ T12 (mkF m 346 _ [(.int (1 : Int32))])
  have hc346_13 : ¬ ((1 : Int32) = (0 : Int32)) := by decide
  refine Wk.ifNo X12 hx (hD at_346) (n := 349) rfl ((if0 _ _).trans (feq hc346_13).1) ?_
  refine Wk.aload X12 hx (hD at_349) (n := 351) rfl rfl rfl ?_
  refine Wk.aload X12 hx (hD at_351) (n := 353) rfl rfl rfl ?_
  refine Wk.iload X12 hx (hD at_353) (n := 355) rfl rfl ?_
  refine Wk.iconst X12 hx (hD at_355) (n := 356) rfl (z := (5 : Int32)) rfl ?_
  have cl14_ := fun Ls (hLs : LsOk c Ls) => Jvm.LawKit.callS X12 hx (y := mn42) hown (mW hZ hw 276 rfl) (mW hZ hw 277 rfl) (mW hZ hw 236 rfl) (mW hZ hw 278 rfl) (by decide) (backOf (W := 0) (rmSM l Z a0 hw [] rr tr kr cr ee ke (Int32.ofNat cr.length) (5 : Int32) 5 zc fm Hj1 n0 (by omega) Es8 Fv8 Fc8 As8 Ae S4 Olj1 S5 hCS hFM qp rfl rfl (by omega) (by decide)) hZ (oW hw 278 rfl) (oW hw 236 rfl) (by decide) (by decide)) (g := mkF m 356 Ls [(.int (5 : Int32)), (.int (Int32.ofNat cr.length)), (.ref ee), (.ref rr)]) rfl hLs (argsL := [(.ref rr), (.ref ee), (.int (Int32.ofNat cr.length)), (.int (5 : Int32))]) (rest := []) (lenOf pd_28 rfl) rfl (leq0 rfl) (hD at_356) (fun _ _ => ⟨rfl, e12, (by decide : 40 + 0 ≤ _), (by decide : 700 + 0 ≤ _)⟩)
  refine Wk.backS (n := 359) (rc := 0) (rs := 0) (Q := Q_rmSM Z rr tr kr cr ee ke (Int32.ofNat cr.length) (5 : Int32) 5 zc fm Hj1 n0) (cl14_ _ (lsok hml rfl)) fun vn14 T14 L14 X14 hQ14 => ?_
  clear cl14_
  obtain ⟨rfl, M14, e14⟩ := hQ14
  have N14 := Fr.app N12 M14
  show Wk p e below _ T14 (mkF m 359 _ [(.int (1 : Int32))])
  have hc359_15 : ¬ ((1 : Int32) = (0 : Int32)) := by decide
  refine Wk.ifNo X14 hx (hD at_359) (n := 362) rfl ((if0 _ _).trans (feq hc359_15).1) ?_
  have blk : ∀ {a b d e' f g q : Nat} {i o : Int} {z : Int32} {iz : Nat}, decode code a = .ok (.aload 12, 2) → a + 2 = b → decode code b = .ok (.aload 13, 2) → b + 2 = d → decode code d = .ok (.iload 14, 2) → d + 2 = e' → decode code e' = .ok (.bipush i, 2) → (Int8.ofInt i).toInt32 = z → e' + 2 = f → decode code f = .ok (.invokestatic 56, 3) → f + 3 = g → decode code g = .ok (.ifCond .eq o, 3) → g + 3 = q → z = Int32.ofNat iz → iz ≤ 31 → ∀ {T : State} {L : List Loc}, Stand p l e room_1 usj1 m #[(.int p1), (.int p2), (.int p3), (.int p4)] below meth c T L 40 700 → T.heap = Hj1 → Fr n0 L → (∀ T' L', Stand p l e room_1 usj1 m #[(.int p1), (.int p2), (.int p3), (.int p4)] below meth c T' L' 40 700 → T'.heap = Hj1 → Fr n0 L' → Wk p e below (EndW Z own_EL s (Q_rm0 Z p1 p2 p3 p4 zc fm dO kO dT kT wP lP tP kP wM lM tM kM h0 n0) room_1.cells room_1.slots) T' (mkF m q #[.val (.int p1), .val (.int p2), .val (.int p3), .val (.int p4), .val (.int m4), .val (.ref d5), .val (.ref a6), .val (.ref x7), .val (.ref x8), .val (.ref a9), .val u10, .val (.ref a11), .val (.ref rr), .val (.ref ee), .val (.int (Int32.ofNat cr.length))] [])) → Wk p e below (EndW Z own_EL s (Q_rm0 Z p1 p2 p3 p4 zc fm dO kO dT kT wP lP tP kP wM lM tM kM h0 n0) room_1.cells room_1.slots) T (mkF m a #[.val (.int p1), .val (.int p2), .val (.int p3), .val (.int p4), .val (.int m4), .val (.ref d5), .val (.ref a6), .val (.ref x7), .val (.ref x8), .val (.ref a9), .val u10, .val (.ref a11), .val (.ref rr), .val (.ref ee), .val (.int (Int32.ofNat cr.length))] []) := by
   intro a b d e' f g q i o z iz d1 q1 d2 q2 d3 q3 d4 qz q4 d5 q5 d6 q6 hzi h31 T L X eT N k
   subst q1 q2 q3 q4 q5 q6
   refine Wk.aload X hx (hD d1) rfl rfl rfl ?_
   refine Wk.aload X hx (hD d2) rfl rfl rfl ?_
   refine Wk.iload X hx (hD d3) rfl rfl ?_
   refine Wk.bipush X hx (hD d4) rfl (z := z) qz ?_
   have cl_ := fun Ls (hLs : LsOk c Ls) => Jvm.LawKit.callS X hx (y := mn42) hown (mW hZ hw 276 rfl) (mW hZ hw 277 rfl) (mW hZ hw 236 rfl) (mW hZ hw 278 rfl) (by decide) (backOf (W := 0) (rmSM l Z a0 hw [] rr tr kr cr ee ke (Int32.ofNat cr.length) z iz zc fm Hj1 n0 (by omega) Es8 Fv8 Fc8 As8 Ae S4 Olj1 S5 hCS hFM qp rfl hzi (by omega) h31) hZ (oW hw 278 rfl) (oW hw 236 rfl) (by decide) (by decide)) (g := mkF m _ Ls [(.int z), (.int (Int32.ofNat cr.length)), (.ref ee), (.ref rr)]) rfl hLs (argsL := [(.ref rr), (.ref ee), (.int (Int32.ofNat cr.length)), (.int z)]) (rest := []) (lenOf pd_28 rfl) rfl (leq0 rfl) (hD d5) (fun _ _ => ⟨rfl, eT, (by decide : 40 + 0 ≤ _), (by decide : 700 + 0 ≤ _)⟩)
   refine Wk.backS (rc := 0) (rs := 0) (Q := Q_rmSM Z rr tr kr cr ee ke (Int32.ofNat cr.length) z iz zc fm Hj1 n0) (cl_ _ (lsok hml rfl)) fun v T' L' X' hQ => ?_
   obtain ⟨rfl, M, e6⟩ := hQ
   refine Wk.ifNo (x := (1 : Int32)) (sk := []) X' hx (hD d6) rfl ((if0 _ _).trans (feq (by decide : ¬ (1 : Int32) = (0 : Int32))).1) ?_
   exact k T' _ (X'.mono (by decide) (by decide)) e6 (Fr.app N M)
  refine blk (iz := 6) at_362 rfl at_364 rfl at_366 rfl at_368 rfl rfl at_370 rfl at_373 rfl rfl (by decide) (X14.mono (by decide) (by decide)) e14 N14 fun T16 L16 X16 e16 N16 => ?_
  refine blk (iz := 7) at_376 rfl at_378 rfl at_380 rfl at_382 rfl rfl at_384 rfl at_387 rfl rfl (by decide) X16 e16 N16 fun T17 L17 X17 e17 N17 => ?_
  refine blk (iz := 8) at_390 rfl at_392 rfl at_394 rfl at_396 rfl rfl at_398 rfl at_401 rfl rfl (by decide) X17 e17 N17 fun T18 L18 X18 e18 N18 => ?_
  refine blk (iz := 9) at_404 rfl at_406 rfl at_408 rfl at_410 rfl rfl at_412 rfl at_415 rfl rfl (by decide) X18 e18 N18 fun T19 L19 X19 e19 N19 => ?_
  refine blk (iz := 10) at_418 rfl at_420 rfl at_422 rfl at_424 rfl rfl at_426 rfl at_429 rfl rfl (by decide) X19 e19 N19 fun T20 L20 X20 e20 N20 => ?_
  refine blk (iz := 11) at_432 rfl at_434 rfl at_436 rfl at_438 rfl rfl at_440 rfl at_443 rfl rfl (by decide) X20 e20 N20 fun T21 L21 X21 e21 N21 => ?_
  refine blk (iz := 12) at_446 rfl at_448 rfl at_450 rfl at_452 rfl rfl at_454 rfl at_457 rfl rfl (by decide) X21 e21 N21 fun T22 L22 X22 e22 N22 => ?_
  refine blk (iz := 13) at_460 rfl at_462 rfl at_464 rfl at_466 rfl rfl at_468 rfl at_471 rfl rfl (by decide) X22 e22 N22 fun T23 L23 X23 e23 N23 => ?_
  refine blk (iz := 14) at_474 rfl at_476 rfl at_478 rfl at_480 rfl rfl at_482 rfl at_485 rfl rfl (by decide) X23 e23 N23 fun T24 L24 X24 e24 N24 => ?_
  refine blk (iz := 15) at_488 rfl at_490 rfl at_492 rfl at_494 rfl rfl at_496 rfl at_499 rfl rfl (by decide) X24 e24 N24 fun T25 L25 X25 e25 N25 => ?_
  refine blk (iz := 16) at_502 rfl at_504 rfl at_506 rfl at_508 rfl rfl at_510 rfl at_513 rfl rfl (by decide) X25 e25 N25 fun T26 L26 X26 e26 N26 => ?_
  refine blk (iz := 17) at_516 rfl at_518 rfl at_520 rfl at_522 rfl rfl at_524 rfl at_527 rfl rfl (by decide) X26 e26 N26 fun T27 L27 X27 e27 N27 => ?_
  refine blk (iz := 18) at_530 rfl at_532 rfl at_534 rfl at_536 rfl rfl at_538 rfl at_541 rfl rfl (by decide) X27 e27 N27 fun T28 L28 X28 e28 N28 => ?_
  refine blk (iz := 19) at_544 rfl at_546 rfl at_548 rfl at_550 rfl rfl at_552 rfl at_555 rfl rfl (by decide) X28 e28 N28 fun T29 L29 X29 e29 N29 => ?_
  refine blk (iz := 20) at_558 rfl at_560 rfl at_562 rfl at_564 rfl rfl at_566 rfl at_569 rfl rfl (by decide) X29 e29 N29 fun T30 L30 X30 e30 N30 => ?_
  refine blk (iz := 21) at_572 rfl at_574 rfl at_576 rfl at_578 rfl rfl at_580 rfl at_583 rfl rfl (by decide) X30 e30 N30 fun T31 L31 X31 e31 N31 => ?_
  refine blk (iz := 22) at_586 rfl at_588 rfl at_590 rfl at_592 rfl rfl at_594 rfl at_597 rfl rfl (by decide) X31 e31 N31 fun T32 L32 X32 e32 N32 => ?_
  refine blk (iz := 23) at_600 rfl at_602 rfl at_604 rfl at_606 rfl rfl at_608 rfl at_611 rfl rfl (by decide) X32 e32 N32 fun T33 L33 X33 e33 N33 => ?_
  refine blk (iz := 24) at_614 rfl at_616 rfl at_618 rfl at_620 rfl rfl at_622 rfl at_625 rfl rfl (by decide) X33 e33 N33 fun T34 L34 X34 e34 N34 => ?_
  refine blk (iz := 25) at_628 rfl at_630 rfl at_632 rfl at_634 rfl rfl at_636 rfl at_639 rfl rfl (by decide) X34 e34 N34 fun T35 L35 X35 e35 N35 => ?_
  refine blk (iz := 26) at_642 rfl at_644 rfl at_646 rfl at_648 rfl rfl at_650 rfl at_653 rfl rfl (by decide) X35 e35 N35 fun T36 L36 X36 e36 N36 => ?_
  refine blk (iz := 27) at_656 rfl at_658 rfl at_660 rfl at_662 rfl rfl at_664 rfl at_667 rfl rfl (by decide) X36 e36 N36 fun T37 L37 X37 e37 N37 => ?_
  refine blk (iz := 28) at_670 rfl at_672 rfl at_674 rfl at_676 rfl rfl at_678 rfl at_681 rfl rfl (by decide) X37 e37 N37 fun T38 L38 X38 e38 N38 => ?_
  refine blk (iz := 29) at_684 rfl at_686 rfl at_688 rfl at_690 rfl rfl at_692 rfl at_695 rfl rfl (by decide) X38 e38 N38 fun T39 L39 X39 e39 N39 => ?_
  refine blk (iz := 30) at_698 rfl at_700 rfl at_702 rfl at_704 rfl rfl at_706 rfl at_709 rfl rfl (by decide) X39 e39 N39 fun T40 L40 X40 e40 N40 => ?_
  refine blk (iz := 31) at_712 rfl at_714 rfl at_716 rfl at_718 rfl rfl at_720 rfl at_723 rfl rfl (by decide) X40 e40 N40 fun T41 L41 X41 e41 N41 => ?_
  refine Wk.iconst X41 hx (hD at_726) (n := 727) rfl (z := (1 : Int32)) rfl ?_
  refine Wk.goto X41 hx (hD at_727) (by decide) (n := 731) (by decide) ?_
  exact Wk.leaveW X41 Bsj1 (by omega) (v := some (.int (1 : Int32))) (fun h => by rw [Bd.returns] at h; cases h) hlk e41 hh ⟨rfl, N41, Kj1⟩ hZ hELw Rj1 (by decide) (by decide) (fun fs hr => retNz X41 hx (t := .boolean) rfl Bd.returns (by simp) (hD at_731) hr)
 refine Wk.iloadN X0 hx (hD at_0) (n := 1) rfl rfl ?_
 refine Wk.iconst X0 hx (hD at_1) (n := 2) rfl (z := (1 : Int32)) rfl ?_
 refine Wk.iand X0 hx (hD at_2) (n := 3) rfl ?_
 by_cases hc3 : (p1 &&& (1 : Int32)) = (0 : Int32)
 ·
  refine Wk.ifYes X0 hx (hD at_3) ((if0 _ _).trans (teq hc3).1) (by decide) (n := 10) (by decide) ?_
  refine Wk.iconst X0 hx (hD at_10) (n := 11) rfl (z := (0 : Int32)) rfl ?_
  refine Wk.istore X0 hx (hD at_11) (n := 13) rfl (L' := #[.val (.int p1), .val (.int p2), .val (.int p3), .val (.int p4), .val (.int (0 : Int32)), .unset, .unset, .unset, .unset, .unset, .unset, .unset, .unset, .unset, .unset]) rfl ?_
  refine Wk.iload X0 hx (hD at_13) (n := 15) rfl rfl ?_
  have hc15_42 : (0 : Int32) = (0 : Int32) := rfl
  refine Wk.ifYes X0 hx (hD at_15) ((if0 _ _).trans (teq hc15_42).1) (by decide) (n := 24) (by decide) ?_
  refine Wk.getS X0 hx hZ hown (host := "") (Or.inl (oW hw 0 rfl)) Via.refl e0 (Sta.ext O1.2 SwP) (hD at_24) (n := 27) rfl fun T43 X43 e43 => ?_
  have jt_b : ∀ (Tj44 : State) (Hj44 : Heap) (Lcj44 : List Loc) (usj44 : State) (kzj44 : Nat) (c0 : Int32) (c1 : Int32) (c2 : Int32) (a6 : Addr) (x7 : Addr) (x8 : Addr) (a9 : Addr) (t7 : Addr) (k6 : ClassId) (k7 : ClassId) (u10 : Value), (Stand p l e room_1 usj44 m #[(.int p1), (.int p2), (.int p3), (.int p4)] below meth c Tj44 Lcj44 16 60) → (Tj44.heap = Hj44) → (Keep h0 Hj44 []) → (Fr n0 Lcj44) → (Base s usj44 kzj44) → (kzj44 ≤ Hj44.size) → (Z.Warmed39 usj44.vm) → (usj44.vm.findClass "com/example/mulock/mulock/sql/SqlAddressWherePinLaw" = some m.cls) → (CHr Z own_EL s.vm h0 usj44.vm Hj44) → (Exa Z Hj44 x7 "java/lang/String") → (Fld Z Hj44 x7 "java/lang/String" "value" "[B" (.ref t7)) → (Fld Z Hj44 x7 "java/lang/String" "coder" "B" (.int (0 : Int32))) → (Arv Z Hj44 t7 k7 .byte (Int32.ofNat [c0, c1, c2].length) (bsV [c0, c1, c2]) (.int (0 : Int32))) → (Arv Z Hj44 a6 k6 .char (3 : Int32) [(.int c0), (.int c1), (.int c2)] (.int (0 : Int32))) → (Old Z n0 Hj44) → (u10.isRef = true) → (nar .char c0 = c0) → (nar .char c1 = c1) → (nar .char c2 = c2) → (∀ c ∈ [c0, c1, c2], ¬ c < 0 ∧ ¬ (255 : Int32) < c) → Wk p e below (EndW Z own_EL s (Q_rm0 Z p1 p2 p3 p4 zc fm dO kO dT kT wP lP tP kP wM lM tM kM h0 n0) room_1.cells room_1.slots) Tj44 (mkF m 137 #[.val (.int p1), .val (.int p2), .val (.int p3), .val (.int p4), .val (.int (0 : Int32)), .val (.ref wP), .val (.ref a6), .val (.ref x7), .val (.ref x8), .val (.ref a9), .unset, .unset, .unset, .unset, .unset] [u10]) := by
   intro Tj44 Hj44 Lcj44 usj44 kzj44 c0 c1 c2 a6 x7 x8 a9 t7 k6 k7 u10 Xj44 ej44 Kj44 Nj44 Bsj44 hkzj44 hZ hown Rj44 Es7 Fv7 Fc7 As7 A6_ Olj44 hu10 n_c0 n_c1 n_c2 hpc
   have szj44 := Kj44.1
   have lt_Es7 := ny Es7.lt
   have lt_Fv7 := ny Fv7.lt
   have lt_Fc7 := ny Fc7.lt
   have lt_As7 := ny As7.lt
   have lt_A6_ := ny A6_.lt
   refine Wk.astore Xj44 hx (hD at_137) (n := 139) rfl hu10 (L' := #[.val (.int p1), .val (.int p2), .val (.int p3), .val (.int p4), .val (.int (0 : Int32)), .val (.ref wP), .val (.ref a6), .val (.ref x7), .val (.ref x8), .val (.ref a9), .val u10, .unset, .unset, .unset, .unset]) (by rcases ref_cases hu10 with rfl | ⟨z, rfl⟩ <;> rfl) ?_
   refine Wk.newO Xj44 hx hZ hown (oW hw 47 rfl) (oW hw 48 rfl) (oW hw 49 rfl) ej44 (hD at_139) (n := 142) rfl (by decide) (by decide) fun T45 H45 b45 gn45 X45 e45 Ex45 An45 Dn45 Yn45 => ?_
   have gn45 := nx gn45
   have sz45 := Ex45.1
   have lt45 := ny An45.lt
   have K45 := Kj44.ext Ex45
   have R45 := Rj44.trans (CHr.ext Ex45 Rj44.1)
   have Fn45_database : Fld Z H45 b45 "com/example/mulock/mulock/sql/SqlAddress" "database" "Lcom/example/mulock/mulock/sql/SqlDatabase;" .null := Dn45 (Or.inr (oW hw 63 rfl)) (ty := (.object "com/example/mulock/mulock/sql/SqlDatabase")) (by decide)
   have Fn45_host : Fld Z H45 b45 "com/example/mulock/mulock/sql/SqlAddress" "host" "Ljava/lang/String;" .null := Dn45 (Or.inr (oW hw 65 rfl)) (ty := (.object "java/lang/String")) (by decide)
   have Fn45_port : Fld Z H45 b45 "com/example/mulock/mulock/sql/SqlAddress" "port" "I" (.int (0 : Int32)) := Dn45 (Or.inr (oW hw 67 rfl)) (ty := .int) (by decide)
   have Fn45_databaseName : Fld Z H45 b45 "com/example/mulock/mulock/sql/SqlAddress" "databaseName" "Ljava/lang/String;" .null := Dn45 (Or.inr (oW hw 69 rfl)) (ty := (.object "java/lang/String")) (by decide)
   have Fn45_user : Fld Z H45 b45 "com/example/mulock/mulock/sql/SqlAddress" "user" "Ljava/lang/String;" .null := Dn45 (Or.inr (oW hw 71 rfl)) (ty := (.object "java/lang/String")) (by decide)
   have Fn45_password : Fld Z H45 b45 "com/example/mulock/mulock/sql/SqlAddress" "password" "Ljava/lang/String;" .null := Dn45 (Or.inr (oW hw 73 rfl)) (ty := (.object "java/lang/String")) (by decide)
   refine Wk.dup X45 hx (hD at_142) (n := 143) rfl rfl ?_
   refine Wk.aload X45 hx (hD at_143) (n := 145) rfl rfl rfl ?_
   refine Wk.aload X45 hx (hD at_145) (n := 147) rfl rfl rfl ?_
   refine Wk.iloadN X45 hx (hD at_147) (n := 148) rfl rfl ?_
   refine Wk.ldcL (text := "db") X45 hx hZ hown (oW hw 50 rfl) (fun d hd => hw d (own_wS d hd)) e45 Bsj44 (by omega) hELw (by decide) R45 (vs := (bsV [100, 98])) (z := (Int32.ofNat ([100, 98] : List Int32).length)) ⟨by decide, rfl⟩ (by decide) (by decide) (hD at_148) (n := 150) rfl (nn := 8) (by decide) (by decide) (by decide) (by decide) fun us46 T46 H46 a46_ t46_ k46_ X46 e46 Ex46 Bs46 hZ hown An46 Fn46_c Fn46_v Vn46 A_46 R46 hne46 => ?_
   have sz46 := Ex46.1
   have lt46 := ny An46.lt
   have lu46 := ny Vn46.lt
   have K46 := K45.ext Ex46
   refine Wk.aload X46 hx (hD at_150) (n := 152) rfl rfl rfl ?_
   refine Wk.aload X46 hx (hD at_152) (n := 154) rfl rfl hu10 ?_
   have f47 := (An45.ext Ex46)
   have f48 := (Fn45_database.ext Ex46)
   have f49 := (Fn45_host.ext Ex46)
   have f50 := (Fn45_port.ext Ex46)
   have f51 := (Fn45_databaseName.ext Ex46)
   have f52 := (Fn45_user.ext Ex46)
   have f53 := (Fn45_password.ext Ex46)
   have cl54_ := fun Ls (hLs : LsOk c Ls) => X46.specialBack hx (y := mn35) rfl hown (mW hZ hw 53 rfl) (mW hZ hw 54 rfl) (mW hZ hw 55 rfl) (by decide) (backOf (W := 1) (rmAI l Z a0 hw [] b45 wP x7 p3 a46_ x8 u10 .null .null (.int (0 : Int32)) .null .null .null H46 n0 (by omega) f47 f48 f49 f50 f51 f52 f53 (by omega) hu10) hZ (oW hw 55 rfl) (oW hw 49 rfl) (by decide) (by decide)) (g := mkF m 154 Ls [u10, (.ref x8), (.ref a46_), (.int p3), (.ref x7), (.ref wP), (.ref b45), (.ref b45)]) rfl hLs (Steps.refl _) (a := b45) (argsL := [(.ref wP), (.ref x7), (.int p3), (.ref a46_), (.ref x8), u10]) (rest := [(.ref b45)]) (lenOf pd_29 rfl) rfl (leq0 rfl) (hD at_154) (fun _ _ => ⟨rfl, e46, (by decide : 19 + 0 ≤ _), (by decide : 78 + 0 ≤ _)⟩)
   refine Wk.back (n := 157) (rc := 0) (rs := 0) (Q := Q_rmAI Z b45 wP x7 p3 a46_ x8 u10 .null .null (.int (0 : Int32)) .null .null .null H46 n0) (cl54_ _ (lsok hml rfl)) fun vn54 T54 L54 X54 hQ54 => ?_
   clear cl54_
   obtain ⟨rfl, M54, J54, p54_0, p54_1, p54_2, p54_3⟩ := hQ54
   have N54 := Fr.app Nj44 M54
   have sz54 := J54.1
   have hs54 : ∀ x ∈ ([b45] : List Addr), Safe Z own_EL us46.vm H46 x := (sfS (Safe.exa (EL := own_EL) hZ.alike f47 (by decide) (by decide)) sf0)
   have R54 := R46.trans (CHr.keep J54 hs54 R46.1)
   have K54 := K46.trans J54 (allS (Or.inr (by omega)) all0)
   have lt_p54_0 := ny p54_0.lt
   show Wk p e below _ T54 (mkF m 157 _ [(.ref b45)])
   refine Wk.astore X54 hx (hD at_157) (n := 159) rfl rfl (L' := #[.val (.int p1), .val (.int p2), .val (.int p3), .val (.int p4), .val (.int (0 : Int32)), .val (.ref wP), .val (.ref a6), .val (.ref x7), .val (.ref x8), .val (.ref a9), .val u10, .val (.ref b45), .unset, .unset, .unset]) rfl ?_
   refine Wk.aload X54 hx (hD at_159) (n := 161) rfl rfl rfl ?_
   have f55 := (((Olj44.ext Ex45).ext Ex46).keep J54 (allS (by omega) all0))
   have f56 := EwP.ext f55.2
   have f57 := FwP.ext f55.2
   have f58 := ElP.ext f55.2
   have f59 := FvP.ext f55.2
   have f60 := FcP.ext f55.2
   have f61 := AtP.ext f55.2
   have f62 := (((Es7.ext Ex45).ext Ex46).keep J54)
   have f63 := (((Fv7.ext Ex45).ext Ex46).keep J54 (ninS (nz (by omega)) nin0))
   have f64 := (((Fc7.ext Ex45).ext Ex46).keep J54 (ninS (nz (by omega)) nin0))
   have f65 := (((As7.ext Ex45).ext Ex46).keep J54 (ninS (nz (by omega)) nin0))
   obtain ⟨cq66, kq66, qn66a, qn66b, qn66c⟩ := isOf hZ rfl p54_0
   have cl66_ := fun Ls (hLs : LsOk c Ls) => X54.virtualBackS hx (y := mn37) (z := mn37) hown (mW hZ hw 74 rfl) (mW hZ hw 75 rfl) (notFace_of_selects (args := #[]) (mW hZ hw 77 rfl)) (mW hZ hw 77 rfl) (mW hZ hw 76 rfl) (by decide) (backWd (W := 0) (EL := own_EL) (rmWhP l Z a0 hw [] b45 wP p3 lP tP kP x7 t7 k7 c0 c1 c2 zc dO kO dT kT T54.heap n0 (by omega) p54_0 p54_1 p54_2 p54_3 f56 f57 f58 f59 f60 f61 f62 f63 f64 f65 S4 f55 S6 S7 A6 A7 hCS hpc) hZ (oW hw 78 rfl) (oW hw 49 rfl) (by decide) (by decide) hELw R54.1 (fun _ q => nomatch q) sf0) qn66a qn66c (g := mkF m 161 Ls [(.ref b45)]) rfl hLs (Steps.refl _) (argsL := []) (rest := []) (lenOf pd_23 rfl) rfl (leq0 rfl) (hD at_161) (fun _ _ => ⟨rfl, rfl, (by decide : 19 + 10 ≤ _), (by decide : 78 + 150 ≤ _)⟩)
   refine Wk.backW (n := 164) (rc := 10) (rs := 150) (Q := Q_rmWhP Z b45 wP p3 lP tP kP x7 t7 k7 c0 c1 c2 zc dO kO dT kT T54.heap n0) rfl Bs46 (by omega) hZ hown R54 (cl66_ _ (lsok hml rfl)) fun vn66 us66 T66 L66 X66 Bs66 hZ hown A_66 R66 hQ66 => ?_
   obtain ⟨r_66, t_66, kb_66, rfl, M66, J66, p66_0, p66_1, p66_2, p66_3⟩ := hQ66
   have N66 := Fr.app N54 M66
   have sz66 := J66.1
   have K66 := K54.trans J66 (fun x hx => nomatch hx)
   have lt_p66_0 := ny p66_0.lt
   have lt_p66_3 := ny p66_3.lt
   show Wk p e below _ T66 (mkF m 164 _ [(.ref r_66)])
   have lG1 := sgl_le p3
   have lG2 := dl_le (mg p3) (mg_le p3)
   have qp : ∀ c ∈ ([80, 111, 115, 116, 103, 114, 101, 83, 81, 76, 32, 97, 116, 32, c0, c1, c2, 58] ++ (sgl p3 ++ dl (mg p3))), ¬ c < 0 ∧ ¬ (255 : Int32) < c := own_rapp (List.forall_mem_append.mpr ⟨(by decide : ∀ c ∈ ([80, 111, 115, 116, 103, 114, 101, 83, 81, 76, 32, 97, 116, 32] : List Int32), ¬ c < 0 ∧ ¬ (255 : Int32) < c), List.forall_mem_append.mpr ⟨hpc, (by decide : ∀ c ∈ ([58] : List Int32), ¬ c < 0 ∧ ¬ (255 : Int32) < c)⟩⟩) (own_rapp (sgl_rng p3) (dl_rng _))
   have lp : ([80, 111, 115, 116, 103, 114, 101, 83, 81, 76, 32, 97, 116, 32, c0, c1, c2, 58] ++ (sgl p3 ++ dl (mg p3))).length = 18 + (sgl p3).length + (dl (mg p3)).length := by simp; omega
   refine Wk.astore X66 hx (hD at_164) (n := 166) rfl rfl (L' := #[.val (.int p1), .val (.int p2), .val (.int p3), .val (.int p4), .val (.int (0 : Int32)), .val (.ref wP), .val (.ref a6), .val (.ref x7), .val (.ref x8), .val (.ref a9), .val u10, .val (.ref b45), .val (.ref r_66), .unset, .unset]) rfl ?_
   refine Wk.bipush X66 hx (hD at_166) (n := 168) rfl (z := (32 : Int32)) rfl ?_
   refine Wk.newP X66 hx hZ (oW hw 3 rfl) rfl (hD at_168) (n := 170) rfl (by decide) (cap := 32) (by decide) (by decide) (by decide) (by decide) fun T67 H67 b67 k67 gn67 X67 e67 Ex67 An67 => ?_
   have gn67 := nx gn67
   have sz67 := Ex67.1
   have K67 := K66.ext Ex67
   have R67 := R66.trans (CHr.ext Ex67 R66.1)
   have Vn67 : Arv Z H67 b67 k67 .char (32 : Int32) [(.int (0 : Int32)), (.int (0 : Int32)), (.int (0 : Int32)), (.int (0 : Int32)), (.int (0 : Int32)), (.int (0 : Int32)), (.int (0 : Int32)), (.int (0 : Int32)), (.int (0 : Int32)), (.int (0 : Int32)), (.int (0 : Int32)), (.int (0 : Int32)), (.int (0 : Int32)), (.int (0 : Int32)), (.int (0 : Int32)), (.int (0 : Int32)), (.int (0 : Int32)), (.int (0 : Int32)), (.int (0 : Int32)), (.int (0 : Int32)), (.int (0 : Int32)), (.int (0 : Int32)), (.int (0 : Int32)), (.int (0 : Int32)), (.int (0 : Int32)), (.int (0 : Int32)), (.int (0 : Int32)), (.int (0 : Int32)), (.int (0 : Int32)), (.int (0 : Int32)), (.int (0 : Int32)), (.int (0 : Int32))] (.int (0 : Int32)) := (Arv.new An67 (by decide)).pad (pad_rep [] (.int (0 : Int32)) 32)
   have lt67 := ny Vn67.lt
   refine Wk.astore X67 hx (hD at_170) (n := 172) rfl rfl (L' := #[.val (.int p1), .val (.int p2), .val (.int p3), .val (.int p4), .val (.int (0 : Int32)), .val (.ref wP), .val (.ref a6), .val (.ref x7), .val (.ref x8), .val (.ref a9), .val u10, .val (.ref b45), .val (.ref r_66), .val (.ref b67), .unset]) rfl ?_
   refine Wk.iconst X67 hx (hD at_172) (n := 173) rfl (z := (0 : Int32)) rfl ?_
   refine Wk.istore X67 hx (hD at_173) (n := 175) rfl (L' := #[.val (.int p1), .val (.int p2), .val (.int p3), .val (.int p4), .val (.int (0 : Int32)), .val (.ref wP), .val (.ref a6), .val (.ref x7), .val (.ref x8), .val (.ref a9), .val u10, .val (.ref b45), .val (.ref r_66), .val (.ref b67), .val (.int (0 : Int32))]) rfl ?_
   refine Wk.aload X67 hx (hD at_175) (n := 177) rfl rfl rfl ?_
   refine Wk.iload X67 hx (hD at_177) (n := 179) rfl rfl ?_
   refine Wk.iload X67 hx (hD at_179) (n := 181) rfl rfl ?_
   have hc181_68 : (0 : Int32) = (0 : Int32) := rfl
   refine Wk.ifYes X67 hx (hD at_181) ((if0 _ _).trans (teq hc181_68).1) (by decide) (n := 189) (by decide) ?_
   refine Wk.ldcL (text := "PostgreSQL") X67 hx hZ hown (oW hw 233 rfl) (fun d hd => hw d (own_wS d hd)) e67 Bs66 (by omega) hELw (by decide) R67 (vs := (bsV [80, 111, 115, 116, 103, 114, 101, 83, 81, 76])) (z := (Int32.ofNat ([80, 111, 115, 116, 103, 114, 101, 83, 81, 76] : List Int32).length)) ⟨by decide, rfl⟩ (by decide) (by decide) (hD at_189) (n := 191) rfl (nn := 40) (by decide) (by decide) (by decide) (by decide) fun us69 T69 H69 a69_ t69_ k69_ X69 e69 Ex69 Bs69 hZ hown An69 Fn69_c Fn69_v Vn69 A_69 R69 hne69 => ?_
   have sz69 := Ex69.1
   have lt69 := ny An69.lt
   have lu69 := ny Vn69.lt
   have K69 := K67.ext Ex69
   have f70 := (Vn67.ext Ex69)
   have sE69 : Safe Z own_EL us69.vm H69 b67 := (Safe.arv (EL := own_EL) hZ.alike f70 (by simp))
   have na69 := nw (hne69 _ sE69).1
   have nb69 := nw (hne69 _ sE69).2
   have Pz0 := Arv.pad (vs' := chV []) f70 (fun i => (pad_rep (chV []) (.int (0 : Int32)) 32 i).symm)
   have f71 := (((f55.keep J66 all0).ext Ex67).ext Ex69)
   have cl72_ := fun Ls (hLs : LsOk c Ls) => Jvm.LawKit.callS X69 hx (y := mn39) hown (mW hZ hw 234 rfl) (mW hZ hw 235 rfl) (mW hZ hw 236 rfl) (mW hZ hw 237 rfl) (by decide) (backOf (W := 0) (rmPut l Z a0 hw [] b67 k67 ([]) (0 : Int32) a69_ t69_ k69_ ([80, 111, 115, 116, 103, 114, 101, 83, 81, 76]) zc fm H69 n0 (by omega) Pz0 An69 Fn69_v Fn69_c Vn69 S4 f71 S5 hCS hFM (by decide) (by omega) (by omega) (by omega) rfl (by decide) (by decide)) hZ (oW hw 237 rfl) (oW hw 236 rfl) (by decide) (by decide)) (g := mkF m 191 Ls [(.ref a69_), (.int (0 : Int32)), (.ref b67)]) rfl hLs (argsL := [(.ref b67), (.int (0 : Int32)), (.ref a69_)]) (rest := []) (lenOf pd_30 rfl) rfl (leq0 rfl) (hD at_191) (fun _ _ => ⟨rfl, e69, (by decide : 32 + 0 ≤ _), (by decide : 304 + 0 ≤ _)⟩)
   refine Wk.backS (n := 194) (rc := 0) (rs := 0) (Q := Q_rmPut Z b67 k67 ([]) (0 : Int32) a69_ t69_ k69_ ([80, 111, 115, 116, 103, 114, 101, 83, 81, 76]) zc fm H69 n0) (cl72_ _ (lsok hml rfl)) fun vn72 T72 L72 X72 hQ72 => ?_
   clear cl72_
   obtain ⟨rfl, M72, J72, p72_0⟩ := hQ72
   have N72 := Fr.app N66 M72
   have sz72 := J72.1
   have hs72 : ∀ x ∈ ([b67] : List Addr), Safe Z own_EL us69.vm H69 x := (sfS (Safe.arv (EL := own_EL) hZ.alike Pz0 (by simp)) sf0)
   have R72 := R69.trans (CHr.keep J72 hs72 R69.1)
   have K72 := K69.trans J72 (allS (Or.inr (by omega)) all0)
   have lt_p72_0 := ny p72_0.lt
   show Wk p e below _ T72 (mkF m 194 _ [(.int (Int32.ofNat ([] ++ [80, 111, 115, 116, 103, 114, 101, 83, 81, 76]).length))])
   have Pz1 : Arv Z T72.heap b67 k67 .char (32 : Int32) (chV [80, 111, 115, 116, 103, 114, 101, 83, 81, 76]) (.int (0 : Int32)) := p72_0
   refine Wk.istore X72 hx (hD at_194) (n := 196) rfl (L' := #[.val (.int p1), .val (.int p2), .val (.int p3), .val (.int p4), .val (.int (0 : Int32)), .val (.ref wP), .val (.ref a6), .val (.ref x7), .val (.ref x8), .val (.ref a9), .val u10, .val (.ref b45), .val (.ref r_66), .val (.ref b67), .val (.int (10 : Int32))]) rfl ?_
   refine Wk.aload X72 hx (hD at_196) (n := 198) rfl rfl rfl ?_
   refine Wk.iload X72 hx (hD at_198) (n := 200) rfl rfl ?_
   refine Wk.ldcL (text := " at ") X72 hx hZ hown (oW hw 260 rfl) (fun d hd => hw d (own_wS d hd)) rfl Bs69 (by omega) hELw (by decide) R72 (vs := (bsV [32, 97, 116, 32])) (z := (Int32.ofNat ([32, 97, 116, 32] : List Int32).length)) ⟨by decide, rfl⟩ (by decide) (by decide) (hD at_200) (n := 202) rfl (nn := 16) (by decide) (by decide) (by decide) (by decide) fun us73 T73 H73 a73_ t73_ k73_ X73 e73 Ex73 Bs73 hZ hown An73 Fn73_c Fn73_v Vn73 A_73 R73 hne73 => ?_
   have sz73 := Ex73.1
   have lt73 := ny An73.lt
   have lu73 := ny Vn73.lt
   have K73 := K72.ext Ex73
   have f74 := (Pz1.ext Ex73)
   have sE73 : Safe Z own_EL us73.vm H73 b67 := (Safe.arv (EL := own_EL) hZ.alike f74 (by simp))
   have na73 := nw (hne73 _ sE73).1
   have nb73 := nw (hne73 _ sE73).2
   have f75 := ((f71.keep J72 (allS (by omega) all0)).ext Ex73)
   have cl76_ := fun Ls (hLs : LsOk c Ls) => Jvm.LawKit.callS X73 hx (y := mn39) hown (mW hZ hw 234 rfl) (mW hZ hw 235 rfl) (mW hZ hw 236 rfl) (mW hZ hw 237 rfl) (by decide) (backOf (W := 0) (rmPut l Z a0 hw [] b67 k67 ([80, 111, 115, 116, 103, 114, 101, 83, 81, 76]) (10 : Int32) a73_ t73_ k73_ ([32, 97, 116, 32]) zc fm H73 n0 (by omega) f74 An73 Fn73_v Fn73_c Vn73 S4 f75 S5 hCS hFM (by decide) (by omega) (by omega) (by omega) rfl (by decide) (by decide)) hZ (oW hw 237 rfl) (oW hw 236 rfl) (by decide) (by decide)) (g := mkF m 202 Ls [(.ref a73_), (.int (10 : Int32)), (.ref b67)]) rfl hLs (argsL := [(.ref b67), (.int (10 : Int32)), (.ref a73_)]) (rest := []) (lenOf pd_30 rfl) rfl (leq0 rfl) (hD at_202) (fun _ _ => ⟨rfl, e73, (by decide : 34 + 0 ≤ _), (by decide : 324 + 0 ≤ _)⟩)
   refine Wk.backS (n := 205) (rc := 0) (rs := 0) (Q := Q_rmPut Z b67 k67 ([80, 111, 115, 116, 103, 114, 101, 83, 81, 76]) (10 : Int32) a73_ t73_ k73_ ([32, 97, 116, 32]) zc fm H73 n0) (cl76_ _ (lsok hml rfl)) fun vn76 T76 L76 X76 hQ76 => ?_
   clear cl76_
   obtain ⟨rfl, M76, J76, p76_0⟩ := hQ76
   have N76 := Fr.app N72 M76
   have sz76 := J76.1
   have hs76 : ∀ x ∈ ([b67] : List Addr), Safe Z own_EL us73.vm H73 x := (sfS (Safe.arv (EL := own_EL) hZ.alike f74 (by simp)) sf0)
   have R76 := R73.trans (CHr.keep J76 hs76 R73.1)
   have K76 := K73.trans J76 (allS (Or.inr (by omega)) all0)
   have lt_p76_0 := ny p76_0.lt
   show Wk p e below _ T76 (mkF m 205 _ [(.int (Int32.ofNat ([80, 111, 115, 116, 103, 114, 101, 83, 81, 76] ++ [32, 97, 116, 32]).length))])
   have Pz2 : Arv Z T76.heap b67 k67 .char (32 : Int32) (chV [80, 111, 115, 116, 103, 114, 101, 83, 81, 76, 32, 97, 116, 32]) (.int (0 : Int32)) := p76_0
   have Pz3 := Arv.pad Pz2 (pad_rep (chV [80, 111, 115, 116, 103, 114, 101, 83, 81, 76, 32, 97, 116, 32]) (.int (0 : Int32)) 4)
   refine Wk.istore X76 hx (hD at_205) (n := 207) rfl (L' := #[.val (.int p1), .val (.int p2), .val (.int p3), .val (.int p4), .val (.int (0 : Int32)), .val (.ref wP), .val (.ref a6), .val (.ref x7), .val (.ref x8), .val (.ref a9), .val u10, .val (.ref b45), .val (.ref r_66), .val (.ref b67), .val (.int (14 : Int32))]) rfl ?_
   refine Wk.aload X76 hx (hD at_207) (n := 209) rfl rfl rfl ?_
   refine Wk.iload X76 hx (hD at_209) (n := 211) rfl rfl ?_
   refine Wk.aload X76 hx (hD at_211) (n := 213) rfl rfl rfl ?_
   refine Wk.iconst X76 hx (hD at_213) (n := 214) rfl (z := (0 : Int32)) rfl ?_
   have f78 := (((((((((A6_.ext Ex45).ext Ex46).keep J54 (ninS (nz (by omega)) nin0)).keep J66 nin0).ext Ex67).ext Ex69).keep J72 (ninS (nz (by omega)) nin0)).ext Ex73).keep J76 (ninS (nz (by omega)) nin0))
   obtain ⟨cl77, Ar77, qn77, Sz77, N_77, H_77, Gn77⟩ := id f78
   have hin77 : ¬ ((0 : Int32) < 0 ∨ cl77.slots.size ≤ ((0 : Int32)).toNatClampNeg) := inb_of Sz77 ⟨by decide, by decide⟩
   refine Wk.caload X76 hx hZ rfl Ar77 (v := (.int c0)) hin77 (H_77.at hin77 rfl) (hD at_214) (n := 215) rfl ?_
   obtain ⟨cl79, Ar79, qn79, Sz79, N_79, H_79, Gn79⟩ := id Pz3
   have hin79 : ¬ ((14 : Int32) < 0 ∨ cl79.slots.size ≤ ((14 : Int32)).toNatClampNeg) := inb_of Sz79 ⟨by decide, by decide⟩
   refine Wk.stC X76 hx hZ rfl Ar79 hin79 (hD at_215) (n := 216) rfl fun T79 H79 X79 e79 Wn79 => ?_
   have Vn79 := Arv.set Ar79 qn79 Sz79 N_79 H_79 Gn79 (fits_nar_char _) Wn79 14 rfl (Nat.le_of_ble_eq_true rfl)
   have Un79 : Arv Z H79 b67 k67 .char (32 : Int32) (chV [80, 111, 115, 116, 103, 114, 101, 83, 81, 76, 32, 97, 116, 32, c0] ++ List.replicate 3 (Value.int (0 : Int32))) (.int (0 : Int32)) := own_arv (own_stf (cp := [80, 111, 115, 116, 103, 114, 101, 83, 81, 76, 32, 97, 116, 32]) (d := c0) (s := 3) n_c0 rfl rfl) Vn79
   have sz79 := Wn79.size
   have Sw79 := (Safe.arv (EL := own_EL) hZ.alike Pz3 (by simp))
   have R79 := R76.trans (CHr.wr Wn79 Sw79 R76.1)
   have K79 := K76.wr Wn79 (Or.inr (by omega))
   have N79 := Fr.snoc X79 N76 (by omega)
   refine Wk.aload X79 hx (hD at_216) (n := 218) rfl rfl rfl ?_
   refine Wk.iload X79 hx (hD at_218) (n := 220) rfl rfl ?_
   refine Wk.iconst X79 hx (hD at_220) (n := 221) rfl (z := (1 : Int32)) rfl ?_
   refine Wk.iadd X79 hx (hD at_221) (n := 222) rfl ?_
   refine Wk.aload X79 hx (hD at_222) (n := 224) rfl rfl rfl ?_
   refine Wk.iconst X79 hx (hD at_224) (n := 225) rfl (z := (1 : Int32)) rfl ?_
   have f81 := (f78.other Wn79 (nz (by omega)))
   obtain ⟨cl80, Ar80, qn80, Sz80, N_80, H_80, Gn80⟩ := id f81
   have hin80 : ¬ ((1 : Int32) < 0 ∨ cl80.slots.size ≤ ((1 : Int32)).toNatClampNeg) := inb_of Sz80 ⟨by decide, by decide⟩
   refine Wk.caload X79 hx hZ e79 Ar80 (v := (.int c1)) hin80 (H_80.at hin80 rfl) (hD at_225) (n := 226) rfl ?_
   obtain ⟨cl82, Ar82, qn82, Sz82, N_82, H_82, Gn82⟩ := id Un79
   have hin82 : ¬ ((15 : Int32) < 0 ∨ cl82.slots.size ≤ ((15 : Int32)).toNatClampNeg) := inb_of Sz82 ⟨by decide, by decide⟩
   refine Wk.stC X79 hx hZ e79 Ar82 hin82 (hD at_226) (n := 227) rfl fun T82 H82 X82 e82 Wn82 => ?_
   have Vn82 := Arv.set Ar82 qn82 Sz82 N_82 H_82 Gn82 (fits_nar_char _) Wn82 15 rfl (Nat.le_of_ble_eq_true rfl)
   have Un82 : Arv Z H82 b67 k67 .char (32 : Int32) (chV [80, 111, 115, 116, 103, 114, 101, 83, 81, 76, 32, 97, 116, 32, c0, c1] ++ List.replicate 2 (Value.int (0 : Int32))) (.int (0 : Int32)) := own_arv (own_stf (cp := [80, 111, 115, 116, 103, 114, 101, 83, 81, 76, 32, 97, 116, 32, c0]) (d := c1) (s := 2) n_c1 rfl rfl) Vn82
   have sz82 := Wn82.size
   have Sw82 := (Safe.arv (EL := own_EL) hZ.alike Un79 (by simp))
   have R82 := R79.trans (CHr.wr Wn82 Sw82 R79.1)
   have K82 := K79.wr Wn82 (Or.inr (by omega))
   have N82 := Fr.snoc X82 N79 (by omega)
   refine Wk.aload X82 hx (hD at_227) (n := 229) rfl rfl rfl ?_
   refine Wk.iload X82 hx (hD at_229) (n := 231) rfl rfl ?_
   refine Wk.iconst X82 hx (hD at_231) (n := 232) rfl (z := (2 : Int32)) rfl ?_
   refine Wk.iadd X82 hx (hD at_232) (n := 233) rfl ?_
   refine Wk.aload X82 hx (hD at_233) (n := 235) rfl rfl rfl ?_
   refine Wk.iconst X82 hx (hD at_235) (n := 236) rfl (z := (2 : Int32)) rfl ?_
   have f84 := (f81.other Wn82 (nz (by omega)))
   obtain ⟨cl83, Ar83, qn83, Sz83, N_83, H_83, Gn83⟩ := id f84
   have hin83 : ¬ ((2 : Int32) < 0 ∨ cl83.slots.size ≤ ((2 : Int32)).toNatClampNeg) := inb_of Sz83 ⟨by decide, by decide⟩
   refine Wk.caload X82 hx hZ e82 Ar83 (v := (.int c2)) hin83 (H_83.at hin83 rfl) (hD at_236) (n := 237) rfl ?_
   obtain ⟨cl85, Ar85, qn85, Sz85, N_85, H_85, Gn85⟩ := id Un82
   have hin85 : ¬ ((16 : Int32) < 0 ∨ cl85.slots.size ≤ ((16 : Int32)).toNatClampNeg) := inb_of Sz85 ⟨by decide, by decide⟩
   refine Wk.stC X82 hx hZ e82 Ar85 hin85 (hD at_237) (n := 238) rfl fun T85 H85 X85 e85 Wn85 => ?_
   have Vn85 := Arv.set Ar85 qn85 Sz85 N_85 H_85 Gn85 (fits_nar_char _) Wn85 16 rfl (Nat.le_of_ble_eq_true rfl)
   have Un85 : Arv Z H85 b67 k67 .char (32 : Int32) (chV [80, 111, 115, 116, 103, 114, 101, 83, 81, 76, 32, 97, 116, 32, c0, c1, c2] ++ List.replicate 1 (Value.int (0 : Int32))) (.int (0 : Int32)) := own_arv (own_stf (cp := [80, 111, 115, 116, 103, 114, 101, 83, 81, 76, 32, 97, 116, 32, c0, c1]) (d := c2) (s := 1) n_c2 rfl rfl) Vn85
   have sz85 := Wn85.size
   have Sw85 := (Safe.arv (EL := own_EL) hZ.alike Un82 (by simp))
   have R85 := R82.trans (CHr.wr Wn85 Sw85 R82.1)
   have K85 := K82.wr Wn85 (Or.inr (by omega))
   have N85 := Fr.snoc X85 N82 (by omega)
   refine Wk.iload X85 hx (hD at_238) (n := 240) rfl rfl ?_
   refine Wk.iconst X85 hx (hD at_240) (n := 241) rfl (z := (3 : Int32)) rfl ?_
   refine Wk.iadd X85 hx (hD at_241) (n := 242) rfl ?_
   refine Wk.istore X85 hx (hD at_242) (n := 244) rfl (L' := #[.val (.int p1), .val (.int p2), .val (.int p3), .val (.int p4), .val (.int (0 : Int32)), .val (.ref wP), .val (.ref a6), .val (.ref x7), .val (.ref x8), .val (.ref a9), .val u10, .val (.ref b45), .val (.ref r_66), .val (.ref b67), .val (.int (17 : Int32))]) rfl ?_
   refine Wk.aload X85 hx (hD at_244) (n := 246) rfl rfl rfl ?_
   refine Wk.iload X85 hx (hD at_246) (n := 248) rfl rfl ?_
   refine Wk.bipush X85 hx (hD at_248) (n := 250) rfl (z := (58 : Int32)) rfl ?_
   obtain ⟨cl86, Ar86, qn86, Sz86, N_86, H_86, Gn86⟩ := id Un85
   have hin86 : ¬ ((17 : Int32) < 0 ∨ cl86.slots.size ≤ ((17 : Int32)).toNatClampNeg) := inb_of Sz86 ⟨by decide, by decide⟩
   refine Wk.stC X85 hx hZ e85 Ar86 hin86 (hD at_250) (n := 251) rfl fun T86 H86 X86 e86 Wn86 => ?_
   have Vn86 := Arv.set Ar86 qn86 Sz86 N_86 H_86 Gn86 (fits_nar_char _) Wn86 17 rfl (Nat.le_of_ble_eq_true rfl)
   have Un86 : Arv Z H86 b67 k67 .char (32 : Int32) (chV [80, 111, 115, 116, 103, 114, 101, 83, 81, 76, 32, 97, 116, 32, c0, c1, c2, 58] ++ List.replicate 0 (Value.int (0 : Int32))) (.int (0 : Int32)) := own_arv (own_stf (cp := [80, 111, 115, 116, 103, 114, 101, 83, 81, 76, 32, 97, 116, 32, c0, c1, c2]) (d := 58) (s := 0) (by decide) rfl rfl) Vn86
   have sz86 := Wn86.size
   have Sw86 := (Safe.arv (EL := own_EL) hZ.alike Un85 (by simp))
   have R86 := R85.trans (CHr.wr Wn86 Sw86 R85.1)
   have K86 := K85.wr Wn86 (Or.inr (by omega))
   have N86 := Fr.snoc X86 N85 (by omega)
   refine Wk.iload X86 hx (hD at_251) (n := 253) rfl rfl ?_
   refine Wk.iconst X86 hx (hD at_253) (n := 254) rfl (z := (1 : Int32)) rfl ?_
   refine Wk.iadd X86 hx (hD at_254) (n := 255) rfl ?_
   refine Wk.istore X86 hx (hD at_255) (n := 257) rfl (L' := #[.val (.int p1), .val (.int p2), .val (.int p3), .val (.int p4), .val (.int (0 : Int32)), .val (.ref wP), .val (.ref a6), .val (.ref x7), .val (.ref x8), .val (.ref a9), .val u10, .val (.ref b45), .val (.ref r_66), .val (.ref b67), .val (.int (18 : Int32))]) rfl ?_
   refine Wk.aload X86 hx (hD at_257) (n := 259) rfl rfl rfl ?_
   refine Wk.iload X86 hx (hD at_259) (n := 261) rfl rfl ?_
   refine Wk.iloadN X86 hx (hD at_261) (n := 262) rfl rfl ?_
   have Pe := own_arv (List.append_nil (chV [80, 111, 115, 116, 103, 114, 101, 83, 81, 76, 32, 97, 116, 32, c0, c1, c2, 58])) Un86
   have cl87_ := fun Ls (hLs : LsOk c Ls) => Jvm.LawKit.callS X86 hx (y := mn41) hown (mW hZ hw 261 rfl) (mW hZ hw 262 rfl) (mW hZ hw 236 rfl) (mW hZ hw 263 rfl) (by decide) (backOf (W := 0) (rmPI l Z a0 hw [] b67 (18 : Int32) p3 k67 ([80, 111, 115, 116, 103, 114, 101, 83, 81, 76, 32, 97, 116, 32, c0, c1, c2, 58]) H86 n0 (by omega) Pe rfl (Nat.le_of_ble_eq_true rfl) (by omega)) hZ (oW hw 263 rfl) (oW hw 236 rfl) (by decide) (by decide)) (g := mkF m 262 Ls [(.int p3), (.int (18 : Int32)), (.ref b67)]) rfl hLs (argsL := [(.ref b67), (.int (18 : Int32)), (.int p3)]) (rest := []) (lenOf pd_31 rfl) rfl (leq0 rfl) (hD at_262) (fun _ _ => ⟨rfl, e86, (by decide : 34 + 0 ≤ _), (by decide : 324 + 0 ≤ _)⟩)
   refine Wk.backS (n := 265) (rc := 0) (rs := 0) (Q := Q_rmPI Z b67 (18 : Int32) p3 k67 ([80, 111, 115, 116, 103, 114, 101, 83, 81, 76, 32, 97, 116, 32, c0, c1, c2, 58]) H86 n0) (cl87_ _ (lsok hml rfl)) fun vn87 T87 L87 X87 hQ87 => ?_
   clear cl87_
   obtain ⟨rfl, M87, J87, p87_0⟩ := hQ87
   have N87 := Fr.app N86 M87
   have sz87 := J87.1
   have hs87 : ∀ x ∈ ([b67] : List Addr), Safe Z own_EL us73.vm H86 x := (sfS (Safe.arv (EL := own_EL) hZ.alike Pe (by simp)) sf0)
   have R87 := R86.trans (CHr.keep J87 hs87 R86.1)
   have K87 := K86.trans J87 (allS (Or.inr (by omega)) all0)
   have lt_p87_0 := ny p87_0.lt
   show Wk p e below _ T87 (mkF m 265 _ [(.int (Int32.ofNat ([80, 111, 115, 116, 103, 114, 101, 83, 81, 76, 32, 97, 116, 32, c0, c1, c2, 58] ++ (sgl p3 ++ dl (mg p3))).length))])
   refine Wk.istore X87 hx (hD at_265) (n := 267) rfl (L' := #[.val (.int p1), .val (.int p2), .val (.int p3), .val (.int p4), .val (.int (0 : Int32)), .val (.ref wP), .val (.ref a6), .val (.ref x7), .val (.ref x8), .val (.ref a9), .val u10, .val (.ref b45), .val (.ref r_66), .val (.ref b67), .val (.int (Int32.ofNat ([80, 111, 115, 116, 103, 114, 101, 83, 81, 76, 32, 97, 116, 32, c0, c1, c2, 58] ++ (sgl p3 ++ dl (mg p3))).length))]) rfl ?_
   have f88 := ((((((((((p66_0.ext Ex67).ext Ex69).keep J72).ext Ex73).keep J76).wr Wn79).wr Wn82).wr Wn85).wr Wn86).keep J87)
   have f89 := ((((((((((p66_1.ext Ex67).ext Ex69).keep J72 (ninS (nz (by omega)) nin0)).ext Ex73).keep J76 (ninS (nz (by omega)) nin0)).other Wn79 (Or.inl (nz (by omega)))).other Wn82 (Or.inl (nz (by omega)))).other Wn85 (Or.inl (nz (by omega)))).other Wn86 (Or.inl (nz (by omega)))).keep J87 (ninS (nz (by omega)) nin0))
   have f90 := ((((((((((p66_2.ext Ex67).ext Ex69).keep J72 (ninS (nz (by omega)) nin0)).ext Ex73).keep J76 (ninS (nz (by omega)) nin0)).other Wn79 (Or.inl (nz (by omega)))).other Wn82 (Or.inl (nz (by omega)))).other Wn85 (Or.inl (nz (by omega)))).other Wn86 (Or.inl (nz (by omega)))).keep J87 (ninS (nz (by omega)) nin0))
   have f91 := ((((((((((p66_3.ext Ex67).ext Ex69).keep J72 (ninS (nz (by omega)) nin0)).ext Ex73).keep J76 (ninS (nz (by omega)) nin0)).other Wn79 (nz (by omega))).other Wn82 (nz (by omega))).other Wn85 (nz (by omega))).other Wn86 (nz (by omega))).keep J87 (ninS (nz (by omega)) nin0))
   have f92 := ((((((f75.keep J76 (allS (by omega) all0)).wr Wn79 (by omega)).wr Wn82 (by omega)).wr Wn85 (by omega)).wr Wn86 (by omega)).keep J87 (allS (by omega) all0))
   exact jt_a T87 T87.heap _ us73 _ (0 : Int32) wP a6 x7 x8 a9 b45 r_66 b67 t_66 u10 kb_66 k67 ([80, 111, 115, 116, 103, 114, 101, 83, 81, 76, 32, 97, 116, 32, c0, c1, c2, 58] ++ (sgl p3 ++ dl (mg p3))) (X87.mono (by decide) (by decide)) rfl K87 N87 Bs73 (by omega) hZ hown R87 f88 f89 f90 f91 p87_0 f92 hu10 qp (by rw [lp]; omega)
  refine Wk.astore X43 hx (hD at_27) (n := 29) rfl rfl (L' := #[.val (.int p1), .val (.int p2), .val (.int p3), .val (.int p4), .val (.int (0 : Int32)), .val (.ref wP), .unset, .unset, .unset, .unset, .unset, .unset, .unset, .unset, .unset]) rfl ?_
  refine Wk.iconst X43 hx (hD at_29) (n := 30) rfl (z := (3 : Int32)) rfl ?_
  refine Wk.newP X43 hx hZ (oW hw 3 rfl) e43 (hD at_30) (n := 32) rfl (by decide) (cap := 3) (by decide) (by decide) (by decide) (by decide) fun T93 H93 b93 k93 gn93 X93 e93 Ex93 An93 => ?_
  have gn93 := nx gn93
  have sz93 := Ex93.1
  have K93 := K0.ext Ex93
  have R93 := R0.trans (CHr.ext Ex93 R0.1)
  have Vn93 : Arv Z H93 b93 k93 .char (3 : Int32) [(.int (0 : Int32)), (.int (0 : Int32)), (.int (0 : Int32))] (.int (0 : Int32)) := (Arv.new An93 (by decide)).pad (pad_rep [] (.int (0 : Int32)) 3)
  have lt93 := ny Vn93.lt
  refine Wk.dup X93 hx (hD at_32) (n := 33) rfl rfl ?_
  refine Wk.iconst X93 hx (hD at_33) (n := 34) rfl (z := (0 : Int32)) rfl ?_
  refine Wk.iloadN X93 hx (hD at_34) (n := 35) rfl rfl ?_
  refine Wk.sipush X93 hx (hD at_35) (n := 38) rfl (z := (255 : Int32)) rfl ?_
  refine Wk.iand X93 hx (hD at_38) (n := 39) rfl ?_
  obtain ⟨c0, q_c0⟩ : ∃ z : Int32, z = ((p2 &&& (255 : Int32)).toUInt32.toUInt16.toUInt32.toInt32) := ⟨_, rfl⟩
  have n_c0 : nar .char c0 = c0 := by rw [q_c0]; exact own_c255 _
  have r_c0 : ¬ c0 < 0 ∧ ¬ (255 : Int32) < c0 := by rw [q_c0]; exact own_r255 _
  refine Wk.i2c X93 hx (hD at_39) (n := 40) rfl q_c0.symm ?_
  obtain ⟨cl94, Ar94, qn94, Sz94, N_94, H_94, Gn94⟩ := id Vn93
  have hin94 : ¬ ((0 : Int32) < 0 ∨ cl94.slots.size ≤ ((0 : Int32)).toNatClampNeg) := inb_of Sz94 ⟨by decide, by decide⟩
  refine Wk.stC X93 hx hZ e93 Ar94 hin94 (hD at_40) (n := 41) rfl fun T94 H94 X94 e94 Wn94 => ?_
  have Vn94 := Arv.set Ar94 qn94 Sz94 N_94 H_94 Gn94 (fits_nar_char _) Wn94 0 rfl (Nat.le_of_ble_eq_true rfl)
  have Un94 : Arv Z H94 b93 k93 .char (3 : Int32) [(.int c0), (.int (0 : Int32)), (.int (0 : Int32))] (.int (0 : Int32)) := by have q := Vn94; rw [n_c0] at q; exact q
  have sz94 := Wn94.size
  have Sw94 := (Safe.arv (EL := own_EL) hZ.alike Vn93 (by simp))
  have R94 := R93.trans (CHr.wr Wn94 Sw94 R93.1)
  have K94 := K93.wr Wn94 (Or.inr (by omega))
  have N94 := Fr.snoc X94 N0 (by omega)
  refine Wk.dup X94 hx (hD at_41) (n := 42) rfl rfl ?_
  refine Wk.iconst X94 hx (hD at_42) (n := 43) rfl (z := (1 : Int32)) rfl ?_
  refine Wk.iloadN X94 hx (hD at_43) (n := 44) rfl rfl ?_
  refine Wk.bipush X94 hx (hD at_44) (n := 46) rfl (z := (8 : Int32)) rfl ?_
  refine Wk.iushr X94 hx (hD at_46) (n := 47) rfl ?_
  refine Wk.sipush X94 hx (hD at_47) (n := 50) rfl (z := (255 : Int32)) rfl ?_
  refine Wk.iand X94 hx (hD at_50) (n := 51) rfl ?_
  obtain ⟨c1, q_c1⟩ : ∃ z : Int32, z = ((((p2.toUInt32 >>> ((8 : Int32) &&& 31).toUInt32).toInt32) &&& (255 : Int32)).toUInt32.toUInt16.toUInt32.toInt32) := ⟨_, rfl⟩
  have n_c1 : nar .char c1 = c1 := by rw [q_c1]; exact own_c255 _
  have r_c1 : ¬ c1 < 0 ∧ ¬ (255 : Int32) < c1 := by rw [q_c1]; exact own_r255 _
  refine Wk.i2c X94 hx (hD at_51) (n := 52) rfl q_c1.symm ?_
  obtain ⟨cl95, Ar95, qn95, Sz95, N_95, H_95, Gn95⟩ := id Un94
  have hin95 : ¬ ((1 : Int32) < 0 ∨ cl95.slots.size ≤ ((1 : Int32)).toNatClampNeg) := inb_of Sz95 ⟨by decide, by decide⟩
  refine Wk.stC X94 hx hZ e94 Ar95 hin95 (hD at_52) (n := 53) rfl fun T95 H95 X95 e95 Wn95 => ?_
  have Vn95 := Arv.set Ar95 qn95 Sz95 N_95 H_95 Gn95 (fits_nar_char _) Wn95 1 rfl (Nat.le_of_ble_eq_true rfl)
  have Un95 : Arv Z H95 b93 k93 .char (3 : Int32) [(.int c0), (.int c1), (.int (0 : Int32))] (.int (0 : Int32)) := by have q := Vn95; rw [n_c1] at q; exact q
  have sz95 := Wn95.size
  have Sw95 := (Safe.arv (EL := own_EL) hZ.alike Un94 (by simp))
  have R95 := R94.trans (CHr.wr Wn95 Sw95 R94.1)
  have K95 := K94.wr Wn95 (Or.inr (by omega))
  have N95 := Fr.snoc X95 N94 (by omega)
  refine Wk.dup X95 hx (hD at_53) (n := 54) rfl rfl ?_
  refine Wk.iconst X95 hx (hD at_54) (n := 55) rfl (z := (2 : Int32)) rfl ?_
  refine Wk.iloadN X95 hx (hD at_55) (n := 56) rfl rfl ?_
  refine Wk.bipush X95 hx (hD at_56) (n := 58) rfl (z := (16 : Int32)) rfl ?_
  refine Wk.iushr X95 hx (hD at_58) (n := 59) rfl ?_
  refine Wk.sipush X95 hx (hD at_59) (n := 62) rfl (z := (255 : Int32)) rfl ?_
  refine Wk.iand X95 hx (hD at_62) (n := 63) rfl ?_
  obtain ⟨c2, q_c2⟩ : ∃ z : Int32, z = ((((p2.toUInt32 >>> ((16 : Int32) &&& 31).toUInt32).toInt32) &&& (255 : Int32)).toUInt32.toUInt16.toUInt32.toInt32) := ⟨_, rfl⟩
  have n_c2 : nar .char c2 = c2 := by rw [q_c2]; exact own_c255 _
  have r_c2 : ¬ c2 < 0 ∧ ¬ (255 : Int32) < c2 := by rw [q_c2]; exact own_r255 _
  refine Wk.i2c X95 hx (hD at_63) (n := 64) rfl q_c2.symm ?_
  obtain ⟨cl96, Ar96, qn96, Sz96, N_96, H_96, Gn96⟩ := id Un95
  have hin96 : ¬ ((2 : Int32) < 0 ∨ cl96.slots.size ≤ ((2 : Int32)).toNatClampNeg) := inb_of Sz96 ⟨by decide, by decide⟩
  refine Wk.stC X95 hx hZ e95 Ar96 hin96 (hD at_64) (n := 65) rfl fun T96 H96 X96 e96 Wn96 => ?_
  have Vn96 := Arv.set Ar96 qn96 Sz96 N_96 H_96 Gn96 (fits_nar_char _) Wn96 2 rfl (Nat.le_of_ble_eq_true rfl)
  have Un96 : Arv Z H96 b93 k93 .char (3 : Int32) [(.int c0), (.int c1), (.int c2)] (.int (0 : Int32)) := by have q := Vn96; rw [n_c2] at q; exact q
  have sz96 := Wn96.size
  have Sw96 := (Safe.arv (EL := own_EL) hZ.alike Un95 (by simp))
  have R96 := R95.trans (CHr.wr Wn96 Sw96 R95.1)
  have K96 := K95.wr Wn96 (Or.inr (by omega))
  have N96 := Fr.snoc X96 N95 (by omega)
  refine Wk.astore X96 hx (hD at_65) (n := 67) rfl rfl (L' := #[.val (.int p1), .val (.int p2), .val (.int p3), .val (.int p4), .val (.int (0 : Int32)), .val (.ref wP), .val (.ref b93), .unset, .unset, .unset, .unset, .unset, .unset, .unset, .unset]) rfl ?_
  refine Wk.newO X96 hx hZ hown (oW hw 4 rfl) (oW hw 5 rfl) (oW hw 6 rfl) e96 (hD at_67) (n := 70) rfl (by decide) (by decide) fun T97 H97 b97 gn97 X97 e97 Ex97 An97 Dn97 Yn97 => ?_
  have gn97 := nx gn97
  have sz97 := Ex97.1
  have lt97 := ny An97.lt
  have K97 := K96.ext Ex97
  have R97 := R96.trans (CHr.ext Ex97 R96.1)
  have Sf97 := Safe.ext (x := b97) Ex97 R96.1 (Safe.new (Nat.le_of_eq gn97.symm))
  have Fn97_coder : Fld Z H97 b97 "java/lang/String" "coder" "B" (.int (0 : Int32)) := Dn97 (Or.inr (oW hw 30 rfl)) (ty := .byte) (by decide)
  have Fn97_value : Fld Z H97 b97 "java/lang/String" "value" "[B" .null := Dn97 (Or.inr (oW hw 32 rfl)) (ty := (.array .byte)) (by decide)
  refine Wk.dup X97 hx (hD at_70) (n := 71) rfl rfl ?_
  refine Wk.aload X97 hx (hD at_71) (n := 73) rfl rfl rfl ?_
  have f99 := (Un96.ext Ex97)
  have f100 := (((((O1.ext Ex93).wr Wn94 (by omega)).wr Wn95 (by omega)).wr Wn96 (by omega)).ext Ex97)
  have hp101 : ∀ c ∈ ([c0, c1, c2] : List Int32), ¬ c < 0 ∧ ¬ (255 : Int32) < c := List.forall_mem_cons.mpr ⟨r_c0, List.forall_mem_cons.mpr ⟨r_c1, List.forall_mem_cons.mpr ⟨r_c2, (fun _ q => nomatch q)⟩⟩⟩
  have cl98_ := fun Ls (hLs : LsOk c Ls) => X97.specialBack hx (y := mn43) rfl hown (mW hZ hw 7 rfl) (mW hZ hw 8 rfl) (mW hZ hw 9 rfl) (by decide) (StrChars.Road.backV (n0 := n0) (h := H97) (x := b97) (W := 1) hZ (fun d hd => hw d (own_ws d hd)) (kI := 4) (oW hw 5 rfl) (cs := [c0, c1, c2]) (bs := (([c0, c1, c2] : List Int32).map (fun c => c.toInt8.toInt32))) (n := 3) (by omega) (by omega) An97 Fn97_value Fn97_coder f99 (Sta.ext f100.2 S4) hCS rfl rfl (by decide) (by decide) hp101 rfl (by decide) (by decide)) (g := mkF m 73 Ls [(.ref b93), (.ref b97), (.ref b97)]) rfl hLs (Steps.refl _) (a := b97) (argsL := [(.ref b93)]) (rest := [(.ref b97)]) (lenOf pd_32 rfl) rfl (leq0 rfl) (hD at_73) (fun _ _ => ⟨rfl, e97, (by decide : 2 + 1 ≤ _), (by decide : 7 + 3 ≤ _)⟩)
  refine Wk.back (n := 76) (rc := 1) (rs := 3) (Q := StrChars.Road.QV Z b97 (3 : Int32) (([c0, c1, c2] : List Int32).map (fun c => c.toInt8.toInt32)) H97 n0) (cl98_ _ (lsok hml rfl)) fun vn98 T98 L98 X98 hQ98 => ?_
  clear cl98_
  obtain ⟨rfl, M98, J98, p98_0, p98_1, t_98, kb_98, _, ge_98, nt_98, p98_2, p98_3⟩ := hQ98
  have nt_98 := nw nt_98
  have N98 := Fr.app N96 M98
  have sz98 := J98.1
  have hs98 : ∀ x ∈ ([b97] : List Addr), Safe Z own_EL s.vm H97 x := (sfS Sf97 sf0)
  have R98 := R97.trans (CHr.keep J98 hs98 R97.1)
  have K98 := K97.trans J98 (allS (Or.inr (by omega)) all0)
  have lt_p98 := ny p98_3.lt
  show Wk p e below _ T98 (mkF m 76 _ [(.ref b97)])
  refine Wk.astore X98 hx (hD at_76) (n := 78) rfl rfl (L' := #[.val (.int p1), .val (.int p2), .val (.int p3), .val (.int p4), .val (.int (0 : Int32)), .val (.ref wP), .val (.ref b93), .val (.ref b97), .unset, .unset, .unset, .unset, .unset, .unset, .unset]) rfl ?_
  refine Wk.iloadN X98 hx (hD at_78) (n := 79) rfl rfl ?_
  refine Wk.sipush X98 hx (hD at_79) (n := 82) rfl (z := (255 : Int32)) rfl ?_
  refine Wk.iand X98 hx (hD at_82) (n := 83) rfl ?_
  obtain ⟨s0, q_s0⟩ : ∃ z : Int32, z = ((p4 &&& (255 : Int32)).toUInt32.toUInt16.toUInt32.toInt32) := ⟨_, rfl⟩
  have n_s0 : nar .char s0 = s0 := by rw [q_s0]; exact own_c255 _
  have r_s0 : ¬ s0 < 0 ∧ ¬ (255 : Int32) < s0 := by rw [q_s0]; exact own_r255 _
  refine Wk.i2c X98 hx (hD at_83) (n := 84) rfl q_s0.symm ?_
  have f102 := (f100.keep J98 (allS (by omega) all0))
  have cl103_ := fun Ls (hLs : LsOk c Ls) => Jvm.LawKit.callS X98 hx (y := mn4) hown (mW hZ hw 33 rfl) (mW hZ hw 34 rfl) (mW hZ hw 6 rfl) (mW hZ hw 35 rfl) (by decide) (backOf (W := 0) (rmSVO l Z a0 hw [] s0 zc T98.heap n0 (by omega) S4 f102 hCS r_s0.2) hZ (oW hw 35 rfl) (oW hw 6 rfl) (by decide) (by decide)) (g := mkF m 84 Ls [(.int s0)]) rfl hLs (argsL := [(.int s0)]) (rest := []) (lenOf pd_33 rfl) rfl (leq0 rfl) (hD at_84) (fun _ _ => ⟨rfl, rfl, (by decide : 3 + 2 ≤ _), (by decide : 10 + 5 ≤ _)⟩)
  refine Wk.backS (n := 87) (rc := 2) (rs := 5) (Q := Q_rmSVO Z s0 zc T98.heap n0) (cl103_ _ (lsok hml rfl)) fun vn103 T103 L103 X103 hQ103 => ?_
  clear cl103_
  obtain ⟨r_103, t_103, kb_103, rfl, M103, J103, p103_0, p103_1, p103_2, p103_3, gr_103, gt_103⟩ := hQ103
  have N103 := Fr.app N98 M103
  have sz103 := J103.1
  have hs103 : ∀ x ∈ ([] : List Addr), Safe Z own_EL s.vm T98.heap x := sf0
  have R103 := R98.trans (CHr.keep J103 hs103 R98.1)
  have K103 := K98.trans J103 (fun x hx => nomatch hx)
  have lt_p103_0 := ny p103_0.lt
  have lt_p103_3 := ny p103_3.lt
  show Wk p e below _ T103 (mkF m 87 _ [(.ref r_103)])
  refine Wk.astore X103 hx (hD at_87) (n := 89) rfl rfl (L' := #[.val (.int p1), .val (.int p2), .val (.int p3), .val (.int p4), .val (.int (0 : Int32)), .val (.ref wP), .val (.ref b93), .val (.ref b97), .val (.ref r_103), .unset, .unset, .unset, .unset, .unset, .unset]) rfl ?_
  refine Wk.iconst X103 hx (hD at_89) (n := 90) rfl (z := (2 : Int32)) rfl ?_
  refine Wk.newP X103 hx hZ (oW hw 3 rfl) rfl (hD at_90) (n := 92) rfl (by decide) (cap := 2) (by decide) (by decide) (by decide) (by decide) fun T104 H104 b104 k104 gn104 X104 e104 Ex104 An104 => ?_
  have gn104 := nx gn104
  have sz104 := Ex104.1
  have K104 := K103.ext Ex104
  have R104 := R103.trans (CHr.ext Ex104 R103.1)
  have Vn104 : Arv Z H104 b104 k104 .char (2 : Int32) [(.int (0 : Int32)), (.int (0 : Int32))] (.int (0 : Int32)) := (Arv.new An104 (by decide)).pad (pad_rep [] (.int (0 : Int32)) 2)
  have lt104 := ny Vn104.lt
  refine Wk.dup X104 hx (hD at_92) (n := 93) rfl rfl ?_
  refine Wk.iconst X104 hx (hD at_93) (n := 94) rfl (z := (0 : Int32)) rfl ?_
  refine Wk.iloadN X104 hx (hD at_94) (n := 95) rfl rfl ?_
  refine Wk.bipush X104 hx (hD at_95) (n := 97) rfl (z := (8 : Int32)) rfl ?_
  refine Wk.iushr X104 hx (hD at_97) (n := 98) rfl ?_
  refine Wk.sipush X104 hx (hD at_98) (n := 101) rfl (z := (255 : Int32)) rfl ?_
  refine Wk.iand X104 hx (hD at_101) (n := 102) rfl ?_
  obtain ⟨s1, q_s1⟩ : ∃ z : Int32, z = ((((p4.toUInt32 >>> ((8 : Int32) &&& 31).toUInt32).toInt32) &&& (255 : Int32)).toUInt32.toUInt16.toUInt32.toInt32) := ⟨_, rfl⟩
  have n_s1 : nar .char s1 = s1 := by rw [q_s1]; exact own_c255 _
  have r_s1 : ¬ s1 < 0 ∧ ¬ (255 : Int32) < s1 := by rw [q_s1]; exact own_r255 _
  refine Wk.i2c X104 hx (hD at_102) (n := 103) rfl q_s1.symm ?_
  obtain ⟨cl105, Ar105, qn105, Sz105, N_105, H_105, Gn105⟩ := id Vn104
  have hin105 : ¬ ((0 : Int32) < 0 ∨ cl105.slots.size ≤ ((0 : Int32)).toNatClampNeg) := inb_of Sz105 ⟨by decide, by decide⟩
  refine Wk.stC X104 hx hZ e104 Ar105 hin105 (hD at_103) (n := 104) rfl fun T105 H105 X105 e105 Wn105 => ?_
  have Vn105 := Arv.set Ar105 qn105 Sz105 N_105 H_105 Gn105 (fits_nar_char _) Wn105 0 rfl (Nat.le_of_ble_eq_true rfl)
  have Un105 : Arv Z H105 b104 k104 .char (2 : Int32) [(.int s1), (.int (0 : Int32))] (.int (0 : Int32)) := by have q := Vn105; rw [n_s1] at q; exact q
  have sz105 := Wn105.size
  have Sw105 := (Safe.arv (EL := own_EL) hZ.alike Vn104 (by simp))
  have R105 := R104.trans (CHr.wr Wn105 Sw105 R104.1)
  have K105 := K104.wr Wn105 (Or.inr (by omega))
  have N105 := Fr.snoc X105 N103 (by omega)
  refine Wk.dup X105 hx (hD at_104) (n := 105) rfl rfl ?_
  refine Wk.iconst X105 hx (hD at_105) (n := 106) rfl (z := (1 : Int32)) rfl ?_
  refine Wk.iloadN X105 hx (hD at_106) (n := 107) rfl rfl ?_
  refine Wk.bipush X105 hx (hD at_107) (n := 109) rfl (z := (16 : Int32)) rfl ?_
  refine Wk.iushr X105 hx (hD at_109) (n := 110) rfl ?_
  refine Wk.sipush X105 hx (hD at_110) (n := 113) rfl (z := (255 : Int32)) rfl ?_
  refine Wk.iand X105 hx (hD at_113) (n := 114) rfl ?_
  obtain ⟨s2, q_s2⟩ : ∃ z : Int32, z = ((((p4.toUInt32 >>> ((16 : Int32) &&& 31).toUInt32).toInt32) &&& (255 : Int32)).toUInt32.toUInt16.toUInt32.toInt32) := ⟨_, rfl⟩
  have n_s2 : nar .char s2 = s2 := by rw [q_s2]; exact own_c255 _
  have r_s2 : ¬ s2 < 0 ∧ ¬ (255 : Int32) < s2 := by rw [q_s2]; exact own_r255 _
  refine Wk.i2c X105 hx (hD at_114) (n := 115) rfl q_s2.symm ?_
  obtain ⟨cl106, Ar106, qn106, Sz106, N_106, H_106, Gn106⟩ := id Un105
  have hin106 : ¬ ((1 : Int32) < 0 ∨ cl106.slots.size ≤ ((1 : Int32)).toNatClampNeg) := inb_of Sz106 ⟨by decide, by decide⟩
  refine Wk.stC X105 hx hZ e105 Ar106 hin106 (hD at_115) (n := 116) rfl fun T106 H106 X106 e106 Wn106 => ?_
  have Vn106 := Arv.set Ar106 qn106 Sz106 N_106 H_106 Gn106 (fits_nar_char _) Wn106 1 rfl (Nat.le_of_ble_eq_true rfl)
  have Un106 : Arv Z H106 b104 k104 .char (2 : Int32) [(.int s1), (.int s2)] (.int (0 : Int32)) := by have q := Vn106; rw [n_s2] at q; exact q
  have sz106 := Wn106.size
  have Sw106 := (Safe.arv (EL := own_EL) hZ.alike Un105 (by simp))
  have R106 := R105.trans (CHr.wr Wn106 Sw106 R105.1)
  have K106 := K105.wr Wn106 (Or.inr (by omega))
  have N106 := Fr.snoc X106 N105 (by omega)
  refine Wk.astore X106 hx (hD at_116) (n := 118) rfl rfl (L' := #[.val (.int p1), .val (.int p2), .val (.int p3), .val (.int p4), .val (.int (0 : Int32)), .val (.ref wP), .val (.ref b93), .val (.ref b97), .val (.ref r_103), .val (.ref b104), .unset, .unset, .unset, .unset, .unset]) rfl ?_
  refine Wk.iloadN X106 hx (hD at_118) (n := 119) rfl rfl ?_
  refine Wk.iconst X106 hx (hD at_119) (n := 120) rfl (z := (2 : Int32)) rfl ?_
  refine Wk.iand X106 hx (hD at_120) (n := 121) rfl ?_
  by_cases hc121 : (p1 &&& (2 : Int32)) = (0 : Int32)
  ·
   refine Wk.ifYes X106 hx (hD at_121) ((if0 _ _).trans (teq hc121).1) (by decide) (n := 136) (by decide) ?_
   refine Wk.aconstNull X106 hx (hD at_136) (n := 137) rfl ?_
   have f107 := ((((p98_0.keep J103).ext Ex104).wr Wn105).wr Wn106)
   have f108 := ((((p98_2.keep J103 nin0).ext Ex104).other Wn105 (Or.inl (nz (by omega)))).other Wn106 (Or.inl (nz (by omega))))
   have f109 := ((((p98_1.keep J103 nin0).ext Ex104).other Wn105 (Or.inl (nz (by omega)))).other Wn106 (Or.inl (nz (by omega))))
   have f110 := ((((p98_3.keep J103 nin0).ext Ex104).other Wn105 (nz (by omega))).other Wn106 (nz (by omega)))
   have f111 := (((((f99.keep J98 (ninS (nz (by omega)) nin0)).keep J103 nin0).ext Ex104).other Wn105 (nz (by omega))).other Wn106 (nz (by omega)))
   have f112 := ((((f102.keep J103 all0).ext Ex104).wr Wn105 (by omega)).wr Wn106 (by omega))
   exact jt_b T106 H106 _ s _ c0 c1 c2 b93 b97 r_103 b104 t_98 k93 kb_98 .null (X106.mono (by decide) (by decide)) e106 K106 N106 Bs0 (by omega) hZ hown R106 f107 f108 f109 f110 f111 f112 rfl n_c0 n_c1 n_c2 hp101
  ·
   refine Wk.ifNo X106 hx (hD at_121) (n := 124) rfl ((if0 _ _).trans (feq hc121).1) ?_
   refine Wk.newO X106 hx hZ hown (oW hw 4 rfl) (oW hw 5 rfl) (oW hw 6 rfl) e106 (hD at_124) (n := 127) rfl (by decide) (by decide) fun T113 H113 b113 gn113 X113 e113 Ex113 An113 Dn113 Yn113 => ?_
   have gn113 := nx gn113
   have sz113 := Ex113.1
   have lt113 := ny An113.lt
   have K113 := K106.ext Ex113
   have R113 := R106.trans (CHr.ext Ex113 R106.1)
   have Sf113 := Safe.ext (x := b113) Ex113 R106.1 (Safe.new (Nat.le_of_eq gn113.symm))
   have Fn113_coder : Fld Z H113 b113 "java/lang/String" "coder" "B" (.int (0 : Int32)) := Dn113 (Or.inr (oW hw 30 rfl)) (ty := .byte) (by decide)
   have Fn113_value : Fld Z H113 b113 "java/lang/String" "value" "[B" .null := Dn113 (Or.inr (oW hw 32 rfl)) (ty := (.array .byte)) (by decide)
   refine Wk.dup X113 hx (hD at_127) (n := 128) rfl rfl ?_
   refine Wk.aload X113 hx (hD at_128) (n := 130) rfl rfl rfl ?_
   have f115 := (Un106.ext Ex113)
   have f116 := (((((f102.keep J103 all0).ext Ex104).wr Wn105 (by omega)).wr Wn106 (by omega)).ext Ex113)
   have hp117 : ∀ c ∈ ([s1, s2] : List Int32), ¬ c < 0 ∧ ¬ (255 : Int32) < c := List.forall_mem_cons.mpr ⟨r_s1, List.forall_mem_cons.mpr ⟨r_s2, (fun _ q => nomatch q)⟩⟩
   have cl114_ := fun Ls (hLs : LsOk c Ls) => X113.specialBack hx (y := mn43) rfl hown (mW hZ hw 7 rfl) (mW hZ hw 8 rfl) (mW hZ hw 9 rfl) (by decide) (StrChars.Road.backV (n0 := n0) (h := H113) (x := b113) (W := 1) hZ (fun d hd => hw d (own_ws d hd)) (kI := 4) (oW hw 5 rfl) (cs := [s1, s2]) (bs := (([s1, s2] : List Int32).map (fun c => c.toInt8.toInt32))) (n := 2) (by omega) (by omega) An113 Fn113_value Fn113_coder f115 (Sta.ext f116.2 S4) hCS rfl rfl (by decide) (by decide) hp117 rfl (by decide) (by decide)) (g := mkF m 130 Ls [(.ref b104), (.ref b113), (.ref b113)]) rfl hLs (Steps.refl _) (a := b113) (argsL := [(.ref b104)]) (rest := [(.ref b113)]) (lenOf pd_32 rfl) rfl (leq0 rfl) (hD at_130) (fun _ _ => ⟨rfl, e113, (by decide : 7 + 1 ≤ _), (by decide : 21 + 2 ≤ _)⟩)
   refine Wk.back (n := 133) (rc := 1) (rs := 2) (Q := StrChars.Road.QV Z b113 (2 : Int32) (([s1, s2] : List Int32).map (fun c => c.toInt8.toInt32)) H113 n0) (cl114_ _ (lsok hml rfl)) fun vn114 T114 L114 X114 hQ114 => ?_
   clear cl114_
   obtain ⟨rfl, M114, J114, p114_0, p114_1, t_114, kb_114, _, ge_114, nt_114, p114_2, p114_3⟩ := hQ114
   have nt_114 := nw nt_114
   have N114 := Fr.app N106 M114
   have sz114 := J114.1
   have hs114 : ∀ x ∈ ([b113] : List Addr), Safe Z own_EL s.vm H113 x := (sfS Sf113 sf0)
   have R114 := R113.trans (CHr.keep J114 hs114 R113.1)
   have K114 := K113.trans J114 (allS (Or.inr (by omega)) all0)
   have lt_p114 := ny p114_3.lt
   show Wk p e below _ T114 (mkF m 133 _ [(.ref b113)])
   refine Wk.goto X114 hx (hD at_133) (by decide) (n := 137) (by decide) ?_
   have f118 := ((((((p98_0.keep J103).ext Ex104).wr Wn105).wr Wn106).ext Ex113).keep J114)
   have f119 := ((((((p98_2.keep J103 nin0).ext Ex104).other Wn105 (Or.inl (nz (by omega)))).other Wn106 (Or.inl (nz (by omega)))).ext Ex113).keep J114 (ninS (nz (by omega)) nin0))
   have f120 := ((((((p98_1.keep J103 nin0).ext Ex104).other Wn105 (Or.inl (nz (by omega)))).other Wn106 (Or.inl (nz (by omega)))).ext Ex113).keep J114 (ninS (nz (by omega)) nin0))
   have f121 := ((((((p98_3.keep J103 nin0).ext Ex104).other Wn105 (nz (by omega))).other Wn106 (nz (by omega))).ext Ex113).keep J114 (ninS (nz (by omega)) nin0))
   have f122 := (((((((f99.keep J98 (ninS (nz (by omega)) nin0)).keep J103 nin0).ext Ex104).other Wn105 (nz (by omega))).other Wn106 (nz (by omega))).ext Ex113).keep J114 (ninS (nz (by omega)) nin0))
   have f123 := (f116.keep J114 (allS (by omega) all0))
   exact jt_b T114 T114.heap _ s _ c0 c1 c2 b93 b97 r_103 b104 t_98 k93 kb_98 (.ref b113) (X114.mono (by decide) (by decide)) rfl K114 N114 Bs0 (by omega) hZ hown R114 f118 f119 f120 f121 f122 f123 rfl n_c0 n_c1 n_c2 hp101
 ·
  refine Wk.ifNo X0 hx (hD at_3) (n := 6) rfl ((if0 _ _).trans (feq hc3).1) ?_
  refine Wk.iconst X0 hx (hD at_6) (n := 7) rfl (z := (1 : Int32)) rfl ?_
  refine Wk.goto X0 hx (hD at_7) (by decide) (n := 11) (by decide) ?_
  refine Wk.istore X0 hx (hD at_11) (n := 13) rfl (L' := #[.val (.int p1), .val (.int p2), .val (.int p3), .val (.int p4), .val (.int (1 : Int32)), .unset, .unset, .unset, .unset, .unset, .unset, .unset, .unset, .unset, .unset]) rfl ?_
  refine Wk.iload X0 hx (hD at_13) (n := 15) rfl rfl ?_
  have hc15_124 : ¬ ((1 : Int32) = (0 : Int32)) := by decide
  refine Wk.ifNo X0 hx (hD at_15) (n := 18) rfl ((if0 _ _).trans (feq hc15_124).1) ?_
  refine Wk.getS X0 hx hZ hown (host := "") (Or.inl (oW hw 279 rfl)) Via.refl e0 (Sta.ext O1.2 SwM) (hD at_18) (n := 21) rfl fun T125 X125 e125 => ?_
  refine Wk.goto X125 hx (hD at_21) (by decide) (n := 27) (by decide) ?_
  have jt_b : ∀ (Tj126 : State) (Hj126 : Heap) (Lcj126 : List Loc) (usj126 : State) (kzj126 : Nat) (c0 : Int32) (c1 : Int32) (c2 : Int32) (a6 : Addr) (x7 : Addr) (x8 : Addr) (a9 : Addr) (t7 : Addr) (k6 : ClassId) (k7 : ClassId) (u10 : Value), (Stand p l e room_1 usj126 m #[(.int p1), (.int p2), (.int p3), (.int p4)] below meth c Tj126 Lcj126 16 60) → (Tj126.heap = Hj126) → (Keep h0 Hj126 []) → (Fr n0 Lcj126) → (Base s usj126 kzj126) → (kzj126 ≤ Hj126.size) → (Z.Warmed39 usj126.vm) → (usj126.vm.findClass "com/example/mulock/mulock/sql/SqlAddressWherePinLaw" = some m.cls) → (CHr Z own_EL s.vm h0 usj126.vm Hj126) → (Exa Z Hj126 x7 "java/lang/String") → (Fld Z Hj126 x7 "java/lang/String" "value" "[B" (.ref t7)) → (Fld Z Hj126 x7 "java/lang/String" "coder" "B" (.int (0 : Int32))) → (Arv Z Hj126 t7 k7 .byte (Int32.ofNat [c0, c1, c2].length) (bsV [c0, c1, c2]) (.int (0 : Int32))) → (Arv Z Hj126 a6 k6 .char (3 : Int32) [(.int c0), (.int c1), (.int c2)] (.int (0 : Int32))) → (Old Z n0 Hj126) → (u10.isRef = true) → (nar .char c0 = c0) → (nar .char c1 = c1) → (nar .char c2 = c2) → (∀ c ∈ [c0, c1, c2], ¬ c < 0 ∧ ¬ (255 : Int32) < c) → Wk p e below (EndW Z own_EL s (Q_rm0 Z p1 p2 p3 p4 zc fm dO kO dT kT wP lP tP kP wM lM tM kM h0 n0) room_1.cells room_1.slots) Tj126 (mkF m 137 #[.val (.int p1), .val (.int p2), .val (.int p3), .val (.int p4), .val (.int (1 : Int32)), .val (.ref wM), .val (.ref a6), .val (.ref x7), .val (.ref x8), .val (.ref a9), .unset, .unset, .unset, .unset, .unset] [u10]) := by
   intro Tj126 Hj126 Lcj126 usj126 kzj126 c0 c1 c2 a6 x7 x8 a9 t7 k6 k7 u10 Xj126 ej126 Kj126 Nj126 Bsj126 hkzj126 hZ hown Rj126 Es7 Fv7 Fc7 As7 A6_ Olj126 hu10 n_c0 n_c1 n_c2 hpc
   have szj126 := Kj126.1
   have lt_Es7 := ny Es7.lt
   have lt_Fv7 := ny Fv7.lt
   have lt_Fc7 := ny Fc7.lt
   have lt_As7 := ny As7.lt
   have lt_A6_ := ny A6_.lt
   refine Wk.astore Xj126 hx (hD at_137) (n := 139) rfl hu10 (L' := #[.val (.int p1), .val (.int p2), .val (.int p3), .val (.int p4), .val (.int (1 : Int32)), .val (.ref wM), .val (.ref a6), .val (.ref x7), .val (.ref x8), .val (.ref a9), .val u10, .unset, .unset, .unset, .unset]) (by rcases ref_cases hu10 with rfl | ⟨z, rfl⟩ <;> rfl) ?_
   refine Wk.newO Xj126 hx hZ hown (oW hw 47 rfl) (oW hw 48 rfl) (oW hw 49 rfl) ej126 (hD at_139) (n := 142) rfl (by decide) (by decide) fun T127 H127 b127 gn127 X127 e127 Ex127 An127 Dn127 Yn127 => ?_
   have gn127 := nx gn127
   have sz127 := Ex127.1
   have lt127 := ny An127.lt
   have K127 := Kj126.ext Ex127
   have R127 := Rj126.trans (CHr.ext Ex127 Rj126.1)
   have Fn127_database : Fld Z H127 b127 "com/example/mulock/mulock/sql/SqlAddress" "database" "Lcom/example/mulock/mulock/sql/SqlDatabase;" .null := Dn127 (Or.inr (oW hw 63 rfl)) (ty := (.object "com/example/mulock/mulock/sql/SqlDatabase")) (by decide)
   have Fn127_host : Fld Z H127 b127 "com/example/mulock/mulock/sql/SqlAddress" "host" "Ljava/lang/String;" .null := Dn127 (Or.inr (oW hw 65 rfl)) (ty := (.object "java/lang/String")) (by decide)
   have Fn127_port : Fld Z H127 b127 "com/example/mulock/mulock/sql/SqlAddress" "port" "I" (.int (0 : Int32)) := Dn127 (Or.inr (oW hw 67 rfl)) (ty := .int) (by decide)
   have Fn127_databaseName : Fld Z H127 b127 "com/example/mulock/mulock/sql/SqlAddress" "databaseName" "Ljava/lang/String;" .null := Dn127 (Or.inr (oW hw 69 rfl)) (ty := (.object "java/lang/String")) (by decide)
   have Fn127_user : Fld Z H127 b127 "com/example/mulock/mulock/sql/SqlAddress" "user" "Ljava/lang/String;" .null := Dn127 (Or.inr (oW hw 71 rfl)) (ty := (.object "java/lang/String")) (by decide)
   have Fn127_password : Fld Z H127 b127 "com/example/mulock/mulock/sql/SqlAddress" "password" "Ljava/lang/String;" .null := Dn127 (Or.inr (oW hw 73 rfl)) (ty := (.object "java/lang/String")) (by decide)
   refine Wk.dup X127 hx (hD at_142) (n := 143) rfl rfl ?_
   refine Wk.aload X127 hx (hD at_143) (n := 145) rfl rfl rfl ?_
   refine Wk.aload X127 hx (hD at_145) (n := 147) rfl rfl rfl ?_
   refine Wk.iloadN X127 hx (hD at_147) (n := 148) rfl rfl ?_
   refine Wk.ldcL (text := "db") X127 hx hZ hown (oW hw 50 rfl) (fun d hd => hw d (own_wS d hd)) e127 Bsj126 (by omega) hELw (by decide) R127 (vs := (bsV [100, 98])) (z := (Int32.ofNat ([100, 98] : List Int32).length)) ⟨by decide, rfl⟩ (by decide) (by decide) (hD at_148) (n := 150) rfl (nn := 8) (by decide) (by decide) (by decide) (by decide) fun us128 T128 H128 a128_ t128_ k128_ X128 e128 Ex128 Bs128 hZ hown An128 Fn128_c Fn128_v Vn128 A_128 R128 hne128 => ?_
   have sz128 := Ex128.1
   have lt128 := ny An128.lt
   have lu128 := ny Vn128.lt
   have K128 := K127.ext Ex128
   refine Wk.aload X128 hx (hD at_150) (n := 152) rfl rfl rfl ?_
   refine Wk.aload X128 hx (hD at_152) (n := 154) rfl rfl hu10 ?_
   have f129 := (An127.ext Ex128)
   have f130 := (Fn127_database.ext Ex128)
   have f131 := (Fn127_host.ext Ex128)
   have f132 := (Fn127_port.ext Ex128)
   have f133 := (Fn127_databaseName.ext Ex128)
   have f134 := (Fn127_user.ext Ex128)
   have f135 := (Fn127_password.ext Ex128)
   have cl136_ := fun Ls (hLs : LsOk c Ls) => X128.specialBack hx (y := mn35) rfl hown (mW hZ hw 53 rfl) (mW hZ hw 54 rfl) (mW hZ hw 55 rfl) (by decide) (backOf (W := 1) (rmAI l Z a0 hw [] b127 wM x7 p3 a128_ x8 u10 .null .null (.int (0 : Int32)) .null .null .null H128 n0 (by omega) f129 f130 f131 f132 f133 f134 f135 (by omega) hu10) hZ (oW hw 55 rfl) (oW hw 49 rfl) (by decide) (by decide)) (g := mkF m 154 Ls [u10, (.ref x8), (.ref a128_), (.int p3), (.ref x7), (.ref wM), (.ref b127), (.ref b127)]) rfl hLs (Steps.refl _) (a := b127) (argsL := [(.ref wM), (.ref x7), (.int p3), (.ref a128_), (.ref x8), u10]) (rest := [(.ref b127)]) (lenOf pd_29 rfl) rfl (leq0 rfl) (hD at_154) (fun _ _ => ⟨rfl, e128, (by decide : 19 + 0 ≤ _), (by decide : 78 + 0 ≤ _)⟩)
   refine Wk.back (n := 157) (rc := 0) (rs := 0) (Q := Q_rmAI Z b127 wM x7 p3 a128_ x8 u10 .null .null (.int (0 : Int32)) .null .null .null H128 n0) (cl136_ _ (lsok hml rfl)) fun vn136 T136 L136 X136 hQ136 => ?_
   clear cl136_
   obtain ⟨rfl, M136, J136, p136_0, p136_1, p136_2, p136_3⟩ := hQ136
   have N136 := Fr.app Nj126 M136
   have sz136 := J136.1
   have hs136 : ∀ x ∈ ([b127] : List Addr), Safe Z own_EL us128.vm H128 x := (sfS (Safe.exa (EL := own_EL) hZ.alike f129 (by decide) (by decide)) sf0)
   have R136 := R128.trans (CHr.keep J136 hs136 R128.1)
   have K136 := K128.trans J136 (allS (Or.inr (by omega)) all0)
   have lt_p136_0 := ny p136_0.lt
   show Wk p e below _ T136 (mkF m 157 _ [(.ref b127)])
   refine Wk.astore X136 hx (hD at_157) (n := 159) rfl rfl (L' := #[.val (.int p1), .val (.int p2), .val (.int p3), .val (.int p4), .val (.int (1 : Int32)), .val (.ref wM), .val (.ref a6), .val (.ref x7), .val (.ref x8), .val (.ref a9), .val u10, .val (.ref b127), .unset, .unset, .unset]) rfl ?_
   refine Wk.aload X136 hx (hD at_159) (n := 161) rfl rfl rfl ?_
   have f137 := (((Olj126.ext Ex127).ext Ex128).keep J136 (allS (by omega) all0))
   have f138 := EwM.ext f137.2
   have f139 := FwM.ext f137.2
   have f140 := ElM.ext f137.2
   have f141 := FvM.ext f137.2
   have f142 := FcM.ext f137.2
   have f143 := AtM.ext f137.2
   have f144 := (((Es7.ext Ex127).ext Ex128).keep J136)
   have f145 := (((Fv7.ext Ex127).ext Ex128).keep J136 (ninS (nz (by omega)) nin0))
   have f146 := (((Fc7.ext Ex127).ext Ex128).keep J136 (ninS (nz (by omega)) nin0))
   have f147 := (((As7.ext Ex127).ext Ex128).keep J136 (ninS (nz (by omega)) nin0))
   obtain ⟨cq148, kq148, qn148a, qn148b, qn148c⟩ := isOf hZ rfl p136_0
   have cl148_ := fun Ls (hLs : LsOk c Ls) => X136.virtualBackS hx (y := mn37) (z := mn37) hown (mW hZ hw 74 rfl) (mW hZ hw 75 rfl) (notFace_of_selects (args := #[]) (mW hZ hw 77 rfl)) (mW hZ hw 77 rfl) (mW hZ hw 76 rfl) (by decide) (backWd (W := 0) (EL := own_EL) (rmWhM l Z a0 hw [] b127 wM p3 lM tM kM x7 t7 k7 c0 c1 c2 zc dO kO dT kT T136.heap n0 (by omega) p136_0 p136_1 p136_2 p136_3 f138 f139 f140 f141 f142 f143 f144 f145 f146 f147 S4 f137 S6 S7 A6 A7 hCS hpc) hZ (oW hw 78 rfl) (oW hw 49 rfl) (by decide) (by decide) hELw R136.1 (fun _ q => nomatch q) sf0) qn148a qn148c (g := mkF m 161 Ls [(.ref b127)]) rfl hLs (Steps.refl _) (argsL := []) (rest := []) (lenOf pd_23 rfl) rfl (leq0 rfl) (hD at_161) (fun _ _ => ⟨rfl, rfl, (by decide : 19 + 10 ≤ _), (by decide : 78 + 150 ≤ _)⟩)
   refine Wk.backW (n := 164) (rc := 10) (rs := 150) (Q := Q_rmWhM Z b127 wM p3 lM tM kM x7 t7 k7 c0 c1 c2 zc dO kO dT kT T136.heap n0) rfl Bs128 (by omega) hZ hown R136 (cl148_ _ (lsok hml rfl)) fun vn148 us148 T148 L148 X148 Bs148 hZ hown A_148 R148 hQ148 => ?_
   obtain ⟨r_148, t_148, kb_148, rfl, M148, J148, p148_0, p148_1, p148_2, p148_3⟩ := hQ148
   have N148 := Fr.app N136 M148
   have sz148 := J148.1
   have K148 := K136.trans J148 (fun x hx => nomatch hx)
   have lt_p148_0 := ny p148_0.lt
   have lt_p148_3 := ny p148_3.lt
   show Wk p e below _ T148 (mkF m 164 _ [(.ref r_148)])
   have lG1 := sgl_le p3
   have lG2 := dl_le (mg p3) (mg_le p3)
   have qp : ∀ c ∈ ([77, 97, 114, 105, 97, 68, 66, 32, 97, 116, 32, c0, c1, c2, 58] ++ (sgl p3 ++ dl (mg p3))), ¬ c < 0 ∧ ¬ (255 : Int32) < c := own_rapp (List.forall_mem_append.mpr ⟨(by decide : ∀ c ∈ ([77, 97, 114, 105, 97, 68, 66, 32, 97, 116, 32] : List Int32), ¬ c < 0 ∧ ¬ (255 : Int32) < c), List.forall_mem_append.mpr ⟨hpc, (by decide : ∀ c ∈ ([58] : List Int32), ¬ c < 0 ∧ ¬ (255 : Int32) < c)⟩⟩) (own_rapp (sgl_rng p3) (dl_rng _))
   have lp : ([77, 97, 114, 105, 97, 68, 66, 32, 97, 116, 32, c0, c1, c2, 58] ++ (sgl p3 ++ dl (mg p3))).length = 15 + (sgl p3).length + (dl (mg p3)).length := by simp; omega
   refine Wk.astore X148 hx (hD at_164) (n := 166) rfl rfl (L' := #[.val (.int p1), .val (.int p2), .val (.int p3), .val (.int p4), .val (.int (1 : Int32)), .val (.ref wM), .val (.ref a6), .val (.ref x7), .val (.ref x8), .val (.ref a9), .val u10, .val (.ref b127), .val (.ref r_148), .unset, .unset]) rfl ?_
   refine Wk.bipush X148 hx (hD at_166) (n := 168) rfl (z := (32 : Int32)) rfl ?_
   refine Wk.newP X148 hx hZ (oW hw 3 rfl) rfl (hD at_168) (n := 170) rfl (by decide) (cap := 32) (by decide) (by decide) (by decide) (by decide) fun T149 H149 b149 k149 gn149 X149 e149 Ex149 An149 => ?_
   have gn149 := nx gn149
   have sz149 := Ex149.1
   have K149 := K148.ext Ex149
   have R149 := R148.trans (CHr.ext Ex149 R148.1)
   have Vn149 : Arv Z H149 b149 k149 .char (32 : Int32) [(.int (0 : Int32)), (.int (0 : Int32)), (.int (0 : Int32)), (.int (0 : Int32)), (.int (0 : Int32)), (.int (0 : Int32)), (.int (0 : Int32)), (.int (0 : Int32)), (.int (0 : Int32)), (.int (0 : Int32)), (.int (0 : Int32)), (.int (0 : Int32)), (.int (0 : Int32)), (.int (0 : Int32)), (.int (0 : Int32)), (.int (0 : Int32)), (.int (0 : Int32)), (.int (0 : Int32)), (.int (0 : Int32)), (.int (0 : Int32)), (.int (0 : Int32)), (.int (0 : Int32)), (.int (0 : Int32)), (.int (0 : Int32)), (.int (0 : Int32)), (.int (0 : Int32)), (.int (0 : Int32)), (.int (0 : Int32)), (.int (0 : Int32)), (.int (0 : Int32)), (.int (0 : Int32)), (.int (0 : Int32))] (.int (0 : Int32)) := (Arv.new An149 (by decide)).pad (pad_rep [] (.int (0 : Int32)) 32)
   have lt149 := ny Vn149.lt
   refine Wk.astore X149 hx (hD at_170) (n := 172) rfl rfl (L' := #[.val (.int p1), .val (.int p2), .val (.int p3), .val (.int p4), .val (.int (1 : Int32)), .val (.ref wM), .val (.ref a6), .val (.ref x7), .val (.ref x8), .val (.ref a9), .val u10, .val (.ref b127), .val (.ref r_148), .val (.ref b149), .unset]) rfl ?_
   refine Wk.iconst X149 hx (hD at_172) (n := 173) rfl (z := (0 : Int32)) rfl ?_
   refine Wk.istore X149 hx (hD at_173) (n := 175) rfl (L' := #[.val (.int p1), .val (.int p2), .val (.int p3), .val (.int p4), .val (.int (1 : Int32)), .val (.ref wM), .val (.ref a6), .val (.ref x7), .val (.ref x8), .val (.ref a9), .val u10, .val (.ref b127), .val (.ref r_148), .val (.ref b149), .val (.int (0 : Int32))]) rfl ?_
   refine Wk.aload X149 hx (hD at_175) (n := 177) rfl rfl rfl ?_
   refine Wk.iload X149 hx (hD at_177) (n := 179) rfl rfl ?_
   refine Wk.iload X149 hx (hD at_179) (n := 181) rfl rfl ?_
   have hc181_150 : ¬ ((1 : Int32) = (0 : Int32)) := by decide
   refine Wk.ifNo X149 hx (hD at_181) (n := 184) rfl ((if0 _ _).trans (feq hc181_150).1) ?_
   refine Wk.ldcL (text := "MariaDB") X149 hx hZ hown (oW hw 282 rfl) (fun d hd => hw d (own_wS d hd)) e149 Bs148 (by omega) hELw (by decide) R149 (vs := (bsV [77, 97, 114, 105, 97, 68, 66])) (z := (Int32.ofNat ([77, 97, 114, 105, 97, 68, 66] : List Int32).length)) ⟨by decide, rfl⟩ (by decide) (by decide) (hD at_184) (n := 186) rfl (nn := 28) (by decide) (by decide) (by decide) (by decide) fun us151 T151 H151 a151_ t151_ k151_ X151 e151 Ex151 Bs151 hZ hown An151 Fn151_c Fn151_v Vn151 A_151 R151 hne151 => ?_
   have sz151 := Ex151.1
   have lt151 := ny An151.lt
   have lu151 := ny Vn151.lt
   have K151 := K149.ext Ex151
   refine Wk.goto X151 hx (hD at_186) (by decide) (n := 191) (by decide) ?_
   have f152 := (Vn149.ext Ex151)
   have sE151 : Safe Z own_EL us151.vm H151 b149 := (Safe.arv (EL := own_EL) hZ.alike f152 (by simp))
   have na151 := nw (hne151 _ sE151).1
   have nb151 := nw (hne151 _ sE151).2
   have Pz0 := Arv.pad (vs' := chV []) f152 (fun i => (pad_rep (chV []) (.int (0 : Int32)) 32 i).symm)
   have f153 := (((f137.keep J148 all0).ext Ex149).ext Ex151)
   have cl154_ := fun Ls (hLs : LsOk c Ls) => Jvm.LawKit.callS X151 hx (y := mn39) hown (mW hZ hw 234 rfl) (mW hZ hw 235 rfl) (mW hZ hw 236 rfl) (mW hZ hw 237 rfl) (by decide) (backOf (W := 0) (rmPut l Z a0 hw [] b149 k149 ([]) (0 : Int32) a151_ t151_ k151_ ([77, 97, 114, 105, 97, 68, 66]) zc fm H151 n0 (by omega) Pz0 An151 Fn151_v Fn151_c Vn151 S4 f153 S5 hCS hFM (by decide) (by omega) (by omega) (by omega) rfl (by decide) (by decide)) hZ (oW hw 237 rfl) (oW hw 236 rfl) (by decide) (by decide)) (g := mkF m 191 Ls [(.ref a151_), (.int (0 : Int32)), (.ref b149)]) rfl hLs (argsL := [(.ref b149), (.int (0 : Int32)), (.ref a151_)]) (rest := []) (lenOf pd_30 rfl) rfl (leq0 rfl) (hD at_191) (fun _ _ => ⟨rfl, e151, (by decide : 32 + 0 ≤ _), (by decide : 292 + 0 ≤ _)⟩)
   refine Wk.backS (n := 194) (rc := 0) (rs := 0) (Q := Q_rmPut Z b149 k149 ([]) (0 : Int32) a151_ t151_ k151_ ([77, 97, 114, 105, 97, 68, 66]) zc fm H151 n0) (cl154_ _ (lsok hml rfl)) fun vn154 T154 L154 X154 hQ154 => ?_
   clear cl154_
   obtain ⟨rfl, M154, J154, p154_0⟩ := hQ154
   have N154 := Fr.app N148 M154
   have sz154 := J154.1
   have hs154 : ∀ x ∈ ([b149] : List Addr), Safe Z own_EL us151.vm H151 x := (sfS (Safe.arv (EL := own_EL) hZ.alike Pz0 (by simp)) sf0)
   have R154 := R151.trans (CHr.keep J154 hs154 R151.1)
   have K154 := K151.trans J154 (allS (Or.inr (by omega)) all0)
   have lt_p154_0 := ny p154_0.lt
   show Wk p e below _ T154 (mkF m 194 _ [(.int (Int32.ofNat ([] ++ [77, 97, 114, 105, 97, 68, 66]).length))])
   have Pz1 : Arv Z T154.heap b149 k149 .char (32 : Int32) (chV [77, 97, 114, 105, 97, 68, 66]) (.int (0 : Int32)) := p154_0
   refine Wk.istore X154 hx (hD at_194) (n := 196) rfl (L' := #[.val (.int p1), .val (.int p2), .val (.int p3), .val (.int p4), .val (.int (1 : Int32)), .val (.ref wM), .val (.ref a6), .val (.ref x7), .val (.ref x8), .val (.ref a9), .val u10, .val (.ref b127), .val (.ref r_148), .val (.ref b149), .val (.int (7 : Int32))]) rfl ?_
   refine Wk.aload X154 hx (hD at_196) (n := 198) rfl rfl rfl ?_
   refine Wk.iload X154 hx (hD at_198) (n := 200) rfl rfl ?_
   refine Wk.ldcL (text := " at ") X154 hx hZ hown (oW hw 260 rfl) (fun d hd => hw d (own_wS d hd)) rfl Bs151 (by omega) hELw (by decide) R154 (vs := (bsV [32, 97, 116, 32])) (z := (Int32.ofNat ([32, 97, 116, 32] : List Int32).length)) ⟨by decide, rfl⟩ (by decide) (by decide) (hD at_200) (n := 202) rfl (nn := 16) (by decide) (by decide) (by decide) (by decide) fun us155 T155 H155 a155_ t155_ k155_ X155 e155 Ex155 Bs155 hZ hown An155 Fn155_c Fn155_v Vn155 A_155 R155 hne155 => ?_
   have sz155 := Ex155.1
   have lt155 := ny An155.lt
   have lu155 := ny Vn155.lt
   have K155 := K154.ext Ex155
   have f156 := (Pz1.ext Ex155)
   have sE155 : Safe Z own_EL us155.vm H155 b149 := (Safe.arv (EL := own_EL) hZ.alike f156 (by simp))
   have na155 := nw (hne155 _ sE155).1
   have nb155 := nw (hne155 _ sE155).2
   have f157 := ((f153.keep J154 (allS (by omega) all0)).ext Ex155)
   have cl158_ := fun Ls (hLs : LsOk c Ls) => Jvm.LawKit.callS X155 hx (y := mn39) hown (mW hZ hw 234 rfl) (mW hZ hw 235 rfl) (mW hZ hw 236 rfl) (mW hZ hw 237 rfl) (by decide) (backOf (W := 0) (rmPut l Z a0 hw [] b149 k149 ([77, 97, 114, 105, 97, 68, 66]) (7 : Int32) a155_ t155_ k155_ ([32, 97, 116, 32]) zc fm H155 n0 (by omega) f156 An155 Fn155_v Fn155_c Vn155 S4 f157 S5 hCS hFM (by decide) (by omega) (by omega) (by omega) rfl (by decide) (by decide)) hZ (oW hw 237 rfl) (oW hw 236 rfl) (by decide) (by decide)) (g := mkF m 202 Ls [(.ref a155_), (.int (7 : Int32)), (.ref b149)]) rfl hLs (argsL := [(.ref b149), (.int (7 : Int32)), (.ref a155_)]) (rest := []) (lenOf pd_30 rfl) rfl (leq0 rfl) (hD at_202) (fun _ _ => ⟨rfl, e155, (by decide : 34 + 0 ≤ _), (by decide : 312 + 0 ≤ _)⟩)
   refine Wk.backS (n := 205) (rc := 0) (rs := 0) (Q := Q_rmPut Z b149 k149 ([77, 97, 114, 105, 97, 68, 66]) (7 : Int32) a155_ t155_ k155_ ([32, 97, 116, 32]) zc fm H155 n0) (cl158_ _ (lsok hml rfl)) fun vn158 T158 L158 X158 hQ158 => ?_
   clear cl158_
   obtain ⟨rfl, M158, J158, p158_0⟩ := hQ158
   have N158 := Fr.app N154 M158
   have sz158 := J158.1
   have hs158 : ∀ x ∈ ([b149] : List Addr), Safe Z own_EL us155.vm H155 x := (sfS (Safe.arv (EL := own_EL) hZ.alike f156 (by simp)) sf0)
   have R158 := R155.trans (CHr.keep J158 hs158 R155.1)
   have K158 := K155.trans J158 (allS (Or.inr (by omega)) all0)
   have lt_p158_0 := ny p158_0.lt
   show Wk p e below _ T158 (mkF m 205 _ [(.int (Int32.ofNat ([77, 97, 114, 105, 97, 68, 66] ++ [32, 97, 116, 32]).length))])
   have Pz2 : Arv Z T158.heap b149 k149 .char (32 : Int32) (chV [77, 97, 114, 105, 97, 68, 66, 32, 97, 116, 32]) (.int (0 : Int32)) := p158_0
   have Pz3 := Arv.pad Pz2 (pad_rep (chV [77, 97, 114, 105, 97, 68, 66, 32, 97, 116, 32]) (.int (0 : Int32)) 4)
   refine Wk.istore X158 hx (hD at_205) (n := 207) rfl (L' := #[.val (.int p1), .val (.int p2), .val (.int p3), .val (.int p4), .val (.int (1 : Int32)), .val (.ref wM), .val (.ref a6), .val (.ref x7), .val (.ref x8), .val (.ref a9), .val u10, .val (.ref b127), .val (.ref r_148), .val (.ref b149), .val (.int (11 : Int32))]) rfl ?_
   refine Wk.aload X158 hx (hD at_207) (n := 209) rfl rfl rfl ?_
   refine Wk.iload X158 hx (hD at_209) (n := 211) rfl rfl ?_
   refine Wk.aload X158 hx (hD at_211) (n := 213) rfl rfl rfl ?_
   refine Wk.iconst X158 hx (hD at_213) (n := 214) rfl (z := (0 : Int32)) rfl ?_
   have f160 := (((((((((A6_.ext Ex127).ext Ex128).keep J136 (ninS (nz (by omega)) nin0)).keep J148 nin0).ext Ex149).ext Ex151).keep J154 (ninS (nz (by omega)) nin0)).ext Ex155).keep J158 (ninS (nz (by omega)) nin0))
   obtain ⟨cl159, Ar159, qn159, Sz159, N_159, H_159, Gn159⟩ := id f160
   have hin159 : ¬ ((0 : Int32) < 0 ∨ cl159.slots.size ≤ ((0 : Int32)).toNatClampNeg) := inb_of Sz159 ⟨by decide, by decide⟩
   refine Wk.caload X158 hx hZ rfl Ar159 (v := (.int c0)) hin159 (H_159.at hin159 rfl) (hD at_214) (n := 215) rfl ?_
   obtain ⟨cl161, Ar161, qn161, Sz161, N_161, H_161, Gn161⟩ := id Pz3
   have hin161 : ¬ ((11 : Int32) < 0 ∨ cl161.slots.size ≤ ((11 : Int32)).toNatClampNeg) := inb_of Sz161 ⟨by decide, by decide⟩
   refine Wk.stC X158 hx hZ rfl Ar161 hin161 (hD at_215) (n := 216) rfl fun T161 H161 X161 e161 Wn161 => ?_
   have Vn161 := Arv.set Ar161 qn161 Sz161 N_161 H_161 Gn161 (fits_nar_char _) Wn161 11 rfl (Nat.le_of_ble_eq_true rfl)
   have Un161 : Arv Z H161 b149 k149 .char (32 : Int32) (chV [77, 97, 114, 105, 97, 68, 66, 32, 97, 116, 32, c0] ++ List.replicate 3 (Value.int (0 : Int32))) (.int (0 : Int32)) := own_arv (own_stf (cp := [77, 97, 114, 105, 97, 68, 66, 32, 97, 116, 32]) (d := c0) (s := 3) n_c0 rfl rfl) Vn161
   have sz161 := Wn161.size
   have Sw161 := (Safe.arv (EL := own_EL) hZ.alike Pz3 (by simp))
   have R161 := R158.trans (CHr.wr Wn161 Sw161 R158.1)
   have K161 := K158.wr Wn161 (Or.inr (by omega))
   have N161 := Fr.snoc X161 N158 (by omega)
   refine Wk.aload X161 hx (hD at_216) (n := 218) rfl rfl rfl ?_
   refine Wk.iload X161 hx (hD at_218) (n := 220) rfl rfl ?_
   refine Wk.iconst X161 hx (hD at_220) (n := 221) rfl (z := (1 : Int32)) rfl ?_
   refine Wk.iadd X161 hx (hD at_221) (n := 222) rfl ?_
   refine Wk.aload X161 hx (hD at_222) (n := 224) rfl rfl rfl ?_
   refine Wk.iconst X161 hx (hD at_224) (n := 225) rfl (z := (1 : Int32)) rfl ?_
   have f163 := (f160.other Wn161 (nz (by omega)))
   obtain ⟨cl162, Ar162, qn162, Sz162, N_162, H_162, Gn162⟩ := id f163
   have hin162 : ¬ ((1 : Int32) < 0 ∨ cl162.slots.size ≤ ((1 : Int32)).toNatClampNeg) := inb_of Sz162 ⟨by decide, by decide⟩
   refine Wk.caload X161 hx hZ e161 Ar162 (v := (.int c1)) hin162 (H_162.at hin162 rfl) (hD at_225) (n := 226) rfl ?_
   obtain ⟨cl164, Ar164, qn164, Sz164, N_164, H_164, Gn164⟩ := id Un161
   have hin164 : ¬ ((12 : Int32) < 0 ∨ cl164.slots.size ≤ ((12 : Int32)).toNatClampNeg) := inb_of Sz164 ⟨by decide, by decide⟩
   refine Wk.stC X161 hx hZ e161 Ar164 hin164 (hD at_226) (n := 227) rfl fun T164 H164 X164 e164 Wn164 => ?_
   have Vn164 := Arv.set Ar164 qn164 Sz164 N_164 H_164 Gn164 (fits_nar_char _) Wn164 12 rfl (Nat.le_of_ble_eq_true rfl)
   have Un164 : Arv Z H164 b149 k149 .char (32 : Int32) (chV [77, 97, 114, 105, 97, 68, 66, 32, 97, 116, 32, c0, c1] ++ List.replicate 2 (Value.int (0 : Int32))) (.int (0 : Int32)) := own_arv (own_stf (cp := [77, 97, 114, 105, 97, 68, 66, 32, 97, 116, 32, c0]) (d := c1) (s := 2) n_c1 rfl rfl) Vn164
   have sz164 := Wn164.size
   have Sw164 := (Safe.arv (EL := own_EL) hZ.alike Un161 (by simp))
   have R164 := R161.trans (CHr.wr Wn164 Sw164 R161.1)
   have K164 := K161.wr Wn164 (Or.inr (by omega))
   have N164 := Fr.snoc X164 N161 (by omega)
   refine Wk.aload X164 hx (hD at_227) (n := 229) rfl rfl rfl ?_
   refine Wk.iload X164 hx (hD at_229) (n := 231) rfl rfl ?_
   refine Wk.iconst X164 hx (hD at_231) (n := 232) rfl (z := (2 : Int32)) rfl ?_
   refine Wk.iadd X164 hx (hD at_232) (n := 233) rfl ?_
   refine Wk.aload X164 hx (hD at_233) (n := 235) rfl rfl rfl ?_
   refine Wk.iconst X164 hx (hD at_235) (n := 236) rfl (z := (2 : Int32)) rfl ?_
   have f166 := (f163.other Wn164 (nz (by omega)))
   obtain ⟨cl165, Ar165, qn165, Sz165, N_165, H_165, Gn165⟩ := id f166
   have hin165 : ¬ ((2 : Int32) < 0 ∨ cl165.slots.size ≤ ((2 : Int32)).toNatClampNeg) := inb_of Sz165 ⟨by decide, by decide⟩
   refine Wk.caload X164 hx hZ e164 Ar165 (v := (.int c2)) hin165 (H_165.at hin165 rfl) (hD at_236) (n := 237) rfl ?_
   obtain ⟨cl167, Ar167, qn167, Sz167, N_167, H_167, Gn167⟩ := id Un164
   have hin167 : ¬ ((13 : Int32) < 0 ∨ cl167.slots.size ≤ ((13 : Int32)).toNatClampNeg) := inb_of Sz167 ⟨by decide, by decide⟩
   refine Wk.stC X164 hx hZ e164 Ar167 hin167 (hD at_237) (n := 238) rfl fun T167 H167 X167 e167 Wn167 => ?_
   have Vn167 := Arv.set Ar167 qn167 Sz167 N_167 H_167 Gn167 (fits_nar_char _) Wn167 13 rfl (Nat.le_of_ble_eq_true rfl)
   have Un167 : Arv Z H167 b149 k149 .char (32 : Int32) (chV [77, 97, 114, 105, 97, 68, 66, 32, 97, 116, 32, c0, c1, c2] ++ List.replicate 1 (Value.int (0 : Int32))) (.int (0 : Int32)) := own_arv (own_stf (cp := [77, 97, 114, 105, 97, 68, 66, 32, 97, 116, 32, c0, c1]) (d := c2) (s := 1) n_c2 rfl rfl) Vn167
   have sz167 := Wn167.size
   have Sw167 := (Safe.arv (EL := own_EL) hZ.alike Un164 (by simp))
   have R167 := R164.trans (CHr.wr Wn167 Sw167 R164.1)
   have K167 := K164.wr Wn167 (Or.inr (by omega))
   have N167 := Fr.snoc X167 N164 (by omega)
   refine Wk.iload X167 hx (hD at_238) (n := 240) rfl rfl ?_
   refine Wk.iconst X167 hx (hD at_240) (n := 241) rfl (z := (3 : Int32)) rfl ?_
   refine Wk.iadd X167 hx (hD at_241) (n := 242) rfl ?_
   refine Wk.istore X167 hx (hD at_242) (n := 244) rfl (L' := #[.val (.int p1), .val (.int p2), .val (.int p3), .val (.int p4), .val (.int (1 : Int32)), .val (.ref wM), .val (.ref a6), .val (.ref x7), .val (.ref x8), .val (.ref a9), .val u10, .val (.ref b127), .val (.ref r_148), .val (.ref b149), .val (.int (14 : Int32))]) rfl ?_
   refine Wk.aload X167 hx (hD at_244) (n := 246) rfl rfl rfl ?_
   refine Wk.iload X167 hx (hD at_246) (n := 248) rfl rfl ?_
   refine Wk.bipush X167 hx (hD at_248) (n := 250) rfl (z := (58 : Int32)) rfl ?_
   obtain ⟨cl168, Ar168, qn168, Sz168, N_168, H_168, Gn168⟩ := id Un167
   have hin168 : ¬ ((14 : Int32) < 0 ∨ cl168.slots.size ≤ ((14 : Int32)).toNatClampNeg) := inb_of Sz168 ⟨by decide, by decide⟩
   refine Wk.stC X167 hx hZ e167 Ar168 hin168 (hD at_250) (n := 251) rfl fun T168 H168 X168 e168 Wn168 => ?_
   have Vn168 := Arv.set Ar168 qn168 Sz168 N_168 H_168 Gn168 (fits_nar_char _) Wn168 14 rfl (Nat.le_of_ble_eq_true rfl)
   have Un168 : Arv Z H168 b149 k149 .char (32 : Int32) (chV [77, 97, 114, 105, 97, 68, 66, 32, 97, 116, 32, c0, c1, c2, 58] ++ List.replicate 0 (Value.int (0 : Int32))) (.int (0 : Int32)) := own_arv (own_stf (cp := [77, 97, 114, 105, 97, 68, 66, 32, 97, 116, 32, c0, c1, c2]) (d := 58) (s := 0) (by decide) rfl rfl) Vn168
   have sz168 := Wn168.size
   have Sw168 := (Safe.arv (EL := own_EL) hZ.alike Un167 (by simp))
   have R168 := R167.trans (CHr.wr Wn168 Sw168 R167.1)
   have K168 := K167.wr Wn168 (Or.inr (by omega))
   have N168 := Fr.snoc X168 N167 (by omega)
   refine Wk.iload X168 hx (hD at_251) (n := 253) rfl rfl ?_
   refine Wk.iconst X168 hx (hD at_253) (n := 254) rfl (z := (1 : Int32)) rfl ?_
   refine Wk.iadd X168 hx (hD at_254) (n := 255) rfl ?_
   refine Wk.istore X168 hx (hD at_255) (n := 257) rfl (L' := #[.val (.int p1), .val (.int p2), .val (.int p3), .val (.int p4), .val (.int (1 : Int32)), .val (.ref wM), .val (.ref a6), .val (.ref x7), .val (.ref x8), .val (.ref a9), .val u10, .val (.ref b127), .val (.ref r_148), .val (.ref b149), .val (.int (15 : Int32))]) rfl ?_
   refine Wk.aload X168 hx (hD at_257) (n := 259) rfl rfl rfl ?_
   refine Wk.iload X168 hx (hD at_259) (n := 261) rfl rfl ?_
   refine Wk.iloadN X168 hx (hD at_261) (n := 262) rfl rfl ?_
   have Pe := own_arv (List.append_nil (chV [77, 97, 114, 105, 97, 68, 66, 32, 97, 116, 32, c0, c1, c2, 58])) Un168
   have cl169_ := fun Ls (hLs : LsOk c Ls) => Jvm.LawKit.callS X168 hx (y := mn41) hown (mW hZ hw 261 rfl) (mW hZ hw 262 rfl) (mW hZ hw 236 rfl) (mW hZ hw 263 rfl) (by decide) (backOf (W := 0) (rmPI l Z a0 hw [] b149 (15 : Int32) p3 k149 ([77, 97, 114, 105, 97, 68, 66, 32, 97, 116, 32, c0, c1, c2, 58]) H168 n0 (by omega) Pe rfl (Nat.le_of_ble_eq_true rfl) (by omega)) hZ (oW hw 263 rfl) (oW hw 236 rfl) (by decide) (by decide)) (g := mkF m 262 Ls [(.int p3), (.int (15 : Int32)), (.ref b149)]) rfl hLs (argsL := [(.ref b149), (.int (15 : Int32)), (.int p3)]) (rest := []) (lenOf pd_31 rfl) rfl (leq0 rfl) (hD at_262) (fun _ _ => ⟨rfl, e168, (by decide : 34 + 0 ≤ _), (by decide : 312 + 0 ≤ _)⟩)
   refine Wk.backS (n := 265) (rc := 0) (rs := 0) (Q := Q_rmPI Z b149 (15 : Int32) p3 k149 ([77, 97, 114, 105, 97, 68, 66, 32, 97, 116, 32, c0, c1, c2, 58]) H168 n0) (cl169_ _ (lsok hml rfl)) fun vn169 T169 L169 X169 hQ169 => ?_
   clear cl169_
   obtain ⟨rfl, M169, J169, p169_0⟩ := hQ169
   have N169 := Fr.app N168 M169
   have sz169 := J169.1
   have hs169 : ∀ x ∈ ([b149] : List Addr), Safe Z own_EL us155.vm H168 x := (sfS (Safe.arv (EL := own_EL) hZ.alike Pe (by simp)) sf0)
   have R169 := R168.trans (CHr.keep J169 hs169 R168.1)
   have K169 := K168.trans J169 (allS (Or.inr (by omega)) all0)
   have lt_p169_0 := ny p169_0.lt
   show Wk p e below _ T169 (mkF m 265 _ [(.int (Int32.ofNat ([77, 97, 114, 105, 97, 68, 66, 32, 97, 116, 32, c0, c1, c2, 58] ++ (sgl p3 ++ dl (mg p3))).length))])
   refine Wk.istore X169 hx (hD at_265) (n := 267) rfl (L' := #[.val (.int p1), .val (.int p2), .val (.int p3), .val (.int p4), .val (.int (1 : Int32)), .val (.ref wM), .val (.ref a6), .val (.ref x7), .val (.ref x8), .val (.ref a9), .val u10, .val (.ref b127), .val (.ref r_148), .val (.ref b149), .val (.int (Int32.ofNat ([77, 97, 114, 105, 97, 68, 66, 32, 97, 116, 32, c0, c1, c2, 58] ++ (sgl p3 ++ dl (mg p3))).length))]) rfl ?_
   have f170 := ((((((((((p148_0.ext Ex149).ext Ex151).keep J154).ext Ex155).keep J158).wr Wn161).wr Wn164).wr Wn167).wr Wn168).keep J169)
   have f171 := ((((((((((p148_1.ext Ex149).ext Ex151).keep J154 (ninS (nz (by omega)) nin0)).ext Ex155).keep J158 (ninS (nz (by omega)) nin0)).other Wn161 (Or.inl (nz (by omega)))).other Wn164 (Or.inl (nz (by omega)))).other Wn167 (Or.inl (nz (by omega)))).other Wn168 (Or.inl (nz (by omega)))).keep J169 (ninS (nz (by omega)) nin0))
   have f172 := ((((((((((p148_2.ext Ex149).ext Ex151).keep J154 (ninS (nz (by omega)) nin0)).ext Ex155).keep J158 (ninS (nz (by omega)) nin0)).other Wn161 (Or.inl (nz (by omega)))).other Wn164 (Or.inl (nz (by omega)))).other Wn167 (Or.inl (nz (by omega)))).other Wn168 (Or.inl (nz (by omega)))).keep J169 (ninS (nz (by omega)) nin0))
   have f173 := ((((((((((p148_3.ext Ex149).ext Ex151).keep J154 (ninS (nz (by omega)) nin0)).ext Ex155).keep J158 (ninS (nz (by omega)) nin0)).other Wn161 (nz (by omega))).other Wn164 (nz (by omega))).other Wn167 (nz (by omega))).other Wn168 (nz (by omega))).keep J169 (ninS (nz (by omega)) nin0))
   have f174 := ((((((f157.keep J158 (allS (by omega) all0)).wr Wn161 (by omega)).wr Wn164 (by omega)).wr Wn167 (by omega)).wr Wn168 (by omega)).keep J169 (allS (by omega) all0))
   exact jt_a T169 T169.heap _ us155 _ (1 : Int32) wM a6 x7 x8 a9 b127 r_148 b149 t_148 u10 kb_148 k149 ([77, 97, 114, 105, 97, 68, 66, 32, 97, 116, 32, c0, c1, c2, 58] ++ (sgl p3 ++ dl (mg p3))) (X169.mono (by decide) (by decide)) rfl K169 N169 Bs155 (by omega) hZ hown R169 f170 f171 f172 f173 p169_0 f174 hu10 qp (by rw [lp]; omega)
  refine Wk.astore X125 hx (hD at_27) (n := 29) rfl rfl (L' := #[.val (.int p1), .val (.int p2), .val (.int p3), .val (.int p4), .val (.int (1 : Int32)), .val (.ref wM), .unset, .unset, .unset, .unset, .unset, .unset, .unset, .unset, .unset]) rfl ?_
  refine Wk.iconst X125 hx (hD at_29) (n := 30) rfl (z := (3 : Int32)) rfl ?_
  refine Wk.newP X125 hx hZ (oW hw 3 rfl) e125 (hD at_30) (n := 32) rfl (by decide) (cap := 3) (by decide) (by decide) (by decide) (by decide) fun T175 H175 b175 k175 gn175 X175 e175 Ex175 An175 => ?_
  have gn175 := nx gn175
  have sz175 := Ex175.1
  have K175 := K0.ext Ex175
  have R175 := R0.trans (CHr.ext Ex175 R0.1)
  have Vn175 : Arv Z H175 b175 k175 .char (3 : Int32) [(.int (0 : Int32)), (.int (0 : Int32)), (.int (0 : Int32))] (.int (0 : Int32)) := (Arv.new An175 (by decide)).pad (pad_rep [] (.int (0 : Int32)) 3)
  have lt175 := ny Vn175.lt
  refine Wk.dup X175 hx (hD at_32) (n := 33) rfl rfl ?_
  refine Wk.iconst X175 hx (hD at_33) (n := 34) rfl (z := (0 : Int32)) rfl ?_
  refine Wk.iloadN X175 hx (hD at_34) (n := 35) rfl rfl ?_
  refine Wk.sipush X175 hx (hD at_35) (n := 38) rfl (z := (255 : Int32)) rfl ?_
  refine Wk.iand X175 hx (hD at_38) (n := 39) rfl ?_
  obtain ⟨c0, q_c0⟩ : ∃ z : Int32, z = ((p2 &&& (255 : Int32)).toUInt32.toUInt16.toUInt32.toInt32) := ⟨_, rfl⟩
  have n_c0 : nar .char c0 = c0 := by rw [q_c0]; exact own_c255 _
  have r_c0 : ¬ c0 < 0 ∧ ¬ (255 : Int32) < c0 := by rw [q_c0]; exact own_r255 _
  refine Wk.i2c X175 hx (hD at_39) (n := 40) rfl q_c0.symm ?_
  obtain ⟨cl176, Ar176, qn176, Sz176, N_176, H_176, Gn176⟩ := id Vn175
  have hin176 : ¬ ((0 : Int32) < 0 ∨ cl176.slots.size ≤ ((0 : Int32)).toNatClampNeg) := inb_of Sz176 ⟨by decide, by decide⟩
  refine Wk.stC X175 hx hZ e175 Ar176 hin176 (hD at_40) (n := 41) rfl fun T176 H176 X176 e176 Wn176 => ?_
  have Vn176 := Arv.set Ar176 qn176 Sz176 N_176 H_176 Gn176 (fits_nar_char _) Wn176 0 rfl (Nat.le_of_ble_eq_true rfl)
  have Un176 : Arv Z H176 b175 k175 .char (3 : Int32) [(.int c0), (.int (0 : Int32)), (.int (0 : Int32))] (.int (0 : Int32)) := by have q := Vn176; rw [n_c0] at q; exact q
  have sz176 := Wn176.size
  have Sw176 := (Safe.arv (EL := own_EL) hZ.alike Vn175 (by simp))
  have R176 := R175.trans (CHr.wr Wn176 Sw176 R175.1)
  have K176 := K175.wr Wn176 (Or.inr (by omega))
  have N176 := Fr.snoc X176 N0 (by omega)
  refine Wk.dup X176 hx (hD at_41) (n := 42) rfl rfl ?_
  refine Wk.iconst X176 hx (hD at_42) (n := 43) rfl (z := (1 : Int32)) rfl ?_
  refine Wk.iloadN X176 hx (hD at_43) (n := 44) rfl rfl ?_
  refine Wk.bipush X176 hx (hD at_44) (n := 46) rfl (z := (8 : Int32)) rfl ?_
  refine Wk.iushr X176 hx (hD at_46) (n := 47) rfl ?_
  refine Wk.sipush X176 hx (hD at_47) (n := 50) rfl (z := (255 : Int32)) rfl ?_
  refine Wk.iand X176 hx (hD at_50) (n := 51) rfl ?_
  obtain ⟨c1, q_c1⟩ : ∃ z : Int32, z = ((((p2.toUInt32 >>> ((8 : Int32) &&& 31).toUInt32).toInt32) &&& (255 : Int32)).toUInt32.toUInt16.toUInt32.toInt32) := ⟨_, rfl⟩
  have n_c1 : nar .char c1 = c1 := by rw [q_c1]; exact own_c255 _
  have r_c1 : ¬ c1 < 0 ∧ ¬ (255 : Int32) < c1 := by rw [q_c1]; exact own_r255 _
  refine Wk.i2c X176 hx (hD at_51) (n := 52) rfl q_c1.symm ?_
  obtain ⟨cl177, Ar177, qn177, Sz177, N_177, H_177, Gn177⟩ := id Un176
  have hin177 : ¬ ((1 : Int32) < 0 ∨ cl177.slots.size ≤ ((1 : Int32)).toNatClampNeg) := inb_of Sz177 ⟨by decide, by decide⟩
  refine Wk.stC X176 hx hZ e176 Ar177 hin177 (hD at_52) (n := 53) rfl fun T177 H177 X177 e177 Wn177 => ?_
  have Vn177 := Arv.set Ar177 qn177 Sz177 N_177 H_177 Gn177 (fits_nar_char _) Wn177 1 rfl (Nat.le_of_ble_eq_true rfl)
  have Un177 : Arv Z H177 b175 k175 .char (3 : Int32) [(.int c0), (.int c1), (.int (0 : Int32))] (.int (0 : Int32)) := by have q := Vn177; rw [n_c1] at q; exact q
  have sz177 := Wn177.size
  have Sw177 := (Safe.arv (EL := own_EL) hZ.alike Un176 (by simp))
  have R177 := R176.trans (CHr.wr Wn177 Sw177 R176.1)
  have K177 := K176.wr Wn177 (Or.inr (by omega))
  have N177 := Fr.snoc X177 N176 (by omega)
  refine Wk.dup X177 hx (hD at_53) (n := 54) rfl rfl ?_
  refine Wk.iconst X177 hx (hD at_54) (n := 55) rfl (z := (2 : Int32)) rfl ?_
  refine Wk.iloadN X177 hx (hD at_55) (n := 56) rfl rfl ?_
  refine Wk.bipush X177 hx (hD at_56) (n := 58) rfl (z := (16 : Int32)) rfl ?_
  refine Wk.iushr X177 hx (hD at_58) (n := 59) rfl ?_
  refine Wk.sipush X177 hx (hD at_59) (n := 62) rfl (z := (255 : Int32)) rfl ?_
  refine Wk.iand X177 hx (hD at_62) (n := 63) rfl ?_
  obtain ⟨c2, q_c2⟩ : ∃ z : Int32, z = ((((p2.toUInt32 >>> ((16 : Int32) &&& 31).toUInt32).toInt32) &&& (255 : Int32)).toUInt32.toUInt16.toUInt32.toInt32) := ⟨_, rfl⟩
  have n_c2 : nar .char c2 = c2 := by rw [q_c2]; exact own_c255 _
  have r_c2 : ¬ c2 < 0 ∧ ¬ (255 : Int32) < c2 := by rw [q_c2]; exact own_r255 _
  refine Wk.i2c X177 hx (hD at_63) (n := 64) rfl q_c2.symm ?_
  obtain ⟨cl178, Ar178, qn178, Sz178, N_178, H_178, Gn178⟩ := id Un177
  have hin178 : ¬ ((2 : Int32) < 0 ∨ cl178.slots.size ≤ ((2 : Int32)).toNatClampNeg) := inb_of Sz178 ⟨by decide, by decide⟩
  refine Wk.stC X177 hx hZ e177 Ar178 hin178 (hD at_64) (n := 65) rfl fun T178 H178 X178 e178 Wn178 => ?_
  have Vn178 := Arv.set Ar178 qn178 Sz178 N_178 H_178 Gn178 (fits_nar_char _) Wn178 2 rfl (Nat.le_of_ble_eq_true rfl)
  have Un178 : Arv Z H178 b175 k175 .char (3 : Int32) [(.int c0), (.int c1), (.int c2)] (.int (0 : Int32)) := by have q := Vn178; rw [n_c2] at q; exact q
  have sz178 := Wn178.size
  have Sw178 := (Safe.arv (EL := own_EL) hZ.alike Un177 (by simp))
  have R178 := R177.trans (CHr.wr Wn178 Sw178 R177.1)
  have K178 := K177.wr Wn178 (Or.inr (by omega))
  have N178 := Fr.snoc X178 N177 (by omega)
  refine Wk.astore X178 hx (hD at_65) (n := 67) rfl rfl (L' := #[.val (.int p1), .val (.int p2), .val (.int p3), .val (.int p4), .val (.int (1 : Int32)), .val (.ref wM), .val (.ref b175), .unset, .unset, .unset, .unset, .unset, .unset, .unset, .unset]) rfl ?_
  refine Wk.newO X178 hx hZ hown (oW hw 4 rfl) (oW hw 5 rfl) (oW hw 6 rfl) e178 (hD at_67) (n := 70) rfl (by decide) (by decide) fun T179 H179 b179 gn179 X179 e179 Ex179 An179 Dn179 Yn179 => ?_
  have gn179 := nx gn179
  have sz179 := Ex179.1
  have lt179 := ny An179.lt
  have K179 := K178.ext Ex179
  have R179 := R178.trans (CHr.ext Ex179 R178.1)
  have Sf179 := Safe.ext (x := b179) Ex179 R178.1 (Safe.new (Nat.le_of_eq gn179.symm))
  have Fn179_coder : Fld Z H179 b179 "java/lang/String" "coder" "B" (.int (0 : Int32)) := Dn179 (Or.inr (oW hw 30 rfl)) (ty := .byte) (by decide)
  have Fn179_value : Fld Z H179 b179 "java/lang/String" "value" "[B" .null := Dn179 (Or.inr (oW hw 32 rfl)) (ty := (.array .byte)) (by decide)
  refine Wk.dup X179 hx (hD at_70) (n := 71) rfl rfl ?_
  refine Wk.aload X179 hx (hD at_71) (n := 73) rfl rfl rfl ?_
  have f181 := (Un178.ext Ex179)
  have f182 := (((((O1.ext Ex175).wr Wn176 (by omega)).wr Wn177 (by omega)).wr Wn178 (by omega)).ext Ex179)
  have hp183 : ∀ c ∈ ([c0, c1, c2] : List Int32), ¬ c < 0 ∧ ¬ (255 : Int32) < c := List.forall_mem_cons.mpr ⟨r_c0, List.forall_mem_cons.mpr ⟨r_c1, List.forall_mem_cons.mpr ⟨r_c2, (fun _ q => nomatch q)⟩⟩⟩
  have cl180_ := fun Ls (hLs : LsOk c Ls) => X179.specialBack hx (y := mn43) rfl hown (mW hZ hw 7 rfl) (mW hZ hw 8 rfl) (mW hZ hw 9 rfl) (by decide) (StrChars.Road.backV (n0 := n0) (h := H179) (x := b179) (W := 1) hZ (fun d hd => hw d (own_ws d hd)) (kI := 4) (oW hw 5 rfl) (cs := [c0, c1, c2]) (bs := (([c0, c1, c2] : List Int32).map (fun c => c.toInt8.toInt32))) (n := 3) (by omega) (by omega) An179 Fn179_value Fn179_coder f181 (Sta.ext f182.2 S4) hCS rfl rfl (by decide) (by decide) hp183 rfl (by decide) (by decide)) (g := mkF m 73 Ls [(.ref b175), (.ref b179), (.ref b179)]) rfl hLs (Steps.refl _) (a := b179) (argsL := [(.ref b175)]) (rest := [(.ref b179)]) (lenOf pd_32 rfl) rfl (leq0 rfl) (hD at_73) (fun _ _ => ⟨rfl, e179, (by decide : 2 + 1 ≤ _), (by decide : 7 + 3 ≤ _)⟩)
  refine Wk.back (n := 76) (rc := 1) (rs := 3) (Q := StrChars.Road.QV Z b179 (3 : Int32) (([c0, c1, c2] : List Int32).map (fun c => c.toInt8.toInt32)) H179 n0) (cl180_ _ (lsok hml rfl)) fun vn180 T180 L180 X180 hQ180 => ?_
  clear cl180_
  obtain ⟨rfl, M180, J180, p180_0, p180_1, t_180, kb_180, _, ge_180, nt_180, p180_2, p180_3⟩ := hQ180
  have nt_180 := nw nt_180
  have N180 := Fr.app N178 M180
  have sz180 := J180.1
  have hs180 : ∀ x ∈ ([b179] : List Addr), Safe Z own_EL s.vm H179 x := (sfS Sf179 sf0)
  have R180 := R179.trans (CHr.keep J180 hs180 R179.1)
  have K180 := K179.trans J180 (allS (Or.inr (by omega)) all0)
  have lt_p180 := ny p180_3.lt
  show Wk p e below _ T180 (mkF m 76 _ [(.ref b179)])
  refine Wk.astore X180 hx (hD at_76) (n := 78) rfl rfl (L' := #[.val (.int p1), .val (.int p2), .val (.int p3), .val (.int p4), .val (.int (1 : Int32)), .val (.ref wM), .val (.ref b175), .val (.ref b179), .unset, .unset, .unset, .unset, .unset, .unset, .unset]) rfl ?_
  refine Wk.iloadN X180 hx (hD at_78) (n := 79) rfl rfl ?_
  refine Wk.sipush X180 hx (hD at_79) (n := 82) rfl (z := (255 : Int32)) rfl ?_
  refine Wk.iand X180 hx (hD at_82) (n := 83) rfl ?_
  obtain ⟨s0, q_s0⟩ : ∃ z : Int32, z = ((p4 &&& (255 : Int32)).toUInt32.toUInt16.toUInt32.toInt32) := ⟨_, rfl⟩
  have n_s0 : nar .char s0 = s0 := by rw [q_s0]; exact own_c255 _
  have r_s0 : ¬ s0 < 0 ∧ ¬ (255 : Int32) < s0 := by rw [q_s0]; exact own_r255 _
  refine Wk.i2c X180 hx (hD at_83) (n := 84) rfl q_s0.symm ?_
  have f184 := (f182.keep J180 (allS (by omega) all0))
  have cl185_ := fun Ls (hLs : LsOk c Ls) => Jvm.LawKit.callS X180 hx (y := mn4) hown (mW hZ hw 33 rfl) (mW hZ hw 34 rfl) (mW hZ hw 6 rfl) (mW hZ hw 35 rfl) (by decide) (backOf (W := 0) (rmSVO l Z a0 hw [] s0 zc T180.heap n0 (by omega) S4 f184 hCS r_s0.2) hZ (oW hw 35 rfl) (oW hw 6 rfl) (by decide) (by decide)) (g := mkF m 84 Ls [(.int s0)]) rfl hLs (argsL := [(.int s0)]) (rest := []) (lenOf pd_33 rfl) rfl (leq0 rfl) (hD at_84) (fun _ _ => ⟨rfl, rfl, (by decide : 3 + 2 ≤ _), (by decide : 10 + 5 ≤ _)⟩)
  refine Wk.backS (n := 87) (rc := 2) (rs := 5) (Q := Q_rmSVO Z s0 zc T180.heap n0) (cl185_ _ (lsok hml rfl)) fun vn185 T185 L185 X185 hQ185 => ?_
  clear cl185_
  obtain ⟨r_185, t_185, kb_185, rfl, M185, J185, p185_0, p185_1, p185_2, p185_3, gr_185, gt_185⟩ := hQ185
  have N185 := Fr.app N180 M185
  have sz185 := J185.1
  have hs185 : ∀ x ∈ ([] : List Addr), Safe Z own_EL s.vm T180.heap x := sf0
  have R185 := R180.trans (CHr.keep J185 hs185 R180.1)
  have K185 := K180.trans J185 (fun x hx => nomatch hx)
  have lt_p185_0 := ny p185_0.lt
  have lt_p185_3 := ny p185_3.lt
  show Wk p e below _ T185 (mkF m 87 _ [(.ref r_185)])
  refine Wk.astore X185 hx (hD at_87) (n := 89) rfl rfl (L' := #[.val (.int p1), .val (.int p2), .val (.int p3), .val (.int p4), .val (.int (1 : Int32)), .val (.ref wM), .val (.ref b175), .val (.ref b179), .val (.ref r_185), .unset, .unset, .unset, .unset, .unset, .unset]) rfl ?_
  refine Wk.iconst X185 hx (hD at_89) (n := 90) rfl (z := (2 : Int32)) rfl ?_
  refine Wk.newP X185 hx hZ (oW hw 3 rfl) rfl (hD at_90) (n := 92) rfl (by decide) (cap := 2) (by decide) (by decide) (by decide) (by decide) fun T186 H186 b186 k186 gn186 X186 e186 Ex186 An186 => ?_
  have gn186 := nx gn186
  have sz186 := Ex186.1
  have K186 := K185.ext Ex186
  have R186 := R185.trans (CHr.ext Ex186 R185.1)
  have Vn186 : Arv Z H186 b186 k186 .char (2 : Int32) [(.int (0 : Int32)), (.int (0 : Int32))] (.int (0 : Int32)) := (Arv.new An186 (by decide)).pad (pad_rep [] (.int (0 : Int32)) 2)
  have lt186 := ny Vn186.lt
  refine Wk.dup X186 hx (hD at_92) (n := 93) rfl rfl ?_
  refine Wk.iconst X186 hx (hD at_93) (n := 94) rfl (z := (0 : Int32)) rfl ?_
  refine Wk.iloadN X186 hx (hD at_94) (n := 95) rfl rfl ?_
  refine Wk.bipush X186 hx (hD at_95) (n := 97) rfl (z := (8 : Int32)) rfl ?_
  refine Wk.iushr X186 hx (hD at_97) (n := 98) rfl ?_
  refine Wk.sipush X186 hx (hD at_98) (n := 101) rfl (z := (255 : Int32)) rfl ?_
  refine Wk.iand X186 hx (hD at_101) (n := 102) rfl ?_
  obtain ⟨s1, q_s1⟩ : ∃ z : Int32, z = ((((p4.toUInt32 >>> ((8 : Int32) &&& 31).toUInt32).toInt32) &&& (255 : Int32)).toUInt32.toUInt16.toUInt32.toInt32) := ⟨_, rfl⟩
  have n_s1 : nar .char s1 = s1 := by rw [q_s1]; exact own_c255 _
  have r_s1 : ¬ s1 < 0 ∧ ¬ (255 : Int32) < s1 := by rw [q_s1]; exact own_r255 _
  refine Wk.i2c X186 hx (hD at_102) (n := 103) rfl q_s1.symm ?_
  obtain ⟨cl187, Ar187, qn187, Sz187, N_187, H_187, Gn187⟩ := id Vn186
  have hin187 : ¬ ((0 : Int32) < 0 ∨ cl187.slots.size ≤ ((0 : Int32)).toNatClampNeg) := inb_of Sz187 ⟨by decide, by decide⟩
  refine Wk.stC X186 hx hZ e186 Ar187 hin187 (hD at_103) (n := 104) rfl fun T187 H187 X187 e187 Wn187 => ?_
  have Vn187 := Arv.set Ar187 qn187 Sz187 N_187 H_187 Gn187 (fits_nar_char _) Wn187 0 rfl (Nat.le_of_ble_eq_true rfl)
  have Un187 : Arv Z H187 b186 k186 .char (2 : Int32) [(.int s1), (.int (0 : Int32))] (.int (0 : Int32)) := by have q := Vn187; rw [n_s1] at q; exact q
  have sz187 := Wn187.size
  have Sw187 := (Safe.arv (EL := own_EL) hZ.alike Vn186 (by simp))
  have R187 := R186.trans (CHr.wr Wn187 Sw187 R186.1)
  have K187 := K186.wr Wn187 (Or.inr (by omega))
  have N187 := Fr.snoc X187 N185 (by omega)
  refine Wk.dup X187 hx (hD at_104) (n := 105) rfl rfl ?_
  refine Wk.iconst X187 hx (hD at_105) (n := 106) rfl (z := (1 : Int32)) rfl ?_
  refine Wk.iloadN X187 hx (hD at_106) (n := 107) rfl rfl ?_
  refine Wk.bipush X187 hx (hD at_107) (n := 109) rfl (z := (16 : Int32)) rfl ?_
  refine Wk.iushr X187 hx (hD at_109) (n := 110) rfl ?_
  refine Wk.sipush X187 hx (hD at_110) (n := 113) rfl (z := (255 : Int32)) rfl ?_
  refine Wk.iand X187 hx (hD at_113) (n := 114) rfl ?_
  obtain ⟨s2, q_s2⟩ : ∃ z : Int32, z = ((((p4.toUInt32 >>> ((16 : Int32) &&& 31).toUInt32).toInt32) &&& (255 : Int32)).toUInt32.toUInt16.toUInt32.toInt32) := ⟨_, rfl⟩
  have n_s2 : nar .char s2 = s2 := by rw [q_s2]; exact own_c255 _
  have r_s2 : ¬ s2 < 0 ∧ ¬ (255 : Int32) < s2 := by rw [q_s2]; exact own_r255 _
  refine Wk.i2c X187 hx (hD at_114) (n := 115) rfl q_s2.symm ?_
  obtain ⟨cl188, Ar188, qn188, Sz188, N_188, H_188, Gn188⟩ := id Un187
  have hin188 : ¬ ((1 : Int32) < 0 ∨ cl188.slots.size ≤ ((1 : Int32)).toNatClampNeg) := inb_of Sz188 ⟨by decide, by decide⟩
  refine Wk.stC X187 hx hZ e187 Ar188 hin188 (hD at_115) (n := 116) rfl fun T188 H188 X188 e188 Wn188 => ?_
  have Vn188 := Arv.set Ar188 qn188 Sz188 N_188 H_188 Gn188 (fits_nar_char _) Wn188 1 rfl (Nat.le_of_ble_eq_true rfl)
  have Un188 : Arv Z H188 b186 k186 .char (2 : Int32) [(.int s1), (.int s2)] (.int (0 : Int32)) := by have q := Vn188; rw [n_s2] at q; exact q
  have sz188 := Wn188.size
  have Sw188 := (Safe.arv (EL := own_EL) hZ.alike Un187 (by simp))
  have R188 := R187.trans (CHr.wr Wn188 Sw188 R187.1)
  have K188 := K187.wr Wn188 (Or.inr (by omega))
  have N188 := Fr.snoc X188 N187 (by omega)
  refine Wk.astore X188 hx (hD at_116) (n := 118) rfl rfl (L' := #[.val (.int p1), .val (.int p2), .val (.int p3), .val (.int p4), .val (.int (1 : Int32)), .val (.ref wM), .val (.ref b175), .val (.ref b179), .val (.ref r_185), .val (.ref b186), .unset, .unset, .unset, .unset, .unset]) rfl ?_
  refine Wk.iloadN X188 hx (hD at_118) (n := 119) rfl rfl ?_
  refine Wk.iconst X188 hx (hD at_119) (n := 120) rfl (z := (2 : Int32)) rfl ?_
  refine Wk.iand X188 hx (hD at_120) (n := 121) rfl ?_
  by_cases hc121 : (p1 &&& (2 : Int32)) = (0 : Int32)
  ·
   refine Wk.ifYes X188 hx (hD at_121) ((if0 _ _).trans (teq hc121).1) (by decide) (n := 136) (by decide) ?_
   refine Wk.aconstNull X188 hx (hD at_136) (n := 137) rfl ?_
   have f189 := ((((p180_0.keep J185).ext Ex186).wr Wn187).wr Wn188)
   have f190 := ((((p180_2.keep J185 nin0).ext Ex186).other Wn187 (Or.inl (nz (by omega)))).other Wn188 (Or.inl (nz (by omega))))
   have f191 := ((((p180_1.keep J185 nin0).ext Ex186).other Wn187 (Or.inl (nz (by omega)))).other Wn188 (Or.inl (nz (by omega))))
   have f192 := ((((p180_3.keep J185 nin0).ext Ex186).other Wn187 (nz (by omega))).other Wn188 (nz (by omega)))
   have f193 := (((((f181.keep J180 (ninS (nz (by omega)) nin0)).keep J185 nin0).ext Ex186).other Wn187 (nz (by omega))).other Wn188 (nz (by omega)))
   have f194 := ((((f184.keep J185 all0).ext Ex186).wr Wn187 (by omega)).wr Wn188 (by omega))
   exact jt_b T188 H188 _ s _ c0 c1 c2 b175 b179 r_185 b186 t_180 k175 kb_180 .null (X188.mono (by decide) (by decide)) e188 K188 N188 Bs0 (by omega) hZ hown R188 f189 f190 f191 f192 f193 f194 rfl n_c0 n_c1 n_c2 hp183
  ·
   refine Wk.ifNo X188 hx (hD at_121) (n := 124) rfl ((if0 _ _).trans (feq hc121).1) ?_
   refine Wk.newO X188 hx hZ hown (oW hw 4 rfl) (oW hw 5 rfl) (oW hw 6 rfl) e188 (hD at_124) (n := 127) rfl (by decide) (by decide) fun T195 H195 b195 gn195 X195 e195 Ex195 An195 Dn195 Yn195 => ?_
   have gn195 := nx gn195
   have sz195 := Ex195.1
   have lt195 := ny An195.lt
   have K195 := K188.ext Ex195
   have R195 := R188.trans (CHr.ext Ex195 R188.1)
   have Sf195 := Safe.ext (x := b195) Ex195 R188.1 (Safe.new (Nat.le_of_eq gn195.symm))
   have Fn195_coder : Fld Z H195 b195 "java/lang/String" "coder" "B" (.int (0 : Int32)) := Dn195 (Or.inr (oW hw 30 rfl)) (ty := .byte) (by decide)
   have Fn195_value : Fld Z H195 b195 "java/lang/String" "value" "[B" .null := Dn195 (Or.inr (oW hw 32 rfl)) (ty := (.array .byte)) (by decide)
   refine Wk.dup X195 hx (hD at_127) (n := 128) rfl rfl ?_
   refine Wk.aload X195 hx (hD at_128) (n := 130) rfl rfl rfl ?_
   have f197 := (Un188.ext Ex195)
   have f198 := (((((f184.keep J185 all0).ext Ex186).wr Wn187 (by omega)).wr Wn188 (by omega)).ext Ex195)
   have hp199 : ∀ c ∈ ([s1, s2] : List Int32), ¬ c < 0 ∧ ¬ (255 : Int32) < c := List.forall_mem_cons.mpr ⟨r_s1, List.forall_mem_cons.mpr ⟨r_s2, (fun _ q => nomatch q)⟩⟩
   have cl196_ := fun Ls (hLs : LsOk c Ls) => X195.specialBack hx (y := mn43) rfl hown (mW hZ hw 7 rfl) (mW hZ hw 8 rfl) (mW hZ hw 9 rfl) (by decide) (StrChars.Road.backV (n0 := n0) (h := H195) (x := b195) (W := 1) hZ (fun d hd => hw d (own_ws d hd)) (kI := 4) (oW hw 5 rfl) (cs := [s1, s2]) (bs := (([s1, s2] : List Int32).map (fun c => c.toInt8.toInt32))) (n := 2) (by omega) (by omega) An195 Fn195_value Fn195_coder f197 (Sta.ext f198.2 S4) hCS rfl rfl (by decide) (by decide) hp199 rfl (by decide) (by decide)) (g := mkF m 130 Ls [(.ref b186), (.ref b195), (.ref b195)]) rfl hLs (Steps.refl _) (a := b195) (argsL := [(.ref b186)]) (rest := [(.ref b195)]) (lenOf pd_32 rfl) rfl (leq0 rfl) (hD at_130) (fun _ _ => ⟨rfl, e195, (by decide : 7 + 1 ≤ _), (by decide : 21 + 2 ≤ _)⟩)
   refine Wk.back (n := 133) (rc := 1) (rs := 2) (Q := StrChars.Road.QV Z b195 (2 : Int32) (([s1, s2] : List Int32).map (fun c => c.toInt8.toInt32)) H195 n0) (cl196_ _ (lsok hml rfl)) fun vn196 T196 L196 X196 hQ196 => ?_
   clear cl196_
   obtain ⟨rfl, M196, J196, p196_0, p196_1, t_196, kb_196, _, ge_196, nt_196, p196_2, p196_3⟩ := hQ196
   have nt_196 := nw nt_196
   have N196 := Fr.app N188 M196
   have sz196 := J196.1
   have hs196 : ∀ x ∈ ([b195] : List Addr), Safe Z own_EL s.vm H195 x := (sfS Sf195 sf0)
   have R196 := R195.trans (CHr.keep J196 hs196 R195.1)
   have K196 := K195.trans J196 (allS (Or.inr (by omega)) all0)
   have lt_p196 := ny p196_3.lt
   show Wk p e below _ T196 (mkF m 133 _ [(.ref b195)])
   refine Wk.goto X196 hx (hD at_133) (by decide) (n := 137) (by decide) ?_
   have f200 := ((((((p180_0.keep J185).ext Ex186).wr Wn187).wr Wn188).ext Ex195).keep J196)
   have f201 := ((((((p180_2.keep J185 nin0).ext Ex186).other Wn187 (Or.inl (nz (by omega)))).other Wn188 (Or.inl (nz (by omega)))).ext Ex195).keep J196 (ninS (nz (by omega)) nin0))
   have f202 := ((((((p180_1.keep J185 nin0).ext Ex186).other Wn187 (Or.inl (nz (by omega)))).other Wn188 (Or.inl (nz (by omega)))).ext Ex195).keep J196 (ninS (nz (by omega)) nin0))
   have f203 := ((((((p180_3.keep J185 nin0).ext Ex186).other Wn187 (nz (by omega))).other Wn188 (nz (by omega))).ext Ex195).keep J196 (ninS (nz (by omega)) nin0))
   have f204 := (((((((f181.keep J180 (ninS (nz (by omega)) nin0)).keep J185 nin0).ext Ex186).other Wn187 (nz (by omega))).other Wn188 (nz (by omega))).ext Ex195).keep J196 (ninS (nz (by omega)) nin0))
   have f205 := (f198.keep J196 (allS (by omega) all0))
   exact jt_b T196 T196.heap _ s _ c0 c1 c2 b175 b179 r_185 b186 t_180 k175 kb_180 (.ref b195) (X196.mono (by decide) (by decide)) rfl K196 N196 Bs0 (by omega) hZ hown R196 f200 f201 f202 f203 f204 f205 rfl n_c0 n_c1 n_c2 hp183
end Walks
theorem comes_1 {Post : Tables → Env → Array Value → State → Outcome → State → Prop} (hpost : ∀ tb e args s v u, (limb_1_1.after args s (.returned v) u = true ∧ limb_1_2.after args s (.returned v) u = true ∧ True) → FramedW s (.returned v) u (Jvm.fieldLocs frame_1_writes args s ++ Jvm.arrayLocs frame_1_arrays args s ++ Jvm.staticLocs frame_1_statics s) 56 6528 → Post tb e args s (.returned v) u) :
    ArmFor flags0 classFile x code maxLocals ret World_1 tables_1 room_1 Calls_1 rest_1 Pre_1 Post := by
  intro l hfl _ _ p e ha hc hk s m args below hf hA hF happ hP
  obtain ⟨hcalls, hrest, hpre⟩ := hP
  obtain ⟨-, -, -, hnamed, -, -, -, hat⟩ := (Spec.applies_iff hf).mp happ
  obtain ⟨hg, hn⟩ := and_e (Cond.before_iff.mp (show (Jvm.Cond.and given_1 narrow_1).before args s = true from hpre))
  obtain ⟨gc, gr⟩ := and_e hg
  obtain ⟨w0, w1, w2, w3, rfl⟩ : ∃ w0 w1 w2 w3 : Value, args = #[w0, w1, w2, w3] := by
    have hs : args.size = 4 := by simpa [Cond.value, given_1] using gc
    obtain ⟨L⟩ := args
    match L, hs with
    | [w0, w1, w2, w3], _ => exact ⟨w0, w1, w2, w3, rfl⟩
  have hw := fun d (hd : d ∈ tables_1) => atoms_spec (ws := Jvm.Cond.code x code maxLocals ret :: tables_1) hat d (List.mem_cons_of_mem _ hd)
  have hfit : Fit s := fun {y c} hc i hi => by
    obtain ⟨ha, rfl⟩ := Array.getElem?_eq_some_iff.mp hc
    have q := List.all_eq_true.mp ((Array.all_eq_true_iff_forall_mem.mp hF) _ (Array.getElem_mem ha)) i (List.mem_range.mpr hi)
    simpa [Array.getElem?_eq_getElem hi] using q
  obtain ⟨hsets, hown0⟩ := atoms_of _ (rest_1_c_eq ▸ (show rest_1_c.before _ s = true from hrest))
  have hr0 := Cond.before_iff.mp hown0
  obtain ⟨g0, gr⟩ := and_e gr
  obtain ⟨i0, ei0⟩ := is_v g0
  obtain rfl : w0 = (.int i0) := Option.some.inj ei0
  obtain ⟨g1, gr⟩ := and_e gr
  obtain ⟨i1, ei1⟩ := is_v g1
  obtain rfl : w1 = (.int i1) := Option.some.inj ei1
  obtain ⟨g2, gr⟩ := and_e gr
  obtain ⟨i2, ei2⟩ := is_v g2
  obtain rfl : w2 = (.int i2) := Option.some.inj ei2
  obtain ⟨i3, ei3⟩ := is_v gr
  obtain rfl : w3 = (.int i3) := Option.some.inj ei3
  obtain ⟨zc, ez⟩ := is_v (Cond.before_iff.mp (hsets _ (List.mem_of_getElem? (i := 1) rfl)))
  have S4 := Sta.start ez (Or.inl (hsets _ (List.mem_of_getElem? (i := 0) rfl)))
  have hCS : ¬ zc = 0 := own_ne0 ez (Cond.before_iff.mp (hsets _ (List.mem_of_getElem? (i := 2) rfl)))
  obtain ⟨fm, efm, rfm⟩ := isR_v (Cond.before_iff.mp (hsets _ (List.mem_of_getElem? (i := 8) rfl)))
  have S5 := Sta.start efm (Or.inl (hsets _ (List.mem_of_getElem? (i := 7) rfl)))
  obtain ⟨dO, eO⟩ := exa_v (Cond.before_iff.mp (hsets _ (List.mem_of_getElem? (i := 12) rfl)))
  have S6 := Sta.start eO (Or.inl (hsets _ (List.mem_of_getElem? (i := 11) rfl)))
  obtain ⟨kO, A6⟩ := own_tbl (f := fun i => Int32.ofNat (48 + i % 10)) (fun _ => eO) (Cond.before_iff.mp (hsets _ (List.mem_of_getElem? (i := 12) rfl))) (Cond.before_iff.mp (hsets _ (List.mem_of_getElem? (i := 13) rfl))) (Cond.before_iff.mp (hsets _ (List.mem_of_getElem? (i := 14) rfl))) (oW hw 22 rfl) (fun i hi => own_e1 i hi) (by decide)
  obtain ⟨dT, eT⟩ := exa_v (Cond.before_iff.mp (hsets _ (List.mem_of_getElem? (i := 17) rfl)))
  have S7 := Sta.start eT (Or.inl (hsets _ (List.mem_of_getElem? (i := 16) rfl)))
  obtain ⟨kT, A7⟩ := own_tbl (f := fun i => Int32.ofNat (48 + i / 10)) (fun _ => eT) (Cond.before_iff.mp (hsets _ (List.mem_of_getElem? (i := 17) rfl))) (Cond.before_iff.mp (hsets _ (List.mem_of_getElem? (i := 18) rfl))) (Cond.before_iff.mp (hsets _ (List.mem_of_getElem? (i := 19) rfl))) (oW hw 22 rfl) (fun i hi => own_e2 i hi) (by decide)
  have hCHs : CHv s own_EL s.vm s.heap := CHv.start (own_ew hw) (fun q hq => hcalls.1 q (own_cm q hq)) (hsets _ (List.mem_of_getElem? (i := 2) rfl)) (oW hw 22 rfl) (oW hw 5 rfl)
  obtain ⟨cn0, hn⟩ := and_e hn
  obtain ⟨cn1, hn⟩ := and_e hn
  obtain ⟨cn2, hn⟩ := and_e hn
  obtain ⟨cn3, hn⟩ := and_e hn
  obtain ⟨cn4, hn⟩ := and_e hn
  obtain ⟨cn5, hn⟩ := and_e hn
  obtain ⟨cn6, hn⟩ := and_e hn
  obtain ⟨cn7, hn⟩ := and_e hn
  obtain ⟨cn8, hn⟩ := and_e hn
  obtain ⟨cn9, hn⟩ := and_e hn
  obtain ⟨cn10, hn⟩ := and_e hn
  obtain ⟨cn11, hn⟩ := and_e hn
  obtain ⟨cn12, hn⟩ := and_e hn
  obtain ⟨cn13, hn⟩ := and_e hn
  obtain ⟨cn14, hn⟩ := and_e hn
  obtain ⟨cn15, hn⟩ := and_e hn
  obtain ⟨cn16, hn⟩ := and_e hn
  obtain ⟨cn17, hn⟩ := and_e hn
  obtain ⟨cn18, hn⟩ := and_e hn
  obtain ⟨cn19, hn⟩ := and_e hn
  obtain ⟨cn20, hn⟩ := and_e hn
  obtain ⟨cn21, hn⟩ := and_e hn
  obtain ⟨cn22, hn⟩ := and_e hn
  obtain ⟨cn23, hn⟩ := and_e hn
  obtain ⟨cn24, hn⟩ := and_e hn
  obtain ⟨cn25, hn⟩ := and_e hn
  obtain ⟨cn26, hn⟩ := and_e hn
  obtain ⟨cn27, hn⟩ := and_e hn
  have cn28 := hn
  obtain ⟨wP, ev_wP⟩ := exa_v cn0
  have S_wP := Sta.start ev_wP (Or.inr ⟨(oW hw 1 rfl), (oW hw 2 rfl)⟩)
  have E_wP := Exa.start ev_wP cn0
  obtain ⟨lP, ev_lP⟩ := exa_v cn1
  have F_wP_product : Fld s s.heap wP "com/example/mulock/mulock/sql/SqlDatabase" "product" "Ljava/lang/String;" (.ref lP) := Fld.start ((fld_at ev_wP).symm.trans ev_lP)
  have E_lP := Exa.start ev_lP cn1
  obtain ⟨tP, ev_tP⟩ := arr_v cn2
  have F_lP_value : Fld s s.heap lP "java/lang/String" "value" "[B" (.ref tP) := Fld.start ((fld_at ev_lP).symm.trans ev_tP)
  obtain ⟨c_tP, Ar_tP⟩ := Arr.start ev_tP cn2
  have E_tP := Exa.start ev_tP cn3
  obtain ⟨ql_tP, le_tP⟩ := own_len ev_tP Ar_tP cn4
  have F_lP_coder := own_fld ev_lP (Term.int_eval (0)) cn5
  obtain ⟨wM, ev_wM⟩ := exa_v cn6
  have S_wM := Sta.start ev_wM (Or.inr ⟨(oW hw 1 rfl), (oW hw 280 rfl)⟩)
  have E_wM := Exa.start ev_wM cn6
  obtain ⟨lM, ev_lM⟩ := exa_v cn7
  have F_wM_product : Fld s s.heap wM "com/example/mulock/mulock/sql/SqlDatabase" "product" "Ljava/lang/String;" (.ref lM) := Fld.start ((fld_at ev_wM).symm.trans ev_lM)
  have E_lM := Exa.start ev_lM cn7
  obtain ⟨tM, ev_tM⟩ := arr_v cn8
  have F_lM_value : Fld s s.heap lM "java/lang/String" "value" "[B" (.ref tM) := Fld.start ((fld_at ev_lM).symm.trans ev_tM)
  obtain ⟨c_tM, Ar_tM⟩ := Arr.start ev_tM cn8
  have E_tM := Exa.start ev_tM cn9
  obtain ⟨ql_tM, le_tM⟩ := own_len ev_tM Ar_tM cn10
  have F_lM_coder := own_fld ev_lM (Term.int_eval (0)) cn11
  have el_tP_0 : c_tP.slots[0]? = some (.int (80 : Int32)) := (elem_in (eqv_i (Term.int_eval (80)) cn12) ev_tP (Term.int_eval (0)) Ar_tP.1).2
  have el_tP_1 : c_tP.slots[1]? = some (.int (111 : Int32)) := (elem_in (eqv_i (Term.int_eval (111)) cn13) ev_tP (Term.int_eval (1)) Ar_tP.1).2
  have el_tP_2 : c_tP.slots[2]? = some (.int (115 : Int32)) := (elem_in (eqv_i (Term.int_eval (115)) cn14) ev_tP (Term.int_eval (2)) Ar_tP.1).2
  have el_tP_3 : c_tP.slots[3]? = some (.int (116 : Int32)) := (elem_in (eqv_i (Term.int_eval (116)) cn15) ev_tP (Term.int_eval (3)) Ar_tP.1).2
  have el_tP_4 : c_tP.slots[4]? = some (.int (103 : Int32)) := (elem_in (eqv_i (Term.int_eval (103)) cn16) ev_tP (Term.int_eval (4)) Ar_tP.1).2
  have el_tP_5 : c_tP.slots[5]? = some (.int (114 : Int32)) := (elem_in (eqv_i (Term.int_eval (114)) cn17) ev_tP (Term.int_eval (5)) Ar_tP.1).2
  have el_tP_6 : c_tP.slots[6]? = some (.int (101 : Int32)) := (elem_in (eqv_i (Term.int_eval (101)) cn18) ev_tP (Term.int_eval (6)) Ar_tP.1).2
  have el_tP_7 : c_tP.slots[7]? = some (.int (83 : Int32)) := (elem_in (eqv_i (Term.int_eval (83)) cn19) ev_tP (Term.int_eval (7)) Ar_tP.1).2
  have el_tP_8 : c_tP.slots[8]? = some (.int (81 : Int32)) := (elem_in (eqv_i (Term.int_eval (81)) cn20) ev_tP (Term.int_eval (8)) Ar_tP.1).2
  have el_tP_9 : c_tP.slots[9]? = some (.int (76 : Int32)) := (elem_in (eqv_i (Term.int_eval (76)) cn21) ev_tP (Term.int_eval (9)) Ar_tP.1).2
  have el_tM_0 : c_tM.slots[0]? = some (.int (77 : Int32)) := (elem_in (eqv_i (Term.int_eval (77)) cn22) ev_tM (Term.int_eval (0)) Ar_tM.1).2
  have el_tM_1 : c_tM.slots[1]? = some (.int (97 : Int32)) := (elem_in (eqv_i (Term.int_eval (97)) cn23) ev_tM (Term.int_eval (1)) Ar_tM.1).2
  have el_tM_2 : c_tM.slots[2]? = some (.int (114 : Int32)) := (elem_in (eqv_i (Term.int_eval (114)) cn24) ev_tM (Term.int_eval (2)) Ar_tM.1).2
  have el_tM_3 : c_tM.slots[3]? = some (.int (105 : Int32)) := (elem_in (eqv_i (Term.int_eval (105)) cn25) ev_tM (Term.int_eval (3)) Ar_tM.1).2
  have el_tM_4 : c_tM.slots[4]? = some (.int (97 : Int32)) := (elem_in (eqv_i (Term.int_eval (97)) cn26) ev_tM (Term.int_eval (4)) Ar_tM.1).2
  have el_tM_5 : c_tM.slots[5]? = some (.int (68 : Int32)) := (elem_in (eqv_i (Term.int_eval (68)) cn27) ev_tM (Term.int_eval (5)) Ar_tM.1).2
  have el_tM_6 : c_tM.slots[6]? = some (.int (66 : Int32)) := (elem_in (eqv_i (Term.int_eval (66)) cn28) ev_tM (Term.int_eval (6)) Ar_tM.1).2
  have AtP : Arv s s.heap tP c_tP.cls .byte (Int32.ofNat ([80, 111, 115, 116, 103, 114, 101, 83, 81, 76] : List Int32).length) (bsV [80, 111, 115, 116, 103, 114, 101, 83, 81, 76]) (.int (0 : Int32)) := Arv.start hfit Ar_tP ql_tP le_tP (by decide) rfl ⟨el_tP_0, el_tP_1, el_tP_2, el_tP_3, el_tP_4, el_tP_5, el_tP_6, el_tP_7, el_tP_8, el_tP_9, trivial⟩
  have AtM : Arv s s.heap tM c_tM.cls .byte (Int32.ofNat ([77, 97, 114, 105, 97, 68, 66] : List Int32).length) (bsV [77, 97, 114, 105, 97, 68, 66]) (.int (0 : Int32)) := Arv.start hfit Ar_tM ql_tM le_tM (by decide) rfl ⟨el_tM_0, el_tM_1, el_tM_2, el_tM_3, el_tM_4, el_tM_5, el_tM_6, trivial⟩
  obtain ⟨n, o, h1, h2, h3, _, L, rfl, ⟨rfl, N, -⟩, -, hq⟩ := rm0 l s _ hw tables_1 i0 i1 i2 i3 zc fm dO kO dT kT wP lP tP c_tP.cls wM lM tM c_tM.cls s.heap s.heap.size (Nat.le_refl _) S4 (Old.start s) S5 S6 S7 A6 A7 S_wP E_wP F_wP_product E_lP F_lP_value F_lP_coder AtP S_wM E_wM F_wM_product E_lM F_lM_value F_lM_coder AtM hCS rfm p e ha hc hk s m _ below hf ((Spec.applies_iff_loose hf).mp happ).1 ⟨rfl, State.Warmed39.refl s, rfl, hCHs, fun _ q => nomatch q⟩ trivial
  refine ⟨n, _, h1, h2, h3, hpost _ _ _ _ _ _ ⟨Cond.after_iff.mpr rfl, Cond.after_iff.mpr (eq_i res_at (Term.int_eval (1)) rfl), trivial⟩ ⟨hq.1, hq.2.1, hq.2.2.1, (hq.2.2.2.sift fun y hy => Or.inr (N y hy)).mono (by decide) (by decide)⟩⟩
theorem main_1_1 : Claimed_1_1 := comes_1 fun _ _ _ _ _ _ h hF => ⟨h.1, hF⟩
theorem main_1_2 : Claimed_1_2 := comes_1 fun _ _ _ _ _ _ h hF => ⟨h.2.1, hF⟩
end Jvm.Pilot.@@N@@
namespace Jvm.Pilot.@@N@@
open Jvm Jvm.ClassFile Sem Op Lib Jvm.Free Jvm.Stand Jvm.Pilot.@@N@@.Jvm.D
/-! MADE BY PROGRAM (witnessworld.py) out of the Statement's table words and the real class files: 31 classes; the members and pool entries that the words name. The judged class is class 1, her method 1. -/
namespace start1
open Jvm.ClassFile
def u (s : String) : CpInfo := .utf8 (stringToUtf16 s)
/-- a pool by its gaps: so many unusable entries, then the entry; so many at the end -/
def gap : Nat → List CpInfo → List CpInfo
  | 0, r => r
  | n + 1, r => .unusable :: gap n r
def poolList (es : List (Nat × CpInfo)) (last : Nat) : List CpInfo := es.foldr (fun e r => gap e.1 (e.2 :: r)) (gap last [])
def pool (es : List (Nat × CpInfo)) (last : Nat) : Array CpInfo := ⟨poolList es last⟩
def fileOf (pool : Array CpInfo) (this : Nat) (attrs : Array Attribute := #[]) (ms : Array MethodInfo := #[]) (fl : Nat := 33) (sup : Nat := 0) (ifs : Array Nat := #[]) (fds : Array FieldInfo := #[]) : ClassFile where
  minorVersion := 0
  majorVersion := 65
  constantPool := pool
  accessFlags := fl
  thisClass := this
  superClass := sup
  interfaces := ifs
  fields := fds
  methods := ms
  attributes := attrs
def plain (name : String) (sup : Option ClassId) : Class where
  name := name
  kind := .ordinary
  loader := none
  accessFlags := 33
  super := sup
  interfaces := #[]
  cf := none
  fields := #[]
  methods := #[]
  instanceTypes := #[]
  staticTypes := #[]
  resolved := #[]
  callSites := []
  init := .initialized
  statics := none
  mirror := none

def pool0 : Array CpInfo := pool [(5, u "<init>"), (0, u "()V"), (1, .class_ 10), (1, u "java/lang/Object"), (85, u "clone"), (0, u "()Ljava/lang/Object;")] 26

def k0c0 : Code := { maxStack := 0, maxLocals := 1, code := object_method_1_code, exceptionTable := #[], attributes := #[] }
def k0m0 : Method := { name := "<init>", desc := "()V", sig := { parameters := [], returnType := none }, accessFlags := 1, code := some k0c0 }
def k0m1 : Method := { name := "clone", desc := "()Ljava/lang/Object;", sig := { parameters := [], returnType := some (.object "java/lang/Object") }, accessFlags := 260, code := none }
/-- java/lang/Object -/
def k0 : Class := { plain "java/lang/Object" none with
  accessFlags := 33
  interfaces := #[]
  cf := some (fileOf pool0 8 #[] #[{ accessFlags := 1, nameIndex := 5, descriptorIndex := 6, attributes := #[] }, { accessFlags := 260, nameIndex := 96, descriptorIndex := 97, attributes := #[] }] 33 0 #[] #[])
  fields := #[]
  methods := #[k0m0, k0m1]
  instanceTypes := #[]
  staticTypes := #[]
  resolved := Array.replicate 124 none
  statics := none }

def pool1 : Array CpInfo := pool [(2, .class_ 4), (1, u "java/lang/Object"), (0, u "<init>"), (0, u "()V"), (0, .fieldref 8 9), (0, .class_ 10), (0, .nameAndType 11 12), (0, u "com/example/mulock/mulock/sql/SqlDatabase"), (0, u "MARIADB"), (0, u "Lcom/example/mulock/mulock/sql/SqlDatabase;"), (0, .fieldref 8 14), (0, .nameAndType 15 12), (0, u "POSTGRESQL"), (0, .class_ 17), (0, u "java/lang/String"), (0, .methodref 16 19), (0, .nameAndType 5 20), (0, u "([C)V"), (0, .methodref 16 22), (0, .nameAndType 23 24), (0, u "valueOf"), (0, u "(C)Ljava/lang/String;"), (0, .class_ 26), (0, u "com/example/mulock/mulock/sql/SqlAddress"), (0, .string 28), (0, u "db"), (0, .methodref 25 30), (0, .nameAndType 5 31), (0, u "(Lcom/example/mulock/mulock/sql/SqlDatabase;Ljava/lang/String;ILjava/lang/String;Ljava/lang/String;Ljava/lang/String;)V"), (0, .methodref 25 33), (0, .nameAndType 34 35), (0, u "where"), (0, u "()Ljava/lang/String;"), (0, .string 37), (0, u "MariaDB"), (0, .string 39), (0, u "PostgreSQL"), (0, .methodref 41 42), (0, .class_ 43), (0, .nameAndType 44 45), (0, u "com/example/mulock/mulock/sql/SqlAddressWherePinLaw"), (0, u "put"), (0, u "([CILjava/lang/String;)I"), (0, .string 47), (0, u " at "), (0, .methodref 41 49), (0, .nameAndType 50 51), (0, u "putInt"), (0, u "([CII)I"), (0, .methodref 16 53), (0, .nameAndType 54 55), (0, u "length"), (0, u "()I"), (0, .methodref 41 57), (0, .nameAndType 58 59), (0, u "same"), (0, u "(Ljava/lang/String;[CII)Z"), (0, .methodref 16 61), (0, .nameAndType 62 63), (0, u "charAt"), (0, u "(I)C"), (0, .long 10), (1, .long 100), (1, .long 1000), (1, .long 10000), (1, .long 100000), (1, .long 1000000), (1, .long 10000000), (1, .long 100000000), (1, .long 1000000000), (1, .methodref 41 83), (0, .nameAndType 84 85), (0, u "digit"), (0, u "(J)C"), (2, u "law"), (0, u "(IIII)Z")] 5

def k1m0 : Method := { name := "<init>", desc := "()V", sig := { parameters := [], returnType := none }, accessFlags := 1, code := none }
def k1c1 : Code := { maxStack := 8, maxLocals := 15, code := code, exceptionTable := #[], attributes := #[] }
def k1m1 : Method := { name := "law", desc := "(IIII)Z", sig := { parameters := [.int, .int, .int, .int], returnType := some .boolean }, accessFlags := 9, code := some k1c1 }
def k1c2 : Code := { maxStack := 3, maxLocals := 4, code := method_3_code, exceptionTable := #[], attributes := #[] }
def k1m2 : Method := { name := "same", desc := "(Ljava/lang/String;[CII)Z", sig := { parameters := [(.object "java/lang/String"), (.array .char), .int, .int], returnType := some .boolean }, accessFlags := 10, code := some k1c2 }
def k1c3 : Code := { maxStack := 4, maxLocals := 4, code := method_4_code, exceptionTable := #[], attributes := #[] }
def k1m3 : Method := { name := "put", desc := "([CILjava/lang/String;)I", sig := { parameters := [(.array .char), .int, (.object "java/lang/String")], returnType := some .int }, accessFlags := 10, code := some k1c3 }
def k1c4 : Code := { maxStack := 5, maxLocals := 2, code := method_5_code, exceptionTable := #[], attributes := #[] }
def k1m4 : Method := { name := "digit", desc := "(J)C", sig := { parameters := [.long], returnType := some .char }, accessFlags := 10, code := some k1c4 }
def k1c5 : Code := { maxStack := 4, maxLocals := 10, code := method_6_code, exceptionTable := #[], attributes := #[] }
def k1m5 : Method := { name := "putInt", desc := "([CII)I", sig := { parameters := [(.array .char), .int, .int], returnType := some .int }, accessFlags := 10, code := some k1c5 }
/-- com/example/mulock/mulock/sql/SqlAddressWherePinLaw -/
def k1 : Class := { plain "com/example/mulock/mulock/sql/SqlAddressWherePinLaw" (some 0) with
  accessFlags := 49
  interfaces := #[]
  cf := some (fileOf pool1 41 #[] #[{ accessFlags := 1, nameIndex := 5, descriptorIndex := 6, attributes := #[] }, { accessFlags := 9, nameIndex := 88, descriptorIndex := 89, attributes := #[] }, { accessFlags := 10, nameIndex := 58, descriptorIndex := 59, attributes := #[] }, { accessFlags := 10, nameIndex := 44, descriptorIndex := 45, attributes := #[] }, { accessFlags := 10, nameIndex := 84, descriptorIndex := 85, attributes := #[] }, { accessFlags := 10, nameIndex := 50, descriptorIndex := 51, attributes := #[] }] 49 2 #[] #[])
  fields := #[]
  methods := #[k1m0, k1m1, k1m2, k1m3, k1m4, k1m5]
  instanceTypes := #[]
  staticTypes := #[]
  resolved := Array.replicate 95 none
  statics := none }

def pool2 : Array CpInfo := pool [(1, .class_ 2), (0, u "java/lang/constant/Constable"), (0, .class_ 4), (0, u "java/lang/Object")] 6

/-- java/lang/constant/Constable -/
def k2 : Class := { plain "java/lang/constant/Constable" (some 0) with
  accessFlags := 1537
  interfaces := #[]
  cf := some (fileOf pool2 1 #[] #[] 1537 3 #[] #[])
  fields := #[]
  methods := #[]
  instanceTypes := #[]
  staticTypes := #[]
  resolved := Array.replicate 11 none
  statics := none }

def pool3 : Array CpInfo := pool [(1, .class_ 2), (0, u "java/lang/Comparable"), (0, .class_ 4), (0, u "java/lang/Object")] 7

/-- java/lang/Comparable -/
def k3 : Class := { plain "java/lang/Comparable" (some 0) with
  accessFlags := 1537
  interfaces := #[]
  cf := some (fileOf pool3 1 #[] #[] 1537 3 #[] #[])
  fields := #[]
  methods := #[]
  instanceTypes := #[]
  staticTypes := #[]
  resolved := Array.replicate 12 none
  statics := none }

def pool4 : Array CpInfo := pool [(1, .class_ 2), (0, u "java/io/Serializable"), (0, .class_ 4), (0, u "java/lang/Object")] 2

/-- java/io/Serializable -/
def k4 : Class := { plain "java/io/Serializable" (some 0) with
  accessFlags := 1537
  interfaces := #[]
  cf := some (fileOf pool4 1 #[] #[] 1537 3 #[] #[])
  fields := #[]
  methods := #[]
  instanceTypes := #[]
  staticTypes := #[]
  resolved := Array.replicate 7 none
  statics := none }

def pool5 : Array CpInfo := pool [(2, .class_ 4), (1, u "java/lang/Enum"), (0, u "name"), (0, u "Ljava/lang/String;"), (2, u "ordinal"), (0, u "I"), (1, .class_ 14), (1, u "java/lang/Object"), (4, u "hash"), (86, .class_ 108), (1, u "java/lang/Enum$EnumDesc"), (2, .class_ 112), (0, u "java/lang/constant/Constable"), (0, .class_ 114), (0, u "java/lang/Comparable"), (0, .class_ 116), (0, u "java/io/Serializable")] 87

/-- java/lang/Enum -/
def k5 : Class := { plain "java/lang/Enum" (some 0) with
  accessFlags := 1057
  interfaces := #[2, 3, 4]
  cf := some (fileOf pool5 2 #[.nestMembers #[106]] #[] 1057 12 #[111, 113, 115] #[{ accessFlags := 18, nameIndex := 5, descriptorIndex := 6, attributes := #[] }, { accessFlags := 18, nameIndex := 9, descriptorIndex := 10, attributes := #[] }, { accessFlags := 2, nameIndex := 19, descriptorIndex := 10, attributes := #[] }])
  fields := #[{ name := "name", type := (.object "java/lang/String"), accessFlags := 18, slot := 0, constantValue := 0 }, { name := "ordinal", type := .int, accessFlags := 18, slot := 1, constantValue := 0 }, { name := "hash", type := .int, accessFlags := 2, slot := 2, constantValue := 0 }]
  methods := #[]
  instanceTypes := #[(.object "java/lang/String"), .int, .int]
  staticTypes := #[]
  resolved := Array.replicate 204 none
  statics := none }

def pool6 : Array CpInfo := pool [(1, .class_ 2), (0, u "com/example/mulock/mulock/sql/SqlDatabase"), (2, u "POSTGRESQL"), (0, u "Lcom/example/mulock/mulock/sql/SqlDatabase;"), (2, u "MARIADB"), (2, u "$VALUES"), (0, u "[Lcom/example/mulock/mulock/sql/SqlDatabase;"), (6, .class_ 22), (1, u "java/lang/Enum"), (6, .fieldref 1 30), (0, .nameAndType 31 32), (0, u "product"), (0, u "Ljava/lang/String;"), (2, u "scheme"), (2, u "defaultPort"), (0, u "I"), (24, u "()Ljava/lang/String;")] 6

def k6c0 : Code := { maxStack := 1, maxLocals := 1, code := prog_20_method_4_code, exceptionTable := #[], attributes := #[] }
def k6m0 : Method := { name := "product", desc := "()Ljava/lang/String;", sig := { parameters := [], returnType := some (.object "java/lang/String") }, accessFlags := 0, code := some k6c0 }
/-- com/example/mulock/mulock/sql/SqlDatabase -/
def k6 : Class := { plain "com/example/mulock/mulock/sql/SqlDatabase" (some 5) with
  accessFlags := 16432
  interfaces := #[]
  cf := some (fileOf pool6 1 #[] #[{ accessFlags := 0, nameIndex := 31, descriptorIndex := 64, attributes := #[] }] 16432 20 #[] #[{ accessFlags := 16409, nameIndex := 5, descriptorIndex := 6, attributes := #[] }, { accessFlags := 16409, nameIndex := 9, descriptorIndex := 6, attributes := #[] }, { accessFlags := 18, nameIndex := 31, descriptorIndex := 32, attributes := #[] }, { accessFlags := 18, nameIndex := 35, descriptorIndex := 32, attributes := #[] }, { accessFlags := 18, nameIndex := 38, descriptorIndex := 39, attributes := #[] }, { accessFlags := 4122, nameIndex := 12, descriptorIndex := 13, attributes := #[] }])
  fields := #[{ name := "POSTGRESQL", type := (.object "com/example/mulock/mulock/sql/SqlDatabase"), accessFlags := 16409, slot := 0, constantValue := 0 }, { name := "MARIADB", type := (.object "com/example/mulock/mulock/sql/SqlDatabase"), accessFlags := 16409, slot := 1, constantValue := 0 }, { name := "product", type := (.object "java/lang/String"), accessFlags := 18, slot := 3, constantValue := 0 }, { name := "scheme", type := (.object "java/lang/String"), accessFlags := 18, slot := 4, constantValue := 0 }, { name := "defaultPort", type := .int, accessFlags := 18, slot := 5, constantValue := 0 }, { name := "$VALUES", type := (.array (.object "com/example/mulock/mulock/sql/SqlDatabase")), accessFlags := 4122, slot := 2, constantValue := 0 }]
  methods := #[k6m0]
  instanceTypes := #[(.object "java/lang/String"), .int, .int, (.object "java/lang/String"), (.object "java/lang/String"), .int]
  staticTypes := #[(.object "com/example/mulock/mulock/sql/SqlDatabase"), (.object "com/example/mulock/mulock/sql/SqlDatabase"), (.array (.object "com/example/mulock/mulock/sql/SqlDatabase"))]
  resolved := Array.replicate 71 none
  statics := some 0 }

def pool7 : Array CpInfo := pool [(2, .class_ 4), (1, u "java/lang/CharSequence"), (42, .class_ 48), (0, u "java/lang/CharSequence$1CodePointIterator"), (10, .class_ 60), (0, u "java/lang/CharSequence$1CharIterator"), (5, .class_ 67), (0, u "java/lang/Object")] 63

/-- java/lang/CharSequence -/
def k7 : Class := { plain "java/lang/CharSequence" (some 0) with
  accessFlags := 1537
  interfaces := #[]
  cf := some (fileOf pool7 2 #[.nestMembers #[47, 59]] #[] 1537 66 #[] #[])
  fields := #[]
  methods := #[]
  instanceTypes := #[]
  staticTypes := #[]
  resolved := Array.replicate 131 none
  statics := none }

def pool8 : Array CpInfo := pool [(1, .class_ 2), (0, u "java/lang/constant/ConstantDesc"), (0, .class_ 4), (0, u "java/lang/Object")] 32

/-- java/lang/constant/ConstantDesc -/
def k8 : Class := { plain "java/lang/constant/ConstantDesc" (some 0) with
  accessFlags := 1537
  interfaces := #[]
  cf := some (fileOf pool8 1 #[] #[] 1537 3 #[] #[])
  fields := #[]
  methods := #[]
  instanceTypes := #[]
  staticTypes := #[]
  resolved := Array.replicate 37 none
  statics := none }

def pool9 : Array CpInfo := pool [(1, .methodref 2 3), (0, .class_ 4), (0, .nameAndType 5 6), (0, u "java/lang/Object"), (0, u "<init>"), (0, u "()V"), (2, .fieldref 10 11), (0, .class_ 12), (0, .nameAndType 13 14), (0, u "java/lang/String"), (0, u "value"), (0, u "[B"), (0, .fieldref 10 16), (0, .nameAndType 17 18), (0, u "coder"), (0, u "B"), (2, u "hash"), (0, u "I"), (2, u "hashIsZero"), (0, u "Z"), (0, .methodref 10 28), (0, .nameAndType 5 29), (0, u "([CIILjava/lang/Void;)V"), (8, .fieldref 10 39), (0, .nameAndType 40 26), (0, u "COMPACT_STRINGS"), (1, .class_ 44), (1, u "java/lang/StringUTF16"), (0, u "compress"), (1, .methodref 42 48), (0, .nameAndType 49 50), (0, u "coderFromArrayLen"), (0, u "([BI)B"), (2, u "toBytes"), (0, .methodref 55 56), (0, .class_ 57), (0, .nameAndType 58 59), (0, u "java/util/Arrays"), (0, u "copyOfRange"), (0, u "([BII)[B"), (47, .class_ 109), (1, u "java/lang/StringLatin1"), (32, u "()Z"), (34, .methodref 42 178), (0, .nameAndType 45 179), (0, u "([CII)[B"), (13, .class_ 195), (1, u "java/lang/System"), (13, .methodref 10 210), (0, .nameAndType 5 211), (0, u "([BB)V"), (0, .methodref 193 213), (0, .nameAndType 214 215), (0, u "arraycopy"), (0, u "(Ljava/lang/Object;ILjava/lang/Object;II)V"), (118, u "()I"), (0, .methodref 10 336), (0, .nameAndType 17 337), (0, u "()B"), (2, u "()[B"), (22, u "([BI)C"), (5, u "(C)Z"), (21, u "(II)V"), (35, u "(I)C"), (61, .methodref 10 490), (0, .nameAndType 5 491), (0, u "(Ljava/lang/AbstractStringBuilder;Ljava/lang/Void;)V"), (0, .methodref 10 493), (0, .nameAndType 494 142), (0, u "isLatin1"), (0, .methodref 107 496), (0, .nameAndType 497 363), (0, u "charAt"), (3, u "checkIndex"), (4, .nameAndType 507 334), (0, u "length"), (24, u "getBytes"), (16, .methodref 550 506), (0, .class_ 551), (0, u "java/lang/AbstractStringBuilder"), (0, .methodref 550 553), (0, .nameAndType 554 340), (0, u "getValue"), (20, .class_ 576), (0, u "java/lang/CharSequence"), (22, u "CASE_INSENSITIVE_ORDER"), (0, u "Ljava/util/Comparator;"), (181, u "valueOf"), (0, u "(C)Ljava/lang/String;"), (37, u "([BIB)V"), (188, u "([C)V"), (4, .methodref 107 1016), (0, .nameAndType 1017 369), (0, u "canEncode"), (0, .methodref 107 1019), (0, .nameAndType 53 1020), (0, u "(C)[B"), (26, .methodref 550 493), (5, .fieldref 1054 1055), (0, .class_ 1056), (0, .nameAndType 1057 1058), (0, u "jdk/internal/util/Preconditions"), (0, u "SIOOBE_FORMATTER"), (0, u "Ljava/util/function/BiFunction;"), (0, .methodref 1054 1060), (0, .nameAndType 501 1061), (0, u "(IILjava/util/function/BiFunction;)I"), (39, u "serialPersistentFields"), (0, u "[Ljava/io/ObjectStreamField;"), (0, .class_ 1104), (0, u "java/lang/String$CaseInsensitiveComparator"), (1, .class_ 1107), (0, u "java/io/Serializable"), (0, .class_ 1109), (0, u "java/lang/Comparable"), (0, .class_ 1111), (0, u "java/lang/constant/Constable"), (0, .class_ 1113), (0, u "java/lang/constant/ConstantDesc"), (2, u "serialVersionUID"), (0, u "J"), (3, u "REPL"), (0, u "C"), (2, u "LATIN1"), (1, u "UTF16"), (105, u "(Ljava/lang/StringBuilder;)V")] 217

def k9m0 : Method := { name := "<init>", desc := "()V", sig := { parameters := [], returnType := none }, accessFlags := 1, code := none }
def k9c1 : Code := { maxStack := 5, maxLocals := 2, code := jdk_42_method_3_code, exceptionTable := #[], attributes := #[] }
def k9m1 : Method := { name := "<init>", desc := "([C)V", sig := { parameters := [(.array .char)], returnType := none }, accessFlags := 1, code := some k9c1 }
def k9c2 : Code := { maxStack := 3, maxLocals := 2, code := jdk_42_method_53_code, exceptionTable := #[], attributes := #[] }
def k9m2 : Method := { name := "<init>", desc := "(Ljava/lang/StringBuilder;)V", sig := { parameters := [(.object "java/lang/StringBuilder")], returnType := none }, accessFlags := 1, code := some k9c2 }
def k9c3 : Code := { maxStack := 2, maxLocals := 1, code := jdk_42_method_54_code, exceptionTable := #[], attributes := #[] }
def k9m3 : Method := { name := "length", desc := "()I", sig := { parameters := [], returnType := some .int }, accessFlags := 1, code := some k9c3 }
def k9c4 : Code := { maxStack := 2, maxLocals := 2, code := jdk_42_method_56_code, exceptionTable := #[], attributes := #[] }
def k9m4 : Method := { name := "charAt", desc := "(I)C", sig := { parameters := [.int], returnType := some .char }, accessFlags := 1, code := some k9c4 }
def k9c5 : Code := { maxStack := 4, maxLocals := 1, code := jdk_42_method_139_code, exceptionTable := #[], attributes := #[] }
def k9m5 : Method := { name := "valueOf", desc := "(C)Ljava/lang/String;", sig := { parameters := [.char], returnType := some (.object "java/lang/String") }, accessFlags := 9, code := some k9c5 }
def k9c6 : Code := { maxStack := 5, maxLocals := 4, code := jdk_42_method_147_code, exceptionTable := #[], attributes := #[] }
def k9m6 : Method := { name := "getBytes", desc := "([BIB)V", sig := { parameters := [(.array .byte), .int, .byte], returnType := none }, accessFlags := 0, code := some k9c6 }
def k9c7 : Code := { maxStack := 4, maxLocals := 6, code := jdk_42_method_149_code, exceptionTable := #[], attributes := #[] }
def k9m7 : Method := { name := "<init>", desc := "([CIILjava/lang/Void;)V", sig := { parameters := [(.array .char), .int, .int, (.object "java/lang/Void")], returnType := none }, accessFlags := 2, code := some k9c7 }
def k9c8 : Code := { maxStack := 5, maxLocals := 5, code := jdk_42_method_150_code, exceptionTable := #[], attributes := #[] }
def k9m8 : Method := { name := "<init>", desc := "(Ljava/lang/AbstractStringBuilder;Ljava/lang/Void;)V", sig := { parameters := [(.object "java/lang/AbstractStringBuilder"), (.object "java/lang/Void")], returnType := none }, accessFlags := 0, code := some k9c8 }
def k9c9 : Code := { maxStack := 2, maxLocals := 3, code := jdk_42_method_151_code, exceptionTable := #[], attributes := #[] }
def k9m9 : Method := { name := "<init>", desc := "([BB)V", sig := { parameters := [(.array .byte), .byte], returnType := none }, accessFlags := 0, code := some k9c9 }
def k9c10 : Code := { maxStack := 1, maxLocals := 1, code := jdk_42_method_152_code, exceptionTable := #[], attributes := #[] }
def k9m10 : Method := { name := "coder", desc := "()B", sig := { parameters := [], returnType := some .byte }, accessFlags := 0, code := some k9c10 }
def k9c11 : Code := { maxStack := 1, maxLocals := 1, code := jdk_42_method_154_code, exceptionTable := #[], attributes := #[] }
def k9m11 : Method := { name := "isLatin1", desc := "()Z", sig := { parameters := [], returnType := some .boolean }, accessFlags := 0, code := some k9c11 }
def k9c12 : Code := { maxStack := 3, maxLocals := 2, code := jdk_42_method_155_code, exceptionTable := #[], attributes := #[] }
def k9m12 : Method := { name := "checkIndex", desc := "(II)V", sig := { parameters := [.int, .int], returnType := none }, accessFlags := 8, code := some k9c12 }
/-- java/lang/String -/
def k9 : Class := { plain "java/lang/String" (some 0) with
  accessFlags := 49
  interfaces := #[4, 3, 7, 2, 8]
  cf := some (fileOf pool9 10 #[.nestMembers #[1103]] #[{ accessFlags := 1, nameIndex := 5, descriptorIndex := 6, attributes := #[] }, { accessFlags := 1, nameIndex := 5, descriptorIndex := 1010, attributes := #[] }, { accessFlags := 1, nameIndex := 5, descriptorIndex := 1233, attributes := #[] }, { accessFlags := 1, nameIndex := 507, descriptorIndex := 334, attributes := #[] }, { accessFlags := 1, nameIndex := 497, descriptorIndex := 427, attributes := #[] }, { accessFlags := 9, nameIndex := 782, descriptorIndex := 783, attributes := #[] }, { accessFlags := 0, nameIndex := 532, descriptorIndex := 821, attributes := #[] }, { accessFlags := 2, nameIndex := 5, descriptorIndex := 29, attributes := #[] }, { accessFlags := 0, nameIndex := 5, descriptorIndex := 491, attributes := #[] }, { accessFlags := 0, nameIndex := 5, descriptorIndex := 211, attributes := #[] }, { accessFlags := 0, nameIndex := 17, descriptorIndex := 337, attributes := #[] }, { accessFlags := 0, nameIndex := 494, descriptorIndex := 142, attributes := #[] }, { accessFlags := 8, nameIndex := 501, descriptorIndex := 391, attributes := #[] }] 49 2 #[1106, 1108, 575, 1110, 1112] #[{ accessFlags := 18, nameIndex := 13, descriptorIndex := 14, attributes := #[] }, { accessFlags := 18, nameIndex := 17, descriptorIndex := 18, attributes := #[] }, { accessFlags := 2, nameIndex := 21, descriptorIndex := 22, attributes := #[] }, { accessFlags := 2, nameIndex := 25, descriptorIndex := 26, attributes := #[] }, { accessFlags := 26, nameIndex := 1116, descriptorIndex := 1117, attributes := #[] }, { accessFlags := 24, nameIndex := 40, descriptorIndex := 26, attributes := #[] }, { accessFlags := 26, nameIndex := 1101, descriptorIndex := 1102, attributes := #[] }, { accessFlags := 26, nameIndex := 1121, descriptorIndex := 1122, attributes := #[] }, { accessFlags := 25, nameIndex := 599, descriptorIndex := 600, attributes := #[] }, { accessFlags := 24, nameIndex := 1125, descriptorIndex := 18, attributes := #[] }, { accessFlags := 24, nameIndex := 1127, descriptorIndex := 18, attributes := #[] }])
  fields := #[{ name := "value", type := (.array .byte), accessFlags := 18, slot := 0, constantValue := 0 }, { name := "coder", type := .byte, accessFlags := 18, slot := 1, constantValue := 0 }, { name := "hash", type := .int, accessFlags := 2, slot := 2, constantValue := 0 }, { name := "hashIsZero", type := .boolean, accessFlags := 2, slot := 3, constantValue := 0 }, { name := "serialVersionUID", type := .long, accessFlags := 26, slot := 0, constantValue := 0 }, { name := "COMPACT_STRINGS", type := .boolean, accessFlags := 24, slot := 1, constantValue := 0 }, { name := "serialPersistentFields", type := (.array (.object "java/io/ObjectStreamField")), accessFlags := 26, slot := 2, constantValue := 0 }, { name := "REPL", type := .char, accessFlags := 26, slot := 3, constantValue := 0 }, { name := "CASE_INSENSITIVE_ORDER", type := (.object "java/util/Comparator"), accessFlags := 25, slot := 4, constantValue := 0 }, { name := "LATIN1", type := .byte, accessFlags := 24, slot := 5, constantValue := 0 }, { name := "UTF16", type := .byte, accessFlags := 24, slot := 6, constantValue := 0 }]
  methods := #[k9m0, k9m1, k9m2, k9m3, k9m4, k9m5, k9m6, k9m7, k9m8, k9m9, k9m10, k9m11, k9m12]
  instanceTypes := #[(.array .byte), .byte, .int, .boolean]
  staticTypes := #[.long, .boolean, (.array (.object "java/io/ObjectStreamField")), .char, (.object "java/util/Comparator"), .byte, .byte]
  resolved := Array.replicate 1451 none
  statics := some 1 }

def pool10 : Array CpInfo := pool [(6, .class_ 8), (1, u "java/lang/Object"), (0, u "<init>"), (0, u "()V"), (1, .class_ 14), (1, u "java/lang/StringUTF16"), (31, u "$assertionsDisabled"), (0, u "Z"), (13, u "HI_BYTE_SHIFT"), (0, u "I"), (2, u "LO_BYTE_SHIFT"), (49, .methodref 12 116), (0, .nameAndType 117 118), (0, u "compress"), (0, u "([CI[BII)I"), (3, u "([CII)[B"), (138, u "coderFromArrayLen"), (0, u "([BI)B"), (106, .class_ 371), (1, u "java/lang/StringUTF16$LinesSpliterator"), (58, u "MAX_LENGTH"), (196, .class_ 628), (0, u "java/lang/StringUTF16$CodePointsSpliterator"), (0, .class_ 630), (0, u "java/lang/StringUTF16$CharsSpliterator")] 4

def k10m0 : Method := { name := "<init>", desc := "()V", sig := { parameters := [], returnType := none }, accessFlags := 0, code := none }
def k10c1 : Code := { maxStack := 2, maxLocals := 2, code := jdk_52_method_15_code, exceptionTable := #[], attributes := #[] }
def k10m1 : Method := { name := "coderFromArrayLen", desc := "([BI)B", sig := { parameters := [(.array .byte), .int], returnType := some .byte }, accessFlags := 8, code := some k10c1 }
def k10c2 : Code := { maxStack := 5, maxLocals := 6, code := jdk_52_method_16_code, exceptionTable := #[], attributes := #[] }
def k10m2 : Method := { name := "compress", desc := "([CII)[B", sig := { parameters := [(.array .char), .int, .int], returnType := some (.array .byte) }, accessFlags := 9, code := some k10c2 }
def k10c3 : Code := { maxStack := 3, maxLocals := 7, code := jdk_52_method_21_code, exceptionTable := #[], attributes := #[] }
def k10m3 : Method := { name := "compress", desc := "([CI[BII)I", sig := { parameters := [(.array .char), .int, (.array .byte), .int, .int], returnType := some .int }, accessFlags := 9, code := some k10c3 }
/-- java/lang/StringUTF16 -/
def k10 : Class := { plain "java/lang/StringUTF16" (some 0) with
  accessFlags := 48
  interfaces := #[]
  cf := some (fileOf pool10 12 #[.nestMembers #[627, 629, 369]] #[{ accessFlags := 0, nameIndex := 9, descriptorIndex := 10, attributes := #[] }, { accessFlags := 8, nameIndex := 261, descriptorIndex := 262, attributes := #[] }, { accessFlags := 9, nameIndex := 117, descriptorIndex := 122, attributes := #[] }, { accessFlags := 9, nameIndex := 117, descriptorIndex := 118, attributes := #[] }] 48 6 #[] #[{ accessFlags := 26, nameIndex := 61, descriptorIndex := 62, attributes := #[] }, { accessFlags := 26, nameIndex := 65, descriptorIndex := 62, attributes := #[] }, { accessFlags := 24, nameIndex := 430, descriptorIndex := 62, attributes := #[] }, { accessFlags := 4120, nameIndex := 46, descriptorIndex := 47, attributes := #[] }])
  fields := #[{ name := "HI_BYTE_SHIFT", type := .int, accessFlags := 26, slot := 0, constantValue := 0 }, { name := "LO_BYTE_SHIFT", type := .int, accessFlags := 26, slot := 1, constantValue := 0 }, { name := "MAX_LENGTH", type := .int, accessFlags := 24, slot := 2, constantValue := 0 }, { name := "$assertionsDisabled", type := .boolean, accessFlags := 4120, slot := 3, constantValue := 0 }]
  methods := #[k10m0, k10m1, k10m2, k10m3]
  instanceTypes := #[]
  staticTypes := #[.int, .int, .int, .boolean]
  resolved := Array.replicate 635 none
  statics := none }

def pool11 : Array CpInfo := pool [(1, .class_ 2), (0, u "java/lang/String"), (1, .class_ 6), (1, u "java/lang/Object"), (0, u "<init>"), (0, u "()V"), (0, .methodref 1 10), (0, .nameAndType 11 12), (0, u "checkIndex"), (0, u "(II)V"), (1, .class_ 16), (1, u "java/lang/StringLatin1"), (36, u "([BI)C"), (36, u "canEncode"), (14, u "(C)Z"), (15, u "$assertionsDisabled"), (0, u "Z"), (98, .class_ 223), (1, u "java/lang/StringLatin1$LinesSpliterator"), (28, u "charAt"), (127, u "toBytes"), (1, u "(C)[B"), (7, .class_ 391), (0, u "java/lang/StringLatin1$CharsSpliterator")] 3

def k11m0 : Method := { name := "<init>", desc := "()V", sig := { parameters := [], returnType := none }, accessFlags := 0, code := none }
def k11c1 : Code := { maxStack := 2, maxLocals := 2, code := jdk_43_method_2_code, exceptionTable := #[], attributes := #[] }
def k11m1 : Method := { name := "charAt", desc := "([BI)C", sig := { parameters := [(.array .byte), .int], returnType := some .char }, accessFlags := 9, code := some k11c1 }
def k11c2 : Code := { maxStack := 2, maxLocals := 1, code := jdk_43_method_3_code, exceptionTable := #[], attributes := #[] }
def k11m2 : Method := { name := "canEncode", desc := "(C)Z", sig := { parameters := [.char], returnType := some .boolean }, accessFlags := 9, code := some k11c2 }
def k11c3 : Code := { maxStack := 4, maxLocals := 1, code := jdk_43_method_46_code, exceptionTable := #[], attributes := #[] }
def k11m3 : Method := { name := "toBytes", desc := "(C)[B", sig := { parameters := [.char], returnType := some (.array .byte) }, accessFlags := 9, code := some k11c3 }
/-- java/lang/StringLatin1 -/
def k11 : Class := { plain "java/lang/StringLatin1" (some 0) with
  accessFlags := 48
  interfaces := #[]
  cf := some (fileOf pool11 14 #[.nestMembers #[390, 221]] #[{ accessFlags := 0, nameIndex := 7, descriptorIndex := 8, attributes := #[] }, { accessFlags := 9, nameIndex := 252, descriptorIndex := 53, attributes := #[] }, { accessFlags := 9, nameIndex := 90, descriptorIndex := 105, attributes := #[] }, { accessFlags := 9, nameIndex := 380, descriptorIndex := 382, attributes := #[] }] 48 4 #[] #[{ accessFlags := 4120, nameIndex := 121, descriptorIndex := 122, attributes := #[] }])
  fields := #[{ name := "$assertionsDisabled", type := .boolean, accessFlags := 4120, slot := 0, constantValue := 0 }]
  methods := #[k11m0, k11m1, k11m2, k11m3]
  instanceTypes := #[]
  staticTypes := #[.boolean]
  resolved := Array.replicate 395 none
  statics := none }

def pool12 : Array CpInfo := pool [(1, .methodref 2 3), (0, .class_ 4), (0, .nameAndType 5 6), (0, u "java/lang/Object"), (0, u "<init>"), (0, u "()V"), (0, .class_ 8), (0, u "java/lang/Record")] 13

def k12c0 : Code := { maxStack := 1, maxLocals := 1, code := jdk_30_method_1_code, exceptionTable := #[], attributes := #[] }
def k12m0 : Method := { name := "<init>", desc := "()V", sig := { parameters := [], returnType := none }, accessFlags := 4, code := some k12c0 }
/-- java/lang/Record -/
def k12 : Class := { plain "java/lang/Record" (some 0) with
  accessFlags := 1057
  interfaces := #[]
  cf := some (fileOf pool12 7 #[] #[{ accessFlags := 4, nameIndex := 5, descriptorIndex := 6, attributes := #[] }] 1057 2 #[] #[])
  fields := #[]
  methods := #[k12m0]
  instanceTypes := #[]
  staticTypes := #[]
  resolved := Array.replicate 22 none
  statics := none }

def pool13 : Array CpInfo := pool [(1, .methodref 2 3), (0, .class_ 4), (0, .nameAndType 5 6), (0, u "java/lang/Record"), (0, u "<init>"), (0, u "()V"), (0, .fieldref 8 9), (0, .class_ 10), (0, .nameAndType 11 12), (0, u "com/example/mulock/mulock/sql/SqlAddress"), (0, u "database"), (0, u "Lcom/example/mulock/mulock/sql/SqlDatabase;"), (0, .fieldref 8 14), (0, .nameAndType 15 16), (0, u "host"), (0, u "Ljava/lang/String;"), (0, .fieldref 8 18), (0, .nameAndType 19 20), (0, u "port"), (0, u "I"), (0, .fieldref 8 22), (0, .nameAndType 23 16), (0, u "databaseName"), (0, .fieldref 8 25), (0, .nameAndType 26 16), (0, u "user"), (0, .fieldref 8 28), (0, .nameAndType 29 16), (0, u "password"), (0, .class_ 31), (0, u "java/lang/StringBuilder"), (0, .methodref 30 3), (2, .methodref 30 36), (0, .nameAndType 37 38), (0, u "append"), (0, u "(Ljava/lang/String;)Ljava/lang/StringBuilder;"), (0, .methodref 40 41), (0, .class_ 42), (0, .nameAndType 43 44), (0, u "com/example/mulock/mulock/sql/SqlDatabase"), (0, u "product"), (0, u "()Ljava/lang/String;"), (7, .methodref 30 53), (0, .nameAndType 54 44), (0, u "toString"), (66, u "(Lcom/example/mulock/mulock/sql/SqlDatabase;Ljava/lang/String;ILjava/lang/String;Ljava/lang/String;Ljava/lang/String;)V"), (0, .string 123), (0, u " at "), (0, .string 125), (0, u ":"), (0, .methodref 30 127), (0, .nameAndType 37 128), (0, u "(I)Ljava/lang/StringBuilder;"), (33, u "PARAMETERS"), (0, u "Ljava/util/Set;"), (50, u "where")] 32

def k13c0 : Code := { maxStack := 2, maxLocals := 7, code := prog_18_method_1_code, exceptionTable := #[], attributes := #[] }
def k13m0 : Method := { name := "<init>", desc := "(Lcom/example/mulock/mulock/sql/SqlDatabase;Ljava/lang/String;ILjava/lang/String;Ljava/lang/String;Ljava/lang/String;)V", sig := { parameters := [(.object "com/example/mulock/mulock/sql/SqlDatabase"), (.object "java/lang/String"), .int, (.object "java/lang/String"), (.object "java/lang/String"), (.object "java/lang/String")], returnType := none }, accessFlags := 0, code := some k13c0 }
def k13c1 : Code := { maxStack := 2, maxLocals := 1, code := prog_18_method_3_code, exceptionTable := #[], attributes := #[] }
def k13m1 : Method := { name := "where", desc := "()Ljava/lang/String;", sig := { parameters := [], returnType := some (.object "java/lang/String") }, accessFlags := 0, code := some k13c1 }
/-- com/example/mulock/mulock/sql/SqlAddress -/
def k13 : Class := { plain "com/example/mulock/mulock/sql/SqlAddress" (some 12) with
  accessFlags := 48
  interfaces := #[]
  cf := some (fileOf pool13 8 #[] #[{ accessFlags := 0, nameIndex := 5, descriptorIndex := 121, attributes := #[] }, { accessFlags := 0, nameIndex := 214, descriptorIndex := 44, attributes := #[] }] 48 2 #[] #[{ accessFlags := 18, nameIndex := 11, descriptorIndex := 12, attributes := #[] }, { accessFlags := 18, nameIndex := 15, descriptorIndex := 16, attributes := #[] }, { accessFlags := 18, nameIndex := 19, descriptorIndex := 20, attributes := #[] }, { accessFlags := 18, nameIndex := 23, descriptorIndex := 16, attributes := #[] }, { accessFlags := 18, nameIndex := 26, descriptorIndex := 16, attributes := #[] }, { accessFlags := 18, nameIndex := 29, descriptorIndex := 16, attributes := #[] }, { accessFlags := 26, nameIndex := 162, descriptorIndex := 163, attributes := #[] }])
  fields := #[{ name := "database", type := (.object "com/example/mulock/mulock/sql/SqlDatabase"), accessFlags := 18, slot := 0, constantValue := 0 }, { name := "host", type := (.object "java/lang/String"), accessFlags := 18, slot := 1, constantValue := 0 }, { name := "port", type := .int, accessFlags := 18, slot := 2, constantValue := 0 }, { name := "databaseName", type := (.object "java/lang/String"), accessFlags := 18, slot := 3, constantValue := 0 }, { name := "user", type := (.object "java/lang/String"), accessFlags := 18, slot := 4, constantValue := 0 }, { name := "password", type := (.object "java/lang/String"), accessFlags := 18, slot := 5, constantValue := 0 }, { name := "PARAMETERS", type := (.object "java/util/Set"), accessFlags := 26, slot := 0, constantValue := 0 }]
  methods := #[k13m0, k13m1]
  instanceTypes := #[(.object "com/example/mulock/mulock/sql/SqlDatabase"), (.object "java/lang/String"), .int, (.object "java/lang/String"), (.object "java/lang/String"), (.object "java/lang/String")]
  staticTypes := #[(.object "java/util/Set")]
  resolved := Array.replicate 247 none
  statics := none }

def pool14 : Array CpInfo := pool [(1, .class_ 2), (0, u "java/lang/Appendable"), (0, .class_ 4), (0, u "java/lang/Object")] 9

/-- java/lang/Appendable -/
def k14 : Class := { plain "java/lang/Appendable" (some 0) with
  accessFlags := 1537
  interfaces := #[]
  cf := some (fileOf pool14 1 #[] #[] 1537 3 #[] #[])
  fields := #[]
  methods := #[]
  instanceTypes := #[]
  staticTypes := #[]
  resolved := Array.replicate 14 none
  statics := none }

def pool15 : Array CpInfo := pool [(1, .class_ 2), (0, u "java/lang/String"), (0, .methodref 4 5), (0, .class_ 6), (0, .nameAndType 7 8), (0, u "java/lang/Object"), (0, u "<init>"), (0, u "()V"), (1, .class_ 12), (1, u "java/lang/AbstractStringBuilder"), (0, u "EMPTYVALUE"), (0, u "[B"), (0, .fieldref 10 16), (0, .nameAndType 17 14), (0, u "value"), (0, .fieldref 1 19), (0, .nameAndType 20 21), (0, u "COMPACT_STRINGS"), (0, u "Z"), (0, .fieldref 10 23), (0, .nameAndType 24 25), (0, u "coder"), (0, u "B"), (6, .methodref 1 33), (0, .nameAndType 34 35), (0, u "length"), (0, u "()I"), (0, .class_ 37), (0, u "java/lang/Integer"), (1, .integer 2147483647), (0, .methodref 1 41), (0, .nameAndType 24 42), (0, u "()B"), (2, u "append"), (0, u "(Ljava/lang/String;)Ljava/lang/AbstractStringBuilder;"), (1, .class_ 49), (0, u "java/lang/CharSequence"), (19, u "(Ljava/lang/String;)V"), (5, u "maybeLatin1"), (3, .fieldref 10 80), (0, .nameAndType 81 82), (0, u "count"), (0, u "I"), (0, .methodref 10 84), (0, .nameAndType 85 86), (0, u "isLatin1"), (0, u "()Z"), (13, .methodref 10 101), (0, .nameAndType 102 103), (0, u "ensureCapacityInternal"), (0, u "(I)V"), (0, .methodref 10 105), (0, .nameAndType 106 107), (0, u "newCapacity"), (0, u "(I)I"), (0, .methodref 109 110), (0, .class_ 111), (0, .nameAndType 112 113), (0, u "java/util/Arrays"), (0, u "copyOf"), (0, u "([BI)[B"), (0, .methodref 115 116), (0, .class_ 117), (0, .nameAndType 118 119), (0, u "jdk/internal/util/ArraysSupport"), (0, u "newLength"), (0, u "(III)I"), (68, u "getChars"), (19, .methodref 10 209), (0, .nameAndType 210 211), (0, u "putStringAt"), (0, u "(ILjava/lang/String;)V"), (5, u "inflateIfNeededFor"), (2, .nameAndType 221 222), (0, u "getBytes"), (0, u "([BIB)V"), (22, .methodref 36 246), (0, .nameAndType 247 107), (0, u "stringSize"), (0, .methodref 36 249), (0, .nameAndType 188 250), (0, u "(II[B)I"), (146, .methodref 10 398), (0, .nameAndType 217 69), (0, .methodref 1 220), (3, u "()[B"), (40, .class_ 445), (0, u "java/lang/Appendable"), (65, u "(I)Ljava/lang/AbstractStringBuilder;"), (40, u "getValue")] 56

def k15m0 : Method := { name := "<init>", desc := "()V", sig := { parameters := [], returnType := none }, accessFlags := 0, code := none }
def k15c1 : Code := { maxStack := 2, maxLocals := 2, code := jdk_68_method_2_code, exceptionTable := #[], attributes := #[] }
def k15m1 : Method := { name := "<init>", desc := "(I)V", sig := { parameters := [.int], returnType := none }, accessFlags := 0, code := some k15c1 }
def k15c2 : Code := { maxStack := 1, maxLocals := 1, code := jdk_68_method_6_code, exceptionTable := #[], attributes := #[] }
def k15m2 : Method := { name := "length", desc := "()I", sig := { parameters := [], returnType := some .int }, accessFlags := 1, code := some k15c2 }
def k15c3 : Code := { maxStack := 4, maxLocals := 3, code := jdk_68_method_9_code, exceptionTable := #[], attributes := #[] }
def k15m3 : Method := { name := "ensureCapacityInternal", desc := "(I)V", sig := { parameters := [.int], returnType := none }, accessFlags := 2, code := some k15c3 }
def k15c4 : Code := { maxStack := 5, maxLocals := 6, code := jdk_68_method_10_code, exceptionTable := #[], attributes := #[] }
def k15m4 : Method := { name := "newCapacity", desc := "(I)I", sig := { parameters := [.int], returnType := some .int }, accessFlags := 2, code := some k15c4 }
def k15c5 : Code := { maxStack := 3, maxLocals := 3, code := jdk_68_method_22_code, exceptionTable := #[], attributes := #[] }
def k15m5 : Method := { name := "append", desc := "(Ljava/lang/String;)Ljava/lang/AbstractStringBuilder;", sig := { parameters := [(.object "java/lang/String")], returnType := some (.object "java/lang/AbstractStringBuilder") }, accessFlags := 1, code := some k15c5 }
def k15c6 : Code := { maxStack := 4, maxLocals := 4, code := jdk_68_method_32_code, exceptionTable := #[], attributes := #[] }
def k15m6 : Method := { name := "append", desc := "(I)Ljava/lang/AbstractStringBuilder;", sig := { parameters := [.int], returnType := some (.object "java/lang/AbstractStringBuilder") }, accessFlags := 1, code := some k15c6 }
def k15c7 : Code := { maxStack := 1, maxLocals := 1, code := jdk_68_method_64_code, exceptionTable := #[], attributes := #[] }
def k15m7 : Method := { name := "getValue", desc := "()[B", sig := { parameters := [], returnType := some (.array .byte) }, accessFlags := 16, code := some k15c7 }
def k15c8 : Code := { maxStack := 1, maxLocals := 1, code := jdk_68_method_68_code, exceptionTable := #[], attributes := #[] }
def k15m8 : Method := { name := "isLatin1", desc := "()Z", sig := { parameters := [], returnType := some .boolean }, accessFlags := 16, code := some k15c8 }
def k15c9 : Code := { maxStack := 2, maxLocals := 2, code := jdk_68_method_71_code, exceptionTable := #[], attributes := #[] }
def k15m9 : Method := { name := "inflateIfNeededFor", desc := "(Ljava/lang/String;)V", sig := { parameters := [(.object "java/lang/String")], returnType := none }, accessFlags := 2, code := some k15c9 }
def k15c10 : Code := { maxStack := 4, maxLocals := 3, code := jdk_68_method_73_code, exceptionTable := #[], attributes := #[] }
def k15m10 : Method := { name := "putStringAt", desc := "(ILjava/lang/String;)V", sig := { parameters := [.int, (.object "java/lang/String")], returnType := none }, accessFlags := 2, code := some k15c10 }
/-- java/lang/AbstractStringBuilder -/
def k15 : Class := { plain "java/lang/AbstractStringBuilder" (some 0) with
  accessFlags := 1056
  interfaces := #[14, 7]
  cf := some (fileOf pool15 10 #[] #[{ accessFlags := 0, nameIndex := 7, descriptorIndex := 8, attributes := #[] }, { accessFlags := 0, nameIndex := 7, descriptorIndex := 103, attributes := #[] }, { accessFlags := 1, nameIndex := 34, descriptorIndex := 35, attributes := #[] }, { accessFlags := 2, nameIndex := 102, descriptorIndex := 103, attributes := #[] }, { accessFlags := 2, nameIndex := 106, descriptorIndex := 107, attributes := #[] }, { accessFlags := 1, nameIndex := 45, descriptorIndex := 46, attributes := #[] }, { accessFlags := 1, nameIndex := 45, descriptorIndex := 511, attributes := #[] }, { accessFlags := 16, nameIndex := 552, descriptorIndex := 403, attributes := #[] }, { accessFlags := 16, nameIndex := 85, descriptorIndex := 86, attributes := #[] }, { accessFlags := 2, nameIndex := 217, descriptorIndex := 69, attributes := #[] }, { accessFlags := 2, nameIndex := 210, descriptorIndex := 211, attributes := #[] }] 1056 4 #[444, 48] #[{ accessFlags := 0, nameIndex := 17, descriptorIndex := 14, attributes := #[] }, { accessFlags := 0, nameIndex := 24, descriptorIndex := 25, attributes := #[] }, { accessFlags := 0, nameIndex := 75, descriptorIndex := 21, attributes := #[] }, { accessFlags := 0, nameIndex := 81, descriptorIndex := 82, attributes := #[] }, { accessFlags := 26, nameIndex := 13, descriptorIndex := 14, attributes := #[] }])
  fields := #[{ name := "value", type := (.array .byte), accessFlags := 0, slot := 0, constantValue := 0 }, { name := "coder", type := .byte, accessFlags := 0, slot := 1, constantValue := 0 }, { name := "maybeLatin1", type := .boolean, accessFlags := 0, slot := 2, constantValue := 0 }, { name := "count", type := .int, accessFlags := 0, slot := 3, constantValue := 0 }, { name := "EMPTYVALUE", type := (.array .byte), accessFlags := 26, slot := 0, constantValue := 0 }]
  methods := #[k15m0, k15m1, k15m2, k15m3, k15m4, k15m5, k15m6, k15m7, k15m8, k15m9, k15m10]
  instanceTypes := #[(.array .byte), .byte, .boolean, .int]
  staticTypes := #[(.array .byte)]
  resolved := Array.replicate 609 none
  statics := none }

def pool16 : Array CpInfo := pool [(1, .methodref 2 3), (0, .class_ 4), (0, .nameAndType 5 6), (0, u "java/lang/AbstractStringBuilder"), (0, u "<init>"), (0, u "(I)V"), (11, .class_ 20), (1, u "java/lang/String"), (3, .class_ 26), (1, u "java/lang/StringBuilder"), (0, u "append"), (0, u "(Ljava/lang/String;)Ljava/lang/StringBuilder;"), (0, .methodref 2 30), (0, .nameAndType 27 31), (0, u "(Ljava/lang/String;)Ljava/lang/AbstractStringBuilder;"), (21, .methodref 2 54), (0, .nameAndType 27 55), (0, u "(I)Ljava/lang/AbstractStringBuilder;"), (81, .methodref 18 138), (0, .nameAndType 5 139), (0, u "(Ljava/lang/StringBuilder;)V"), (5, u "()V"), (10, u "()I"), (111, u "(I)Ljava/lang/StringBuilder;"), (74, .methodref 2 344), (0, .nameAndType 345 156), (0, u "length"), (3, .class_ 350), (0, u "java/lang/Appendable"), (0, .class_ 352), (0, u "java/io/Serializable"), (0, .class_ 354), (0, u "java/lang/Comparable"), (0, .class_ 356), (0, u "java/lang/CharSequence"), (0, u "serialVersionUID"), (0, u "J"), (40, u "toString"), (0, u "()Ljava/lang/String;")] 21

def k16c0 : Code := { maxStack := 2, maxLocals := 1, code := jdk_67_method_1_code, exceptionTable := #[], attributes := #[] }
def k16m0 : Method := { name := "<init>", desc := "()V", sig := { parameters := [], returnType := none }, accessFlags := 1, code := some k16c0 }
def k16c1 : Code := { maxStack := 2, maxLocals := 2, code := jdk_67_method_7_code, exceptionTable := #[], attributes := #[] }
def k16m1 : Method := { name := "append", desc := "(Ljava/lang/String;)Ljava/lang/StringBuilder;", sig := { parameters := [(.object "java/lang/String")], returnType := some (.object "java/lang/StringBuilder") }, accessFlags := 1, code := some k16c1 }
def k16c2 : Code := { maxStack := 2, maxLocals := 2, code := jdk_67_method_15_code, exceptionTable := #[], attributes := #[] }
def k16m2 : Method := { name := "append", desc := "(I)Ljava/lang/StringBuilder;", sig := { parameters := [.int], returnType := some (.object "java/lang/StringBuilder") }, accessFlags := 1, code := some k16c2 }
def k16c3 : Code := { maxStack := 3, maxLocals := 1, code := jdk_67_method_42_code, exceptionTable := #[], attributes := #[] }
def k16m3 : Method := { name := "toString", desc := "()Ljava/lang/String;", sig := { parameters := [], returnType := some (.object "java/lang/String") }, accessFlags := 1, code := some k16c3 }
def k16c4 : Code := { maxStack := 1, maxLocals := 1, code := jdk_67_method_93_code, exceptionTable := #[], attributes := #[] }
def k16m4 : Method := { name := "length", desc := "()I", sig := { parameters := [], returnType := some .int }, accessFlags := 4161, code := some k16c4 }
/-- java/lang/StringBuilder -/
def k16 : Class := { plain "java/lang/StringBuilder" (some 15) with
  accessFlags := 49
  interfaces := #[14, 4, 3, 7]
  cf := some (fileOf pool16 24 #[] #[{ accessFlags := 1, nameIndex := 5, descriptorIndex := 145, attributes := #[] }, { accessFlags := 1, nameIndex := 27, descriptorIndex := 28, attributes := #[] }, { accessFlags := 1, nameIndex := 27, descriptorIndex := 268, attributes := #[] }, { accessFlags := 1, nameIndex := 399, descriptorIndex := 400, attributes := #[] }, { accessFlags := 4161, nameIndex := 345, descriptorIndex := 156, attributes := #[] }] 49 2 #[349, 351, 353, 355] #[{ accessFlags := 24, nameIndex := 357, descriptorIndex := 358, attributes := #[] }])
  fields := #[{ name := "serialVersionUID", type := .long, accessFlags := 24, slot := 0, constantValue := 0 }]
  methods := #[k16m0, k16m1, k16m2, k16m3, k16m4]
  instanceTypes := #[(.array .byte), .byte, .boolean, .int]
  staticTypes := #[.long]
  resolved := Array.replicate 422 none
  statics := none }

def pool17 : Array CpInfo := pool [(2, .class_ 4), (1, u "java/lang/Object"), (0, u "<init>"), (0, u "()V"), (1, .class_ 10), (1, u "java/lang/System"), (0, u "allowSecurityManager"), (0, u "I"), (16, u "cons"), (0, u "Ljava/io/Console;"), (77, .class_ 110), (1, u "java/lang/System$CallersHolder"), (43, u "initialErrStream"), (0, u "Ljava/io/PrintStream;"), (19, u "security"), (0, u "Ljava/lang/SecurityManager;"), (31, .class_ 209), (0, u "java/lang/System$1"), (7, u "props"), (0, u "Ljava/util/Properties;"), (2, u "lineSeparator"), (0, u "Ljava/lang/String;"), (96, .class_ 321), (1, u "java/lang/System$LoggerFinder"), (5, .class_ 328), (0, u "java/lang/System$Logger"), (67, u "err"), (2, u "out"), (91, u "notSupportedJnuEncoding"), (15, u "in"), (17, u "initialIn"), (0, u "Ljava/io/InputStream;"), (35, u "bootLayer"), (0, u "Ljava/lang/ModuleLayer;"), (99, .class_ 664), (0, u "java/lang/System$2"), (9, u "NEVER"), (2, u "MAYBE"), (49, u "arraycopy"), (0, u "(Ljava/lang/Object;ILjava/lang/Object;II)V"), (72, .class_ 802), (0, u "java/lang/System$Logger$Level")] 31

def k17m0 : Method := { name := "<init>", desc := "()V", sig := { parameters := [], returnType := none }, accessFlags := 2, code := none }
def k17m1 : Method := { name := "arraycopy", desc := "(Ljava/lang/Object;ILjava/lang/Object;II)V", sig := { parameters := [(.object "java/lang/Object"), .int, (.object "java/lang/Object"), .int, .int], returnType := none }, accessFlags := 265, code := none }
/-- java/lang/System -/
def k17 : Class := { plain "java/lang/System" (some 0) with
  accessFlags := 49
  interfaces := #[]
  cf := some (fileOf pool17 8 #[.nestMembers #[319, 327, 801, 108, 663, 208]] #[{ accessFlags := 2, nameIndex := 5, descriptorIndex := 6, attributes := #[] }, { accessFlags := 265, nameIndex := 727, descriptorIndex := 728, attributes := #[] }] 49 2 #[] #[{ accessFlags := 25, nameIndex := 507, descriptorIndex := 526, attributes := #[] }, { accessFlags := 25, nameIndex := 399, descriptorIndex := 155, attributes := #[] }, { accessFlags := 25, nameIndex := 396, descriptorIndex := 155, attributes := #[] }, { accessFlags := 10, nameIndex := 525, descriptorIndex := 526, attributes := #[] }, { accessFlags := 26, nameIndex := 674, descriptorIndex := 12, attributes := #[] }, { accessFlags := 26, nameIndex := 677, descriptorIndex := 12, attributes := #[] }, { accessFlags := 10, nameIndex := 11, descriptorIndex := 12, attributes := #[] }, { accessFlags := 74, nameIndex := 175, descriptorIndex := 176, attributes := #[] }, { accessFlags := 10, nameIndex := 491, descriptorIndex := 222, attributes := #[] }, { accessFlags := 74, nameIndex := 29, descriptorIndex := 30, attributes := #[] }, { accessFlags := 74, nameIndex := 154, descriptorIndex := 155, attributes := #[] }, { accessFlags := 10, nameIndex := 217, descriptorIndex := 218, attributes := #[] }, { accessFlags := 10, nameIndex := 221, descriptorIndex := 222, attributes := #[] }, { accessFlags := 8, nameIndex := 562, descriptorIndex := 563, attributes := #[] }])
  fields := #[{ name := "in", type := (.object "java/io/InputStream"), accessFlags := 25, slot := 0, constantValue := 0 }, { name := "out", type := (.object "java/io/PrintStream"), accessFlags := 25, slot := 1, constantValue := 0 }, { name := "err", type := (.object "java/io/PrintStream"), accessFlags := 25, slot := 2, constantValue := 0 }, { name := "initialIn", type := (.object "java/io/InputStream"), accessFlags := 10, slot := 3, constantValue := 0 }, { name := "NEVER", type := .int, accessFlags := 26, slot := 4, constantValue := 0 }, { name := "MAYBE", type := .int, accessFlags := 26, slot := 5, constantValue := 0 }, { name := "allowSecurityManager", type := .int, accessFlags := 10, slot := 6, constantValue := 0 }, { name := "security", type := (.object "java/lang/SecurityManager"), accessFlags := 74, slot := 7, constantValue := 0 }, { name := "notSupportedJnuEncoding", type := (.object "java/lang/String"), accessFlags := 10, slot := 8, constantValue := 0 }, { name := "cons", type := (.object "java/io/Console"), accessFlags := 74, slot := 9, constantValue := 0 }, { name := "initialErrStream", type := (.object "java/io/PrintStream"), accessFlags := 74, slot := 10, constantValue := 0 }, { name := "props", type := (.object "java/util/Properties"), accessFlags := 10, slot := 11, constantValue := 0 }, { name := "lineSeparator", type := (.object "java/lang/String"), accessFlags := 10, slot := 12, constantValue := 0 }, { name := "bootLayer", type := (.object "java/lang/ModuleLayer"), accessFlags := 8, slot := 13, constantValue := 0 }]
  methods := #[k17m0, k17m1]
  instanceTypes := #[]
  staticTypes := #[(.object "java/io/InputStream"), (.object "java/io/PrintStream"), (.object "java/io/PrintStream"), (.object "java/io/InputStream"), .int, .int, .int, (.object "java/lang/SecurityManager"), (.object "java/lang/String"), (.object "java/io/Console"), (.object "java/io/PrintStream"), (.object "java/util/Properties"), (.object "java/lang/String"), (.object "java/lang/ModuleLayer")]
  resolved := Array.replicate 834 none
  statics := none }

def pool18 : Array CpInfo := pool [(9, u "<init>"), (6, .class_ 18), (1, u "java/lang/Object"), (0, u "()V"), (1, .class_ 23), (1, u "jdk/internal/util/ArraysSupport"), (0, u "LOG2_ARRAY_LONG_INDEX_SCALE"), (0, u "I"), (2, u "U"), (0, u "Ljdk/internal/misc/Unsafe;"), (8, u "BIG_ENDIAN"), (0, u "Z"), (8, u "LOG2_BYTE_BIT_SIZE"), (4, u "LOG2_ARRAY_INT_INDEX_SCALE"), (54, u "JLA"), (0, u "Ljdk/internal/access/JavaLangAccess;"), (11, u "LOG2_ARRAY_BOOLEAN_INDEX_SCALE"), (9, u "LOG2_ARRAY_BYTE_INDEX_SCALE"), (5, u "LOG2_ARRAY_CHAR_INDEX_SCALE"), (5, u "LOG2_ARRAY_SHORT_INDEX_SCALE"), (18, u "LOG2_ARRAY_FLOAT_INDEX_SCALE"), (24, u "LOG2_ARRAY_DOUBLE_INDEX_SCALE"), (6, .methodref 195 196), (0, .class_ 197), (0, .nameAndType 198 199), (0, u "java/lang/Math"), (0, u "max"), (0, u "(II)I"), (0, .integer 2147483639), (76, u "T_BOOLEAN"), (2, u "T_CHAR"), (1, u "T_FLOAT"), (1, u "T_DOUBLE"), (1, u "T_BYTE"), (1, u "T_SHORT"), (1, u "T_INT"), (1, u "T_LONG"), (1, u "SOFT_MAX_ARRAY_LENGTH"), (56, u "newLength"), (0, u "(III)I")] 25

def k18m0 : Method := { name := "<init>", desc := "()V", sig := { parameters := [], returnType := none }, accessFlags := 2, code := none }
def k18c1 : Code := { maxStack := 3, maxLocals := 4, code := jdk_48_method_27_code, exceptionTable := #[], attributes := #[] }
def k18m1 : Method := { name := "newLength", desc := "(III)I", sig := { parameters := [.int, .int, .int], returnType := some .int }, accessFlags := 9, code := some k18c1 }
/-- jdk/internal/util/ArraysSupport -/
def k18 : Class := { plain "jdk/internal/util/ArraysSupport" (some 0) with
  accessFlags := 33
  interfaces := #[]
  cf := some (fileOf pool18 21 #[] #[{ accessFlags := 2, nameIndex := 9, descriptorIndex := 19, attributes := #[] }, { accessFlags := 9, nameIndex := 351, descriptorIndex := 352, attributes := #[] }] 33 16 #[] #[{ accessFlags := 24, nameIndex := 28, descriptorIndex := 29, attributes := #[] }, { accessFlags := 26, nameIndex := 38, descriptorIndex := 39, attributes := #[] }, { accessFlags := 25, nameIndex := 121, descriptorIndex := 25, attributes := #[] }, { accessFlags := 25, nameIndex := 131, descriptorIndex := 25, attributes := #[] }, { accessFlags := 25, nameIndex := 137, descriptorIndex := 25, attributes := #[] }, { accessFlags := 25, nameIndex := 143, descriptorIndex := 25, attributes := #[] }, { accessFlags := 25, nameIndex := 53, descriptorIndex := 25, attributes := #[] }, { accessFlags := 25, nameIndex := 24, descriptorIndex := 25, attributes := #[] }, { accessFlags := 25, nameIndex := 162, descriptorIndex := 25, attributes := #[] }, { accessFlags := 25, nameIndex := 187, descriptorIndex := 25, attributes := #[] }, { accessFlags := 26, nameIndex := 48, descriptorIndex := 25, attributes := #[] }, { accessFlags := 25, nameIndex := 277, descriptorIndex := 25, attributes := #[] }, { accessFlags := 25, nameIndex := 280, descriptorIndex := 25, attributes := #[] }, { accessFlags := 25, nameIndex := 282, descriptorIndex := 25, attributes := #[] }, { accessFlags := 25, nameIndex := 284, descriptorIndex := 25, attributes := #[] }, { accessFlags := 25, nameIndex := 286, descriptorIndex := 25, attributes := #[] }, { accessFlags := 25, nameIndex := 288, descriptorIndex := 25, attributes := #[] }, { accessFlags := 25, nameIndex := 290, descriptorIndex := 25, attributes := #[] }, { accessFlags := 25, nameIndex := 292, descriptorIndex := 25, attributes := #[] }, { accessFlags := 26, nameIndex := 108, descriptorIndex := 109, attributes := #[] }, { accessFlags := 25, nameIndex := 294, descriptorIndex := 25, attributes := #[] }])
  fields := #[{ name := "U", type := (.object "jdk/internal/misc/Unsafe"), accessFlags := 24, slot := 0, constantValue := 0 }, { name := "BIG_ENDIAN", type := .boolean, accessFlags := 26, slot := 1, constantValue := 0 }, { name := "LOG2_ARRAY_BOOLEAN_INDEX_SCALE", type := .int, accessFlags := 25, slot := 2, constantValue := 0 }, { name := "LOG2_ARRAY_BYTE_INDEX_SCALE", type := .int, accessFlags := 25, slot := 3, constantValue := 0 }, { name := "LOG2_ARRAY_CHAR_INDEX_SCALE", type := .int, accessFlags := 25, slot := 4, constantValue := 0 }, { name := "LOG2_ARRAY_SHORT_INDEX_SCALE", type := .int, accessFlags := 25, slot := 5, constantValue := 0 }, { name := "LOG2_ARRAY_INT_INDEX_SCALE", type := .int, accessFlags := 25, slot := 6, constantValue := 0 }, { name := "LOG2_ARRAY_LONG_INDEX_SCALE", type := .int, accessFlags := 25, slot := 7, constantValue := 0 }, { name := "LOG2_ARRAY_FLOAT_INDEX_SCALE", type := .int, accessFlags := 25, slot := 8, constantValue := 0 }, { name := "LOG2_ARRAY_DOUBLE_INDEX_SCALE", type := .int, accessFlags := 25, slot := 9, constantValue := 0 }, { name := "LOG2_BYTE_BIT_SIZE", type := .int, accessFlags := 26, slot := 10, constantValue := 0 }, { name := "T_BOOLEAN", type := .int, accessFlags := 25, slot := 11, constantValue := 0 }, { name := "T_CHAR", type := .int, accessFlags := 25, slot := 12, constantValue := 0 }, { name := "T_FLOAT", type := .int, accessFlags := 25, slot := 13, constantValue := 0 }, { name := "T_DOUBLE", type := .int, accessFlags := 25, slot := 14, constantValue := 0 }, { name := "T_BYTE", type := .int, accessFlags := 25, slot := 15, constantValue := 0 }, { name := "T_SHORT", type := .int, accessFlags := 25, slot := 16, constantValue := 0 }, { name := "T_INT", type := .int, accessFlags := 25, slot := 17, constantValue := 0 }, { name := "T_LONG", type := .int, accessFlags := 25, slot := 18, constantValue := 0 }, { name := "JLA", type := (.object "jdk/internal/access/JavaLangAccess"), accessFlags := 26, slot := 19, constantValue := 0 }, { name := "SOFT_MAX_ARRAY_LENGTH", type := .int, accessFlags := 25, slot := 20, constantValue := 0 }]
  methods := #[k18m0, k18m1]
  instanceTypes := #[]
  staticTypes := #[(.object "jdk/internal/misc/Unsafe"), .boolean, .int, .int, .int, .int, .int, .int, .int, .int, .int, .int, .int, .int, .int, .int, .int, .int, .int, (.object "jdk/internal/access/JavaLangAccess"), .int]
  resolved := Array.replicate 378 none
  statics := none }

def pool19 : Array CpInfo := pool [(1, .class_ 2), (0, u "java/lang/Math"), (1, .class_ 6), (1, u "java/lang/Object"), (0, u "<init>"), (0, u "()V"), (89, .class_ 100), (1, u "java/lang/Math$RandomNumberGeneratorHolder"), (71, u "negativeZeroFloatBits"), (0, u "J"), (2, u "negativeZeroDoubleBits"), (21, u "max"), (2, u "min"), (43, u "$assertionsDisabled"), (0, u "Z"), (88, u "(II)I"), (2, u "twoToTheDoubleScaleDown"), (0, u "D"), (4, u "twoToTheDoubleScaleUp"), (9, u "E"), (3, u "PI"), (2, u "TAU"), (2, u "DEGREES_TO_RADIANS"), (0, u "RADIANS_TO_DEGREES")] 94

def k19m0 : Method := { name := "<init>", desc := "()V", sig := { parameters := [], returnType := none }, accessFlags := 2, code := none }
def k19c1 : Code := { maxStack := 2, maxLocals := 2, code := jdk_29_method_65_code, exceptionTable := #[], attributes := #[] }
def k19m1 : Method := { name := "max", desc := "(II)I", sig := { parameters := [.int, .int], returnType := some .int }, accessFlags := 9, code := some k19c1 }
def k19c2 : Code := { maxStack := 2, maxLocals := 2, code := jdk_29_method_69_code, exceptionTable := #[], attributes := #[] }
def k19m2 : Method := { name := "min", desc := "(II)I", sig := { parameters := [.int, .int], returnType := some .int }, accessFlags := 9, code := some k19c2 }
/-- java/lang/Math -/
def k19 : Class := { plain "java/lang/Math" (some 0) with
  accessFlags := 49
  interfaces := #[]
  cf := some (fileOf pool19 1 #[.nestMembers #[98]] #[{ accessFlags := 2, nameIndex := 7, descriptorIndex := 8, attributes := #[] }, { accessFlags := 9, nameIndex := 198, descriptorIndex := 335, attributes := #[] }, { accessFlags := 9, nameIndex := 201, descriptorIndex := 335, attributes := #[] }] 49 4 #[] #[{ accessFlags := 25, nameIndex := 354, descriptorIndex := 339, attributes := #[] }, { accessFlags := 25, nameIndex := 358, descriptorIndex := 339, attributes := #[] }, { accessFlags := 25, nameIndex := 361, descriptorIndex := 339, attributes := #[] }, { accessFlags := 26, nameIndex := 364, descriptorIndex := 339, attributes := #[] }, { accessFlags := 26, nameIndex := 365, descriptorIndex := 339, attributes := #[] }, { accessFlags := 26, nameIndex := 172, descriptorIndex := 173, attributes := #[] }, { accessFlags := 26, nameIndex := 176, descriptorIndex := 173, attributes := #[] }, { accessFlags := 8, nameIndex := 344, descriptorIndex := 339, attributes := #[] }, { accessFlags := 8, nameIndex := 338, descriptorIndex := 339, attributes := #[] }, { accessFlags := 4120, nameIndex := 245, descriptorIndex := 246, attributes := #[] }])
  fields := #[{ name := "E", type := .double, accessFlags := 25, slot := 0, constantValue := 0 }, { name := "PI", type := .double, accessFlags := 25, slot := 1, constantValue := 0 }, { name := "TAU", type := .double, accessFlags := 25, slot := 2, constantValue := 0 }, { name := "DEGREES_TO_RADIANS", type := .double, accessFlags := 26, slot := 3, constantValue := 0 }, { name := "RADIANS_TO_DEGREES", type := .double, accessFlags := 26, slot := 4, constantValue := 0 }, { name := "negativeZeroFloatBits", type := .long, accessFlags := 26, slot := 5, constantValue := 0 }, { name := "negativeZeroDoubleBits", type := .long, accessFlags := 26, slot := 6, constantValue := 0 }, { name := "twoToTheDoubleScaleUp", type := .double, accessFlags := 8, slot := 7, constantValue := 0 }, { name := "twoToTheDoubleScaleDown", type := .double, accessFlags := 8, slot := 8, constantValue := 0 }, { name := "$assertionsDisabled", type := .boolean, accessFlags := 4120, slot := 9, constantValue := 0 }]
  methods := #[k19m0, k19m1, k19m2]
  instanceTypes := #[]
  staticTypes := #[.double, .double, .double, .double, .double, .long, .long, .double, .double, .boolean]
  resolved := Array.replicate 460 none
  statics := none }

def pool20 : Array CpInfo := pool [(2, .class_ 4), (1, u "java/lang/Object"), (0, u "<init>"), (0, u "()V"), (7, .class_ 16), (1, u "java/util/Arrays"), (57, .class_ 76), (1, u "java/util/Arrays$NaturalOrder"), (32, u "()Ljava/lang/Object;"), (3, .class_ 115), (1, u "java/util/Arrays$LegacyMergeSort"), (1, u "Z"), (10, .nameAndType 129 109), (0, u "clone"), (9, u "copyOfRange"), (10, .methodref 151 152), (0, .class_ 153), (0, .nameAndType 154 155), (0, u "java/lang/System"), (0, u "arraycopy"), (0, u "(Ljava/lang/Object;ILjava/lang/Object;II)V"), (146, u "copyOf"), (1, .methodref 305 306), (0, .class_ 307), (0, .nameAndType 308 309), (0, u "java/lang/Math"), (0, u "min"), (0, u "(II)I"), (0, .methodref 311 128), (0, .class_ 312), (0, u "[B"), (26, .methodref 14 340), (0, .nameAndType 341 342), (0, u "copyOfRangeByte"), (0, u "([BII)[B"), (0, .methodref 14 344), (0, .nameAndType 345 346), (0, u "checkLength"), (0, u "(II)V"), (28, .class_ 376), (0, u "java/util/Arrays$ArrayList"), (68, u "$assertionsDisabled"), (269, u "MIN_ARRAY_SORT_GRAN"), (0, u "I"), (2, u "INSERTIONSORT_THRESHOLD"), (149, u "([BI)[B"), (105, .class_ 976), (0, u "java/util/Arrays$ArrayItr")] 52

def k20m0 : Method := { name := "<init>", desc := "()V", sig := { parameters := [], returnType := none }, accessFlags := 2, code := none }
def k20c1 : Code := { maxStack := 6, maxLocals := 3, code := jdk_65_method_121_code, exceptionTable := #[], attributes := #[] }
def k20m1 : Method := { name := "copyOf", desc := "([BI)[B", sig := { parameters := [(.array .byte), .int], returnType := some (.array .byte) }, accessFlags := 9, code := some k20c1 }
def k20c2 : Code := { maxStack := 4, maxLocals := 2, code := jdk_65_method_131_code, exceptionTable := #[], attributes := #[] }
def k20m2 : Method := { name := "checkLength", desc := "(II)V", sig := { parameters := [.int, .int], returnType := none }, accessFlags := 10, code := some k20c2 }
def k20c3 : Code := { maxStack := 3, maxLocals := 3, code := jdk_65_method_132_code, exceptionTable := #[], attributes := #[] }
def k20m3 : Method := { name := "copyOfRange", desc := "([BII)[B", sig := { parameters := [(.array .byte), .int, .int], returnType := some (.array .byte) }, accessFlags := 9, code := some k20c3 }
def k20c4 : Code := { maxStack := 6, maxLocals := 5, code := jdk_65_method_133_code, exceptionTable := #[], attributes := #[] }
def k20m4 : Method := { name := "copyOfRangeByte", desc := "([BII)[B", sig := { parameters := [(.array .byte), .int, .int], returnType := some (.array .byte) }, accessFlags := 10, code := some k20c4 }
/-- java/util/Arrays -/
def k20 : Class := { plain "java/util/Arrays" (some 0) with
  accessFlags := 49
  interfaces := #[]
  cf := some (fileOf pool20 14 #[.nestMembers #[975, 375, 113, 74]] #[{ accessFlags := 2, nameIndex := 5, descriptorIndex := 6, attributes := #[] }, { accessFlags := 9, nameIndex := 302, descriptorIndex := 869, attributes := #[] }, { accessFlags := 10, nameIndex := 345, descriptorIndex := 346, attributes := #[] }, { accessFlags := 9, nameIndex := 139, descriptorIndex := 342, attributes := #[] }, { accessFlags := 10, nameIndex := 341, descriptorIndex := 342, attributes := #[] }] 49 2 #[] #[{ accessFlags := 26, nameIndex := 715, descriptorIndex := 716, attributes := #[] }, { accessFlags := 26, nameIndex := 719, descriptorIndex := 716, attributes := #[] }, { accessFlags := 4120, nameIndex := 445, descriptorIndex := 117, attributes := #[] }])
  fields := #[{ name := "MIN_ARRAY_SORT_GRAN", type := .int, accessFlags := 26, slot := 0, constantValue := 0 }, { name := "INSERTIONSORT_THRESHOLD", type := .int, accessFlags := 26, slot := 1, constantValue := 0 }, { name := "$assertionsDisabled", type := .boolean, accessFlags := 4120, slot := 2, constantValue := 0 }]
  methods := #[k20m0, k20m1, k20m2, k20m3, k20m4]
  instanceTypes := #[]
  staticTypes := #[.int, .int, .boolean]
  resolved := Array.replicate 1029 none
  statics := none }

def pool21 : Array CpInfo := pool [(2, .class_ 4), (1, u "java/lang/Object"), (0, u "<init>"), (0, u "()V"), (1, .class_ 10), (1, u "java/lang/Number"), (2, .class_ 14), (0, u "java/io/Serializable"), (0, u "serialVersionUID"), (0, u "J")] 20

def k21m0 : Method := { name := "<init>", desc := "()V", sig := { parameters := [], returnType := none }, accessFlags := 1, code := none }
/-- java/lang/Number -/
def k21 : Class := { plain "java/lang/Number" (some 0) with
  accessFlags := 1057
  interfaces := #[4]
  cf := some (fileOf pool21 8 #[] #[{ accessFlags := 1, nameIndex := 5, descriptorIndex := 6, attributes := #[] }] 1057 2 #[13] #[{ accessFlags := 26, nameIndex := 15, descriptorIndex := 16, attributes := #[] }])
  fields := #[{ name := "serialVersionUID", type := .long, accessFlags := 26, slot := 0, constantValue := 0 }]
  methods := #[k21m0]
  instanceTypes := #[]
  staticTypes := #[.long]
  resolved := Array.replicate 37 none
  statics := none }

def pool22 : Array CpInfo := pool [(1, .class_ 2), (0, u "java/lang/Integer"), (16, u "digits"), (0, u "[C"), (33, u "(I)I"), (19, u "stringSize"), (2, u "getChars"), (0, u "(II[B)I"), (4, .fieldref 1 84), (0, .nameAndType 85 86), (0, u "DigitOnes"), (0, u "[B"), (0, .fieldref 1 88), (0, .nameAndType 89 86), (0, u "DigitTens"), (99, .class_ 190), (0, u "java/lang/Integer$IntegerCache"), (3, u "I"), (8, .class_ 204), (0, u "java/lang/Number"), (2, u "value"), (94, u "TYPE"), (0, u "Ljava/lang/Class;"), (0, .class_ 305), (0, u "java/lang/Comparable"), (0, .class_ 307), (0, u "java/lang/constant/Constable"), (0, .class_ 309), (0, u "java/lang/constant/ConstantDesc"), (0, u "MIN_VALUE"), (1, u "MAX_VALUE"), (3, u "SIZE"), (1, u "BYTES"), (1, u "serialVersionUID"), (0, u "J")] 131

def k22c0 : Code := { maxStack := 4, maxLocals := 7, code := jdk_33_method_12_code, exceptionTable := #[], attributes := #[] }
def k22m0 : Method := { name := "getChars", desc := "(II[B)I", sig := { parameters := [.int, .int, (.array .byte)], returnType := some .int }, accessFlags := 8, code := some k22c0 }
def k22c1 : Code := { maxStack := 2, maxLocals := 4, code := jdk_33_method_13_code, exceptionTable := #[], attributes := #[] }
def k22m1 : Method := { name := "stringSize", desc := "(I)I", sig := { parameters := [.int], returnType := some .int }, accessFlags := 8, code := some k22c1 }
/-- java/lang/Integer -/
def k22 : Class := { plain "java/lang/Integer" (some 21) with
  accessFlags := 49
  interfaces := #[3, 2, 8]
  cf := some (fileOf pool22 1 #[.nestMembers #[189]] #[{ accessFlags := 8, nameIndex := 77, descriptorIndex := 78, attributes := #[] }, { accessFlags := 8, nameIndex := 74, descriptorIndex := 54, attributes := #[] }] 49 203 #[304, 306, 308] #[{ accessFlags := 25, nameIndex := 310, descriptorIndex := 194, attributes := #[] }, { accessFlags := 25, nameIndex := 312, descriptorIndex := 194, attributes := #[] }, { accessFlags := 25, nameIndex := 302, descriptorIndex := 303, attributes := #[] }, { accessFlags := 24, nameIndex := 19, descriptorIndex := 20, attributes := #[] }, { accessFlags := 24, nameIndex := 89, descriptorIndex := 86, attributes := #[] }, { accessFlags := 24, nameIndex := 85, descriptorIndex := 86, attributes := #[] }, { accessFlags := 18, nameIndex := 207, descriptorIndex := 194, attributes := #[] }, { accessFlags := 25, nameIndex := 316, descriptorIndex := 194, attributes := #[] }, { accessFlags := 25, nameIndex := 318, descriptorIndex := 194, attributes := #[] }, { accessFlags := 26, nameIndex := 320, descriptorIndex := 321, attributes := #[] }])
  fields := #[{ name := "MIN_VALUE", type := .int, accessFlags := 25, slot := 0, constantValue := 0 }, { name := "MAX_VALUE", type := .int, accessFlags := 25, slot := 1, constantValue := 0 }, { name := "TYPE", type := (.object "java/lang/Class"), accessFlags := 25, slot := 2, constantValue := 0 }, { name := "digits", type := (.array .char), accessFlags := 24, slot := 3, constantValue := 0 }, { name := "DigitTens", type := (.array .byte), accessFlags := 24, slot := 4, constantValue := 0 }, { name := "DigitOnes", type := (.array .byte), accessFlags := 24, slot := 5, constantValue := 0 }, { name := "value", type := .int, accessFlags := 18, slot := 0, constantValue := 0 }, { name := "SIZE", type := .int, accessFlags := 25, slot := 6, constantValue := 0 }, { name := "BYTES", type := .int, accessFlags := 25, slot := 7, constantValue := 0 }, { name := "serialVersionUID", type := .long, accessFlags := 26, slot := 8, constantValue := 0 }]
  methods := #[k22m0, k22m1]
  instanceTypes := #[.int]
  staticTypes := #[.int, .int, (.object "java/lang/Class"), (.array .char), (.array .byte), (.array .byte), .int, .int, .long]
  resolved := Array.replicate 453 none
  statics := some 2 }

def pool23 : Array CpInfo := pool [(2, .class_ 4), (1, u "java/lang/Object"), (0, u "<init>"), (0, u "()V"), (17, .class_ 26), (1, u "jdk/internal/util/Preconditions"), (6, u "checkIndex"), (21, .class_ 56), (0, u "jdk/internal/util/Preconditions$4"), (57, .class_ 115), (0, u "jdk/internal/util/Preconditions$1"), (7, u "SIOOBE_FORMATTER"), (0, u "Ljava/util/function/BiFunction;"), (0, .class_ 126), (0, u "jdk/internal/util/Preconditions$2"), (3, u "AIOOBE_FORMATTER"), (0, .class_ 132), (0, u "jdk/internal/util/Preconditions$3"), (3, u "IOOBE_FORMATTER"), (41, u "(IILjava/util/function/BiFunction;)I")] 15

def k23m0 : Method := { name := "<init>", desc := "()V", sig := { parameters := [], returnType := none }, accessFlags := 1, code := none }
def k23c1 : Code := { maxStack := 3, maxLocals := 3, code := jdk_41_method_11_code, exceptionTable := #[], attributes := #[] }
def k23m1 : Method := { name := "checkIndex", desc := "(IILjava/util/function/BiFunction;)I", sig := { parameters := [.int, .int, (.object "java/util/function/BiFunction")], returnType := some .int }, accessFlags := 9, code := some k23c1 }
/-- jdk/internal/util/Preconditions -/
def k23 : Class := { plain "jdk/internal/util/Preconditions" (some 0) with
  accessFlags := 33
  interfaces := #[]
  cf := some (fileOf pool23 24 #[.nestMembers #[55, 131, 125, 114]] #[{ accessFlags := 1, nameIndex := 5, descriptorIndex := 6, attributes := #[] }, { accessFlags := 9, nameIndex := 33, descriptorIndex := 178, attributes := #[] }] 33 2 #[] #[{ accessFlags := 25, nameIndex := 123, descriptorIndex := 124, attributes := #[] }, { accessFlags := 25, nameIndex := 130, descriptorIndex := 124, attributes := #[] }, { accessFlags := 25, nameIndex := 136, descriptorIndex := 124, attributes := #[] }])
  fields := #[{ name := "SIOOBE_FORMATTER", type := (.object "java/util/function/BiFunction"), accessFlags := 25, slot := 0, constantValue := 0 }, { name := "AIOOBE_FORMATTER", type := (.object "java/util/function/BiFunction"), accessFlags := 25, slot := 1, constantValue := 0 }, { name := "IOOBE_FORMATTER", type := (.object "java/util/function/BiFunction"), accessFlags := 25, slot := 2, constantValue := 0 }]
  methods := #[k23m0, k23m1]
  instanceTypes := #[]
  staticTypes := #[(.object "java/util/function/BiFunction"), (.object "java/util/function/BiFunction"), (.object "java/util/function/BiFunction")]
  resolved := Array.replicate 194 none
  statics := some 3 }

def pool24 : Array CpInfo := pool [(1, .class_ 2), (0, u "java/lang/Cloneable"), (0, .class_ 4), (0, u "java/lang/Object")] 2

/-- java/lang/Cloneable -/
def k24 : Class := { plain "java/lang/Cloneable" (some 0) with
  accessFlags := 1537
  interfaces := #[]
  cf := some (fileOf pool24 1 #[] #[] 1537 3 #[] #[])
  fields := #[]
  methods := #[]
  instanceTypes := #[]
  staticTypes := #[]
  resolved := Array.replicate 7 none
  statics := none }

/-- the primitive byte -/
def k25 : Class := { plain "byte" none with kind := .primitive 'B', accessFlags := 0x411 }
/-- [B -/
def k26 : Class := { plain "[B" (some 0) with kind := .array 25 .byte, interfaces := #[24, 4], accessFlags := 1041 }

/-- the primitive char -/
def k27 : Class := { plain "char" none with kind := .primitive 'C', accessFlags := 0x411 }
/-- [C -/
def k28 : Class := { plain "[C" (some 0) with kind := .array 27 .char, interfaces := #[24, 4], accessFlags := 1041 }

/-- the primitive int -/
def k29 : Class := { plain "int" none with kind := .primitive 'I', accessFlags := 0x411 }
/-- [I -/
def k30 : Class := { plain "[I" (some 0) with kind := .array 29 .int, interfaces := #[24, 4], accessFlags := 1041 }

def heap : Heap := #[{ cls := 6, slots := #[.ref 4, .ref 5, .null], vm := .statics 6 },
  { cls := 9, slots := #[.long 0, .int 1, .null, .int 0, .null, .int 0, .int 0], vm := .statics 9 },
  { cls := 22, slots := #[.int 0, .int 0, .null, .null, .ref 11, .ref 10, .int 0, .int 0, .long 0], vm := .statics 22 },
  { cls := 23, slots := #[.null, .null, .null], vm := .statics 23 },
  { cls := 6, slots := #[.null, .int 0, .int 0, .ref 6, .null, .int 5432], vm := .none },
  { cls := 6, slots := #[.null, .int 1, .int 0, .ref 7, .null, .int 3306], vm := .none },
  { cls := 9, slots := #[.ref 8, .int 0, .int 0, .int 0], vm := .none },
  { cls := 9, slots := #[.ref 9, .int 0, .int 0, .int 0], vm := .none },
  { cls := 26, slots := #[.int 80, .int 111, .int 115, .int 116, .int 103, .int 114, .int 101, .int 83, .int 81, .int 76], vm := .none },
  { cls := 26, slots := #[.int 77, .int 97, .int 114, .int 105, .int 97, .int 68, .int 66], vm := .none },
  { cls := 26, slots := #[.int 48, .int 49, .int 50, .int 51, .int 52, .int 53, .int 54, .int 55, .int 56, .int 57, .int 48, .int 49, .int 50, .int 51, .int 52, .int 53, .int 54, .int 55, .int 56, .int 57, .int 48, .int 49, .int 50, .int 51, .int 52, .int 53, .int 54, .int 55, .int 56, .int 57, .int 48, .int 49, .int 50, .int 51, .int 52, .int 53, .int 54, .int 55, .int 56, .int 57, .int 48, .int 49, .int 50, .int 51, .int 52, .int 53, .int 54, .int 55, .int 56, .int 57, .int 48, .int 49, .int 50, .int 51, .int 52, .int 53, .int 54, .int 55, .int 56, .int 57, .int 48, .int 49, .int 50, .int 51, .int 52, .int 53, .int 54, .int 55, .int 56, .int 57, .int 48, .int 49, .int 50, .int 51, .int 52, .int 53, .int 54, .int 55, .int 56, .int 57, .int 48, .int 49, .int 50, .int 51, .int 52, .int 53, .int 54, .int 55, .int 56, .int 57, .int 48, .int 49, .int 50, .int 51, .int 52, .int 53, .int 54, .int 55, .int 56, .int 57], vm := .none },
  { cls := 26, slots := #[.int 48, .int 48, .int 48, .int 48, .int 48, .int 48, .int 48, .int 48, .int 48, .int 48, .int 49, .int 49, .int 49, .int 49, .int 49, .int 49, .int 49, .int 49, .int 49, .int 49, .int 50, .int 50, .int 50, .int 50, .int 50, .int 50, .int 50, .int 50, .int 50, .int 50, .int 51, .int 51, .int 51, .int 51, .int 51, .int 51, .int 51, .int 51, .int 51, .int 51, .int 52, .int 52, .int 52, .int 52, .int 52, .int 52, .int 52, .int 52, .int 52, .int 52, .int 53, .int 53, .int 53, .int 53, .int 53, .int 53, .int 53, .int 53, .int 53, .int 53, .int 54, .int 54, .int 54, .int 54, .int 54, .int 54, .int 54, .int 54, .int 54, .int 54, .int 55, .int 55, .int 55, .int 55, .int 55, .int 55, .int 55, .int 55, .int 55, .int 55, .int 56, .int 56, .int 56, .int 56, .int 56, .int 56, .int 56, .int 56, .int 56, .int 56, .int 57, .int 57, .int 57, .int 57, .int 57, .int 57, .int 57, .int 57, .int 57, .int 57], vm := .none }]
def classes : Array Class := #[k0, k1, k2, k3, k4, k5, k6, k7, k8, k9, k10, k11, k12, k13, k14, k15, k16, k17, k18, k19, k20, k21, k22, k23, k24, k25, k26, k27, k28, k29, k30]
def interned : List (Array UInt16 × Addr) := []
def slotsUsed : Nat := 259
def theMethod : MethodId := ⟨1, 1⟩
def args0 : Array Value := #[.int 5, .int 6, .int 7, .int 8]
def aboutOver (below : List Frame) : State where
  vm := { classes := classes, interned := interned.toArray }
  heap := heap
  slotsUsed := slotsUsed
  threads := #[{ frames := .invoking theMethod args0 :: below }]
def below0 : List Frame := [.native { method := ⟨0, 0⟩, args := #[] }]
def about1 : State := aboutOver below0
def p0 : Program := .bare "" "" ""
def e0 : Env := launch0.env 0 0 0
theorem w_frames : about1.frames = Frame.invoking theMethod args0 :: below0 := rfl
set_option maxRecDepth 65536 in
theorem w_args : argsFit about1.vm theMethod args0 = true := by decide +kernel
set_option maxRecDepth 65536 in
theorem w_heap : heapFits about1 = true := by decide +kernel
set_option maxRecDepth 65536 in
theorem w_runnable : about1.curStatus? = some .runnable := by decide +kernel
set_option maxRecDepth 65536 in
theorem w_alone : about1.alone = true := by decide +kernel
set_option maxRecDepth 65536 in
theorem w_named : about1.methodNamed? x = some theMethod := by decide +kernel
set_option maxRecDepth 65536 in
theorem w_hears : about1.hears theMethod below0 = true := by decide +kernel
set_option maxRecDepth 65536 in
theorem w_ripe : about1.ripe theMethod args0 below0 = true := by decide +kernel
theorem w_running : about1.status = .running := rfl
set_option maxRecDepth 65536 in
theorem w_room : about1.hasRoom e0.platform room_1 = true :=
  launch0.hasRoom_least _ room_1 (by decide +kernel) (by decide +kernel) (by decide +kernel) (by decide +kernel) (by decide +kernel) (by decide +kernel)
theorem allAtoms_all (ts : List Jvm.Cond) (a : Array Jvm.Value) (st : Jvm.State) : (allAtoms ts).before a st = ts.all (fun c => c.before a st) := by
  induction ts with
  | nil => rfl
  | cons c t ih =>
    show (Jvm.Cond.and c (allAtoms t)).before a st = _
    rw [Jvm.Cond.before_and, ih, List.all_cons]
def words1 : List Jvm.Cond := Jvm.Cond.code x code maxLocals ret :: tables_1
/-- a 'code' word, met by the world's own term for the bytes: nothing is compared byte by byte -/
theorem code_word {y : MethodName} {bytes : ByteArray} {mx : Nat} {rt : Option FieldType} {a : Array Value} {s : State} {m : MethodId} {meth : Method} {c : Code} (h1 : s.methodNamed? y = some m) (h2 : s.vm.method? m = some meth) (h3 : meth.code = some c) (h4 : c.code = bytes)
    (h5 : (c.maxLocals == mx && c.exceptionTable.isEmpty && decide (c.maxStack ≤ mostOperands) && decide (meth.sig.returnType = rt) && !meth.locks && decide (parseMethodDescriptor y.desc = some meth.sig)) = true) : (Jvm.Cond.code y bytes mx rt).before a s = true := by
  simp only [Bool.and_eq_true, beq_iff_eq, Bool.not_eq_true', decide_eq_true_eq] at h5
  obtain ⟨⟨⟨⟨⟨g1, g2⟩, g3⟩, g4⟩, g5⟩, g6⟩ := h5
  simp [Cond.before, Cond.holds, Cond.value, h1, h2, h3, h4, g1, g2, g3, g4, g5, g6]
def isCode : Jvm.Cond → Bool
  | .code _ _ _ _ => true
  | _ => false
theorem all_split {L : List Jvm.Cond} {P : Jvm.Cond → Bool} (h1 : L.all (fun c => isCode c || P c) = true) (h2 : ∀ c ∈ L.filter isCode, P c = true) : L.all P = true := by
  refine List.all_eq_true.mpr fun c hc => ?_
  have h := List.all_eq_true.mp h1 c hc
  rcases Bool.eq_false_or_eq_true (isCode c) with hi | hi
  · exact h2 c (List.mem_filter.mpr ⟨hc, hi⟩)
  · simpa [hi] using h
set_option maxRecDepth 65536 in
theorem w_c0 : (Jvm.Cond.code x code maxLocals ret).before args0 about1 = true := code_word (m := ⟨1, 1⟩) (meth := k1m1) (c := k1c1) (by decide +kernel) rfl rfl rfl (by decide +kernel)
set_option maxRecDepth 65536 in
theorem w_c1 : (Jvm.Cond.code ({ cls := "java/lang/String", name := "<init>", desc := "([C)V" } : Jvm.MethodName) jdk_42_method_3_code (2 : Nat) (Option.none : Option Jvm.ClassFile.FieldType)).before args0 about1 = true := code_word (m := ⟨9, 1⟩) (meth := k9m1) (c := k9c1) (by decide +kernel) rfl rfl rfl (by decide +kernel)
set_option maxRecDepth 65536 in
theorem w_c2 : (Jvm.Cond.code ({ cls := "java/lang/String", name := "<init>", desc := "([CIILjava/lang/Void;)V" } : Jvm.MethodName) jdk_42_method_149_code (6 : Nat) (Option.none : Option Jvm.ClassFile.FieldType)).before args0 about1 = true := code_word (m := ⟨9, 7⟩) (meth := k9m7) (c := k9c7) (by decide +kernel) rfl rfl rfl (by decide +kernel)
set_option maxRecDepth 65536 in
theorem w_c3 : (Jvm.Cond.code ({ cls := "java/lang/Object", name := "<init>", desc := "()V" } : Jvm.MethodName) object_method_1_code (1 : Nat) (Option.none : Option Jvm.ClassFile.FieldType)).before args0 about1 = true := code_word (m := ⟨0, 0⟩) (meth := k0m0) (c := k0c0) (by decide +kernel) rfl rfl rfl (by decide +kernel)
set_option maxRecDepth 65536 in
theorem w_c4 : (Jvm.Cond.code ({ cls := "java/lang/StringUTF16", name := "compress", desc := "([CII)[B" } : Jvm.MethodName) jdk_52_method_16_code (6 : Nat) (Option.some (Jvm.ClassFile.FieldType.array Jvm.ClassFile.FieldType.byte))).before args0 about1 = true := code_word (m := ⟨10, 2⟩) (meth := k10m2) (c := k10c2) (by decide +kernel) rfl rfl rfl (by decide +kernel)
set_option maxRecDepth 65536 in
theorem w_c5 : (Jvm.Cond.code ({ cls := "java/lang/StringUTF16", name := "compress", desc := "([CI[BII)I" } : Jvm.MethodName) jdk_52_method_21_code (7 : Nat) (Option.some Jvm.ClassFile.FieldType.int)).before args0 about1 = true := code_word (m := ⟨10, 3⟩) (meth := k10m3) (c := k10c3) (by decide +kernel) rfl rfl rfl (by decide +kernel)
set_option maxRecDepth 65536 in
theorem w_c6 : (Jvm.Cond.code ({ cls := "java/lang/StringUTF16", name := "coderFromArrayLen", desc := "([BI)B" } : Jvm.MethodName) jdk_52_method_15_code (2 : Nat) (Option.some Jvm.ClassFile.FieldType.byte)).before args0 about1 = true := code_word (m := ⟨10, 1⟩) (meth := k10m1) (c := k10c1) (by decide +kernel) rfl rfl rfl (by decide +kernel)
set_option maxRecDepth 65536 in
theorem w_c7 : (Jvm.Cond.code ({ cls := "java/lang/String", name := "valueOf", desc := "(C)Ljava/lang/String;" } : Jvm.MethodName) jdk_42_method_139_code (1 : Nat) (Option.some (Jvm.ClassFile.FieldType.object "java/lang/String"))).before args0 about1 = true := code_word (m := ⟨9, 5⟩) (meth := k9m5) (c := k9c5) (by decide +kernel) rfl rfl rfl (by decide +kernel)
set_option maxRecDepth 65536 in
theorem w_c8 : (Jvm.Cond.code ({ cls := "java/lang/StringLatin1", name := "canEncode", desc := "(C)Z" } : Jvm.MethodName) jdk_43_method_3_code (1 : Nat) (Option.some Jvm.ClassFile.FieldType.boolean)).before args0 about1 = true := code_word (m := ⟨11, 2⟩) (meth := k11m2) (c := k11c2) (by decide +kernel) rfl rfl rfl (by decide +kernel)
set_option maxRecDepth 65536 in
theorem w_c9 : (Jvm.Cond.code ({ cls := "java/lang/StringLatin1", name := "toBytes", desc := "(C)[B" } : Jvm.MethodName) jdk_43_method_46_code (1 : Nat) (Option.some (Jvm.ClassFile.FieldType.array Jvm.ClassFile.FieldType.byte))).before args0 about1 = true := code_word (m := ⟨11, 3⟩) (meth := k11m3) (c := k11c3) (by decide +kernel) rfl rfl rfl (by decide +kernel)
set_option maxRecDepth 65536 in
theorem w_c10 : (Jvm.Cond.code ({ cls := "java/lang/String", name := "<init>", desc := "([BB)V" } : Jvm.MethodName) jdk_42_method_151_code (3 : Nat) (Option.none : Option Jvm.ClassFile.FieldType)).before args0 about1 = true := code_word (m := ⟨9, 9⟩) (meth := k9m9) (c := k9c9) (by decide +kernel) rfl rfl rfl (by decide +kernel)
set_option maxRecDepth 65536 in
theorem w_c11 : (Jvm.Cond.code ({ cls := "com/example/mulock/mulock/sql/SqlAddress", name := "<init>", desc := "(Lcom/example/mulock/mulock/sql/SqlDatabase;Ljava/lang/String;ILjava/lang/String;Ljava/lang/String;Ljava/lang/String;)V" } : Jvm.MethodName) prog_18_method_1_code (7 : Nat) (Option.none : Option Jvm.ClassFile.FieldType)).before args0 about1 = true := code_word (m := ⟨13, 0⟩) (meth := k13m0) (c := k13c0) (by decide +kernel) rfl rfl rfl (by decide +kernel)
set_option maxRecDepth 65536 in
theorem w_c12 : (Jvm.Cond.code ({ cls := "java/lang/Record", name := "<init>", desc := "()V" } : Jvm.MethodName) jdk_30_method_1_code (1 : Nat) (Option.none : Option Jvm.ClassFile.FieldType)).before args0 about1 = true := code_word (m := ⟨12, 0⟩) (meth := k12m0) (c := k12c0) (by decide +kernel) rfl rfl rfl (by decide +kernel)
set_option maxRecDepth 65536 in
theorem w_c13 : (Jvm.Cond.code ({ cls := "com/example/mulock/mulock/sql/SqlAddress", name := "where", desc := "()Ljava/lang/String;" } : Jvm.MethodName) prog_18_method_3_code (1 : Nat) (Option.some (Jvm.ClassFile.FieldType.object "java/lang/String"))).before args0 about1 = true := code_word (m := ⟨13, 1⟩) (meth := k13m1) (c := k13c1) (by decide +kernel) rfl rfl rfl (by decide +kernel)
set_option maxRecDepth 65536 in
theorem w_c14 : (Jvm.Cond.code ({ cls := "java/lang/StringBuilder", name := "<init>", desc := "()V" } : Jvm.MethodName) jdk_67_method_1_code (1 : Nat) (Option.none : Option Jvm.ClassFile.FieldType)).before args0 about1 = true := code_word (m := ⟨16, 0⟩) (meth := k16m0) (c := k16c0) (by decide +kernel) rfl rfl rfl (by decide +kernel)
set_option maxRecDepth 65536 in
theorem w_c15 : (Jvm.Cond.code ({ cls := "java/lang/AbstractStringBuilder", name := "<init>", desc := "(I)V" } : Jvm.MethodName) jdk_68_method_2_code (2 : Nat) (Option.none : Option Jvm.ClassFile.FieldType)).before args0 about1 = true := code_word (m := ⟨15, 1⟩) (meth := k15m1) (c := k15c1) (by decide +kernel) rfl rfl rfl (by decide +kernel)
set_option maxRecDepth 65536 in
theorem w_c16 : (Jvm.Cond.code ({ cls := "com/example/mulock/mulock/sql/SqlDatabase", name := "product", desc := "()Ljava/lang/String;" } : Jvm.MethodName) prog_20_method_4_code (1 : Nat) (Option.some (Jvm.ClassFile.FieldType.object "java/lang/String"))).before args0 about1 = true := code_word (m := ⟨6, 0⟩) (meth := k6m0) (c := k6c0) (by decide +kernel) rfl rfl rfl (by decide +kernel)
set_option maxRecDepth 65536 in
theorem w_c17 : (Jvm.Cond.code ({ cls := "java/lang/StringBuilder", name := "append", desc := "(Ljava/lang/String;)Ljava/lang/StringBuilder;" } : Jvm.MethodName) jdk_67_method_7_code (2 : Nat) (Option.some (Jvm.ClassFile.FieldType.object "java/lang/StringBuilder"))).before args0 about1 = true := code_word (m := ⟨16, 1⟩) (meth := k16m1) (c := k16c1) (by decide +kernel) rfl rfl rfl (by decide +kernel)
set_option maxRecDepth 65536 in
theorem w_c18 : (Jvm.Cond.code ({ cls := "java/lang/AbstractStringBuilder", name := "append", desc := "(Ljava/lang/String;)Ljava/lang/AbstractStringBuilder;" } : Jvm.MethodName) jdk_68_method_22_code (3 : Nat) (Option.some (Jvm.ClassFile.FieldType.object "java/lang/AbstractStringBuilder"))).before args0 about1 = true := code_word (m := ⟨15, 5⟩) (meth := k15m5) (c := k15c5) (by decide +kernel) rfl rfl rfl (by decide +kernel)
set_option maxRecDepth 65536 in
theorem w_c19 : (Jvm.Cond.code ({ cls := "java/lang/String", name := "length", desc := "()I" } : Jvm.MethodName) jdk_42_method_54_code (1 : Nat) (Option.some Jvm.ClassFile.FieldType.int)).before args0 about1 = true := code_word (m := ⟨9, 3⟩) (meth := k9m3) (c := k9c3) (by decide +kernel) rfl rfl rfl (by decide +kernel)
set_option maxRecDepth 65536 in
theorem w_c20 : (Jvm.Cond.code ({ cls := "java/lang/String", name := "coder", desc := "()B" } : Jvm.MethodName) jdk_42_method_152_code (1 : Nat) (Option.some Jvm.ClassFile.FieldType.byte)).before args0 about1 = true := code_word (m := ⟨9, 10⟩) (meth := k9m10) (c := k9c10) (by decide +kernel) rfl rfl rfl (by decide +kernel)
set_option maxRecDepth 65536 in
theorem w_c21 : (Jvm.Cond.code ({ cls := "java/lang/AbstractStringBuilder", name := "ensureCapacityInternal", desc := "(I)V" } : Jvm.MethodName) jdk_68_method_9_code (3 : Nat) (Option.none : Option Jvm.ClassFile.FieldType)).before args0 about1 = true := code_word (m := ⟨15, 3⟩) (meth := k15m3) (c := k15c3) (by decide +kernel) rfl rfl rfl (by decide +kernel)
set_option maxRecDepth 65536 in
theorem w_c22 : (Jvm.Cond.code ({ cls := "java/lang/AbstractStringBuilder", name := "putStringAt", desc := "(ILjava/lang/String;)V" } : Jvm.MethodName) jdk_68_method_73_code (3 : Nat) (Option.none : Option Jvm.ClassFile.FieldType)).before args0 about1 = true := code_word (m := ⟨15, 10⟩) (meth := k15m10) (c := k15c10) (by decide +kernel) rfl rfl rfl (by decide +kernel)
set_option maxRecDepth 65536 in
theorem w_c23 : (Jvm.Cond.code ({ cls := "java/lang/AbstractStringBuilder", name := "inflateIfNeededFor", desc := "(Ljava/lang/String;)V" } : Jvm.MethodName) jdk_68_method_71_code (2 : Nat) (Option.none : Option Jvm.ClassFile.FieldType)).before args0 about1 = true := code_word (m := ⟨15, 9⟩) (meth := k15m9) (c := k15c9) (by decide +kernel) rfl rfl rfl (by decide +kernel)
set_option maxRecDepth 65536 in
theorem w_c24 : (Jvm.Cond.code ({ cls := "java/lang/String", name := "getBytes", desc := "([BIB)V" } : Jvm.MethodName) jdk_42_method_147_code (4 : Nat) (Option.none : Option Jvm.ClassFile.FieldType)).before args0 about1 = true := code_word (m := ⟨9, 6⟩) (meth := k9m6) (c := k9c6) (by decide +kernel) rfl rfl rfl (by decide +kernel)
set_option maxRecDepth 65536 in
theorem w_c25 : (Jvm.Cond.code ({ cls := "java/lang/AbstractStringBuilder", name := "newCapacity", desc := "(I)I" } : Jvm.MethodName) jdk_68_method_10_code (6 : Nat) (Option.some Jvm.ClassFile.FieldType.int)).before args0 about1 = true := code_word (m := ⟨15, 4⟩) (meth := k15m4) (c := k15c4) (by decide +kernel) rfl rfl rfl (by decide +kernel)
set_option maxRecDepth 65536 in
theorem w_c26 : (Jvm.Cond.code ({ cls := "jdk/internal/util/ArraysSupport", name := "newLength", desc := "(III)I" } : Jvm.MethodName) jdk_48_method_27_code (4 : Nat) (Option.some Jvm.ClassFile.FieldType.int)).before args0 about1 = true := code_word (m := ⟨18, 1⟩) (meth := k18m1) (c := k18c1) (by decide +kernel) rfl rfl rfl (by decide +kernel)
set_option maxRecDepth 65536 in
theorem w_c27 : (Jvm.Cond.code ({ cls := "java/lang/Math", name := "max", desc := "(II)I" } : Jvm.MethodName) jdk_29_method_65_code (2 : Nat) (Option.some Jvm.ClassFile.FieldType.int)).before args0 about1 = true := code_word (m := ⟨19, 1⟩) (meth := k19m1) (c := k19c1) (by decide +kernel) rfl rfl rfl (by decide +kernel)
set_option maxRecDepth 65536 in
theorem w_c28 : (Jvm.Cond.code ({ cls := "java/util/Arrays", name := "copyOf", desc := "([BI)[B" } : Jvm.MethodName) jdk_65_method_121_code (3 : Nat) (Option.some (Jvm.ClassFile.FieldType.array Jvm.ClassFile.FieldType.byte))).before args0 about1 = true := code_word (m := ⟨20, 1⟩) (meth := k20m1) (c := k20c1) (by decide +kernel) rfl rfl rfl (by decide +kernel)
set_option maxRecDepth 65536 in
theorem w_c29 : (Jvm.Cond.code ({ cls := "java/lang/Math", name := "min", desc := "(II)I" } : Jvm.MethodName) jdk_29_method_69_code (2 : Nat) (Option.some Jvm.ClassFile.FieldType.int)).before args0 about1 = true := code_word (m := ⟨19, 2⟩) (meth := k19m2) (c := k19c2) (by decide +kernel) rfl rfl rfl (by decide +kernel)
set_option maxRecDepth 65536 in
theorem w_c30 : (Jvm.Cond.code ({ cls := "java/lang/StringBuilder", name := "append", desc := "(I)Ljava/lang/StringBuilder;" } : Jvm.MethodName) jdk_67_method_15_code (2 : Nat) (Option.some (Jvm.ClassFile.FieldType.object "java/lang/StringBuilder"))).before args0 about1 = true := code_word (m := ⟨16, 2⟩) (meth := k16m2) (c := k16c2) (by decide +kernel) rfl rfl rfl (by decide +kernel)
set_option maxRecDepth 65536 in
theorem w_c31 : (Jvm.Cond.code ({ cls := "java/lang/AbstractStringBuilder", name := "append", desc := "(I)Ljava/lang/AbstractStringBuilder;" } : Jvm.MethodName) jdk_68_method_32_code (4 : Nat) (Option.some (Jvm.ClassFile.FieldType.object "java/lang/AbstractStringBuilder"))).before args0 about1 = true := code_word (m := ⟨15, 6⟩) (meth := k15m6) (c := k15c6) (by decide +kernel) rfl rfl rfl (by decide +kernel)
set_option maxRecDepth 65536 in
theorem w_c32 : (Jvm.Cond.code ({ cls := "java/lang/Integer", name := "stringSize", desc := "(I)I" } : Jvm.MethodName) jdk_33_method_13_code (4 : Nat) (Option.some Jvm.ClassFile.FieldType.int)).before args0 about1 = true := code_word (m := ⟨22, 1⟩) (meth := k22m1) (c := k22c1) (by decide +kernel) rfl rfl rfl (by decide +kernel)
set_option maxRecDepth 65536 in
theorem w_c33 : (Jvm.Cond.code ({ cls := "java/lang/AbstractStringBuilder", name := "isLatin1", desc := "()Z" } : Jvm.MethodName) jdk_68_method_68_code (1 : Nat) (Option.some Jvm.ClassFile.FieldType.boolean)).before args0 about1 = true := code_word (m := ⟨15, 8⟩) (meth := k15m8) (c := k15c8) (by decide +kernel) rfl rfl rfl (by decide +kernel)
set_option maxRecDepth 65536 in
theorem w_c34 : (Jvm.Cond.code ({ cls := "java/lang/Integer", name := "getChars", desc := "(II[B)I" } : Jvm.MethodName) jdk_33_method_12_code (7 : Nat) (Option.some Jvm.ClassFile.FieldType.int)).before args0 about1 = true := code_word (m := ⟨22, 0⟩) (meth := k22m0) (c := k22c0) (by decide +kernel) rfl rfl rfl (by decide +kernel)
set_option maxRecDepth 65536 in
theorem w_c35 : (Jvm.Cond.code ({ cls := "java/lang/StringBuilder", name := "toString", desc := "()Ljava/lang/String;" } : Jvm.MethodName) jdk_67_method_42_code (1 : Nat) (Option.some (Jvm.ClassFile.FieldType.object "java/lang/String"))).before args0 about1 = true := code_word (m := ⟨16, 3⟩) (meth := k16m3) (c := k16c3) (by decide +kernel) rfl rfl rfl (by decide +kernel)
set_option maxRecDepth 65536 in
theorem w_c36 : (Jvm.Cond.code ({ cls := "java/lang/String", name := "<init>", desc := "(Ljava/lang/StringBuilder;)V" } : Jvm.MethodName) jdk_42_method_53_code (2 : Nat) (Option.none : Option Jvm.ClassFile.FieldType)).before args0 about1 = true := code_word (m := ⟨9, 2⟩) (meth := k9m2) (c := k9c2) (by decide +kernel) rfl rfl rfl (by decide +kernel)
set_option maxRecDepth 65536 in
theorem w_c37 : (Jvm.Cond.code ({ cls := "java/lang/String", name := "<init>", desc := "(Ljava/lang/AbstractStringBuilder;Ljava/lang/Void;)V" } : Jvm.MethodName) jdk_42_method_150_code (5 : Nat) (Option.none : Option Jvm.ClassFile.FieldType)).before args0 about1 = true := code_word (m := ⟨9, 8⟩) (meth := k9m8) (c := k9c8) (by decide +kernel) rfl rfl rfl (by decide +kernel)
set_option maxRecDepth 65536 in
theorem w_c38 : (Jvm.Cond.code ({ cls := "java/lang/AbstractStringBuilder", name := "getValue", desc := "()[B" } : Jvm.MethodName) jdk_68_method_64_code (1 : Nat) (Option.some (Jvm.ClassFile.FieldType.array Jvm.ClassFile.FieldType.byte))).before args0 about1 = true := code_word (m := ⟨15, 7⟩) (meth := k15m7) (c := k15c7) (by decide +kernel) rfl rfl rfl (by decide +kernel)
set_option maxRecDepth 65536 in
theorem w_c39 : (Jvm.Cond.code ({ cls := "java/lang/StringBuilder", name := "length", desc := "()I" } : Jvm.MethodName) jdk_67_method_93_code (1 : Nat) (Option.some Jvm.ClassFile.FieldType.int)).before args0 about1 = true := code_word (m := ⟨16, 4⟩) (meth := k16m4) (c := k16c4) (by decide +kernel) rfl rfl rfl (by decide +kernel)
set_option maxRecDepth 65536 in
theorem w_c40 : (Jvm.Cond.code ({ cls := "java/lang/AbstractStringBuilder", name := "length", desc := "()I" } : Jvm.MethodName) jdk_68_method_6_code (1 : Nat) (Option.some Jvm.ClassFile.FieldType.int)).before args0 about1 = true := code_word (m := ⟨15, 2⟩) (meth := k15m2) (c := k15c2) (by decide +kernel) rfl rfl rfl (by decide +kernel)
set_option maxRecDepth 65536 in
theorem w_c41 : (Jvm.Cond.code ({ cls := "java/util/Arrays", name := "copyOfRange", desc := "([BII)[B" } : Jvm.MethodName) jdk_65_method_132_code (3 : Nat) (Option.some (Jvm.ClassFile.FieldType.array Jvm.ClassFile.FieldType.byte))).before args0 about1 = true := code_word (m := ⟨20, 3⟩) (meth := k20m3) (c := k20c3) (by decide +kernel) rfl rfl rfl (by decide +kernel)
set_option maxRecDepth 65536 in
theorem w_c42 : (Jvm.Cond.code ({ cls := "java/util/Arrays", name := "copyOfRangeByte", desc := "([BII)[B" } : Jvm.MethodName) jdk_65_method_133_code (5 : Nat) (Option.some (Jvm.ClassFile.FieldType.array Jvm.ClassFile.FieldType.byte))).before args0 about1 = true := code_word (m := ⟨20, 4⟩) (meth := k20m4) (c := k20c4) (by decide +kernel) rfl rfl rfl (by decide +kernel)
set_option maxRecDepth 65536 in
theorem w_c43 : (Jvm.Cond.code ({ cls := "java/util/Arrays", name := "checkLength", desc := "(II)V" } : Jvm.MethodName) jdk_65_method_131_code (2 : Nat) (Option.none : Option Jvm.ClassFile.FieldType)).before args0 about1 = true := code_word (m := ⟨20, 2⟩) (meth := k20m2) (c := k20c2) (by decide +kernel) rfl rfl rfl (by decide +kernel)
set_option maxRecDepth 65536 in
theorem w_c44 : (Jvm.Cond.code ({ cls := "com/example/mulock/mulock/sql/SqlAddressWherePinLaw", name := "put", desc := "([CILjava/lang/String;)I" } : Jvm.MethodName) method_4_code (4 : Nat) (Option.some Jvm.ClassFile.FieldType.int)).before args0 about1 = true := code_word (m := ⟨1, 3⟩) (meth := k1m3) (c := k1c3) (by decide +kernel) rfl rfl rfl (by decide +kernel)
set_option maxRecDepth 65536 in
theorem w_c45 : (Jvm.Cond.code ({ cls := "java/lang/String", name := "charAt", desc := "(I)C" } : Jvm.MethodName) jdk_42_method_56_code (2 : Nat) (Option.some Jvm.ClassFile.FieldType.char)).before args0 about1 = true := code_word (m := ⟨9, 4⟩) (meth := k9m4) (c := k9c4) (by decide +kernel) rfl rfl rfl (by decide +kernel)
set_option maxRecDepth 65536 in
theorem w_c46 : (Jvm.Cond.code ({ cls := "java/lang/String", name := "isLatin1", desc := "()Z" } : Jvm.MethodName) jdk_42_method_154_code (1 : Nat) (Option.some Jvm.ClassFile.FieldType.boolean)).before args0 about1 = true := code_word (m := ⟨9, 11⟩) (meth := k9m11) (c := k9c11) (by decide +kernel) rfl rfl rfl (by decide +kernel)
set_option maxRecDepth 65536 in
theorem w_c47 : (Jvm.Cond.code ({ cls := "java/lang/StringLatin1", name := "charAt", desc := "([BI)C" } : Jvm.MethodName) jdk_43_method_2_code (2 : Nat) (Option.some Jvm.ClassFile.FieldType.char)).before args0 about1 = true := code_word (m := ⟨11, 1⟩) (meth := k11m1) (c := k11c1) (by decide +kernel) rfl rfl rfl (by decide +kernel)
set_option maxRecDepth 65536 in
theorem w_c48 : (Jvm.Cond.code ({ cls := "java/lang/String", name := "checkIndex", desc := "(II)V" } : Jvm.MethodName) jdk_42_method_155_code (2 : Nat) (Option.none : Option Jvm.ClassFile.FieldType)).before args0 about1 = true := code_word (m := ⟨9, 12⟩) (meth := k9m12) (c := k9c12) (by decide +kernel) rfl rfl rfl (by decide +kernel)
set_option maxRecDepth 65536 in
theorem w_c49 : (Jvm.Cond.code ({ cls := "jdk/internal/util/Preconditions", name := "checkIndex", desc := "(IILjava/util/function/BiFunction;)I" } : Jvm.MethodName) jdk_41_method_11_code (3 : Nat) (Option.some Jvm.ClassFile.FieldType.int)).before args0 about1 = true := code_word (m := ⟨23, 1⟩) (meth := k23m1) (c := k23c1) (by decide +kernel) rfl rfl rfl (by decide +kernel)
set_option maxRecDepth 65536 in
theorem w_c50 : (Jvm.Cond.code ({ cls := "com/example/mulock/mulock/sql/SqlAddressWherePinLaw", name := "putInt", desc := "([CII)I" } : Jvm.MethodName) method_6_code (10 : Nat) (Option.some Jvm.ClassFile.FieldType.int)).before args0 about1 = true := code_word (m := ⟨1, 5⟩) (meth := k1m5) (c := k1c5) (by decide +kernel) rfl rfl rfl (by decide +kernel)
set_option maxRecDepth 65536 in
theorem w_c51 : (Jvm.Cond.code ({ cls := "com/example/mulock/mulock/sql/SqlAddressWherePinLaw", name := "digit", desc := "(J)C" } : Jvm.MethodName) method_5_code (2 : Nat) (Option.some Jvm.ClassFile.FieldType.char)).before args0 about1 = true := code_word (m := ⟨1, 4⟩) (meth := k1m4) (c := k1c4) (by decide +kernel) rfl rfl rfl (by decide +kernel)
set_option maxRecDepth 65536 in
theorem w_c52 : (Jvm.Cond.code ({ cls := "com/example/mulock/mulock/sql/SqlAddressWherePinLaw", name := "same", desc := "(Ljava/lang/String;[CII)Z" } : Jvm.MethodName) method_3_code (4 : Nat) (Option.some Jvm.ClassFile.FieldType.boolean)).before args0 about1 = true := code_word (m := ⟨1, 2⟩) (meth := k1m2) (c := k1c2) (by decide +kernel) rfl rfl rfl (by decide +kernel)
def codes1 : List Jvm.Cond := [Jvm.Cond.code x code maxLocals ret, Jvm.Cond.code ({ cls := "java/lang/String", name := "<init>", desc := "([C)V" } : Jvm.MethodName) jdk_42_method_3_code (2 : Nat) (Option.none : Option Jvm.ClassFile.FieldType), Jvm.Cond.code ({ cls := "java/lang/String", name := "<init>", desc := "([CIILjava/lang/Void;)V" } : Jvm.MethodName) jdk_42_method_149_code (6 : Nat) (Option.none : Option Jvm.ClassFile.FieldType), Jvm.Cond.code ({ cls := "java/lang/Object", name := "<init>", desc := "()V" } : Jvm.MethodName) object_method_1_code (1 : Nat) (Option.none : Option Jvm.ClassFile.FieldType), Jvm.Cond.code ({ cls := "java/lang/StringUTF16", name := "compress", desc := "([CII)[B" } : Jvm.MethodName) jdk_52_method_16_code (6 : Nat) (Option.some (Jvm.ClassFile.FieldType.array Jvm.ClassFile.FieldType.byte)), Jvm.Cond.code ({ cls := "java/lang/StringUTF16", name := "compress", desc := "([CI[BII)I" } : Jvm.MethodName) jdk_52_method_21_code (7 : Nat) (Option.some Jvm.ClassFile.FieldType.int), Jvm.Cond.code ({ cls := "java/lang/StringUTF16", name := "coderFromArrayLen", desc := "([BI)B" } : Jvm.MethodName) jdk_52_method_15_code (2 : Nat) (Option.some Jvm.ClassFile.FieldType.byte), Jvm.Cond.code ({ cls := "java/lang/String", name := "valueOf", desc := "(C)Ljava/lang/String;" } : Jvm.MethodName) jdk_42_method_139_code (1 : Nat) (Option.some (Jvm.ClassFile.FieldType.object "java/lang/String")), Jvm.Cond.code ({ cls := "java/lang/StringLatin1", name := "canEncode", desc := "(C)Z" } : Jvm.MethodName) jdk_43_method_3_code (1 : Nat) (Option.some Jvm.ClassFile.FieldType.boolean), Jvm.Cond.code ({ cls := "java/lang/StringLatin1", name := "toBytes", desc := "(C)[B" } : Jvm.MethodName) jdk_43_method_46_code (1 : Nat) (Option.some (Jvm.ClassFile.FieldType.array Jvm.ClassFile.FieldType.byte)), Jvm.Cond.code ({ cls := "java/lang/String", name := "<init>", desc := "([BB)V" } : Jvm.MethodName) jdk_42_method_151_code (3 : Nat) (Option.none : Option Jvm.ClassFile.FieldType), Jvm.Cond.code ({ cls := "com/example/mulock/mulock/sql/SqlAddress", name := "<init>", desc := "(Lcom/example/mulock/mulock/sql/SqlDatabase;Ljava/lang/String;ILjava/lang/String;Ljava/lang/String;Ljava/lang/String;)V" } : Jvm.MethodName) prog_18_method_1_code (7 : Nat) (Option.none : Option Jvm.ClassFile.FieldType), Jvm.Cond.code ({ cls := "java/lang/Record", name := "<init>", desc := "()V" } : Jvm.MethodName) jdk_30_method_1_code (1 : Nat) (Option.none : Option Jvm.ClassFile.FieldType), Jvm.Cond.code ({ cls := "com/example/mulock/mulock/sql/SqlAddress", name := "where", desc := "()Ljava/lang/String;" } : Jvm.MethodName) prog_18_method_3_code (1 : Nat) (Option.some (Jvm.ClassFile.FieldType.object "java/lang/String")), Jvm.Cond.code ({ cls := "java/lang/StringBuilder", name := "<init>", desc := "()V" } : Jvm.MethodName) jdk_67_method_1_code (1 : Nat) (Option.none : Option Jvm.ClassFile.FieldType), Jvm.Cond.code ({ cls := "java/lang/AbstractStringBuilder", name := "<init>", desc := "(I)V" } : Jvm.MethodName) jdk_68_method_2_code (2 : Nat) (Option.none : Option Jvm.ClassFile.FieldType), Jvm.Cond.code ({ cls := "com/example/mulock/mulock/sql/SqlDatabase", name := "product", desc := "()Ljava/lang/String;" } : Jvm.MethodName) prog_20_method_4_code (1 : Nat) (Option.some (Jvm.ClassFile.FieldType.object "java/lang/String")), Jvm.Cond.code ({ cls := "java/lang/StringBuilder", name := "append", desc := "(Ljava/lang/String;)Ljava/lang/StringBuilder;" } : Jvm.MethodName) jdk_67_method_7_code (2 : Nat) (Option.some (Jvm.ClassFile.FieldType.object "java/lang/StringBuilder")), Jvm.Cond.code ({ cls := "java/lang/AbstractStringBuilder", name := "append", desc := "(Ljava/lang/String;)Ljava/lang/AbstractStringBuilder;" } : Jvm.MethodName) jdk_68_method_22_code (3 : Nat) (Option.some (Jvm.ClassFile.FieldType.object "java/lang/AbstractStringBuilder")), Jvm.Cond.code ({ cls := "java/lang/String", name := "length", desc := "()I" } : Jvm.MethodName) jdk_42_method_54_code (1 : Nat) (Option.some Jvm.ClassFile.FieldType.int), Jvm.Cond.code ({ cls := "java/lang/String", name := "coder", desc := "()B" } : Jvm.MethodName) jdk_42_method_152_code (1 : Nat) (Option.some Jvm.ClassFile.FieldType.byte), Jvm.Cond.code ({ cls := "java/lang/AbstractStringBuilder", name := "ensureCapacityInternal", desc := "(I)V" } : Jvm.MethodName) jdk_68_method_9_code (3 : Nat) (Option.none : Option Jvm.ClassFile.FieldType), Jvm.Cond.code ({ cls := "java/lang/AbstractStringBuilder", name := "putStringAt", desc := "(ILjava/lang/String;)V" } : Jvm.MethodName) jdk_68_method_73_code (3 : Nat) (Option.none : Option Jvm.ClassFile.FieldType), Jvm.Cond.code ({ cls := "java/lang/AbstractStringBuilder", name := "inflateIfNeededFor", desc := "(Ljava/lang/String;)V" } : Jvm.MethodName) jdk_68_method_71_code (2 : Nat) (Option.none : Option Jvm.ClassFile.FieldType), Jvm.Cond.code ({ cls := "java/lang/String", name := "getBytes", desc := "([BIB)V" } : Jvm.MethodName) jdk_42_method_147_code (4 : Nat) (Option.none : Option Jvm.ClassFile.FieldType), Jvm.Cond.code ({ cls := "java/lang/AbstractStringBuilder", name := "newCapacity", desc := "(I)I" } : Jvm.MethodName) jdk_68_method_10_code (6 : Nat) (Option.some Jvm.ClassFile.FieldType.int), Jvm.Cond.code ({ cls := "jdk/internal/util/ArraysSupport", name := "newLength", desc := "(III)I" } : Jvm.MethodName) jdk_48_method_27_code (4 : Nat) (Option.some Jvm.ClassFile.FieldType.int), Jvm.Cond.code ({ cls := "java/lang/Math", name := "max", desc := "(II)I" } : Jvm.MethodName) jdk_29_method_65_code (2 : Nat) (Option.some Jvm.ClassFile.FieldType.int), Jvm.Cond.code ({ cls := "java/util/Arrays", name := "copyOf", desc := "([BI)[B" } : Jvm.MethodName) jdk_65_method_121_code (3 : Nat) (Option.some (Jvm.ClassFile.FieldType.array Jvm.ClassFile.FieldType.byte)), Jvm.Cond.code ({ cls := "java/lang/Math", name := "min", desc := "(II)I" } : Jvm.MethodName) jdk_29_method_69_code (2 : Nat) (Option.some Jvm.ClassFile.FieldType.int), Jvm.Cond.code ({ cls := "java/lang/StringBuilder", name := "append", desc := "(I)Ljava/lang/StringBuilder;" } : Jvm.MethodName) jdk_67_method_15_code (2 : Nat) (Option.some (Jvm.ClassFile.FieldType.object "java/lang/StringBuilder")), Jvm.Cond.code ({ cls := "java/lang/AbstractStringBuilder", name := "append", desc := "(I)Ljava/lang/AbstractStringBuilder;" } : Jvm.MethodName) jdk_68_method_32_code (4 : Nat) (Option.some (Jvm.ClassFile.FieldType.object "java/lang/AbstractStringBuilder")), Jvm.Cond.code ({ cls := "java/lang/Integer", name := "stringSize", desc := "(I)I" } : Jvm.MethodName) jdk_33_method_13_code (4 : Nat) (Option.some Jvm.ClassFile.FieldType.int), Jvm.Cond.code ({ cls := "java/lang/AbstractStringBuilder", name := "isLatin1", desc := "()Z" } : Jvm.MethodName) jdk_68_method_68_code (1 : Nat) (Option.some Jvm.ClassFile.FieldType.boolean), Jvm.Cond.code ({ cls := "java/lang/Integer", name := "getChars", desc := "(II[B)I" } : Jvm.MethodName) jdk_33_method_12_code (7 : Nat) (Option.some Jvm.ClassFile.FieldType.int), Jvm.Cond.code ({ cls := "java/lang/StringBuilder", name := "toString", desc := "()Ljava/lang/String;" } : Jvm.MethodName) jdk_67_method_42_code (1 : Nat) (Option.some (Jvm.ClassFile.FieldType.object "java/lang/String")), Jvm.Cond.code ({ cls := "java/lang/String", name := "<init>", desc := "(Ljava/lang/StringBuilder;)V" } : Jvm.MethodName) jdk_42_method_53_code (2 : Nat) (Option.none : Option Jvm.ClassFile.FieldType), Jvm.Cond.code ({ cls := "java/lang/String", name := "<init>", desc := "(Ljava/lang/AbstractStringBuilder;Ljava/lang/Void;)V" } : Jvm.MethodName) jdk_42_method_150_code (5 : Nat) (Option.none : Option Jvm.ClassFile.FieldType), Jvm.Cond.code ({ cls := "java/lang/AbstractStringBuilder", name := "getValue", desc := "()[B" } : Jvm.MethodName) jdk_68_method_64_code (1 : Nat) (Option.some (Jvm.ClassFile.FieldType.array Jvm.ClassFile.FieldType.byte)), Jvm.Cond.code ({ cls := "java/lang/StringBuilder", name := "length", desc := "()I" } : Jvm.MethodName) jdk_67_method_93_code (1 : Nat) (Option.some Jvm.ClassFile.FieldType.int), Jvm.Cond.code ({ cls := "java/lang/AbstractStringBuilder", name := "length", desc := "()I" } : Jvm.MethodName) jdk_68_method_6_code (1 : Nat) (Option.some Jvm.ClassFile.FieldType.int), Jvm.Cond.code ({ cls := "java/util/Arrays", name := "copyOfRange", desc := "([BII)[B" } : Jvm.MethodName) jdk_65_method_132_code (3 : Nat) (Option.some (Jvm.ClassFile.FieldType.array Jvm.ClassFile.FieldType.byte)), Jvm.Cond.code ({ cls := "java/util/Arrays", name := "copyOfRangeByte", desc := "([BII)[B" } : Jvm.MethodName) jdk_65_method_133_code (5 : Nat) (Option.some (Jvm.ClassFile.FieldType.array Jvm.ClassFile.FieldType.byte)), Jvm.Cond.code ({ cls := "java/util/Arrays", name := "checkLength", desc := "(II)V" } : Jvm.MethodName) jdk_65_method_131_code (2 : Nat) (Option.none : Option Jvm.ClassFile.FieldType), Jvm.Cond.code ({ cls := "com/example/mulock/mulock/sql/SqlAddressWherePinLaw", name := "put", desc := "([CILjava/lang/String;)I" } : Jvm.MethodName) method_4_code (4 : Nat) (Option.some Jvm.ClassFile.FieldType.int), Jvm.Cond.code ({ cls := "java/lang/String", name := "charAt", desc := "(I)C" } : Jvm.MethodName) jdk_42_method_56_code (2 : Nat) (Option.some Jvm.ClassFile.FieldType.char), Jvm.Cond.code ({ cls := "java/lang/String", name := "isLatin1", desc := "()Z" } : Jvm.MethodName) jdk_42_method_154_code (1 : Nat) (Option.some Jvm.ClassFile.FieldType.boolean), Jvm.Cond.code ({ cls := "java/lang/StringLatin1", name := "charAt", desc := "([BI)C" } : Jvm.MethodName) jdk_43_method_2_code (2 : Nat) (Option.some Jvm.ClassFile.FieldType.char), Jvm.Cond.code ({ cls := "java/lang/String", name := "checkIndex", desc := "(II)V" } : Jvm.MethodName) jdk_42_method_155_code (2 : Nat) (Option.none : Option Jvm.ClassFile.FieldType), Jvm.Cond.code ({ cls := "jdk/internal/util/Preconditions", name := "checkIndex", desc := "(IILjava/util/function/BiFunction;)I" } : Jvm.MethodName) jdk_41_method_11_code (3 : Nat) (Option.some Jvm.ClassFile.FieldType.int), Jvm.Cond.code ({ cls := "com/example/mulock/mulock/sql/SqlAddressWherePinLaw", name := "putInt", desc := "([CII)I" } : Jvm.MethodName) method_6_code (10 : Nat) (Option.some Jvm.ClassFile.FieldType.int), Jvm.Cond.code ({ cls := "com/example/mulock/mulock/sql/SqlAddressWherePinLaw", name := "digit", desc := "(J)C" } : Jvm.MethodName) method_5_code (2 : Nat) (Option.some Jvm.ClassFile.FieldType.char), Jvm.Cond.code ({ cls := "com/example/mulock/mulock/sql/SqlAddressWherePinLaw", name := "same", desc := "(Ljava/lang/String;[CII)Z" } : Jvm.MethodName) method_3_code (4 : Nat) (Option.some Jvm.ClassFile.FieldType.boolean)]
set_option maxRecDepth 65536 in
theorem codes_eq : words1.filter isCode = codes1 := rfl
theorem w_codes : ∀ c ∈ words1.filter isCode, c.before args0 about1 = true := by
  rw [codes_eq]
  intro c hc
  simp only [codes1, List.mem_cons, List.not_mem_nil, or_false] at hc
  rcases hc with rfl | rfl | rfl | rfl | rfl | rfl | rfl | rfl | rfl | rfl | rfl | rfl | rfl | rfl | rfl | rfl | rfl | rfl | rfl | rfl | rfl | rfl | rfl | rfl | rfl | rfl | rfl | rfl | rfl | rfl | rfl | rfl | rfl | rfl | rfl | rfl | rfl | rfl | rfl | rfl | rfl | rfl | rfl | rfl | rfl | rfl | rfl | rfl | rfl | rfl | rfl | rfl | rfl
  · exact w_c0
  · exact w_c1
  · exact w_c2
  · exact w_c3
  · exact w_c4
  · exact w_c5
  · exact w_c6
  · exact w_c7
  · exact w_c8
  · exact w_c9
  · exact w_c10
  · exact w_c11
  · exact w_c12
  · exact w_c13
  · exact w_c14
  · exact w_c15
  · exact w_c16
  · exact w_c17
  · exact w_c18
  · exact w_c19
  · exact w_c20
  · exact w_c21
  · exact w_c22
  · exact w_c23
  · exact w_c24
  · exact w_c25
  · exact w_c26
  · exact w_c27
  · exact w_c28
  · exact w_c29
  · exact w_c30
  · exact w_c31
  · exact w_c32
  · exact w_c33
  · exact w_c34
  · exact w_c35
  · exact w_c36
  · exact w_c37
  · exact w_c38
  · exact w_c39
  · exact w_c40
  · exact w_c41
  · exact w_c42
  · exact w_c43
  · exact w_c44
  · exact w_c45
  · exact w_c46
  · exact w_c47
  · exact w_c48
  · exact w_c49
  · exact w_c50
  · exact w_c51
  · exact w_c52
set_option maxRecDepth 65536 in
theorem w_t1 : (words1.take 24).all (fun c => isCode c || c.before args0 about1) = true := by decide +kernel
set_option maxRecDepth 65536 in
theorem w_t2 : ((words1.drop 24).take 24).all (fun c => isCode c || c.before args0 about1) = true := by decide +kernel
set_option maxRecDepth 65536 in
theorem w_t3 : (((words1.drop 24).drop 24).take 24).all (fun c => isCode c || c.before args0 about1) = true := by decide +kernel
set_option maxRecDepth 65536 in
theorem w_t4 : ((((words1.drop 24).drop 24).drop 24).take 24).all (fun c => isCode c || c.before args0 about1) = true := by decide +kernel
set_option maxRecDepth 65536 in
theorem w_t5 : (((((words1.drop 24).drop 24).drop 24).drop 24).take 24).all (fun c => isCode c || c.before args0 about1) = true := by decide +kernel
set_option maxRecDepth 65536 in
theorem w_t6 : ((((((words1.drop 24).drop 24).drop 24).drop 24).drop 24).take 24).all (fun c => isCode c || c.before args0 about1) = true := by decide +kernel
set_option maxRecDepth 65536 in
theorem w_t7 : (((((((words1.drop 24).drop 24).drop 24).drop 24).drop 24).drop 24).take 24).all (fun c => isCode c || c.before args0 about1) = true := by decide +kernel
set_option maxRecDepth 65536 in
theorem w_t8 : ((((((((words1.drop 24).drop 24).drop 24).drop 24).drop 24).drop 24).drop 24).take 24).all (fun c => isCode c || c.before args0 about1) = true := by decide +kernel
set_option maxRecDepth 65536 in
theorem w_t9 : (((((((((words1.drop 24).drop 24).drop 24).drop 24).drop 24).drop 24).drop 24).drop 24).take 24).all (fun c => isCode c || c.before args0 about1) = true := by decide +kernel
set_option maxRecDepth 65536 in
theorem w_t10 : ((((((((((words1.drop 24).drop 24).drop 24).drop 24).drop 24).drop 24).drop 24).drop 24).drop 24).take 24).all (fun c => isCode c || c.before args0 about1) = true := by decide +kernel
set_option maxRecDepth 65536 in
theorem w_t11 : (((((((((((words1.drop 24).drop 24).drop 24).drop 24).drop 24).drop 24).drop 24).drop 24).drop 24).drop 24).take 24).all (fun c => isCode c || c.before args0 about1) = true := by decide +kernel
set_option maxRecDepth 65536 in
theorem w_t12 : ((((((((((((words1.drop 24).drop 24).drop 24).drop 24).drop 24).drop 24).drop 24).drop 24).drop 24).drop 24).drop 24).take 24).all (fun c => isCode c || c.before args0 about1) = true := by decide +kernel
set_option maxRecDepth 65536 in
theorem w_t13 : ((((((((((((words1.drop 24).drop 24).drop 24).drop 24).drop 24).drop 24).drop 24).drop 24).drop 24).drop 24).drop 24).drop 24).all (fun c => isCode c || c.before args0 about1) = true := by decide +kernel
theorem w_tables : (allAtoms (Jvm.Cond.code x code maxLocals ret :: tables_1)).before args0 about1 = true := by
  rw [allAtoms_all]
  show words1.all (fun c => c.before args0 about1) = true
  refine all_split ?_ w_codes
  rw [← List.take_append_drop 24 words1, List.all_append, w_t1, ← List.take_append_drop 24 (words1.drop 24), List.all_append, w_t2, ← List.take_append_drop 24 ((words1.drop 24).drop 24), List.all_append, w_t3, ← List.take_append_drop 24 (((words1.drop 24).drop 24).drop 24), List.all_append, w_t4, ← List.take_append_drop 24 ((((words1.drop 24).drop 24).drop 24).drop 24), List.all_append, w_t5, ← List.take_append_drop 24 (((((words1.drop 24).drop 24).drop 24).drop 24).drop 24), List.all_append, w_t6, ← List.take_append_drop 24 ((((((words1.drop 24).drop 24).drop 24).drop 24).drop 24).drop 24), List.all_append, w_t7, ← List.take_append_drop 24 (((((((words1.drop 24).drop 24).drop 24).drop 24).drop 24).drop 24).drop 24), List.all_append, w_t8, ← List.take_append_drop 24 ((((((((words1.drop 24).drop 24).drop 24).drop 24).drop 24).drop 24).drop 24).drop 24), List.all_append, w_t9, ← List.take_append_drop 24 (((((((((words1.drop 24).drop 24).drop 24).drop 24).drop 24).drop 24).drop 24).drop 24).drop 24), List.all_append, w_t10, ← List.take_append_drop 24 ((((((((((words1.drop 24).drop 24).drop 24).drop 24).drop 24).drop 24).drop 24).drop 24).drop 24).drop 24), List.all_append, w_t11, ← List.take_append_drop 24 (((((((((((words1.drop 24).drop 24).drop 24).drop 24).drop 24).drop 24).drop 24).drop 24).drop 24).drop 24).drop 24), List.all_append, w_t12, w_t13]
  rfl
set_option maxRecDepth 65536 in
theorem w_rest : rest_1_c.before args0 about1 = true := by decide +kernel
set_option maxRecDepth 65536 in
theorem w_case : (Jvm.Cond.and given_1 narrow_1).before args0 about1 = true := by decide +kernel
set_option maxRecDepth 65536 in
theorem w_consts : constsHeld consts_1 about1 := Jvm.Lit.constsHeldB_iff.mp (by decide +kernel)
theorem w_applies : (headSpec (Jvm.Cond.code x code maxLocals ret :: tables_1) room_1).applies x e0.platform about1 = true :=
  (Spec.applies_iff w_frames).mpr ⟨w_running, w_runnable, w_alone, w_named, w_hears, w_ripe, w_room, w_tables⟩
theorem atStart : AtStart classFile x code maxLocals ret World_1 tables_1 room_1 Calls_1 rest_1 Pre_1 launch0 p0 e0 about1 theMethod args0 below0 :=
  ⟨lists_1, trivial, launch0.admits_env _ _ _, launch0.least_env, fairChoices_fair.cas, fairChoices_fair.clock, w_frames, w_args, w_heap, w_applies, ⟨w_consts, trivial⟩, w_rest, w_case⟩
end start1
theorem witness_1 : WitnessClaimed_1 := ⟨start1.p0, start1.e0, start1.about1, start1.theMethod, start1.args0, start1.below0, start1.atStart⟩
end Jvm.Pilot.@@N@@
