import JvmDerived
import JvmDerived.Pilot.@@N@@Statement
import JvmDerived.Pilot.@@N@@Code
set_option linter.unusedVariables false
set_option linter.unusedSimpArgs false
namespace Jvm.RoadKit
open Sem ClassFile Op Lib Jvm.Stand Jvm.Free Jvm.LawKit
section Own
variable {p : Program} {l : Launch} {e : Env} {R : Room} {s : State} {m : MethodId} {args : Array Value} {below : List Frame} {meth : Method} {c : Code} {T T' : State} {locs : List Loc} {cells slots : Nat} {g g' : JFrame} {Qf : Option Value → Heap → List Loc → Prop} {E : Outcome → State → Prop} {C S : Nat} {Z : State} {a0 : Array Value} {h : Heap} {pc n : Nat} {Ls : Array Slot} {sk : List Value}
theorem nz {a b : Addr} (h : ¬ @Eq Nat a b) : a ≠ b := h
theorem ny {a b : Nat} (h : a < b) : a < b := h
theorem nx {a b : Nat} (h : a = b) : a = b := h
theorem nw {a b : Nat} (h : ¬ a = b) : ¬ a = b := h
theorem own_nn {z : Int32} {i : Nat} (h : z = Int32.ofNat i) (hi : i < 2 ^ 31) : z.toNatClampNeg = i ∧ ¬ z < 0 := by
  subst h
  have e : (Int32.ofNat i).toInt = i := Int32.toInt_ofNat_of_lt hi
  refine ⟨by rw [Int32.toNatClampNeg, e]; rfl, ?_⟩
  rw [Int32.lt_iff_toInt_lt, e]
  have : (0 : Int32).toInt = 0 := rfl
  omega
theorem retI (X : Stand p l e R s m args below meth c T locs cells slots) (hx : p.tables.exec = Jvm.exec) {z : Int32} {rest : List Value} (hret : meth.sig.returnType = some .int) (hd : decode c.code pc = .ok (.ireturn, 1)) {fs : List Frame}
    (hl : ∀ (f : JFrame) (acts : List Action), f.method = m → f.locked = none → f.entered = [] → (doReturn e (T.setTop f) acts (some (.int z))).1 = T.setFrames fs) : Steps p.tables e below (T.setTop (mkF m pc Ls (.int z :: rest))) (T.setFrames fs) := by
  have hm' : T.vm.method? m = some meth := X.method'
  have hn : narrow .int (.int z) = .int z := rfl
  show Steps p.tables e below (T.setTop { method := m, pc := pc, locals := Ls, stack := _ :: rest, locked := none }) _
  jvm_step X.here [X.here.top, hx, hd, hm', hret, hn]
  first | (intro acts; rw [hl _ acts rfl rfl rfl]) | rw [hl _ _ rfl rfl rfl]
  exact Steps.refl _
theorem retL (X : Stand p l e R s m args below meth c T locs cells slots) (hx : p.tables.exec = Jvm.exec) {z : Int64} {rest : List Value} (hret : meth.sig.returnType = some .long) (hd : decode c.code pc = .ok (.lreturn, 1)) {fs : List Frame}
    (hl : ∀ (f : JFrame) (acts : List Action), f.method = m → f.locked = none → f.entered = [] → (doReturn e (T.setTop f) acts (some (.long z))).1 = T.setFrames fs) : Steps p.tables e below (T.setTop (mkF m pc Ls (.long z :: rest))) (T.setFrames fs) := by
  have hm' : T.vm.method? m = some meth := X.method'
  show Steps p.tables e below (T.setTop { method := m, pc := pc, locals := Ls, stack := _ :: rest, locked := none }) _
  jvm_step X.here [X.here.top, hx, hd, hm', hret, narrow]
  first | (intro acts; rw [hl _ acts rfl rfl rfl]) | rw [hl _ _ rfl rfl rfl]
  exact Steps.refl _
theorem retA (X : Stand p l e R s m args below meth c T locs cells slots) (hx : p.tables.exec = Jvm.exec) {z : Value} {t : FieldType} {rest : List Value} (hz : z.isRef = true) (hret : meth.sig.returnType = some t) (ht : t.isReference = true) (hd : decode c.code pc = .ok (.areturn, 1)) {fs : List Frame}
    (hl : ∀ (f : JFrame) (acts : List Action), f.method = m → f.locked = none → f.entered = [] → (doReturn e (T.setTop f) acts (some z)).1 = T.setFrames fs) : Steps p.tables e below (T.setTop (mkF m pc Ls (z :: rest))) (T.setFrames fs) := by
  have hm' : T.vm.method? m = some meth := X.method'
  show Steps p.tables e below (T.setTop { method := m, pc := pc, locals := Ls, stack := _ :: rest, locked := none }) _
  jvm_step X.here [X.here.top, hx, hd, hm', hret, hz, ht]
  first | (intro acts; rw [hl _ acts rfl rfl rfl]) | rw [hl _ _ rfl rfl rfl]
  exact Steps.refl _
theorem retNz (X : Stand p l e R s m args below meth c T locs cells slots) (hx : p.tables.exec = Jvm.exec) {z z' : Int32} {t : FieldType} {rest : List Value} (hz : nar t z = z') (hret : meth.sig.returnType = some t) (ht : t = .boolean ∨ t = .byte ∨ t = .char ∨ t = .short)
    (hd : decode c.code pc = .ok (.ireturn, 1)) {fs : List Frame} (hl : ∀ (f : JFrame) (acts : List Action), f.method = m → f.locked = none → f.entered = [] → (doReturn e (T.setTop f) acts (some (.int z'))).1 = T.setFrames fs) :
    Steps p.tables e below (T.setTop (mkF m pc Ls (.int z :: rest))) (T.setFrames fs) := by
  subst hz
  exact retN X hx hret ht hd hl
/-- from here the body comes back, with what Qf says of the value, the heap and the places written -/
def Wk (p : Program) (e : Env) (below : List Frame) (E : Outcome → State → Prop) (T : State) (g : JFrame) : Prop :=
  ∃ s₂ o, Steps p.tables e below (T.setTop g) s₂ ∧ s₂.status = .running ∧ Ended s₂ below o ∧ E o s₂
def EndN (s : State) (Qf : Option Value → Heap → List Loc → Prop) (C S : Nat) : Outcome → State → Prop := fun o s₂ => ∃ v L, o = .returned v ∧ Qf v s₂.heap L ∧ FrameEnd s o s₂ L C S
theorem Wk.go (k : ∀ t, Steps p.tables e below (T'.setTop g') t → Steps p.tables e below (T.setTop g) t) (w : Wk p e below E T' g') : Wk p e below E T g := by
  obtain ⟨s₂, o, a, r⟩ := w
  exact ⟨s₂, o, k _ a, r⟩
theorem Wk.leave (X : Stand p l e R s m args below meth c T locs cells slots) {v : Option Value} (hv : meth.sig.returnType = none → v = none) (hlocks : meth.locks = false) (eT : T.heap = h) (hQ : Qf v h locs) (hC : cells ≤ C) (hS : slots ≤ S)
    (k : ∀ fs, (∀ (f : JFrame) (acts : List Action), f.method = m → f.locked = none → f.entered = [] → (doReturn e (T.setTop f) acts v).1 = T.setFrames fs) → Steps p.tables e below (T.setTop g) (T.setFrames fs)) : Wk p e below (EndN s Qf C S) T g := by
  obtain ⟨fs, hr, hrun, hended, hW, hsame⟩ := X.leave hv hlocks
  subst eT
  exact ⟨_, _, k fs hr, hrun, hended, _, _, rfl, hQ, ⟨_, rfl⟩, hW, hsame.mono hC hS⟩
theorem Wk.aloadN (X : Stand p l e R s m args below meth c T locs cells slots) (hx : p.tables.exec = Jvm.exec) {k : Fin 4} {v : Value} (hd : decode c.code pc = .ok (.aload_n k, 1)) (hp : pc + 1 = n) (hl : Ls[k.val]? = some (.val v)) (hv : v.isRef = true) (w : Wk p e below E T (mkF m n Ls (v :: sk))) : Wk p e below E T (mkF m pc Ls sk) := by
  subst hp
  exact Wk.go (fun _ k => XS.aloadN X.here hx rfl hd hl hv k) w
theorem Wk.iloadN (X : Stand p l e R s m args below meth c T locs cells slots) (hx : p.tables.exec = Jvm.exec) {k : Fin 4} {v : Int32} (hd : decode c.code pc = .ok (.iload_n k, 1)) (hp : pc + 1 = n) (hl : Ls[k.val]? = some (.val (.int v))) (w : Wk p e below E T (mkF m n Ls (.int v :: sk))) : Wk p e below E T (mkF m pc Ls sk) := by
  subst hp
  exact Wk.go (fun _ k => XS.iloadN X.here hx rfl hd hl k) w
theorem Wk.istoreN (X : Stand p l e R s m args below meth c T locs cells slots) (hx : p.tables.exec = Jvm.exec) {k : Fin 4} {v : Int32} {L' : Array Slot} (hd : decode c.code pc = .ok (.istore_n k, 1)) (hp : pc + 1 = n) (hl : storeLocals Ls k.val (.int v) = some L') (w : Wk p e below E T (mkF m n L' sk)) : Wk p e below E T (mkF m pc Ls (.int v :: sk)) := by
  subst hp
  exact Wk.go (fun _ k => XS.istoreN X.here hx rfl hd rfl hl k) w
theorem Wk.astoreN (X : Stand p l e R s m args below meth c T locs cells slots) (hx : p.tables.exec = Jvm.exec) {k : Fin 4} {v : Value} {L' : Array Slot} (hd : decode c.code pc = .ok (.astore_n k, 1)) (hp : pc + 1 = n) (hv : v.isRef = true) (hl : storeLocals Ls k.val v = some L') (w : Wk p e below E T (mkF m n L' sk)) : Wk p e below E T (mkF m pc Ls (v :: sk)) := by
  subst hp
  exact Wk.go (fun _ k => XS.astoreN X.here hx rfl hd rfl hv hl k) w
theorem Wk.aload (X : Stand p l e R s m args below meth c T locs cells slots) (hx : p.tables.exec = Jvm.exec) {k : Nat} {v : Value} (hd : decode c.code pc = .ok (.aload k, 2)) (hp : pc + 2 = n) (hl : Ls[k]? = some (.val v)) (hv : v.isRef = true) (w : Wk p e below E T (mkF m n Ls (v :: sk))) : Wk p e below E T (mkF m pc Ls sk) := by
  subst hp
  exact Wk.go (fun _ k => XS.aload X.here hx rfl hd hl hv k) w
theorem Wk.iload (X : Stand p l e R s m args below meth c T locs cells slots) (hx : p.tables.exec = Jvm.exec) {k : Nat} {v : Int32} (hd : decode c.code pc = .ok (.iload k, 2)) (hp : pc + 2 = n) (hl : Ls[k]? = some (.val (.int v))) (w : Wk p e below E T (mkF m n Ls (.int v :: sk))) : Wk p e below E T (mkF m pc Ls sk) := by
  subst hp
  exact Wk.go (fun _ k => XS.iload X.here hx rfl hd hl k) w
theorem Wk.istore (X : Stand p l e R s m args below meth c T locs cells slots) (hx : p.tables.exec = Jvm.exec) {k : Nat} {v : Int32} {L' : Array Slot} (hd : decode c.code pc = .ok (.istore k, 2)) (hp : pc + 2 = n) (hl : storeLocals Ls k (.int v) = some L') (w : Wk p e below E T (mkF m n L' sk)) : Wk p e below E T (mkF m pc Ls (.int v :: sk)) := by
  subst hp
  exact Wk.go (fun _ k => XS.istore X.here hx rfl hd rfl hl k) w
theorem Wk.astore (X : Stand p l e R s m args below meth c T locs cells slots) (hx : p.tables.exec = Jvm.exec) {k : Nat} {v : Value} {L' : Array Slot} (hd : decode c.code pc = .ok (.astore k, 2)) (hp : pc + 2 = n) (hv : v.isRef = true) (hl : storeLocals Ls k v = some L') (w : Wk p e below E T (mkF m n L' sk)) : Wk p e below E T (mkF m pc Ls (v :: sk)) := by
  subst hp
  exact Wk.go (fun _ k => XS.astore X.here hx rfl hd rfl hv hl k) w
theorem Wk.iconst (X : Stand p l e R s m args below meth c T locs cells slots) (hx : p.tables.exec = Jvm.exec) {i : Int} {z : Int32} (hd : decode c.code pc = .ok (.iconst i, 1)) (hp : pc + 1 = n) (hz : Int32.ofInt i = z) (w : Wk p e below E T (mkF m n Ls (.int z :: sk))) : Wk p e below E T (mkF m pc Ls sk) := by
  subst hp; subst hz
  exact Wk.go (fun _ k => XS.iconst X.here hx rfl hd  k) w
theorem Wk.bipush (X : Stand p l e R s m args below meth c T locs cells slots) (hx : p.tables.exec = Jvm.exec) {i : Int} {z : Int32} (hd : decode c.code pc = .ok (.bipush i, 2)) (hp : pc + 2 = n) (hz : (Int8.ofInt i).toInt32 = z) (w : Wk p e below E T (mkF m n Ls (.int z :: sk))) : Wk p e below E T (mkF m pc Ls sk) := by
  subst hp; subst hz
  exact Wk.go (fun _ k => XS.bipush X.here hx rfl hd  k) w
theorem Wk.sipush (X : Stand p l e R s m args below meth c T locs cells slots) (hx : p.tables.exec = Jvm.exec) {i : Int} {z : Int32} (hd : decode c.code pc = .ok (.sipush i, 3)) (hp : pc + 3 = n) (hz : (Int16.ofInt i).toInt32 = z) (w : Wk p e below E T (mkF m n Ls (.int z :: sk))) : Wk p e below E T (mkF m pc Ls sk) := by
  subst hp; subst hz
  exact Wk.go (fun _ k => XS.sipush X.here hx rfl hd  k) w
theorem Wk.aconstNull (X : Stand p l e R s m args below meth c T locs cells slots) (hx : p.tables.exec = Jvm.exec)  (hd : decode c.code pc = .ok (.aconst_null, 1)) (hp : pc + 1 = n)  (w : Wk p e below E T (mkF m n Ls (.null :: sk))) : Wk p e below E T (mkF m pc Ls sk) := by
  subst hp
  exact Wk.go (fun _ k => XS.aconstNull X.here hx rfl hd  k) w
theorem Wk.iadd (X : Stand p l e R s m args below meth c T locs cells slots) (hx : p.tables.exec = Jvm.exec) {x y : Int32} (hd : decode c.code pc = .ok (.iadd, 1)) (hp : pc + 1 = n)  (w : Wk p e below E T (mkF m n Ls (.int (x + y) :: sk))) : Wk p e below E T (mkF m pc Ls (.int y :: .int x :: sk)) := by
  subst hp
  exact Wk.go (fun _ k => XS.iadd X.here hx rfl hd rfl k) w
theorem Wk.isub (X : Stand p l e R s m args below meth c T locs cells slots) (hx : p.tables.exec = Jvm.exec) {x y : Int32} (hd : decode c.code pc = .ok (.isub, 1)) (hp : pc + 1 = n)  (w : Wk p e below E T (mkF m n Ls (.int (x - y) :: sk))) : Wk p e below E T (mkF m pc Ls (.int y :: .int x :: sk)) := by
  subst hp
  exact Wk.go (fun _ k => XS.isub X.here hx rfl hd rfl k) w
theorem Wk.imul (X : Stand p l e R s m args below meth c T locs cells slots) (hx : p.tables.exec = Jvm.exec) {x y : Int32} (hd : decode c.code pc = .ok (.imul, 1)) (hp : pc + 1 = n)  (w : Wk p e below E T (mkF m n Ls (.int (x * y) :: sk))) : Wk p e below E T (mkF m pc Ls (.int y :: .int x :: sk)) := by
  subst hp
  exact Wk.go (fun _ k => XS.imul X.here hx rfl hd rfl k) w
theorem Wk.iand (X : Stand p l e R s m args below meth c T locs cells slots) (hx : p.tables.exec = Jvm.exec) {x y : Int32} (hd : decode c.code pc = .ok (.iand, 1)) (hp : pc + 1 = n)  (w : Wk p e below E T (mkF m n Ls (.int (x &&& y) :: sk))) : Wk p e below E T (mkF m pc Ls (.int y :: .int x :: sk)) := by
  subst hp
  exact Wk.go (fun _ k => XS.iand X.here hx rfl hd rfl k) w
theorem Wk.ior (X : Stand p l e R s m args below meth c T locs cells slots) (hx : p.tables.exec = Jvm.exec) {x y : Int32} (hd : decode c.code pc = .ok (.ior, 1)) (hp : pc + 1 = n)  (w : Wk p e below E T (mkF m n Ls (.int (x ||| y) :: sk))) : Wk p e below E T (mkF m pc Ls (.int y :: .int x :: sk)) := by
  subst hp
  exact Wk.go (fun _ k => XS.ior X.here hx rfl hd rfl k) w
theorem Wk.i2b (X : Stand p l e R s m args below meth c T locs cells slots) (hx : p.tables.exec = Jvm.exec) {x : Int32} (hd : decode c.code pc = .ok (.i2b, 1)) (hp : pc + 1 = n)  (w : Wk p e below E T (mkF m n Ls (.int (x.toInt8.toInt32) :: sk))) : Wk p e below E T (mkF m pc Ls (.int x :: sk)) := by
  subst hp
  exact Wk.go (fun _ k => XS.i2b X.here hx rfl hd rfl k) w
theorem Wk.i2c (X : Stand p l e R s m args below meth c T locs cells slots) (hx : p.tables.exec = Jvm.exec) {x z : Int32} (hd : decode c.code pc = .ok (.i2c, 1)) (hp : pc + 1 = n) (hz : x.toUInt32.toUInt16.toUInt32.toInt32 = z) (w : Wk p e below E T (mkF m n Ls (.int z :: sk))) : Wk p e below E T (mkF m pc Ls (.int x :: sk)) := by
  subst hp; subst hz
  exact Wk.go (fun _ k => XS.i2c X.here hx rfl hd rfl k) w
theorem Wk.ishr (X : Stand p l e R s m args below meth c T locs cells slots) (hx : p.tables.exec = Jvm.exec) {x y : Int32} (hd : decode c.code pc = .ok (.ishr, 1)) (hp : pc + 1 = n)  (w : Wk p e below E T (mkF m n Ls (.int (x >>> (y &&& 31)) :: sk))) : Wk p e below E T (mkF m pc Ls (.int y :: .int x :: sk)) := by
  subst hp
  exact Wk.go (fun _ k => XS.ishr X.here hx rfl hd rfl k) w
theorem Wk.iushr (X : Stand p l e R s m args below meth c T locs cells slots) (hx : p.tables.exec = Jvm.exec) {x y : Int32} (hd : decode c.code pc = .ok (.iushr, 1)) (hp : pc + 1 = n)  (w : Wk p e below E T (mkF m n Ls (.int ((x.toUInt32 >>> (y &&& 31).toUInt32).toInt32) :: sk))) : Wk p e below E T (mkF m pc Ls (.int y :: .int x :: sk)) := by
  subst hp
  exact Wk.go (fun _ k => XS.iushr X.here hx rfl hd rfl k) w
theorem Wk.idiv (X : Stand p l e R s m args below meth c T locs cells slots) (hx : p.tables.exec = Jvm.exec) {x y : Int32} (hd : decode c.code pc = .ok (.idiv, 1)) (hp : pc + 1 = n) (hy : y ≠ 0) (w : Wk p e below E T (mkF m n Ls (.int (x / y) :: sk))) : Wk p e below E T (mkF m pc Ls (.int y :: .int x :: sk)) := by
  subst hp
  exact Wk.go (fun _ k => XS.idiv X.here hx rfl hd rfl hy k) w
theorem Wk.irem (X : Stand p l e R s m args below meth c T locs cells slots) (hx : p.tables.exec = Jvm.exec) {x y : Int32} (hd : decode c.code pc = .ok (.irem, 1)) (hp : pc + 1 = n) (hy : y ≠ 0) (w : Wk p e below E T (mkF m n Ls (.int (x % y) :: sk))) : Wk p e below E T (mkF m pc Ls (.int y :: .int x :: sk)) := by
  subst hp
  exact Wk.go (fun _ k => iremM X hx rfl hd rfl hy k) w
theorem Wk.iinc (X : Stand p l e R s m args below meth c T locs cells slots) (hx : p.tables.exec = Jvm.exec) {k : Nat} {cst : Int} {x : Int32} {L' : Array Slot} (hd : decode c.code pc = .ok (.iinc k cst, 3)) (hp : pc + 3 = n) (hl : Ls[k]? = some (.val (.int x))) (hl' : storeLocals Ls k (.int (x + Int32.ofInt cst)) = some L') (w : Wk p e below E T (mkF m n L' sk)) : Wk p e below E T (mkF m pc Ls sk) := by
  subst hp
  exact Wk.go (fun _ k => XS.iinc X.here hx rfl hd hl hl' k) w
theorem Wk.dup (X : Stand p l e R s m args below meth c T locs cells slots) (hx : p.tables.exec = Jvm.exec) {x : Value} (hd : decode c.code pc = .ok (.dup, 1)) (hp : pc + 1 = n) (hc : x.category = 1) (w : Wk p e below E T (mkF m n Ls (x :: x :: sk))) : Wk p e below E T (mkF m pc Ls (x :: sk)) := by
  subst hp
  exact Wk.go (fun _ k => XS.dup X.here hx rfl hd rfl hc k) w
theorem Wk.pop (X : Stand p l e R s m args below meth c T locs cells slots) (hx : p.tables.exec = Jvm.exec) {x : Value} (hd : decode c.code pc = .ok (.pop, 1)) (hp : pc + 1 = n) (hc : x.category = 1) (w : Wk p e below E T (mkF m n Ls sk)) : Wk p e below E T (mkF m pc Ls (x :: sk)) := by
  subst hp
  exact Wk.go (fun _ k => XS.pop X.here hx rfl hd rfl hc k) w
theorem Wk.dupX1 (X : Stand p l e R s m args below meth c T locs cells slots) (hx : p.tables.exec = Jvm.exec) {x y : Value} (hd : decode c.code pc = .ok (.dup_x1, 1)) (hp : pc + 1 = n) (hc : x.category = 1) (hc' : y.category = 1) (w : Wk p e below E T (mkF m n Ls (x :: y :: x :: sk))) : Wk p e below E T (mkF m pc Ls (x :: y :: sk)) := by
  subst hp
  exact Wk.go (fun _ k => XS.dupX1 X.here hx rfl hd rfl hc hc' k) w
theorem Wk.goto (X : Stand p l e R s m args below meth c T locs cells slots) (hx : p.tables.exec = Jvm.exec)  {o : Int} (hd : decode c.code pc = .ok (.goto o, 3))  (ho : 0 ≤ (pc : Int) + o) (hp : ((pc : Int) + o).toNat = n) (w : Wk p e below E T (mkF m n Ls sk)) : Wk p e below E T (mkF m pc Ls sk) := Wk.go (fun _ k => XS.goto X.here hx rfl rfl hd  ho hp k) w
theorem Wk.ifYes (X : Stand p l e R s m args below meth c T locs cells slots) (hx : p.tables.exec = Jvm.exec) {cd : ClassFile.Cond} {x : Int32} {o : Int} (hd : decode c.code pc = .ok (.ifCond cd o, 3)) (hc : ifCond.holds cd x = true) (ho : 0 ≤ (pc : Int) + o) (hp : ((pc : Int) + o).toNat = n) (w : Wk p e below E T (mkF m n Ls sk)) : Wk p e below E T (mkF m pc Ls (.int x :: sk)) := Wk.go (fun _ k => XS.ifYes X.here hx rfl rfl hd rfl hc ho hp k) w
theorem Wk.icmpYes (X : Stand p l e R s m args below meth c T locs cells slots) (hx : p.tables.exec = Jvm.exec) {cd : ClassFile.Cond} {x y : Int32} {o : Int} (hd : decode c.code pc = .ok (.if_icmp cd o, 3)) (hc : if_icmp.holds cd x y = true) (ho : 0 ≤ (pc : Int) + o) (hp : ((pc : Int) + o).toNat = n) (w : Wk p e below E T (mkF m n Ls sk)) : Wk p e below E T (mkF m pc Ls (.int y :: .int x :: sk)) := Wk.go (fun _ k => XS.icmpYes X.here hx rfl rfl hd rfl hc ho hp k) w
theorem Wk.ifnullYes (X : Stand p l e R s m args below meth c T locs cells slots) (hx : p.tables.exec = Jvm.exec)  {o : Int} (hd : decode c.code pc = .ok (.ifnull o, 3))  (ho : 0 ≤ (pc : Int) + o) (hp : ((pc : Int) + o).toNat = n) (w : Wk p e below E T (mkF m n Ls sk)) : Wk p e below E T (mkF m pc Ls (.null :: sk)) := Wk.go (fun _ k => XS.ifnullYes X.here hx rfl rfl hd rfl ho hp k) w
theorem Wk.ifnonnullYes (X : Stand p l e R s m args below meth c T locs cells slots) (hx : p.tables.exec = Jvm.exec) {b : Addr} {o : Int} (hd : decode c.code pc = .ok (.ifnonnull o, 3))  (ho : 0 ≤ (pc : Int) + o) (hp : ((pc : Int) + o).toNat = n) (w : Wk p e below E T (mkF m n Ls sk)) : Wk p e below E T (mkF m pc Ls (.ref b :: sk)) := Wk.go (fun _ k => XS.ifnonnullYes X.here hx rfl rfl hd rfl ho hp k) w
theorem Wk.ifNo (X : Stand p l e R s m args below meth c T locs cells slots) (hx : p.tables.exec = Jvm.exec) {cd : ClassFile.Cond} {o : Int} {x : Int32} (hd : decode c.code pc = .ok (.ifCond cd o, 3)) (hp : pc + 3 = n) (hc : ifCond.holds cd x = false) (w : Wk p e below E T (mkF m n Ls sk)) : Wk p e below E T (mkF m pc Ls (.int x :: sk)) := by
  subst hp
  exact Wk.go (fun _ k => XS.ifNo X.here hx rfl hd rfl hc k) w
theorem Wk.icmpNo (X : Stand p l e R s m args below meth c T locs cells slots) (hx : p.tables.exec = Jvm.exec) {cd : ClassFile.Cond} {o : Int} {x y : Int32} (hd : decode c.code pc = .ok (.if_icmp cd o, 3)) (hp : pc + 3 = n) (hc : if_icmp.holds cd x y = false) (w : Wk p e below E T (mkF m n Ls sk)) : Wk p e below E T (mkF m pc Ls (.int y :: .int x :: sk)) := by
  subst hp
  exact Wk.go (fun _ k => XS.icmpNo X.here hx rfl hd rfl hc k) w
theorem Wk.ifnullNo (X : Stand p l e R s m args below meth c T locs cells slots) (hx : p.tables.exec = Jvm.exec) {o : Int} {b : Addr} (hd : decode c.code pc = .ok (.ifnull o, 3)) (hp : pc + 3 = n)  (w : Wk p e below E T (mkF m n Ls sk)) : Wk p e below E T (mkF m pc Ls (.ref b :: sk)) := by
  subst hp
  exact Wk.go (fun _ k => XS.ifnullNo X.here hx rfl hd rfl k) w
theorem Wk.ifnonnullNo (X : Stand p l e R s m args below meth c T locs cells slots) (hx : p.tables.exec = Jvm.exec) {o : Int} (hd : decode c.code pc = .ok (.ifnonnull o, 3)) (hp : pc + 3 = n)  (w : Wk p e below E T (mkF m n Ls sk)) : Wk p e below E T (mkF m pc Ls (.null :: sk)) := by
  subst hp
  exact Wk.go (fun _ k => XS.ifnonnullNo X.here hx rfl hd rfl k) w
theorem Wk.acmp (X : Stand p l e R s m args below meth c T locs cells slots) (hx : p.tables.exec = Jvm.exec) {cd : ACond} {x y : Value} {same : Bool} {o : Int} (h1 : x.isRef = true) (h2 : y.isRef = true) (hd : decode c.code pc = .ok (.if_acmp cd o, 3)) (hq : decide (x = y) = same) (ho : 0 ≤ (pc : Int) + o) (hp : n = if acV cd same = true then ((pc : Int) + o).toNat else pc + 3) (w : Wk p e below E T (mkF m n Ls sk)) : Wk p e below E T (mkF m pc Ls (y :: x :: sk)) := Wk.go (fun _ k => RoadKit.acmp (g := mkF m pc Ls (y :: x :: sk)) X hx rfl h1 h2 rfl hd rfl hq ho hp k) w
theorem Wk.ldcInt (X : Stand p l e R s m args below meth c T locs cells slots) (hx : p.tables.exec = Jvm.exec) {own : String} {index : Nat} {v : Int32} (hown : s.vm.findClass own = some m.cls) (hc : (Cond.constant own index v).before args s = true) (hd : decode c.code pc = .ok (.ldc index, 2)) (hp : pc + 2 = n) (w : Wk p e below E T (mkF m n Ls (.int v :: sk))) : Wk p e below E T (mkF m pc Ls sk) := by
  subst hp
  exact Wk.go (X.ldcInt hx hown hc (g := mkF m pc Ls sk) rfl hd) w
theorem Wk.newO (X : Stand p l e R s m args below meth c T locs cells slots) (hx : p.tables.exec = Jvm.exec) (hZ : Z.Warmed39 s.vm) {own K : String} {index k : Nat} (hown : s.vm.findClass own = some m.cls) (w : (Cond.classLink own index K).before a0 Z = true) (wi : (Cond.instantiable K k).before a0 Z = true) (wz : (Cond.initialized K).before a0 Z = true) (eT : T.heap = h) (hd : decode c.code pc = .ok (.new index, 3)) (hp : pc + 3 = n) (hc : cells + 1 ≤ R.cells) (hl : slots + k ≤ R.slots)
    (kk : ∀ (T' : State) (h' : Heap) (b : Addr), b = h.size → Stand p l e R s m args below meth c T' locs (cells + 1) (slots + k) → T'.heap = h' → Ext h h' → Exa Z h' b K → (∀ {O nm d : String} {ty : FieldType}, Laid Z a0 K O nm d → parseFieldDescriptor d = some ty → Fld Z h' b O nm d (defaultValue ty)) → Unt h' b → Wk p e below E T' (mkF m n Ls (.ref b :: sk))) : Wk p e below E T (mkF m pc Ls sk) := by
  subst hp
  obtain ⟨T', h', X', e', E', A', D', Y', st'⟩ := RoadKit.newO X hx hZ hown w wi wz eT (g := mkF m pc Ls sk) rfl hd hc hl
  exact Wk.go st' (kk T' h' _ rfl X' e' E' A' (fun L q => D' L q) Y')
theorem Wk.getF (X : Stand p l e R s m args below meth c T locs cells slots) (hx : p.tables.exec = Jvm.exec) (hZ : Z.Warmed39 s.vm) {own R0 O f d host : String} {index : Nat} (hown : s.vm.findClass own = some m.cls) (w : (Cond.fieldLink own index R0 f d).before a0 Z = true ∨ (Cond.fieldLinkNest own index R0 f d host).before a0 Z = true) (via : Via Z R0 O f d) (eT : T.heap = h) {a : Addr} {v : Value} (F : Fld Z h a O f d v) (hd : decode c.code pc = .ok (.getfield index, 3)) (hp : pc + 3 = n) (kk : ∀ T' : State, Stand p l e R s m args below meth c T' locs cells slots → T'.heap = h → Wk p e below E T' (mkF m n Ls (v :: sk))) : Wk p e below E T (mkF m pc Ls (.ref a :: sk)) := by
  subst hp
  obtain ⟨T', X', e', st'⟩ := RoadKit.getF X hx hZ hown w via eT F (g := mkF m pc Ls (.ref a :: sk)) rfl rfl hd
  exact Wk.go st' (kk T' X' e')
theorem Wk.getS (X : Stand p l e R s m args below meth c T locs cells slots) (hx : p.tables.exec = Jvm.exec) (hZ : Z.Warmed39 s.vm) {own R0 O f d host : String} {index : Nat} (hown : s.vm.findClass own = some m.cls) (w : (Cond.fieldLink own index R0 f d).before a0 Z = true ∨ (Cond.fieldLinkNest own index R0 f d host).before a0 Z = true) (via : Via Z R0 O f d) (eT : T.heap = h) {v : Value} (F : Sta Z h O f d v) (hd : decode c.code pc = .ok (.getstatic index, 3)) (hp : pc + 3 = n) (kk : ∀ T' : State, Stand p l e R s m args below meth c T' locs cells slots → T'.heap = h → Wk p e below E T' (mkF m n Ls (v :: sk))) : Wk p e below E T (mkF m pc Ls sk) := by
  subst hp
  obtain ⟨T', X', e', st'⟩ := RoadKit.getS2 X hx hZ hown w via eT F (g := mkF m pc Ls sk) rfl hd
  exact Wk.go st' (kk T' X' e')
theorem Wk.putF (X : Stand p l e R s m args below meth c T locs cells slots) (hx : p.tables.exec = Jvm.exec) (hZ : Z.Warmed39 s.vm) {own R0 O f d host : String} {index : Nat} (hown : s.vm.findClass own = some m.cls) (w : (Cond.fieldLink own index R0 f d).before a0 Z = true ∨ (Cond.fieldLinkNest own index R0 f d host).before a0 Z = true) (via : Via Z R0 O f d) (eT : T.heap = h) {K : String} {kk' : Nat} {ty : FieldType} {a : Addr} {v old : Value} (F : Fld Z h a O f d old) (Ea : Exa Z h a K) (L : (Cond.lays K O f d).before a0 Z = true ∨ ((Cond.laysFinal K O f d).before a0 Z = true ∧ own = O ∧ meth.name = "<init>")) (wi : (Cond.instantiable K kk').before a0 Z = true) (hty : parseFieldDescriptor d = some ty) (hn : narrow ty v = v) (hf : fits ty v = true) (hd : decode c.code pc = .ok (.putfield index, 3)) (hp : pc + 3 = n) (kk : ∀ (T' : State) (h' : Heap), Stand p l e R s m args below meth c T' (locs ++ [⟨a, slotOf Z O f d⟩]) cells slots → T'.heap = h' → Wr h h' a (slotOf Z O f d) v → Wk p e below E T' (mkF m n Ls sk)) : Wk p e below E T (mkF m pc Ls (v :: .ref a :: sk)) := by
  subst hp
  obtain ⟨T', h', X', e', W', st'⟩ := RoadKit.putF X hx hZ hown w via eT F Ea L wi hty hn hf (g := mkF m pc Ls (v :: .ref a :: sk)) rfl rfl hd
  exact Wk.go st' (kk T' h' X' e' W')
theorem Wk.putFN (X : Stand p l e R s m args below meth c T locs cells slots) (hx : p.tables.exec = Jvm.exec) (hZ : Z.Warmed39 s.vm) {own R0 O f d : String} {index : Nat} (hown : s.vm.findClass own = some m.cls) (w : (Cond.fieldLink own index R0 f d).before a0 Z = true) (via : Via Z R0 O f d) (eT : T.heap = h) {K : String} {kk' : Nat} {ty : FieldType} {a : Addr} {v old : Value} (F : Fld Z h a O f d old) (Ea : Exa Z h a K) (L : (Cond.lays K O f d).before a0 Z = true ∨ ((Cond.laysFinal K O f d).before a0 Z = true ∧ own = O ∧ meth.name = "<init>")) (wi : (Cond.instantiable K kk').before a0 Z = true) (hty : parseFieldDescriptor d = some ty) {v' : Value} (hn : narrow ty v = v') (hf : fits ty v' = true) (hd : decode c.code pc = .ok (.putfield index, 3)) (hp : pc + 3 = n) (kk : ∀ (T' : State) (h' : Heap), Stand p l e R s m args below meth c T' (locs ++ [⟨a, slotOf Z O f d⟩]) cells slots → T'.heap = h' → Wr h h' a (slotOf Z O f d) v' → Wk p e below E T' (mkF m n Ls sk)) : Wk p e below E T (mkF m pc Ls (v :: .ref a :: sk)) := by
  subst hp
  obtain ⟨T', h', X', e', W', st'⟩ := RoadKit.putFN X hx hZ hown w via eT F Ea L wi hty hn hf (g := mkF m pc Ls (v :: .ref a :: sk)) rfl rfl hd
  exact Wk.go st' (kk T' h' X' e' W')
theorem Wk.initO (X : Stand p l e R s m args below meth c T locs cells slots) (hx : p.tables.exec = Jvm.exec) (hZ : Z.Warmed39 s.vm) {own : String} {idx : Nat} (hown : s.vm.findClass own = some m.cls) (w1 : (Cond.methodLink own idx Lib.objectInit).before a0 Z = true) (w2 : (Cond.instanceMethod Lib.objectInit).before a0 Z = true) (w3 : (Cond.code Lib.objectInit ⟨#[0xb1]⟩ 1 none).before a0 Z = true) (eT : T.heap = h) (hsz : Ls.size = c.maxLocals) {a : Addr} (hd : decode c.code pc = .ok (.invokespecial idx, 3)) (hp : pc + 3 = n) (hf : 1 ≤ R.frames) {w : Nat} (hw : (sk.map fun v => v.category).sum ≤ w) (hl : w + 12 ≤ R.locals) (kk : ∀ T' : State, Stand p l e R s m args below meth c T' locs cells slots → T'.heap = h → Wk p e below E T' (mkF m n Ls sk)) : Wk p e below E T (mkF m pc Ls (.ref a :: sk)) := by
  subst hp
  obtain ⟨T', X', e', st'⟩ := RoadKit.initO X hx hZ hown w1 w2 w3 eT (g := mkF m pc Ls (.ref a :: sk)) rfl hsz rfl hd hf (W := w) (by show 2 * 0 + _ ≤ _; omega) hl
  exact Wk.go st' (kk T' X' e')
theorem Wk.newP (X : Stand p l e R s m args below meth c T locs cells slots) (hx : p.tables.exec = Jvm.exec) (hZ : Z.Warmed39 s.vm) {aty : ArrayType} (w : (Cond.arrayClass (newarray.typeOf aty)).before a0 Z = true) (eT : T.heap = h) (hd : decode c.code pc = .ok (.newarray aty, 2)) (hp : pc + 2 = n) {z : Int32} (hz : ¬ z < 0) {cap : Nat} (hcap : z.toNatClampNeg ≤ cap) (hb : cap * 8 ≤ 536870912) (hc : cells + 1 ≤ R.cells) (hl : slots + cap ≤ R.slots)
    (kk : ∀ (T' : State) (h' : Heap) (b : Addr) (cA : ClassId), b = h.size → Stand p l e R s m args below meth c T' locs (cells + 1) (slots + cap) → T'.heap = h' → Ext h h' → Arr Z h' b (newA cA (newarray.typeOf aty) z) (newarray.typeOf aty) → Wk p e below E T' (mkF m n Ls (.ref b :: sk))) : Wk p e below E T (mkF m pc Ls (.int z :: sk)) := by
  subst hp
  obtain ⟨T', h', cA, X', e', E', A', st'⟩ := RoadKit.newP X hx hZ w eT (g := mkF m pc Ls (.int z :: sk)) rfl hd rfl hz hcap hb hc hl
  exact Wk.go st' (kk T' h' _ cA rfl X' e' E' A')
theorem Wk.newPE (X : Stand p l e R s m args below meth c T locs cells slots) (hx : p.tables.exec = Jvm.exec) (hZ : Z.Warmed39 s.vm) {aty : ArrayType} (w : (Cond.arrayClass (newarray.typeOf aty)).before a0 Z = true) (eT : T.heap = h) (hd : decode c.code pc = .ok (.newarray aty, 2)) (hp : pc + 2 = n) {z : Int32} (hz : ¬ z < 0) {cap : Nat} (hcap : z.toNatClampNeg ≤ cap) (hb : cap * 8 ≤ 536870912) (hc : cells + 1 ≤ R.cells) (hl : slots + cap ≤ R.slots)
    {ad : String} (had : "[" ++ (newarray.typeOf aty).toString = ad)
    (kk : ∀ (T' : State) (h' : Heap) (b : Addr) (cA : ClassId), b = h.size → Stand p l e R s m args below meth c T' locs (cells + 1) (slots + cap) → T'.heap = h' → Ext h h' → Arr Z h' b (newA cA (newarray.typeOf aty) z) (newarray.typeOf aty) → Exa Z h' b ad → Wk p e below E T' (mkF m n Ls (.ref b :: sk))) : Wk p e below E T (mkF m pc Ls (.int z :: sk)) := by
  subst hp
  obtain ⟨T', h', cA, X', e', E', A', Q', st'⟩ := RoadKit.newPE X hx hZ w eT (g := mkF m pc Ls (.int z :: sk)) rfl hd rfl hz hcap hb hc hl had
  exact Wk.go st' (kk T' h' _ cA rfl X' e' E' A' Q')
theorem Wk.stI (X : Stand p l e R s m args below meth c T locs cells slots) (hx : p.tables.exec = Jvm.exec) (hZ : Z.Warmed39 s.vm) (eT : T.heap = h) {a : Addr} {cl : Cell} (A : Arr Z h a cl .int) {j : Int32} {x : Int32} (hj : ¬ (j < 0 ∨ cl.slots.size ≤ j.toNatClampNeg)) (hd : decode c.code pc = .ok (.iastore, 1)) (hp : pc + 1 = n) (kk : ∀ (T' : State) (h' : Heap), Stand p l e R s m args below meth c T' (locs ++ [⟨a, j.toNatClampNeg⟩]) cells slots → T'.heap = h' → Wr h h' a j.toNatClampNeg (.int x) → Wk p e below E T' (mkF m n Ls sk)) : Wk p e below E T (mkF m pc Ls ((.int x) :: .int j :: .ref a :: sk)) := by
  subst hp
  obtain ⟨T', h', X', e', W', st'⟩ := RoadKit.stI X hx hZ eT A hj (g := mkF m pc Ls ((.int x) :: .int j :: .ref a :: sk)) rfl rfl hd
  exact Wk.go st' (kk T' h' X' e' W')
theorem Wk.stC (X : Stand p l e R s m args below meth c T locs cells slots) (hx : p.tables.exec = Jvm.exec) (hZ : Z.Warmed39 s.vm) (eT : T.heap = h) {a : Addr} {cl : Cell} (A : Arr Z h a cl .char) {j : Int32} {x : Int32} (hj : ¬ (j < 0 ∨ cl.slots.size ≤ j.toNatClampNeg)) (hd : decode c.code pc = .ok (.castore, 1)) (hp : pc + 1 = n) (kk : ∀ (T' : State) (h' : Heap), Stand p l e R s m args below meth c T' (locs ++ [⟨a, j.toNatClampNeg⟩]) cells slots → T'.heap = h' → Wr h h' a j.toNatClampNeg (.int (nar .char x)) → Wk p e below E T' (mkF m n Ls sk)) : Wk p e below E T (mkF m pc Ls ((.int x) :: .int j :: .ref a :: sk)) := by
  subst hp
  obtain ⟨T', h', X', e', W', st'⟩ := RoadKit.stC X hx hZ eT A hj (g := mkF m pc Ls ((.int x) :: .int j :: .ref a :: sk)) rfl rfl hd
  exact Wk.go st' (kk T' h' X' e' W')
theorem Wk.stB (X : Stand p l e R s m args below meth c T locs cells slots) (hx : p.tables.exec = Jvm.exec) (hZ : Z.Warmed39 s.vm) (eT : T.heap = h) {a : Addr} {cl : Cell} (A : Arr Z h a cl .byte) {j : Int32} {x : Int32} (hj : ¬ (j < 0 ∨ cl.slots.size ≤ j.toNatClampNeg)) (hd : decode c.code pc = .ok (.bastore, 1)) (hp : pc + 1 = n) (kk : ∀ (T' : State) (h' : Heap), Stand p l e R s m args below meth c T' (locs ++ [⟨a, j.toNatClampNeg⟩]) cells slots → T'.heap = h' → Wr h h' a j.toNatClampNeg (.int (nar .byte x)) → Wk p e below E T' (mkF m n Ls sk)) : Wk p e below E T (mkF m pc Ls ((.int x) :: .int j :: .ref a :: sk)) := by
  subst hp
  obtain ⟨T', h', X', e', W', st'⟩ := RoadKit.stB X hx hZ eT A hj (g := mkF m pc Ls ((.int x) :: .int j :: .ref a :: sk)) rfl rfl hd
  exact Wk.go st' (kk T' h' X' e' W')
theorem Wk.caload (X : Stand p l e R s m args below meth c T locs cells slots) (hx : p.tables.exec = Jvm.exec) (hZ : Z.Warmed39 s.vm) (eT : T.heap = h) {a : Addr} {cl : Cell} (A : Arr Z h a cl .char) {j : Int32} {v : Value} (hj : ¬ (j < 0 ∨ cl.slots.size ≤ j.toNatClampNeg)) (ha : cl.slots[j.toNatClampNeg]? = some v) (hd : decode c.code pc = .ok (.caload, 1)) (hp : pc + 1 = n) (w : Wk p e below E T (mkF m n Ls (v :: sk))) : Wk p e below E T (mkF m pc Ls (.int j :: .ref a :: sk)) := by
  subst hp
  exact Wk.go (X.caload hx (by rw [eT]; exact A.1) (State.isArrayOf_alike hZ.alike A.2.1) A.2.2 hj ha (g := mkF m pc Ls (.int j :: .ref a :: sk)) rfl rfl hd) w
theorem Wk.baloadBytes (X : Stand p l e R s m args below meth c T locs cells slots) (hx : p.tables.exec = Jvm.exec) (hZ : Z.Warmed39 s.vm) (eT : T.heap = h) {a : Addr} {cl : Cell} (A : Arr Z h a cl .byte) {j : Int32} {v : Value} (hj : ¬ (j < 0 ∨ cl.slots.size ≤ j.toNatClampNeg)) (ha : cl.slots[j.toNatClampNeg]? = some v) (hd : decode c.code pc = .ok (.baload, 1)) (hp : pc + 1 = n) (w : Wk p e below E T (mkF m n Ls (v :: sk))) : Wk p e below E T (mkF m pc Ls (.int j :: .ref a :: sk)) := by
  subst hp
  exact Wk.go (X.baloadBytes hx (by rw [eT]; exact A.1) (State.isArrayOf_alike hZ.alike A.2.1) A.2.2 hj ha (g := mkF m pc Ls (.int j :: .ref a :: sk)) rfl rfl hd) w
theorem Wk.arrlen (X : Stand p l e R s m args below meth c T locs cells slots) (hx : p.tables.exec = Jvm.exec) (hZ : Z.Warmed39 s.vm) (eT : T.heap = h) {a : Addr} {cl : Cell} {ty : FieldType} {z : Int32} (A : Arr Z h a cl ty) (S' : cl.slots.size = z.toNatClampNeg) (hz : ¬ z < 0) (hd : decode c.code pc = .ok (.arraylength, 1)) (hp : pc + 1 = n) (w : Wk p e below E T (mkF m n Ls (.int z :: sk))) : Wk p e below E T (mkF m pc Ls (.ref a :: sk)) := by
  subst hp
  have q := X.arraylength hx (by rw [eT]; exact A.1) (State.isArrayOf_alike hZ.alike A.2.1) (g := mkF m pc Ls (.ref a :: sk)) rfl rfl hd
  rw [len_of S' hz] at q
  exact Wk.go q w
theorem Wk.castY (X : Stand p l e R s m args below meth c T locs cells slots) (hx : p.tables.exec = Jvm.exec) (hZ : Z.Warmed39 s.vm) {own K : String} {index : Nat} (hown : s.vm.findClass own = some m.cls) (w : (Cond.classLink own index K).before a0 Z = true) (eT : T.heap = h) {a : Addr} (F : Ins Z h a K true) (hd : decode c.code pc = .ok (.checkcast index, 3)) (hp : pc + 3 = n) (kk : ∀ T' : State, Stand p l e R s m args below meth c T' locs cells slots → T'.heap = h → Wk p e below E T' (mkF m n Ls (.ref a :: sk))) : Wk p e below E T (mkF m pc Ls (.ref a :: sk)) := by
  subst hp
  obtain ⟨T', X', e', st'⟩ := RoadKit.castY X hx hZ hown w eT F (g := mkF m pc Ls (.ref a :: sk)) rfl rfl hd
  exact Wk.go st' (kk T' X' e')
theorem Wk.back {rc rs : Nat} {Q : Option Value → Heap → List Loc → Prop} {rest : List Value} (call : ∃ (v : Option Value) (vm₁ : Vm) (B : Pt), s.WarmedH vm₁ ∧ Stand p l e R s m args below meth c B.U B.locs B.cells B.slots ∧ (∃ L, Q v B.U.heap L ∧ B.locs = locs ++ L ∧ B.cells = cells + rc ∧ B.slots = slots + rs) ∧ Steps p.tables e below (T.setTop (mkF m pc Ls sk)) (B.U.setTop (mkF m n Ls (v.toList ++ rest)))) (kk : ∀ (v : Option Value) (T' : State) (L : List Loc), Stand p l e R s m args below meth c T' (locs ++ L) (cells + rc) (slots + rs) → Q v T'.heap L → Wk p e below E T' (mkF m n Ls (v.toList ++ rest))) : Wk p e below E T (mkF m pc Ls sk) := by
  obtain ⟨v, _, ⟨T', L', c', s'⟩, -, X', ⟨L, hQ, h1, h2, h3⟩, k⟩ := call
  dsimp only [Pt.U, Pt.locs, Pt.cells, Pt.slots] at X' h1 h2 h3 k hQ
  subst h1 h2 h3
  exact Wk.go (fun _ r => k.trans r) (kk v T' L X' hQ)
theorem Wk.backS {rc rs : Nat} {Q : Option Value → Heap → List Loc → Prop} {rest : List Value} (call : ∃ (v : Option Value) (vm₁ : Vm) (B : Pt), s.WarmedH vm₁ ∧ Stand p l e R s m args below meth c B.U B.locs B.cells B.slots ∧ (∃ L, Q v B.U.heap L ∧ B.locs = locs ++ L ∧ B.cells = cells + rc ∧ B.slots = slots + rs) ∧ ∀ target, Steps p.tables e below (B.U.setTop (mkF m n Ls (v.toList ++ rest))) target → Steps p.tables e below (T.setTop (mkF m pc Ls sk)) target) (kk : ∀ (v : Option Value) (T' : State) (L : List Loc), Stand p l e R s m args below meth c T' (locs ++ L) (cells + rc) (slots + rs) → Q v T'.heap L → Wk p e below E T' (mkF m n Ls (v.toList ++ rest))) : Wk p e below E T (mkF m pc Ls sk) := by
  obtain ⟨v, _, ⟨T', L', c', s'⟩, -, X', ⟨L, hQ, h1, h2, h3⟩, k⟩ := call
  dsimp only [Pt.U, Pt.locs, Pt.cells, Pt.slots] at X' h1 h2 h3 k hQ
  subst h1 h2 h3
  exact Wk.go k (kk v T' L X' hQ)
theorem Wk.cpA (X : Stand p l e R s m args below meth c T locs cells slots) (hx : p.tables.exec = Jvm.exec) (hZ : Z.Warmed39 s.vm) {own : String} {index : Nat} (hown : s.vm.findClass own = some m.cls) (w1 : (Cond.methodLink own index Jvm.Stand.acN).before a0 Z = true) (w2 : (Cond.native Jvm.Stand.acN).before a0 Z = true) (w3 : (Cond.static Jvm.Stand.acN).before a0 Z = true) (w4 : (Cond.initialized "java/lang/System").before a0 Z = true) (eT : T.heap = h) {a b : Addr} {k k' : ClassId} {ty ty' : FieldType} {z z' sp dp nn : Int32} {vs vd us vn : List Value} {dv dd : Value} (A : Arv Z h a k ty z vs dv) (B : Arv Z h b k' ty' z' vd dd) (hty : (ty = ty' ∧ refKind ty = false) ∨ (refKind ty = true ∧ refKind ty' = true ∧ StoL Z h b us)) {i j q : Nat} (h1 : sp = Int32.ofNat i) (h2 : dp = Int32.ofNat j) (h3 : nn = Int32.ofNat q) (hi : i < 2 ^ 31) (hj : j < 2 ^ 31) (hq : q < 2 ^ 31) (h4 : i + q ≤ z.toNatClampNeg) (h5 : j + q ≤ z'.toNatClampNeg) (hus : us = (List.range q).map fun y => vs.getD (i + y) dv) (hl : j + q ≤ vd.length) {n0 : Nat} (N : Fr n0 locs) (ge : n0 ≤ b) (hvn : vd.take j ++ us ++ vd.drop (j + q) = vn) (hsz : Ls.size = c.maxLocals) (hd : decode c.code pc = .ok (.invokestatic index, 3)) (hp : pc + 3 = n) (hf : 1 ≤ R.frames) {w : Nat} (hw : (sk.map fun v => v.category).sum ≤ w) (hlo : w + (nativeFrameWords "java/lang/System" "arraycopy" 5 + 11) ≤ R.locals)
    (kk : ∀ (T' : State) (h' : Heap) (L : List Loc), Stand p l e R s m args below meth c T' L cells slots → T'.heap = h' → Fr n0 L → Keep h h' [b] → Arv Z h' b k' ty' z' vn dd → Wk p e below E T' (mkF m n Ls sk)) : Wk p e below E T (mkF m pc Ls (.int nn :: .int dp :: .ref b :: .int sp :: .ref a :: sk)) := by
  subst hp hvn
  obtain ⟨e1, e1'⟩ := own_nn h1 hi
  obtain ⟨e2, e2'⟩ := own_nn h2 hj
  obtain ⟨e3, e3'⟩ := own_nn h3 hq
  obtain ⟨T', h', L, X', e', N', K', A', st'⟩ := RoadKit.cpA X hx hZ hown w1 w2 w3 w4 eT A B hty e1' e2' e3' (by rw [e1, e3]; exact h4) (by rw [e2, e3]; exact h5) (by rw [e1, e3]; exact hus) (by rw [e2, e3]; exact hl) N ge (g := mkF m pc Ls (.int nn :: .int dp :: .ref b :: .int sp :: .ref a :: sk)) rfl hsz rfl hd hf (W := w) (by show 2 * 0 + _ ≤ _; omega) hlo
  rw [e2, e3] at A'
  exact Wk.go st' (kk T' h' L X' e' N' K' A')
end Own
end Jvm.RoadKit
namespace Jvm.RoadKit
open Sem ClassFile Op Lib Bundle Jvm.Stand Jvm.Free Jvm.LawKit
section OwnEnter
variable {l : Launch} {Z : State} {h0 : Heap} {Q : Option Value → Heap → List Loc → Prop} {EL : List (String × Nat)}
abbrev rM (a b c d : Nat) : Room := { frames := a, cells := b, slots := c, locals := d }
abbrev MetN (l : Launch) (Z : State) (y : MethodName) (bytes : ByteArray) (maxL : Nat) (ret : Option FieldType) (ws : List Cond) (rm : Room) (A : Array Value) (h0 : Heap) (Q : Option Value → Heap → List Loc → Prop) : Prop := MetFree l y (head1 (Cond.code y bytes maxL ret :: ws) rm) (fun a U => a = A ∧ Z.Warmed39 U.vm ∧ U.heap = h0) (fun _ _ _ _ _ => True) (fun _ U o U' => ∃ v L, o = .returned v ∧ Q v U'.heap L ∧ FrameEnd U o U' L rm.cells rm.slots)
theorem enterN {y : MethodName} {bytes : ByteArray} {maxL : Nat} {ret : Option FieldType} {ws : List Cond} {rm : Room} {A : Array Value} {Ls : Array Slot} (hp : plainFor y = true) (ef : ∀ m, entryFrame m A maxL = mkF m 0 Ls [])
    (k : ∀ (p : Program) (e : Env) (s : State) (m : MethodId) (below : List Frame) (meth : Method) (c : Code) (s₁ : State), BodyLoose p l y (head1 (Cond.code y bytes maxL ret :: ws) rm) bytes maxL ret e s m A below meth c s₁ → Z.Warmed39 s.vm → p.tables.exec = Jvm.exec → (∀ {pc : Nat} {r : Except DecodeError (Instr × Nat)}, decode bytes pc = r → decode c.code pc = r) → meth.locks = false → c.maxLocals = maxL → s.vm.findClass y.cls = some m.cls → meth.name = y.name → Stand p l e rm s m A below meth c s₁ [] 0 0 → s₁.heap = h0 → Wk p e below (EndN s Q rm.cells rm.slots) s₁ (mkF m 0 Ls [])) :
    MetFree l y (head1 (Cond.code y bytes maxL ret :: ws) rm) (fun a U => a = A ∧ Z.Warmed39 U.vm ∧ U.heap = h0) (fun _ _ _ _ _ => True) (fun _ U o U' => ∃ v L, o = .returned v ∧ Q v U'.heap L ∧ FrameEnd U o U' L rm.cells rm.slots) := by
  refine MetFree.of_bodySF hp hisR ?_
  intro p e s m args below meth c s₁ Bd hml0 hP hK
  obtain ⟨rfl, hZ, hh⟩ := hP
  have q := k p e s m below meth c s₁ Bd hZ Bd.exec (fun q => hb Bd.bytes q) (BodyLoose.notSynchronized Bd) hml0 (findClass_of_methodNamed Bd.named) (name_of_methodNamed Bd.named Bd.method).1 (Stand.of_body Bd) (by rw [← hh, Bd.state]; rfl)
  rw [← ef] at q
  exact q
abbrev LsOk (c : Code) (Ls : Array Slot) : Prop := Ls.size = c.maxLocals
theorem lsok {c : Code} {Ls : Array Slot} {n : Nat} (h : c.maxLocals = n) (q : Ls.size = n) : LsOk c Ls := q.trans h.symm
theorem leq0 {a b : Nat} (h : a = b) : 2 * 0 + a ≤ b := by omega
end OwnEnter
end Jvm.RoadKit
namespace Jvm.RoadKit
open Sem ClassFile Op Lib Bundle Jvm.Stand Jvm.Free Jvm.LawKit
section OwnEnterH
variable {l : Launch} {Z : State} {h0 : Heap} {Q : Option Value → Heap → List Loc → Prop}
abbrev MetH (l : Launch) (Z : State) (y : MethodName) (bytes : ByteArray) (maxL : Nat) (ret : Option FieldType) (hs : List (Nat × Nat × Nat × Nat)) (ws : List Cond) (rm : Room) (A : Array Value) (h0 : Heap) (Q : Option Value → Heap → List Loc → Prop) : Prop := MetFree l y (head1 (Cond.codeWith y bytes maxL ret hs :: ws) rm) (fun a U => a = A ∧ Z.Warmed39 U.vm ∧ U.heap = h0) (fun _ _ _ _ _ => True) (fun _ U o U' => ∃ v L, o = .returned v ∧ Q v U'.heap L ∧ FrameEnd U o U' L rm.cells rm.slots)
theorem enterH {y : MethodName} {bytes : ByteArray} {maxL : Nat} {ret : Option FieldType} {hs : List (Nat × Nat × Nat × Nat)} {ws : List Cond} {rm : Room} {A : Array Value} {Ls : Array Slot} (hp : plainFor y = true) (ef : ∀ m, entryFrame m A maxL = mkF m 0 Ls [])
    (k : ∀ (p : Program) (e : Env) (s : State) (m : MethodId) (below : List Frame) (meth : Method) (c : Code) (s₁ : State), BodyLoose p l y (head1 (Cond.codeWith y bytes maxL ret hs :: ws) rm) bytes maxL ret e s m A below meth c s₁ → Z.Warmed39 s.vm → p.tables.exec = Jvm.exec → (∀ {pc : Nat} {r : Except DecodeError (Instr × Nat)}, decode bytes pc = r → decode c.code pc = r) → meth.locks = false → c.maxLocals = maxL → s.vm.findClass y.cls = some m.cls → meth.name = y.name → Stand p l e rm s m A below meth c s₁ [] 0 0 → s₁.heap = h0 → Wk p e below (EndN s Q rm.cells rm.slots) s₁ (mkF m 0 Ls [])) :
    MetFree l y (head1 (Cond.codeWith y bytes maxL ret hs :: ws) rm) (fun a U => a = A ∧ Z.Warmed39 U.vm ∧ U.heap = h0) (fun _ _ _ _ _ => True) (fun _ U o U' => ∃ v L, o = .returned v ∧ Q v U'.heap L ∧ FrameEnd U o U' L rm.cells rm.slots) := by
  refine MetFree.of_bodySF hp hisWith ?_
  intro p e s m args below meth c s₁ Bd hml0 hP hK
  obtain ⟨rfl, hZ, hh⟩ := hP
  have q := k p e s m below meth c s₁ Bd hZ Bd.exec (fun q => hb Bd.bytes q) (BodyLoose.notSynchronized Bd) hml0 (findClass_of_methodNamed Bd.named) (name_of_methodNamed Bd.named Bd.method).1 (Stand.of_body Bd) (by rw [← hh, Bd.state]; rfl)
  rw [← ef] at q
  exact q
end OwnEnterH
end Jvm.RoadKit
namespace Jvm.Pilot.@@N@@
open Jvm Jvm.ClassFile Sem Op Lib Jvm.Free Jvm.Stand Jvm.LawKit Jvm.RoadKit Bundle Jvm.Pilot.@@N@@.Jvm.D
theorem own_c255 (x : Int32) : nar .char ((x &&& (255 : Int32)).toUInt32.toUInt16.toUInt32.toInt32) = (x &&& (255 : Int32)).toUInt32.toUInt16.toUInt32.toInt32 := by
  show ((x &&& (255 : Int32)).toUInt32.toUInt16.toUInt32.toInt32).toUInt32.toUInt16.toUInt32.toInt32 = _
  rw [i2c_mask, i2c_mask]
theorem own_r255 (x : Int32) : ¬ ((x &&& (255 : Int32)).toUInt32.toUInt16.toUInt32.toInt32) < 0 ∧ ¬ (255 : Int32) < ((x &&& (255 : Int32)).toUInt32.toUInt16.toUInt32.toInt32) := by
  rw [i2c_mask]
  have h := c_and x 255 (by decide)
  have e : (255 : Int32).toInt = 255 := rfl
  have e0 : (0 : Int32).toInt = 0 := rfl
  constructor <;> rw [Int32.lt_iff_toInt_lt] <;> omega
theorem own_ne0 {args : Array Value} {s : State} {t : Term} {z : Int32} (ev : t.eval args s none [] s = some (.int z)) (h : (Jvm.Cond.not (Jvm.Cond.eq t (Term.int (0 : Int32)))).value args s none s [] = some true) : ¬ z = 0 := by
  have h2 := not_v h
  exact gotF (P := z = 0) (by simp [Cond.value, ev, Term.eval]) h2
theorem own_len {args : Array Value} {s : State} {t : Term} {a : Addr} {c : Cell} {ty : FieldType} {z : Int32} (ev : t.eval args s none [] s = some (.ref a)) (A : Arr s s.heap a c ty) (h : (Jvm.Cond.eq (Term.length t) (Term.int z)).value args s none s [] = some true) : c.slots.size < 2 ^ 31 ∧ c.slots.size.toInt32 = z := by
  have hA := A.fin (Vm.Alike.refl _)
  by_cases q : c.slots.size < 2 ^ 31
  · exact ⟨q, gotT (Cond.eq_ints (len_f ev hA q) (Term.int_eval z)) h⟩
  · obtain ⟨x, y, h1, -⟩ := cmp_v (Or.inl h)
    simp [Term.eval, ev, hA, q] at h1
theorem own_narb (x : Int32) : nar .byte (x.toInt8.toInt32) = x.toInt8.toInt32 := by simp [nar]
abbrev bsV (cs : List Int32) : List Value := (cs.map (fun c => c.toInt8.toInt32)).map Value.int
theorem bsV_len (cs : List Int32) : (bsV cs).length = cs.length := by simp [bsV]
theorem own_usb (cx : List Int32) : (List.range cx.length).map (fun y => (bsV cx).getD (0 + y) (.int (0 : Int32))) = bsV cx := by
  apply List.ext_getElem
  · simp [bsV]
  · intro i h1 h2
    have h3 : i < cx.length := by simpa using h1
    simp [bsV, h3]
theorem own_vr (cs : List Int32) : (List.replicate cs.length (Value.int (0 : Int32))).take 0 ++ (List.range cs.length).map (fun y => (bsV cs).getD (0 + y) (.int (0 : Int32))) ++ (List.replicate cs.length (Value.int (0 : Int32))).drop (0 + cs.length) = bsV cs := by
  rw [own_usb, List.drop_of_length_le (by simp)]
  simp
theorem own_padr (N n : Nat) (d : Value) : ∀ i, (List.replicate n d).getD i d = (List.replicate N d).getD i d := fun i => (pad_rep [] d n i).trans (pad_rep [] d N i).symm
theorem own_shr0 (x : Int32) : (x >>> ((0 : Int32) &&& 31)) = x := by
  apply Int32.toBitVec_inj.mp
  simp
theorem own_ofadd (a b : Nat) : Int32.ofNat a + Int32.ofNat b = Int32.ofNat (a + b) := (Int32.ofNat_add a b).symm
theorem own_toi {a : Nat} (h : a < 2 ^ 31) : (Int32.ofNat a).toInt = a := Int32.toInt_ofNat_of_lt h
theorem own_lt {a b : Nat} (ha : a < 2 ^ 31) (hb : b < 2 ^ 31) : (Int32.ofNat a < Int32.ofNat b) ↔ a < b := by
  rw [Int32.lt_iff_toInt_lt, own_toi ha, own_toi hb]; omega
theorem own_eqi {a b : Nat} (ha : a < 2 ^ 31) (hb : b < 2 ^ 31) : (Int32.ofNat a = Int32.ofNat b) ↔ a = b := by
  refine ⟨fun q => ?_, fun q => by rw [q]⟩
  have := congrArg Int32.toInt q
  rw [own_toi ha, own_toi hb] at this
  omega
theorem own_ofsub {a b : Nat} (h : b ≤ a) : Int32.ofNat a - Int32.ofNat b = Int32.ofNat (a - b) := by
  have q := own_ofadd (a - b) b
  rw [Nat.sub_add_cancel h] at q
  rw [← q]
  exact Int32.add_sub_cancel _ _
theorem own_nonneg {a : Nat} (h : a < 2 ^ 31) : ¬ Int32.ofNat a < 0 := (own_nn rfl h).2
theorem own_cl {a : Nat} (h : a < 2 ^ 31) : (Int32.ofNat a).toNatClampNeg = a := (own_nn rfl h).1
theorem own_sub0 (x : Int32) : x - (0 : Int32) = x := Int32.sub_zero x
abbrev chV (cs : List Int32) : List Value := cs.map Value.int
theorem chV_len (cs : List Int32) : (chV cs).length = cs.length := by simp [chV]
theorem own_arv {Z : State} {h : Heap} {a : Addr} {k : ClassId} {ty : FieldType} {z : Int32} {vs vs' : List Value} {d : Value} (q : vs = vs') (F : Arv Z h a k ty z vs d) : Arv Z h a k ty z vs' d := q ▸ F
def PlS (x : Slot) : Prop := x = .unset ∨ ∃ a : Int32, x = .val (.int a)
theorem own_sb1 (cs : List Int32) (p : Int32) : (bsV cs ++ List.replicate 1 (Value.int (0 : Int32))).set cs.length (.int (nar .byte (p.toInt8.toInt32))) = bsV (cs ++ [p]) := by
  rw [own_narb, List.set_append_right _ _ (by rw [bsV_len]; omega), bsV_len, Nat.sub_self]
  simp [bsV]
theorem own_sc1 {cs : List Int32} {p y : Int32} (h : nar .char y = p) : (chV cs ++ List.replicate 1 (Value.int (0 : Int32))).set cs.length (.int (nar .char y)) = chV (cs ++ [p]) := by
  rw [h, List.set_append_right _ _ (by rw [chV_len]; omega), chV_len, Nat.sub_self]
  simp [chV]
theorem own_ln1 (cs : List Int32) (p : Int32) : Int32.ofNat cs.length + (1 : Int32) = Int32.ofNat (cs ++ [p]).length := by rw [List.length_append]; exact own_ofadd _ 1
theorem own_smn {c : Int32} {m : Nat} (hm : m < 2 ^ 31) (h1 : ¬ c < 0) (h2 : ¬ Int32.ofNat m < c) : ∃ n, n < m + 1 ∧ c = Int32.ofNat n := by
  rw [Int32.lt_iff_toInt_lt] at h1 h2
  rw [own_toi hm] at h2
  have e0 : (0 : Int32).toInt = 0 := rfl
  refine ⟨c.toInt.toNat, by omega, ?_⟩
  apply Int32.toInt_inj.mp
  rw [own_toi (by omega)]; omega
theorem own_bmpk : ∀ n : Nat, n < 257 → (((Int32.ofNat n).toUInt32 >>> ((16 : Int32) &&& 31).toUInt32).toInt32) = 0 := by decide +kernel
theorem own_bmp {c : Int32} (h : ¬ c < 0 ∧ ¬ (256 : Int32) < c) : ((c.toUInt32 >>> ((16 : Int32) &&& 31).toUInt32).toInt32) = 0 := by
  obtain ⟨n, hn, rfl⟩ := own_smn (m := 256) (by decide) h.1 h.2
  exact own_bmpk n hn
theorem own_nc2k : ∀ n : Nat, n < 257 → nar .char ((Int32.ofNat n).toUInt32.toUInt16.toUInt32.toInt32) = Int32.ofNat n := by decide +kernel
theorem own_nc2 {c : Int32} (h : ¬ c < 0 ∧ ¬ (256 : Int32) < c) : nar .char (c.toUInt32.toUInt16.toUInt32.toInt32) = c := by
  obtain ⟨n, hn, rfl⟩ := own_smn (m := 256) (by decide) h.1 h.2
  exact own_nc2k n hn
theorem own_latk : ∀ n : Nat, n < 256 → nar .char ((((Int32.ofNat n).toInt8.toInt32) &&& (255 : Int32)).toUInt32.toUInt16.toUInt32.toInt32) = Int32.ofNat n := by decide +kernel
theorem own_lat {c : Int32} (h : ¬ c < 0 ∧ ¬ (255 : Int32) < c) : nar .char (((c.toInt8.toInt32) &&& (255 : Int32)).toUInt32.toUInt16.toUInt32.toInt32) = c := by
  obtain ⟨n, hn, rfl⟩ := own_smn (m := 255) (by decide) h.1 h.2
  exact own_latk n hn
theorem own_mem {l : List Int32} {i : Nat} (h : i < l.length) : l.getD i 0 ∈ l := by
  rw [List.getD_eq_getElem?_getD, List.getElem?_eq_getElem h]; exact List.getElem_mem h
theorem own_ncb : ∀ n : Nat, n < 256 → nar .char (Int32.ofNat n) = Int32.ofNat n := by decide +kernel
theorem own_ncr {l : List Int32} (hp : ∀ c ∈ l, ¬ c < 0 ∧ ¬ (255 : Int32) < c) {m : Nat} (h : m < l.length) : nar .char (l.getD m 0) = l.getD m 0 := by
  obtain ⟨n, hn, e⟩ := own_smn (m := 255) (by decide) (hp _ (own_mem h)).1 (hp _ (own_mem h)).2
  rw [e]; exact own_ncb n hn
theorem own_256 {c : Int32} (h : ¬ c < 0 ∧ ¬ (255 : Int32) < c) : ¬ c < 0 ∧ ¬ (256 : Int32) < c := ⟨h.1, fun q => h.2 (Int32.lt_trans (by decide) q)⟩
theorem own_or8k : ∀ a : Nat, a < 9 → ∀ b : Nat, b < 9 → ¬ ((Int32.ofNat a ||| (0 : Int32)) ||| Int32.ofNat b) < 0 := by decide +kernel
theorem own_or8 {a b : Nat} (ha : a < 9) (hb : b < 9) : ¬ ((Int32.ofNat a ||| (0 : Int32)) ||| Int32.ofNat b) < 0 := own_or8k a ha b hb
theorem own_bsg {l : List Int32} {i : Nat} (h : i < l.length) : (bsV l).getD i (.int (0 : Int32)) = .int ((l.getD i 0).toInt8.toInt32) := by simp [bsV, List.getD_eq_getElem?_getD, h]
theorem own_chg {l : List Int32} {i : Nat} (h : i < l.length) : (chV l).getD i (.int (0 : Int32)) = .int (l.getD i 0) := by simp [chV, List.getD_eq_getElem?_getD, h]
theorem own_tk3 {l : List Int32} {m : Nat} (h : m < l.length) : l.take (m + 1) = l.take m ++ [l.getD m 0] := by
  rw [List.take_add_one, List.getElem?_eq_getElem h]; simp [List.getD_eq_getElem?_getD, h]
theorem own_tk2 {l : List Int32} {s m : Nat} (h : s + m < l.length) : (l.drop s).take (m + 1) = (l.drop s).take m ++ [l.getD (s + m) 0] := by
  rw [own_tk3 (by rw [List.length_drop]; omega)]; simp [List.getD_eq_getElem?_getD]
theorem own_uss {fl : List Int32} {sn q : Nat} (h : sn + q ≤ fl.length) : (List.range q).map (fun y => (bsV fl).getD (sn + y) (.int (0 : Int32))) = bsV ((fl.drop sn).take q) := by
  apply List.ext_getElem
  · simp [bsV]; omega
  · intro i h1 h2
    have h3 : i < q := by simpa using h1
    have h4 : sn + i < fl.length := by omega
    simp [bsV, List.getD_eq_getElem?_getD, h4]
theorem own_vns {cs fl : List Int32} {sn q : Nat} (h : sn + q ≤ fl.length) : (bsV cs ++ List.replicate q (Value.int (0 : Int32))).take cs.length ++ (List.range q).map (fun y => (bsV fl).getD (sn + y) (Value.int (0 : Int32))) ++ (bsV cs ++ List.replicate q (Value.int (0 : Int32))).drop (cs.length + q) = bsV (cs ++ (fl.drop sn).take q) := by
  have e : (bsV cs ++ List.replicate q (Value.int (0 : Int32))).drop (cs.length + q) = [] := List.drop_of_length_le (by simp [bsV])
  rw [own_uss h, List.take_left' (bsV_len cs), e, List.append_nil]
  simp [bsV]
theorem own_sll {cs fl : List Int32} {sn q : Nat} (h : sn + q ≤ fl.length) : cs.length + q = (cs ++ (fl.drop sn).take q).length := by
  rw [List.length_append, List.length_take, List.length_drop]; omega
theorem own_cfa (z : Int32) : nar .byte ((((z - z).toUInt32 >>> ((31 : Int32) &&& 31).toUInt32).toInt32).toInt8.toInt32) = 0 := by rw [Int32.sub_self]; decide
theorem own_fitz {z : Int32} (h : nar .boolean z = z) : fits .boolean (.int z) = true := by
  rw [← h]
  exact fits_nar_bool _
theorem own_fitc {Z : State} {h : Heap} {a : Addr} {c : Cell} {ty : FieldType} {vs : List Value} {d : Value} (A : Arr Z h a c ty) (H : Has c vs d) (G : ∀ i, i < c.slots.size → fits ty (vs.getD i d) = true) : FitC Z c := fun i v hv => by
  obtain ⟨hi, -⟩ := Array.getElem?_eq_some_iff.mp hv
  have e : vs.getD i d = v := Option.some.inj ((H i hi).symm.trans hv)
  obtain ⟨hs, k, hk, comp, hkind⟩ := A.2.1
  have g := G i hi
  rw [e] at g
  simp [State.fitsSlot, State.slotType?, hk, hkind, g]
theorem own_mvn {Z s : State} {a0 args : Array Value} {own host : String} {index : Nat} {y : MethodName} (hZ : Z.Warmed39 s.vm) (w : (Jvm.Cond.methodLinkNest own index y host).before a0 Z = true) : (Jvm.Cond.methodLinkNest own index y host).before args s = true := (Cond.methodLinkNest_wide hZ w :)
theorem own_selp {Z : State} {a0 : Array Value} {y y' : MethodName} (w1 : (Jvm.Cond.instanceMethod y).before a0 Z = true) (w2 : (Jvm.Cond.privateMethod y).before a0 Z = true) (w3 : (Jvm.Cond.instanceMethod y').before a0 Z = true) {C : String} (w4 : (Jvm.Cond.selects C y' y').before a0 Z = true) (hy : y.cls = y'.cls ∧ y.cls ≠ "java/lang/invoke/MethodHandle" ∧ y.cls ≠ "java/lang/invoke/VarHandle") : (Jvm.Cond.selects y.cls y y).before a0 Z = true := by
  obtain ⟨mk, methM, hnamed, hmeth, -, -⟩ := Cond.instanceMethod_spec w1
  obtain ⟨mk', methM', hnamed', -, -, -⟩ := Cond.instanceMethod_spec w3
  have hf := State.methodFound?_of_named hnamed hy.2
  have hc := findClass_of_methodNamed hnamed
  have hc' := findClass_of_methodNamed hnamed'
  rw [← hy.1] at hc'
  have e : mk'.cls = mk.cls := Option.some.inj (hc'.symm.trans hc)
  obtain ⟨kr, hkr, hni⟩ := (notFace_of_selects w4) mk' hnamed'
  rw [e] at hkr
  have hp := Cond.privateMethod_at w2 mk methM hnamed hmeth
  have hs : selectMethod {} Z.vm mk.cls mk = .method mk := selectMethod_private hmeth hp
  simp [Cond.before, Cond.holds, Cond.value, hc, hf, hnamed, hs, hkr, hni]
abbrev shrU (p k : Int32) : Int32 := (p.toUInt32 >>> (k &&& 31).toUInt32).toInt32
def fb (p : Int32) (k : Nat) : Int32 := shrU p (Int32.ofNat (8 * k)) &&& 255
abbrev flp (p : Int32) : List Int32 := [fb p 0, fb p 1, fb p 2, fb p 3]
theorem own_fr (p : Int32) (k : Nat) : ¬ fb p k < 0 ∧ ¬ (255 : Int32) < fb p k := by
  have h := c_and (shrU p (Int32.ofNat (8 * k))) 255 (by decide)
  have e : (255 : Int32).toInt = 255 := rfl
  have e0 : (0 : Int32).toInt = 0 := rfl
  unfold fb
  constructor <;> rw [Int32.lt_iff_toInt_lt] <;> omega
theorem own_flr (p : Int32) : ∀ c ∈ flp p, ¬ c < 0 ∧ ¬ (255 : Int32) < c := List.forall_mem_cons.mpr ⟨own_fr p 0, List.forall_mem_cons.mpr ⟨own_fr p 1, List.forall_mem_cons.mpr ⟨own_fr p 2, List.forall_mem_cons.mpr ⟨own_fr p 3, fun _ q => nomatch q⟩⟩⟩⟩
theorem own_b8 (y : Int32) : (y &&& 255).toInt8 = y.toInt8 := by
  rw [Int32.toInt8_and]
  apply Int8.toBitVec_inj.mp
  rw [Int8.toBitVec_and]
  exact BitVec.and_allOnes
theorem own_bb (y : Int32) : y.toInt8.toInt32.toInt8.toInt32 = y.toInt8.toInt32 := own_narb y
theorem own_fbk (p : Int32) (k : Nat) : (shrU p (Int32.ofNat (8 * k))).toInt8.toInt32.toInt8.toInt32 = (fb p k).toInt8.toInt32 := by
  rw [own_bb]; unfold fb; rw [own_b8]
theorem own_f1 (p : Int32) : ((p.toUInt32 >>> ((8 : Int32) &&& 31).toUInt32).toInt32).toInt8.toInt32.toInt8.toInt32 = (fb p 1).toInt8.toInt32 := own_fbk p 1
theorem own_f2 (p : Int32) : ((p.toUInt32 >>> ((16 : Int32) &&& 31).toUInt32).toInt32).toInt8.toInt32.toInt8.toInt32 = (fb p 2).toInt8.toInt32 := own_fbk p 2
theorem own_f3 (p : Int32) : ((p.toUInt32 >>> ((24 : Int32) &&& 31).toUInt32).toInt32).toInt8.toInt32.toInt8.toInt32 = (fb p 3).toInt8.toInt32 := own_fbk p 3
theorem own_l4 (p : Int32) : (flp p).length = 4 := rfl
theorem own_fb0 (p : Int32) : p.toInt8.toInt32.toInt8.toInt32 = (fb p 0).toInt8.toInt32 := by
  rw [← own_fbk p 0]
  have e : shrU p (Int32.ofNat (8 * 0)) = p := by
    apply Int32.toBitVec_inj.mp
    simp
  rw [e]
theorem own_flg (p : Int32) {k : Nat} (h : k < 4) : (flp p).getD k 0 = fb p k := by
  match k, h with
  | 0, _ => rfl
  | 1, _ => rfl
  | 2, _ => rfl
  | 3, _ => rfl
theorem own_atx (p : Int32) (sn iz : Nat) : fb p (sn + iz) = ((shrU p ((8 : Int32) * (Int32.ofNat sn + Int32.ofNat iz)) &&& (255 : Int32)).toUInt32.toUInt16.toUInt32.toInt32) := by
  rw [i2c_mask, own_ofadd]; unfold fb
  rw [show (8 : Int32) * Int32.ofNat (sn + iz) = Int32.ofNat (8 * (sn + iz)) from (Int32.ofNat_mul 8 _).symm]
theorem own_st {y z : Int32} (h : (y &&& (2147483647 : Int32)) % (5 : Int32) = z) : ∃ sn : Nat, sn ≤ 4 ∧ z = Int32.ofNat sn := by
  subst h
  have h := (c_andS y 2147483647).2.2 (by decide)
  have h2 := (c_irem (y &&& 2147483647) 5 5 rfl).1 h
  refine ⟨((y &&& 2147483647) % 5).toInt.toNat, by omega, ?_⟩
  apply Int32.toInt_inj.mp
  rw [own_toi (by omega)]; omega
theorem own_dv0 {sn : Nat} (h : sn ≤ 4) : (5 : Int32) - Int32.ofNat sn ≠ 0 := by
  rw [show (5 : Int32) = Int32.ofNat 5 from rfl, own_ofsub (by omega)]
  exact fun q => absurd ((own_eqi (b := 0) (by omega) (by decide)).mp q) (by omega)
theorem own_en {sn : Nat} (hs : sn ≤ 4) {y z : Int32} (h : Int32.ofNat sn + (y &&& (2147483647 : Int32)) % ((5 : Int32) - Int32.ofNat sn) = z) : ∃ en : Nat, sn ≤ en ∧ en ≤ 4 ∧ z = Int32.ofNat en := by
  subst h
  rw [show (5 : Int32) = Int32.ofNat 5 from rfl, own_ofsub (by omega)]
  have h := (c_andS y 2147483647).2.2 (by decide)
  have h2 := (c_irem (y &&& 2147483647) (Int32.ofNat (5 - sn)) ((5 - sn : Nat) : Int) (own_toi (by omega))).1 h
  have h3 := Int.emod_nonneg (y &&& 2147483647).toInt (b := ((5 - sn : Nat) : Int)) (by omega)
  have h4 := Int.emod_lt_of_pos (y &&& 2147483647).toInt (b := ((5 - sn : Nat) : Int)) (by omega)
  rw [← h2] at h3 h4
  generalize (y &&& 2147483647) % Int32.ofNat (5 - sn) = r at *
  refine ⟨sn + r.toInt.toNat, by omega, by omega, ?_⟩
  rw [← own_ofadd]; congr 1
  apply Int32.toInt_inj.mp
  rw [own_toi (by omega)]; omega
theorem own_sum (q n : Nat) : Int32.ofNat (q + n + 1) = (Int32.ofNat q + Int32.ofNat n) + Int32.ofNat 1 := by rw [own_ofadd, own_ofadd]
theorem own_gw {pre : List Int32} {p c : Int32} {sn en i : Nat} (he : en ≤ 4) (hi : i < en - sn) : (pre ++ ((flp p).drop sn).take (en - sn) ++ [c]).getD (pre.length + i) 0 = fb p (sn + i) := by
  rw [← own_flg p (k := sn + i) (by omega)]
  have h1 : i < (((flp p).drop sn).take (en - sn)).length := by rw [List.length_take, List.length_drop]; show i < min (en - sn) (4 - sn); omega
  rw [List.getD_eq_getElem?_getD, List.append_assoc, List.getElem?_append_right (by omega), Nat.add_sub_cancel_left, List.getElem?_append_left h1, List.getElem?_take_of_lt hi, List.getElem?_drop, List.getD_eq_getElem?_getD]
theorem own_gl {pre : List Int32} {p c : Int32} {sn en : Nat} (hs : sn ≤ en) (he : en ≤ 4) : (pre ++ ((flp p).drop sn).take (en - sn) ++ [c]).getD (pre.length + (en - sn)) 0 = c := by
  have h1 : (((flp p).drop sn).take (en - sn)).length = en - sn := by rw [List.length_take, List.length_drop]; show min (en - sn) (4 - sn) = _; omega
  rw [List.getD_eq_getElem?_getD, List.append_assoc, List.getElem?_append_right (by omega), Nat.add_sub_cancel_left, List.getElem?_append_right (by omega), h1, Nat.sub_self]; rfl
theorem own_pw {z6 z7 z8 c1 c2 p : Int32} {sn en : Nat} {cw : List Int32} (r1 : ¬ c1 < 0 ∧ ¬ (255 : Int32) < c1) (r2 : ¬ c2 < 0 ∧ ¬ (255 : Int32) < c2) (h : cw = (if z6 = 1 ∧ z8 = 1 then [26] else [] : List Int32) ++ (if z7 = 1 then [c1] else [] : List Int32) ++ ((flp p).drop sn).take (en - sn) ++ [c2]) : ∀ c ∈ cw, ¬ c < 0 ∧ ¬ (255 : Int32) < c := by
  subst h
  intro c hc
  rcases List.mem_append.mp hc with hc | hc
  · rcases List.mem_append.mp hc with hc | hc
    · rcases List.mem_append.mp hc with hc | hc
      · split at hc
        · obtain rfl := List.mem_singleton.mp hc; decide
        · cases hc
      · split at hc
        · obtain rfl := List.mem_singleton.mp hc; exact r1
        · cases hc
    · exact own_flr p _ (List.mem_of_mem_drop (List.mem_of_mem_take hc))
  · obtain rfl := List.mem_singleton.mp hc; exact r2
theorem own_lw {z6 z7 z8 c1 c2 p : Int32} {sn en : Nat} {cw : List Int32} (h : cw = (if z6 = 1 ∧ z8 = 1 then [26] else [] : List Int32) ++ (if z7 = 1 then [c1] else [] : List Int32) ++ ((flp p).drop sn).take (en - sn) ++ [c2]) (he : en ≤ 4) : cw.length ≤ 7 := by
  subst h
  have h1 : (((flp p).drop sn).take (en - sn)).length ≤ 4 := by rw [List.length_take, List.length_drop]; show min (en - sn) (4 - sn) ≤ 4; omega
  have h2 : ∀ (P : Prop) [Decidable P] (y : Int32), (if P then [y] else [] : List Int32).length ≤ 1 := fun P _ y => by split <;> simp
  have h3 := h2 (z6 = 1 ∧ z8 = 1) 26
  have h4 := h2 (z7 = 1) c1
  simp only [List.length_append, List.length_singleton]
  omega
theorem own_arv0 {args : Array Value} {s : State} {t : Term} {a : Addr} {c : Cell} {ty : FieldType} (hf : Fit s) (A : Arr s s.heap a c ty) (ev : t.eval args s none [] s = some (.ref a)) (h : (Jvm.Cond.eq (Term.length t) (Term.int (0 : Int32))).value args s none s [] = some true) : Arv s s.heap a c.cls ty (0 : Int32) [] (.int (0 : Int32)) := by
  obtain ⟨q, e⟩ := own_len ev A h
  exact Arv.start hf A q e (by decide) rfl trivial
theorem own_eqr' {Z : State} {args : Array Value} {X F : Term} {idx : List Nat} {w : Addr} (hF : F.eval args Z none idx Z = some (.ref w)) (h : (Jvm.Cond.eq F X).value args Z none Z idx = some true) : X.eval args Z none idx Z = some (.ref w) := by
  obtain ⟨x, y, e1, e2, k1, k2⟩ := cmp_v (Or.inl h)
  cases hF.symm.trans e1
  have hr : y.isRef = true := by cases y <;> simp_all [Kin, Value.isRef]
  exact e2.trans (congrArg some (gotT (eq_R hF e2 rfl hr) h).symm)
theorem oW {Z : State} {a0 : Array Value} (hw : ∀ d ∈ tables_1, d.before a0 Z = true) (i : Nat) {d : Jvm.Cond} (h : tables_1[i]? = some d) : d.before a0 Z = true := hw _ (List.mem_of_getElem? h)
theorem mW {Z s : State} {a0 args : Array Value} (hZ : Z.Warmed39 s.vm) (hw : ∀ d ∈ tables_1, d.before a0 Z = true) (i : Nat) {d : Jvm.Cond} (h : tables_1[i]? = some d) (hc : (d.onTables && d.keepsFace) = true := by rfl) : d.before args s = true := mvT hZ (oW hw i h) hc
abbrev B1_ := prog_27_method_1_code
abbrev B2_ := jdk_29_method_65_code
abbrev B3_ := jdk_29_method_69_code
abbrev B4_ := jdk_89_method_18_code
abbrev B5_ := jdk_89_method_12_code
abbrev B6_ := jdk_89_method_30_code
abbrev B7_ := jdk_65_method_123_code
abbrev B8_ := jdk_65_method_125_code
abbrev B9_ := prog_27_method_4_code
abbrev B10_ := prog_27_method_5_code
abbrev B11_ := prog_27_method_3_code
abbrev B12_ := prog_27_method_2_code
abbrev B13_ := jdk_31_method_10_code
abbrev B14_ := jdk_41_method_13_code
abbrev B15_ := jdk_42_method_157_code
abbrev B16_ := jdk_65_method_131_code
abbrev B17_ := jdk_65_method_133_code
abbrev B18_ := jdk_65_method_132_code
abbrev B19_ := jdk_42_method_11_code
abbrev B20_ := jdk_42_method_10_code
abbrev B21_ := jdk_52_method_21_code
abbrev B22_ := jdk_52_method_16_code
abbrev B23_ := jdk_52_method_15_code
abbrev B24_ := jdk_42_method_149_code
abbrev B25_ := jdk_42_method_5_code
abbrev B26_ := jdk_42_method_4_code
abbrev B27_ := prog_26_method_1_code
abbrev B28_ := prog_26_method_2_code
abbrev B29_ := prog_26_method_3_code
abbrev B30_ := prog_27_method_6_code
abbrev B31_ := jdk_42_method_152_code
abbrev B32_ := jdk_42_method_54_code
abbrev B33_ := jdk_42_method_154_code
abbrev B34_ := jdk_41_method_11_code
abbrev B35_ := jdk_42_method_155_code
abbrev B36_ := jdk_43_method_2_code
abbrev B37_ := jdk_42_method_56_code
abbrev B38_ := method_3_code
abbrev mn1 : MethodName := ⟨"com/example/depeche/depeche/hl7/Text$Builder", "<init>", "(I)V"⟩
abbrev mn2 : MethodName := ⟨"java/lang/Math", "max", "(II)I"⟩
abbrev mn3 : MethodName := ⟨"java/lang/Math", "min", "(II)I"⟩
abbrev mn4 : MethodName := ⟨"java/lang/Character", "charCount", "(I)I"⟩
abbrev mn5 : MethodName := ⟨"java/lang/Character", "isBmpCodePoint", "(I)Z"⟩
abbrev mn6 : MethodName := ⟨"java/lang/Character", "toChars", "(I[CI)I"⟩
abbrev mn7 : MethodName := ⟨"java/util/Arrays", "copyOf", "([II)[I"⟩
abbrev mn8 : MethodName := ⟨"java/util/Arrays", "copyOf", "([CI)[C"⟩
abbrev mn9 : MethodName := ⟨"com/example/depeche/depeche/hl7/Text$Builder", "setAside", "(I)Z"⟩
abbrev mn10 : MethodName := ⟨"com/example/depeche/depeche/hl7/Text$Builder", "widen", "()V"⟩
abbrev mn11 : MethodName := ⟨"com/example/depeche/depeche/hl7/Text$Builder", "append", "(I)Z"⟩
abbrev mn12 : MethodName := ⟨"com/example/depeche/depeche/hl7/Text$Builder", "append", "([BII)V"⟩
abbrev mn13 : MethodName := ⟨"java/util/Objects", "requireNonNull", "(Ljava/lang/Object;)Ljava/lang/Object;"⟩
abbrev mn14 : MethodName := ⟨"jdk/internal/util/Preconditions", "checkFromIndexSize", "(IIILjava/util/function/BiFunction;)I"⟩
abbrev mn15 : MethodName := ⟨"java/lang/String", "checkBoundsOffCount", "(III)I"⟩
abbrev mn16 : MethodName := ⟨"java/util/Arrays", "checkLength", "(II)V"⟩
abbrev mn17 : MethodName := ⟨"java/util/Arrays", "copyOfRangeByte", "([BII)[B"⟩
abbrev mn18 : MethodName := ⟨"java/util/Arrays", "copyOfRange", "([BII)[B"⟩
abbrev mn19 : MethodName := ⟨"java/lang/String", "<init>", "(Ljava/nio/charset/Charset;[BII)V"⟩
abbrev mn20 : MethodName := ⟨"java/lang/String", "<init>", "([BIILjava/nio/charset/Charset;)V"⟩
abbrev mn21 : MethodName := ⟨"java/lang/StringUTF16", "compress", "([CI[BII)I"⟩
abbrev mn22 : MethodName := ⟨"java/lang/StringUTF16", "compress", "([CII)[B"⟩
abbrev mn23 : MethodName := ⟨"java/lang/StringUTF16", "coderFromArrayLen", "([BI)B"⟩
abbrev mn24 : MethodName := ⟨"java/lang/String", "<init>", "([CIILjava/lang/Void;)V"⟩
abbrev mn25 : MethodName := ⟨"java/lang/String", "rangeCheck", "([CII)Ljava/lang/Void;"⟩
abbrev mn26 : MethodName := ⟨"java/lang/String", "<init>", "([CII)V"⟩
abbrev mn27 : MethodName := ⟨"com/example/depeche/depeche/hl7/Text", "<init>", "(Ljava/lang/String;Z[I[C)V"⟩
abbrev mn28 : MethodName := ⟨"com/example/depeche/depeche/hl7/Text", "of", "(Ljava/lang/String;Z)Lcom/example/depeche/depeche/hl7/Text;"⟩
abbrev mn29 : MethodName := ⟨"com/example/depeche/depeche/hl7/Text", "searched", "()Ljava/lang/String;"⟩
abbrev mn30 : MethodName := ⟨"com/example/depeche/depeche/hl7/Text$Builder", "build", "()Lcom/example/depeche/depeche/hl7/Text;"⟩
abbrev mn31 : MethodName := ⟨"java/lang/String", "coder", "()B"⟩
abbrev mn32 : MethodName := ⟨"java/lang/String", "length", "()I"⟩
abbrev mn33 : MethodName := ⟨"java/lang/String", "isLatin1", "()Z"⟩
abbrev mn34 : MethodName := ⟨"jdk/internal/util/Preconditions", "checkIndex", "(IILjava/util/function/BiFunction;)I"⟩
abbrev mn35 : MethodName := ⟨"java/lang/String", "checkIndex", "(II)V"⟩
abbrev mn36 : MethodName := ⟨"java/lang/StringLatin1", "charAt", "([BI)C"⟩
abbrev mn37 : MethodName := ⟨"java/lang/String", "charAt", "(I)C"⟩
abbrev mn38 : MethodName := ⟨"com/example/depeche/depeche/hl7/BuilderAppendPinLaw", "at", "(Ljava/lang/String;IIIII)Z"⟩
set_option maxRecDepth 65536
set_option maxHeartbeats 40000000
section Walks
abbrev HW (a0 : Array Value) (Z : State) : Prop := ∀ d ∈ tables_1, d.before a0 Z = true
variable (l : Launch) (Z : State) (a0 : Array Value)
def Q_rmBI8 (Z : State) (a1 : Addr) (wi : Addr) (wc : Addr) (h0 : Heap) (n0 : Nat) (v : Option Value) (h : Heap) (L : List Loc) : Prop := ∃ (t : Addr) (kb : ClassId), v = none ∧ Fr n0 L ∧ Keep h0 h [a1] ∧ Exa Z h a1 "com/example/depeche/depeche/hl7/Text$Builder" ∧ Fld Z h a1 "com/example/depeche/depeche/hl7/Text$Builder" "asideAt" "[I" (.ref wi) ∧ Fld Z h a1 "com/example/depeche/depeche/hl7/Text$Builder" "aside" "[C" (.ref wc) ∧ Fld Z h a1 "com/example/depeche/depeche/hl7/Text$Builder" "bytes" "[B" (.ref t) ∧ Fld Z h a1 "com/example/depeche/depeche/hl7/Text$Builder" "asideLimit" "I" (.int (1 : Int32)) ∧ Fld Z h a1 "com/example/depeche/depeche/hl7/Text$Builder" "chars" "[C" .null ∧ Fld Z h a1 "com/example/depeche/depeche/hl7/Text$Builder" "asideCount" "I" (.int (0 : Int32)) ∧ Fld Z h a1 "com/example/depeche/depeche/hl7/Text$Builder" "length" "I" (.int (Int32.ofNat ([] : List Int32).length)) ∧ Arv Z h t kb .byte (Int32.ofNat 8) (bsV ([] : List Int32)) (.int (0 : Int32)) ∧ (h0.size ≤ t)
theorem ef_rmBI8 (m : MethodId) (x0 : Addr) : entryFrame m #[(.ref x0), (.int (8 : Int32))] 2 = mkF m 0 #[.val (.ref x0), .val (.int (8 : Int32))] [] := by first | (simp [entryFrame, mkF, argsToLocals, Value.category]; done) | rfl
theorem pn_com_example_depeche_depeche_hl7_Text_Builder : plainName "com/example/depeche/depeche/hl7/Text$Builder" = true := by first | (simp [plainName, overriddenIn]; done) | decide +kernel
theorem d1_0 : decode B1_ 0 = .ok (.aload_n 0, 1) := by decide +kernel
theorem d1_1 : decode B1_ 1 = .ok (.invokespecial 3, 3) := by decide +kernel
theorem d1_4 : decode B1_ 4 = .ok (.aload_n 0, 1) := by decide +kernel
theorem d1_5 : decode B1_ 5 = .ok (.getstatic 9, 3) := by decide +kernel
theorem d1_8 : decode B1_ 8 = .ok (.putfield 13, 3) := by decide +kernel
theorem d1_11 : decode B1_ 11 = .ok (.aload_n 0, 1) := by decide +kernel
theorem d1_12 : decode B1_ 12 = .ok (.getstatic 18, 3) := by decide +kernel
theorem d1_15 : decode B1_ 15 = .ok (.putfield 22, 3) := by decide +kernel
theorem d1_18 : decode B1_ 18 = .ok (.aload_n 0, 1) := by decide +kernel
theorem d1_19 : decode B1_ 19 = .ok (.iload_n 1, 1) := by decide +kernel
theorem d1_20 : decode B1_ 20 = .ok (.newarray .byte, 2) := by decide +kernel
theorem d1_22 : decode B1_ 22 = .ok (.putfield 25, 3) := by decide +kernel
theorem d1_25 : decode B1_ 25 = .ok (.aload_n 0, 1) := by decide +kernel
theorem d1_26 : decode B1_ 26 = .ok (.iload_n 1, 1) := by decide +kernel
theorem d1_27 : decode B1_ 27 = .ok (.bipush 8, 2) := by decide +kernel
theorem d1_29 : decode B1_ 29 = .ok (.idiv, 1) := by decide +kernel
theorem d1_30 : decode B1_ 30 = .ok (.putfield 29, 3) := by decide +kernel
theorem d1_33 : decode B1_ 33 = .ok (.return_, 1) := by decide +kernel
theorem rmBI8 (hw : HW a0 Z) (ws : List Jvm.Cond) (a1 : Addr) (wi : Addr) (wc : Addr) (h0 : Heap) (n0 : Nat) (Z0 : n0 ≤ h0.size) (EF : Exa Z h0 a1 "com/example/depeche/depeche/hl7/Text$Builder") (F_at : Fld Z h0 a1 "com/example/depeche/depeche/hl7/Text$Builder" "asideAt" "[I" .null) (F_as : Fld Z h0 a1 "com/example/depeche/depeche/hl7/Text$Builder" "aside" "[C" .null) (F_by : Fld Z h0 a1 "com/example/depeche/depeche/hl7/Text$Builder" "bytes" "[B" .null) (F_lm : Fld Z h0 a1 "com/example/depeche/depeche/hl7/Text$Builder" "asideLimit" "I" (.int (0 : Int32))) (F_ch : Fld Z h0 a1 "com/example/depeche/depeche/hl7/Text$Builder" "chars" "[C" .null) (F_ct : Fld Z h0 a1 "com/example/depeche/depeche/hl7/Text$Builder" "asideCount" "I" (.int (0 : Int32))) (F_ln : Fld Z h0 a1 "com/example/depeche/depeche/hl7/Text$Builder" "length" "I" (.int (0 : Int32))) (S1 : Sta Z Z.heap "com/example/depeche/depeche/hl7/Text" "NO_INDEXES" "[I" (.ref wi)) (S2 : Sta Z Z.heap "com/example/depeche/depeche/hl7/Text" "NO_CHARS" "[C" (.ref wc)) (O1 : Old Z n0 h0) (g1 : n0 ≤ a1) : MetN l Z mn1 prog_27_method_1_code 2 none ws (rM 1 1 8 12) #[(.ref a1), (.int (8 : Int32))] h0 (Q_rmBI8 Z a1 wi wc h0 n0) := by
 refine enterN (plainFor_of_name pn_com_example_depeche_depeche_hl7_Text_Builder) (fun m => ef_rmBI8 m _) fun p e s m below meth c s₁ Bd hZ hx hD hlk hml hown hnm X0 e0 => ?_
 have N0 := Fr.nil n0
 have K0 := Keep.refl h0 [a1]
 have lt_EF := ny EF.lt
 have lt_F_at := ny F_at.lt
 have lt_F_as := ny F_as.lt
 have lt_F_by := ny F_by.lt
 have lt_F_lm := ny F_lm.lt
 have lt_F_ch := ny F_ch.lt
 have lt_F_ct := ny F_ct.lt
 have lt_F_ln := ny F_ln.lt
 refine Wk.aloadN X0 hx (hD d1_0) (n := 1) rfl rfl rfl ?_
 refine Wk.initO X0 hx hZ hown (oW hw 8 rfl) (oW hw 9 rfl) (oW hw 10 rfl) e0 (by rw [hml]; rfl) (hD d1_1) (n := 4) rfl (by decide) (w := 0) (Nat.le_of_eq rfl) (by decide) fun T1 X1 e1 => ?_
 refine Wk.aloadN X1 hx (hD d1_4) (n := 5) rfl rfl rfl ?_
 refine Wk.getS X1 hx hZ hown (Or.inr (oW hw 11 rfl)) Via.refl e1 (Sta.ext O1.2 S1) (hD d1_5) (n := 8) rfl fun T2 X2 e2 => ?_
 refine Wk.putF X2 hx hZ hown (host := "") (Or.inl (oW hw 14 rfl)) Via.refl e2 F_at EF (Or.inl (oW hw 15 rfl)) (oW hw 3 rfl) (ty := (.array .int)) (by decide) rfl rfl (hD d1_8) (n := 11) rfl fun T3 H3 X3 e3 Wn3 => ?_
 have sz3 := Wn3.size
 have Fn3 := F_at.same Wn3
 have K3 := K0.wr Wn3 (Or.inl (List.mem_of_getElem? (i := 0) rfl))
 have N3 := Fr.snoc X3 N0 (by omega)
 refine Wk.aloadN X3 hx (hD d1_11) (n := 12) rfl rfl rfl ?_
 have f4 := (O1.wr Wn3 (by omega))
 refine Wk.getS X3 hx hZ hown (Or.inr (oW hw 16 rfl)) Via.refl e3 (Sta.ext f4.2 S2) (hD d1_12) (n := 15) rfl fun T5 X5 e5 => ?_
 have f6 := (F_as.other Wn3 (Or.inr (slot_ne (Or.inl (oW hw 19 rfl)) (Or.inl (oW hw 15 rfl)) (by decide) (t := (.array .char)) (t' := (.array .int)) (by decide) (by decide))))
 have f7 := (EF.wr Wn3)
 refine Wk.putF X5 hx hZ hown (host := "") (Or.inl (oW hw 18 rfl)) Via.refl e5 f6 f7 (Or.inl (oW hw 19 rfl)) (oW hw 3 rfl) (ty := (.array .char)) (by decide) rfl rfl (hD d1_15) (n := 18) rfl fun T8 H8 X8 e8 Wn8 => ?_
 have sz8 := Wn8.size
 have Fn8 := f6.same Wn8
 have K8 := K3.wr Wn8 (Or.inl (List.mem_of_getElem? (i := 0) rfl))
 have N8 := Fr.snoc X8 N3 (by omega)
 refine Wk.aloadN X8 hx (hD d1_18) (n := 19) rfl rfl rfl ?_
 refine Wk.iloadN X8 hx (hD d1_19) (n := 20) rfl rfl ?_
 refine Wk.newP X8 hx hZ (oW hw 0 rfl) e8 (hD d1_20) (n := 22) rfl (by decide) (cap := 8) (by decide) (by decide) (by decide) (by decide) fun T9 H9 b9 k9 gn9 X9 e9 Ex9 An9 => ?_
 have gn9 := nx gn9
 have sz9 := Ex9.1
 have K9 := K8.ext Ex9
 have Vn9 : Arv Z H9 b9 k9 .byte (8 : Int32) [(.int (0 : Int32)), (.int (0 : Int32)), (.int (0 : Int32)), (.int (0 : Int32)), (.int (0 : Int32)), (.int (0 : Int32)), (.int (0 : Int32)), (.int (0 : Int32))] (.int (0 : Int32)) := (Arv.new An9 (by decide)).pad (pad_rep [] (.int (0 : Int32)) 8)
 have lt9 := ny Vn9.lt
 have f10 := (((F_by.other Wn3 (Or.inr (slot_ne (Or.inl (oW hw 21 rfl)) (Or.inl (oW hw 15 rfl)) (by decide) (t := (.array .byte)) (t' := (.array .int)) (by decide) (by decide)))).other Wn8 (Or.inr (slot_ne (Or.inl (oW hw 21 rfl)) (Or.inl (oW hw 19 rfl)) (by decide) (t := (.array .byte)) (t' := (.array .char)) (by decide) (by decide)))).ext Ex9)
 have f11 := ((f7.wr Wn8).ext Ex9)
 refine Wk.putF X9 hx hZ hown (host := "") (Or.inl (oW hw 20 rfl)) Via.refl e9 f10 f11 (Or.inl (oW hw 21 rfl)) (oW hw 3 rfl) (ty := (.array .byte)) (by decide) rfl rfl (hD d1_22) (n := 25) rfl fun T12 H12 X12 e12 Wn12 => ?_
 have sz12 := Wn12.size
 have Fn12 := f10.same Wn12
 have K12 := K9.wr Wn12 (Or.inl (List.mem_of_getElem? (i := 0) rfl))
 have N12 := Fr.snoc X12 N8 (by omega)
 refine Wk.aloadN X12 hx (hD d1_25) (n := 26) rfl rfl rfl ?_
 refine Wk.iloadN X12 hx (hD d1_26) (n := 27) rfl rfl ?_
 refine Wk.bipush X12 hx (hD d1_27) (n := 29) rfl (z := (8 : Int32)) rfl ?_
 refine Wk.idiv X12 hx (hD d1_29) (n := 30) rfl (by decide) ?_
 have f13 := ((((F_lm.other Wn3 (Or.inr (slot_ne (Or.inr (oW hw 23 rfl)) (Or.inl (oW hw 15 rfl)) (by decide) (t := .int) (t' := (.array .int)) (by decide) (by decide)))).other Wn8 (Or.inr (slot_ne (Or.inr (oW hw 23 rfl)) (Or.inl (oW hw 19 rfl)) (by decide) (t := .int) (t' := (.array .char)) (by decide) (by decide)))).ext Ex9).other Wn12 (Or.inr (slot_ne (Or.inr (oW hw 23 rfl)) (Or.inl (oW hw 21 rfl)) (by decide) (t := .int) (t' := (.array .byte)) (by decide) (by decide))))
 have f14 := (f11.wr Wn12)
 refine Wk.putF X12 hx hZ hown (host := "") (Or.inl (oW hw 22 rfl)) Via.refl e12 f13 f14 (Or.inr ⟨(oW hw 23 rfl), rfl, hnm⟩) (oW hw 3 rfl) (ty := .int) (by decide) rfl rfl (hD d1_30) (n := 33) rfl fun T15 H15 X15 e15 Wn15 => ?_
 have sz15 := Wn15.size
 have Fn15 := f13.same Wn15
 have K15 := K12.wr Wn15 (Or.inl (List.mem_of_getElem? (i := 0) rfl))
 have N15 := Fr.snoc X15 N12 (by omega)
 have f16 := ((Vn9.other Wn12 (nz (by omega))).other Wn15 (nz (by omega)))
 have f17 := (f14.wr Wn15)
 have f18 := ((((Fn3.other Wn8 (Or.inr (slot_ne (Or.inl (oW hw 15 rfl)) (Or.inl (oW hw 19 rfl)) (by decide) (t := (.array .int)) (t' := (.array .char)) (by decide) (by decide)))).ext Ex9).other Wn12 (Or.inr (slot_ne (Or.inl (oW hw 15 rfl)) (Or.inl (oW hw 21 rfl)) (by decide) (t := (.array .int)) (t' := (.array .byte)) (by decide) (by decide)))).other Wn15 (Or.inr (slot_ne (Or.inl (oW hw 15 rfl)) (Or.inr (oW hw 23 rfl)) (by decide) (t := (.array .int)) (t' := .int) (by decide) (by decide))))
 have f19 := (((Fn8.ext Ex9).other Wn12 (Or.inr (slot_ne (Or.inl (oW hw 19 rfl)) (Or.inl (oW hw 21 rfl)) (by decide) (t := (.array .char)) (t' := (.array .byte)) (by decide) (by decide)))).other Wn15 (Or.inr (slot_ne (Or.inl (oW hw 19 rfl)) (Or.inr (oW hw 23 rfl)) (by decide) (t := (.array .char)) (t' := .int) (by decide) (by decide))))
 have f20 := (Fn12.other Wn15 (Or.inr (slot_ne (Or.inl (oW hw 21 rfl)) (Or.inr (oW hw 23 rfl)) (by decide) (t := (.array .byte)) (t' := .int) (by decide) (by decide))))
 have f21 := (((((F_ch.other Wn3 (Or.inr (slot_ne (Or.inl (oW hw 30 rfl)) (Or.inl (oW hw 15 rfl)) (by decide) (t := (.array .char)) (t' := (.array .int)) (by decide) (by decide)))).other Wn8 (Or.inr (slot_ne (Or.inl (oW hw 30 rfl)) (Or.inl (oW hw 19 rfl)) (by decide) (t := (.array .char)) (t' := (.array .char)) (by decide) (by decide)))).ext Ex9).other Wn12 (Or.inr (slot_ne (Or.inl (oW hw 30 rfl)) (Or.inl (oW hw 21 rfl)) (by decide) (t := (.array .char)) (t' := (.array .byte)) (by decide) (by decide)))).other Wn15 (Or.inr (slot_ne (Or.inl (oW hw 30 rfl)) (Or.inr (oW hw 23 rfl)) (by decide) (t := (.array .char)) (t' := .int) (by decide) (by decide))))
 have f22 := (((((F_ct.other Wn3 (Or.inr (slot_ne (Or.inl (oW hw 41 rfl)) (Or.inl (oW hw 15 rfl)) (by decide) (t := .int) (t' := (.array .int)) (by decide) (by decide)))).other Wn8 (Or.inr (slot_ne (Or.inl (oW hw 41 rfl)) (Or.inl (oW hw 19 rfl)) (by decide) (t := .int) (t' := (.array .char)) (by decide) (by decide)))).ext Ex9).other Wn12 (Or.inr (slot_ne (Or.inl (oW hw 41 rfl)) (Or.inl (oW hw 21 rfl)) (by decide) (t := .int) (t' := (.array .byte)) (by decide) (by decide)))).other Wn15 (Or.inr (slot_ne (Or.inl (oW hw 41 rfl)) (Or.inr (oW hw 23 rfl)) (by decide) (t := .int) (t' := .int) (by decide) (by decide))))
 have f23 := (((((F_ln.other Wn3 (Or.inr (slot_ne (Or.inl (oW hw 47 rfl)) (Or.inl (oW hw 15 rfl)) (by decide) (t := .int) (t' := (.array .int)) (by decide) (by decide)))).other Wn8 (Or.inr (slot_ne (Or.inl (oW hw 47 rfl)) (Or.inl (oW hw 19 rfl)) (by decide) (t := .int) (t' := (.array .char)) (by decide) (by decide)))).ext Ex9).other Wn12 (Or.inr (slot_ne (Or.inl (oW hw 47 rfl)) (Or.inl (oW hw 21 rfl)) (by decide) (t := .int) (t' := (.array .byte)) (by decide) (by decide)))).other Wn15 (Or.inr (slot_ne (Or.inl (oW hw 47 rfl)) (Or.inr (oW hw 23 rfl)) (by decide) (t := .int) (t' := .int) (by decide) (by decide))))
 exact Wk.leave X15 (v := none) (fun _ => rfl) hlk e15 ⟨b9, k9, rfl, N15, K15, f17, f18, f19, f20, (by have q := Fn15; rw [show ((8 : Int32) / (8 : Int32)) = (1 : Int32) from by decide] at q; exact q), f21, f22, f23, (Arv.pad f16 (fun i => (pad_rep [] _ 8 i).symm)), (by omega)⟩ (by decide) (by decide) (fun fs hr => X15.returnOut hx Bd.returns (hD d1_33) hr)
def Q_rmBI7 (Z : State) (a1 : Addr) (wi : Addr) (wc : Addr) (h0 : Heap) (n0 : Nat) (v : Option Value) (h : Heap) (L : List Loc) : Prop := ∃ (t : Addr) (kb : ClassId), v = none ∧ Fr n0 L ∧ Keep h0 h [a1] ∧ Exa Z h a1 "com/example/depeche/depeche/hl7/Text$Builder" ∧ Fld Z h a1 "com/example/depeche/depeche/hl7/Text$Builder" "asideAt" "[I" (.ref wi) ∧ Fld Z h a1 "com/example/depeche/depeche/hl7/Text$Builder" "aside" "[C" (.ref wc) ∧ Fld Z h a1 "com/example/depeche/depeche/hl7/Text$Builder" "bytes" "[B" (.ref t) ∧ Fld Z h a1 "com/example/depeche/depeche/hl7/Text$Builder" "asideLimit" "I" (.int (0 : Int32)) ∧ Fld Z h a1 "com/example/depeche/depeche/hl7/Text$Builder" "chars" "[C" .null ∧ Fld Z h a1 "com/example/depeche/depeche/hl7/Text$Builder" "asideCount" "I" (.int (0 : Int32)) ∧ Fld Z h a1 "com/example/depeche/depeche/hl7/Text$Builder" "length" "I" (.int (Int32.ofNat ([] : List Int32).length)) ∧ Arv Z h t kb .byte (Int32.ofNat 7) (bsV ([] : List Int32)) (.int (0 : Int32)) ∧ (h0.size ≤ t)
theorem ef_rmBI7 (m : MethodId) (x0 : Addr) : entryFrame m #[(.ref x0), (.int (7 : Int32))] 2 = mkF m 0 #[.val (.ref x0), .val (.int (7 : Int32))] [] := by first | (simp [entryFrame, mkF, argsToLocals, Value.category]; done) | rfl
theorem rmBI7 (hw : HW a0 Z) (ws : List Jvm.Cond) (a1 : Addr) (wi : Addr) (wc : Addr) (h0 : Heap) (n0 : Nat) (Z0 : n0 ≤ h0.size) (EF : Exa Z h0 a1 "com/example/depeche/depeche/hl7/Text$Builder") (F_at : Fld Z h0 a1 "com/example/depeche/depeche/hl7/Text$Builder" "asideAt" "[I" .null) (F_as : Fld Z h0 a1 "com/example/depeche/depeche/hl7/Text$Builder" "aside" "[C" .null) (F_by : Fld Z h0 a1 "com/example/depeche/depeche/hl7/Text$Builder" "bytes" "[B" .null) (F_lm : Fld Z h0 a1 "com/example/depeche/depeche/hl7/Text$Builder" "asideLimit" "I" (.int (0 : Int32))) (F_ch : Fld Z h0 a1 "com/example/depeche/depeche/hl7/Text$Builder" "chars" "[C" .null) (F_ct : Fld Z h0 a1 "com/example/depeche/depeche/hl7/Text$Builder" "asideCount" "I" (.int (0 : Int32))) (F_ln : Fld Z h0 a1 "com/example/depeche/depeche/hl7/Text$Builder" "length" "I" (.int (0 : Int32))) (S1 : Sta Z Z.heap "com/example/depeche/depeche/hl7/Text" "NO_INDEXES" "[I" (.ref wi)) (S2 : Sta Z Z.heap "com/example/depeche/depeche/hl7/Text" "NO_CHARS" "[C" (.ref wc)) (O1 : Old Z n0 h0) (g1 : n0 ≤ a1) : MetN l Z mn1 prog_27_method_1_code 2 none ws (rM 1 1 7 12) #[(.ref a1), (.int (7 : Int32))] h0 (Q_rmBI7 Z a1 wi wc h0 n0) := by
 refine enterN (plainFor_of_name pn_com_example_depeche_depeche_hl7_Text_Builder) (fun m => ef_rmBI7 m _) fun p e s m below meth c s₁ Bd hZ hx hD hlk hml hown hnm X0 e0 => ?_
 have N0 := Fr.nil n0
 have K0 := Keep.refl h0 [a1]
 have lt_EF := ny EF.lt
 have lt_F_at := ny F_at.lt
 have lt_F_as := ny F_as.lt
 have lt_F_by := ny F_by.lt
 have lt_F_lm := ny F_lm.lt
 have lt_F_ch := ny F_ch.lt
 have lt_F_ct := ny F_ct.lt
 have lt_F_ln := ny F_ln.lt
 refine Wk.aloadN X0 hx (hD d1_0) (n := 1) rfl rfl rfl ?_
 refine Wk.initO X0 hx hZ hown (oW hw 8 rfl) (oW hw 9 rfl) (oW hw 10 rfl) e0 (by rw [hml]; rfl) (hD d1_1) (n := 4) rfl (by decide) (w := 0) (Nat.le_of_eq rfl) (by decide) fun T1 X1 e1 => ?_
 refine Wk.aloadN X1 hx (hD d1_4) (n := 5) rfl rfl rfl ?_
 refine Wk.getS X1 hx hZ hown (Or.inr (oW hw 11 rfl)) Via.refl e1 (Sta.ext O1.2 S1) (hD d1_5) (n := 8) rfl fun T2 X2 e2 => ?_
 refine Wk.putF X2 hx hZ hown (host := "") (Or.inl (oW hw 14 rfl)) Via.refl e2 F_at EF (Or.inl (oW hw 15 rfl)) (oW hw 3 rfl) (ty := (.array .int)) (by decide) rfl rfl (hD d1_8) (n := 11) rfl fun T3 H3 X3 e3 Wn3 => ?_
 have sz3 := Wn3.size
 have Fn3 := F_at.same Wn3
 have K3 := K0.wr Wn3 (Or.inl (List.mem_of_getElem? (i := 0) rfl))
 have N3 := Fr.snoc X3 N0 (by omega)
 refine Wk.aloadN X3 hx (hD d1_11) (n := 12) rfl rfl rfl ?_
 have f4 := (O1.wr Wn3 (by omega))
 refine Wk.getS X3 hx hZ hown (Or.inr (oW hw 16 rfl)) Via.refl e3 (Sta.ext f4.2 S2) (hD d1_12) (n := 15) rfl fun T5 X5 e5 => ?_
 have f6 := (F_as.other Wn3 (Or.inr (slot_ne (Or.inl (oW hw 19 rfl)) (Or.inl (oW hw 15 rfl)) (by decide) (t := (.array .char)) (t' := (.array .int)) (by decide) (by decide))))
 have f7 := (EF.wr Wn3)
 refine Wk.putF X5 hx hZ hown (host := "") (Or.inl (oW hw 18 rfl)) Via.refl e5 f6 f7 (Or.inl (oW hw 19 rfl)) (oW hw 3 rfl) (ty := (.array .char)) (by decide) rfl rfl (hD d1_15) (n := 18) rfl fun T8 H8 X8 e8 Wn8 => ?_
 have sz8 := Wn8.size
 have Fn8 := f6.same Wn8
 have K8 := K3.wr Wn8 (Or.inl (List.mem_of_getElem? (i := 0) rfl))
 have N8 := Fr.snoc X8 N3 (by omega)
 refine Wk.aloadN X8 hx (hD d1_18) (n := 19) rfl rfl rfl ?_
 refine Wk.iloadN X8 hx (hD d1_19) (n := 20) rfl rfl ?_
 refine Wk.newP X8 hx hZ (oW hw 0 rfl) e8 (hD d1_20) (n := 22) rfl (by decide) (cap := 7) (by decide) (by decide) (by decide) (by decide) fun T9 H9 b9 k9 gn9 X9 e9 Ex9 An9 => ?_
 have gn9 := nx gn9
 have sz9 := Ex9.1
 have K9 := K8.ext Ex9
 have Vn9 : Arv Z H9 b9 k9 .byte (7 : Int32) [(.int (0 : Int32)), (.int (0 : Int32)), (.int (0 : Int32)), (.int (0 : Int32)), (.int (0 : Int32)), (.int (0 : Int32)), (.int (0 : Int32))] (.int (0 : Int32)) := (Arv.new An9 (by decide)).pad (pad_rep [] (.int (0 : Int32)) 7)
 have lt9 := ny Vn9.lt
 have f10 := (((F_by.other Wn3 (Or.inr (slot_ne (Or.inl (oW hw 21 rfl)) (Or.inl (oW hw 15 rfl)) (by decide) (t := (.array .byte)) (t' := (.array .int)) (by decide) (by decide)))).other Wn8 (Or.inr (slot_ne (Or.inl (oW hw 21 rfl)) (Or.inl (oW hw 19 rfl)) (by decide) (t := (.array .byte)) (t' := (.array .char)) (by decide) (by decide)))).ext Ex9)
 have f11 := ((f7.wr Wn8).ext Ex9)
 refine Wk.putF X9 hx hZ hown (host := "") (Or.inl (oW hw 20 rfl)) Via.refl e9 f10 f11 (Or.inl (oW hw 21 rfl)) (oW hw 3 rfl) (ty := (.array .byte)) (by decide) rfl rfl (hD d1_22) (n := 25) rfl fun T12 H12 X12 e12 Wn12 => ?_
 have sz12 := Wn12.size
 have Fn12 := f10.same Wn12
 have K12 := K9.wr Wn12 (Or.inl (List.mem_of_getElem? (i := 0) rfl))
 have N12 := Fr.snoc X12 N8 (by omega)
 refine Wk.aloadN X12 hx (hD d1_25) (n := 26) rfl rfl rfl ?_
 refine Wk.iloadN X12 hx (hD d1_26) (n := 27) rfl rfl ?_
 refine Wk.bipush X12 hx (hD d1_27) (n := 29) rfl (z := (8 : Int32)) rfl ?_
 refine Wk.idiv X12 hx (hD d1_29) (n := 30) rfl (by decide) ?_
 have f13 := ((((F_lm.other Wn3 (Or.inr (slot_ne (Or.inr (oW hw 23 rfl)) (Or.inl (oW hw 15 rfl)) (by decide) (t := .int) (t' := (.array .int)) (by decide) (by decide)))).other Wn8 (Or.inr (slot_ne (Or.inr (oW hw 23 rfl)) (Or.inl (oW hw 19 rfl)) (by decide) (t := .int) (t' := (.array .char)) (by decide) (by decide)))).ext Ex9).other Wn12 (Or.inr (slot_ne (Or.inr (oW hw 23 rfl)) (Or.inl (oW hw 21 rfl)) (by decide) (t := .int) (t' := (.array .byte)) (by decide) (by decide))))
 have f14 := (f11.wr Wn12)
 refine Wk.putF X12 hx hZ hown (host := "") (Or.inl (oW hw 22 rfl)) Via.refl e12 f13 f14 (Or.inr ⟨(oW hw 23 rfl), rfl, hnm⟩) (oW hw 3 rfl) (ty := .int) (by decide) rfl rfl (hD d1_30) (n := 33) rfl fun T15 H15 X15 e15 Wn15 => ?_
 have sz15 := Wn15.size
 have Fn15 := f13.same Wn15
 have K15 := K12.wr Wn15 (Or.inl (List.mem_of_getElem? (i := 0) rfl))
 have N15 := Fr.snoc X15 N12 (by omega)
 have f16 := ((Vn9.other Wn12 (nz (by omega))).other Wn15 (nz (by omega)))
 have f17 := (f14.wr Wn15)
 have f18 := ((((Fn3.other Wn8 (Or.inr (slot_ne (Or.inl (oW hw 15 rfl)) (Or.inl (oW hw 19 rfl)) (by decide) (t := (.array .int)) (t' := (.array .char)) (by decide) (by decide)))).ext Ex9).other Wn12 (Or.inr (slot_ne (Or.inl (oW hw 15 rfl)) (Or.inl (oW hw 21 rfl)) (by decide) (t := (.array .int)) (t' := (.array .byte)) (by decide) (by decide)))).other Wn15 (Or.inr (slot_ne (Or.inl (oW hw 15 rfl)) (Or.inr (oW hw 23 rfl)) (by decide) (t := (.array .int)) (t' := .int) (by decide) (by decide))))
 have f19 := (((Fn8.ext Ex9).other Wn12 (Or.inr (slot_ne (Or.inl (oW hw 19 rfl)) (Or.inl (oW hw 21 rfl)) (by decide) (t := (.array .char)) (t' := (.array .byte)) (by decide) (by decide)))).other Wn15 (Or.inr (slot_ne (Or.inl (oW hw 19 rfl)) (Or.inr (oW hw 23 rfl)) (by decide) (t := (.array .char)) (t' := .int) (by decide) (by decide))))
 have f20 := (Fn12.other Wn15 (Or.inr (slot_ne (Or.inl (oW hw 21 rfl)) (Or.inr (oW hw 23 rfl)) (by decide) (t := (.array .byte)) (t' := .int) (by decide) (by decide))))
 have f21 := (((((F_ch.other Wn3 (Or.inr (slot_ne (Or.inl (oW hw 30 rfl)) (Or.inl (oW hw 15 rfl)) (by decide) (t := (.array .char)) (t' := (.array .int)) (by decide) (by decide)))).other Wn8 (Or.inr (slot_ne (Or.inl (oW hw 30 rfl)) (Or.inl (oW hw 19 rfl)) (by decide) (t := (.array .char)) (t' := (.array .char)) (by decide) (by decide)))).ext Ex9).other Wn12 (Or.inr (slot_ne (Or.inl (oW hw 30 rfl)) (Or.inl (oW hw 21 rfl)) (by decide) (t := (.array .char)) (t' := (.array .byte)) (by decide) (by decide)))).other Wn15 (Or.inr (slot_ne (Or.inl (oW hw 30 rfl)) (Or.inr (oW hw 23 rfl)) (by decide) (t := (.array .char)) (t' := .int) (by decide) (by decide))))
 have f22 := (((((F_ct.other Wn3 (Or.inr (slot_ne (Or.inl (oW hw 41 rfl)) (Or.inl (oW hw 15 rfl)) (by decide) (t := .int) (t' := (.array .int)) (by decide) (by decide)))).other Wn8 (Or.inr (slot_ne (Or.inl (oW hw 41 rfl)) (Or.inl (oW hw 19 rfl)) (by decide) (t := .int) (t' := (.array .char)) (by decide) (by decide)))).ext Ex9).other Wn12 (Or.inr (slot_ne (Or.inl (oW hw 41 rfl)) (Or.inl (oW hw 21 rfl)) (by decide) (t := .int) (t' := (.array .byte)) (by decide) (by decide)))).other Wn15 (Or.inr (slot_ne (Or.inl (oW hw 41 rfl)) (Or.inr (oW hw 23 rfl)) (by decide) (t := .int) (t' := .int) (by decide) (by decide))))
 have f23 := (((((F_ln.other Wn3 (Or.inr (slot_ne (Or.inl (oW hw 47 rfl)) (Or.inl (oW hw 15 rfl)) (by decide) (t := .int) (t' := (.array .int)) (by decide) (by decide)))).other Wn8 (Or.inr (slot_ne (Or.inl (oW hw 47 rfl)) (Or.inl (oW hw 19 rfl)) (by decide) (t := .int) (t' := (.array .char)) (by decide) (by decide)))).ext Ex9).other Wn12 (Or.inr (slot_ne (Or.inl (oW hw 47 rfl)) (Or.inl (oW hw 21 rfl)) (by decide) (t := .int) (t' := (.array .byte)) (by decide) (by decide)))).other Wn15 (Or.inr (slot_ne (Or.inl (oW hw 47 rfl)) (Or.inr (oW hw 23 rfl)) (by decide) (t := .int) (t' := .int) (by decide) (by decide))))
 exact Wk.leave X15 (v := none) (fun _ => rfl) hlk e15 ⟨b9, k9, rfl, N15, K15, f17, f18, f19, f20, (by have q := Fn15; rw [show ((7 : Int32) / (8 : Int32)) = (0 : Int32) from by decide] at q; exact q), f21, f22, f23, (Arv.pad f16 (fun i => (pad_rep [] _ 7 i).symm)), (by omega)⟩ (by decide) (by decide) (fun fs hr => X15.returnOut hx Bd.returns (hD d1_33) hr)
def Q_rmMX (Z : State) (i1 : Int32) (i2 : Int32) (h0 : Heap) (n0 : Nat) (v : Option Value) (h : Heap) (L : List Loc) : Prop := v = some (.int i1) ∧ Fr n0 L ∧ h = h0
theorem ef_rmMX (m : MethodId) (x0 : Int32) (x1 : Int32) : entryFrame m #[(.int x0), (.int x1)] 2 = mkF m 0 #[.val (.int x0), .val (.int x1)] [] := by first | (simp [entryFrame, mkF, argsToLocals, Value.category]; done) | rfl
theorem d2_0 : decode B2_ 0 = .ok (.iload_n 0, 1) := by decide +kernel
theorem d2_1 : decode B2_ 1 = .ok (.iload_n 1, 1) := by decide +kernel
theorem d2_2 : decode B2_ 2 = .ok (.if_icmp .lt 7, 3) := by decide +kernel
theorem d2_5 : decode B2_ 5 = .ok (.iload_n 0, 1) := by decide +kernel
theorem d2_6 : decode B2_ 6 = .ok (.goto 4, 3) := by decide +kernel
theorem d2_10 : decode B2_ 10 = .ok (.ireturn, 1) := by decide +kernel
theorem rmMX (hw : HW a0 Z) (ws : List Jvm.Cond) (i1 : Int32) (i2 : Int32) (h0 : Heap) (n0 : Nat) (Z0 : n0 ≤ h0.size) (h1 : ¬ i1 < i2) : MetN l Z mn2 jdk_29_method_65_code 2 (some .int) ws (rM 0 0 0 0) #[(.int i1), (.int i2)] h0 (Q_rmMX Z i1 i2 h0 n0) := by
 refine enterN (Jvm.Free.JP.mathPlain rfl (by decide +kernel)) (fun m => ef_rmMX m _ _) fun p e s m below meth c s₁ Bd hZ hx hD hlk hml hown hnm X0 e0 => ?_
 have N0 := Fr.nil n0
 have K0 := Keep.refl h0 []
 refine Wk.iloadN X0 hx (hD d2_0) (n := 1) rfl rfl ?_
 refine Wk.iloadN X0 hx (hD d2_1) (n := 2) rfl rfl ?_
 have hc2_1 : ¬ (i1 < i2) := h1
 refine Wk.icmpNo X0 hx (hD d2_2) (n := 5) rfl (flt hc2_1).1 ?_
 refine Wk.iloadN X0 hx (hD d2_5) (n := 6) rfl rfl ?_
 refine Wk.goto X0 hx (hD d2_6) (by decide) (n := 10) (by decide) ?_
 exact Wk.leave X0 (v := some (.int i1)) (fun h => by rw [Bd.returns] at h; cases h) hlk e0 ⟨rfl, N0, rfl⟩ (by decide) (by decide) (fun fs hr => retI X0 hx Bd.returns (hD d2_10) hr)
def Q_rmMG (Z : State) (i1 : Int32) (i2 : Int32) (h0 : Heap) (n0 : Nat) (v : Option Value) (h : Heap) (L : List Loc) : Prop := v = some (.int i2) ∧ Fr n0 L ∧ h = h0
theorem ef_rmMG (m : MethodId) (x0 : Int32) (x1 : Int32) : entryFrame m #[(.int x0), (.int x1)] 2 = mkF m 0 #[.val (.int x0), .val (.int x1)] [] := by first | (simp [entryFrame, mkF, argsToLocals, Value.category]; done) | rfl
theorem d3_0 : decode B3_ 0 = .ok (.iload_n 0, 1) := by decide +kernel
theorem d3_1 : decode B3_ 1 = .ok (.iload_n 1, 1) := by decide +kernel
theorem d3_2 : decode B3_ 2 = .ok (.if_icmp .gt 7, 3) := by decide +kernel
theorem d3_9 : decode B3_ 9 = .ok (.iload_n 1, 1) := by decide +kernel
theorem d3_10 : decode B3_ 10 = .ok (.ireturn, 1) := by decide +kernel
theorem rmMG (hw : HW a0 Z) (ws : List Jvm.Cond) (i1 : Int32) (i2 : Int32) (h0 : Heap) (n0 : Nat) (Z0 : n0 ≤ h0.size) (h1 : i2 < i1) : MetN l Z mn3 jdk_29_method_69_code 2 (some .int) ws (rM 0 0 0 0) #[(.int i1), (.int i2)] h0 (Q_rmMG Z i1 i2 h0 n0) := by
 refine enterN (Jvm.Free.JP.mathPlain rfl (by decide +kernel)) (fun m => ef_rmMG m _ _) fun p e s m below meth c s₁ Bd hZ hx hD hlk hml hown hnm X0 e0 => ?_
 have N0 := Fr.nil n0
 have K0 := Keep.refl h0 []
 refine Wk.iloadN X0 hx (hD d3_0) (n := 1) rfl rfl ?_
 refine Wk.iloadN X0 hx (hD d3_1) (n := 2) rfl rfl ?_
 have hc2_1 : i2 < i1 := h1
 refine Wk.icmpYes X0 hx (hD d3_2) (tlt hc2_1).2.2.1 (by decide) (n := 9) (by decide) ?_
 refine Wk.iloadN X0 hx (hD d3_9) (n := 10) rfl rfl ?_
 exact Wk.leave X0 (v := some (.int i2)) (fun h => by rw [Bd.returns] at h; cases h) hlk e0 ⟨rfl, N0, rfl⟩ (by decide) (by decide) (fun fs hr => retI X0 hx Bd.returns (hD d3_10) hr)
def Q_rmMN (Z : State) (i1 : Int32) (i2 : Int32) (h0 : Heap) (n0 : Nat) (v : Option Value) (h : Heap) (L : List Loc) : Prop := v = some (.int i1) ∧ Fr n0 L ∧ h = h0
theorem ef_rmMN (m : MethodId) (x0 : Int32) (x1 : Int32) : entryFrame m #[(.int x0), (.int x1)] 2 = mkF m 0 #[.val (.int x0), .val (.int x1)] [] := by first | (simp [entryFrame, mkF, argsToLocals, Value.category]; done) | rfl
theorem d3_5 : decode B3_ 5 = .ok (.iload_n 0, 1) := by decide +kernel
theorem d3_6 : decode B3_ 6 = .ok (.goto 4, 3) := by decide +kernel
theorem rmMN (hw : HW a0 Z) (ws : List Jvm.Cond) (i1 : Int32) (i2 : Int32) (h0 : Heap) (n0 : Nat) (Z0 : n0 ≤ h0.size) (h1 : ¬ i2 < i1) : MetN l Z mn3 jdk_29_method_69_code 2 (some .int) ws (rM 0 0 0 0) #[(.int i1), (.int i2)] h0 (Q_rmMN Z i1 i2 h0 n0) := by
 refine enterN (Jvm.Free.JP.mathPlain rfl (by decide +kernel)) (fun m => ef_rmMN m _ _) fun p e s m below meth c s₁ Bd hZ hx hD hlk hml hown hnm X0 e0 => ?_
 have N0 := Fr.nil n0
 have K0 := Keep.refl h0 []
 refine Wk.iloadN X0 hx (hD d3_0) (n := 1) rfl rfl ?_
 refine Wk.iloadN X0 hx (hD d3_1) (n := 2) rfl rfl ?_
 have hc2_1 : ¬ (i2 < i1) := h1
 refine Wk.icmpNo X0 hx (hD d3_2) (n := 5) rfl (flt hc2_1).2.2.1 ?_
 refine Wk.iloadN X0 hx (hD d3_5) (n := 6) rfl rfl ?_
 refine Wk.goto X0 hx (hD d3_6) (by decide) (n := 10) (by decide) ?_
 exact Wk.leave X0 (v := some (.int i1)) (fun h => by rw [Bd.returns] at h; cases h) hlk e0 ⟨rfl, N0, rfl⟩ (by decide) (by decide) (fun fs hr => retI X0 hx Bd.returns (hD d3_10) hr)
def Q_rmCT (Z : State)  (h0 : Heap) (n0 : Nat) (v : Option Value) (h : Heap) (L : List Loc) : Prop := v = some (.int (1 : Int32)) ∧ Fr n0 L ∧ h = h0
theorem ef_rmCT (m : MethodId)  : entryFrame m #[(.int (256 : Int32))] 1 = mkF m 0 #[.val (.int (256 : Int32))] [] := by first | (simp [entryFrame, mkF, argsToLocals, Value.category]; done) | rfl
theorem pn_java_lang_Character : plainName "java/lang/Character" = true := by first | (simp [plainName, overriddenIn]; done) | decide +kernel
theorem d4_0 : decode B4_ 0 = .ok (.iload_n 0, 1) := by decide +kernel
theorem d4_1 : decode B4_ 1 = .ok (.ldc 73, 2) := by decide +kernel
theorem d4_3 : decode B4_ 3 = .ok (.if_icmp .lt 7, 3) := by decide +kernel
theorem d4_10 : decode B4_ 10 = .ok (.iconst 1, 1) := by decide +kernel
theorem d4_11 : decode B4_ 11 = .ok (.ireturn, 1) := by decide +kernel
theorem rmCT (hw : HW a0 Z) (ws : List Jvm.Cond)  (h0 : Heap) (n0 : Nat) (Z0 : n0 ≤ h0.size) : MetN l Z mn4 jdk_89_method_18_code 1 (some .int) ws (rM 0 0 0 0) #[(.int (256 : Int32))] h0 (Q_rmCT Z  h0 n0) := by
 refine enterN (plainFor_of_name pn_java_lang_Character) (fun m => ef_rmCT m) fun p e s m below meth c s₁ Bd hZ hx hD hlk hml hown hnm X0 e0 => ?_
 have N0 := Fr.nil n0
 have K0 := Keep.refl h0 []
 refine Wk.iloadN X0 hx (hD d4_0) (n := 1) rfl rfl ?_
 refine Wk.ldcInt X0 hx hown (mW hZ hw 39 rfl) (hD d4_1) (n := 3) rfl ?_
 have hc3_1 : (256 : Int32) < (65536 : Int32) := by decide
 refine Wk.icmpYes X0 hx (hD d4_3) (tlt hc3_1).1 (by decide) (n := 10) (by decide) ?_
 refine Wk.iconst X0 hx (hD d4_10) (n := 11) rfl (z := (1 : Int32)) rfl ?_
 exact Wk.leave X0 (v := some (.int (1 : Int32))) (fun h => by rw [Bd.returns] at h; cases h) hlk e0 ⟨rfl, N0, rfl⟩ (by decide) (by decide) (fun fs hr => retI X0 hx Bd.returns (hD d4_11) hr)
def Q_rmBMP (Z : State) (p1 : Int32) (h0 : Heap) (n0 : Nat) (v : Option Value) (h : Heap) (L : List Loc) : Prop := v = some (.int (1 : Int32)) ∧ Fr n0 L ∧ h = h0
theorem ef_rmBMP (m : MethodId) (x0 : Int32) : entryFrame m #[(.int x0)] 1 = mkF m 0 #[.val (.int x0)] [] := by first | (simp [entryFrame, mkF, argsToLocals, Value.category]; done) | rfl
theorem d5_0 : decode B5_ 0 = .ok (.iload_n 0, 1) := by decide +kernel
theorem d5_1 : decode B5_ 1 = .ok (.bipush 16, 2) := by decide +kernel
theorem d5_3 : decode B5_ 3 = .ok (.iushr, 1) := by decide +kernel
theorem d5_4 : decode B5_ 4 = .ok (.ifCond .ne 7, 3) := by decide +kernel
theorem d5_7 : decode B5_ 7 = .ok (.iconst 1, 1) := by decide +kernel
theorem d5_8 : decode B5_ 8 = .ok (.goto 4, 3) := by decide +kernel
theorem d5_12 : decode B5_ 12 = .ok (.ireturn, 1) := by decide +kernel
theorem rmBMP (hw : HW a0 Z) (ws : List Jvm.Cond) (p1 : Int32) (h0 : Heap) (n0 : Nat) (Z0 : n0 ≤ h0.size) (hb : ¬ p1 < 0 ∧ ¬ (256 : Int32) < p1) : MetN l Z mn5 jdk_89_method_12_code 1 (some .boolean) ws (rM 0 0 0 0) #[(.int p1)] h0 (Q_rmBMP Z p1 h0 n0) := by
 refine enterN (plainFor_of_name pn_java_lang_Character) (fun m => ef_rmBMP m _) fun p e s m below meth c s₁ Bd hZ hx hD hlk hml hown hnm X0 e0 => ?_
 have N0 := Fr.nil n0
 have K0 := Keep.refl h0 []
 refine Wk.iloadN X0 hx (hD d5_0) (n := 1) rfl rfl ?_
 refine Wk.bipush X0 hx (hD d5_1) (n := 3) rfl (z := (16 : Int32)) rfl ?_
 refine Wk.iushr X0 hx (hD d5_3) (n := 4) rfl ?_
 have hc4_1 : ((p1.toUInt32 >>> ((16 : Int32) &&& 31).toUInt32).toInt32) = (0 : Int32) := own_bmp hb
 refine Wk.ifNo X0 hx (hD d5_4) (n := 7) rfl ((if0 _ _).trans (teq hc4_1).2) ?_
 refine Wk.iconst X0 hx (hD d5_7) (n := 8) rfl (z := (1 : Int32)) rfl ?_
 refine Wk.goto X0 hx (hD d5_8) (by decide) (n := 12) (by decide) ?_
 exact Wk.leave X0 (v := some (.int (1 : Int32))) (fun h => by rw [Bd.returns] at h; cases h) hlk e0 ⟨rfl, N0, rfl⟩ (by decide) (by decide) (fun fs hr => retNz X0 hx (t := .boolean) rfl Bd.returns (by simp) (hD d5_12) hr)
def Q_rmTC (Z : State) (p1 : Int32) (ta : Addr) (j1 : Int32) (ka : ClassId) (cs : List Int32) (Nz : Nat) (h0 : Heap) (n0 : Nat) (v : Option Value) (h : Heap) (L : List Loc) : Prop := v = some (.int (1 : Int32)) ∧ Fr n0 L ∧ Keep h0 h [ta] ∧ Arv Z h ta ka .char (Int32.ofNat Nz) (chV (cs ++ [p1])) (.int (0 : Int32))
theorem ef_rmTC (m : MethodId) (x0 : Int32) (x1 : Addr) (x2 : Int32) : entryFrame m #[(.int x0), (.ref x1), (.int x2)] 3 = mkF m 0 #[.val (.int x0), .val (.ref x1), .val (.int x2)] [] := by first | (simp [entryFrame, mkF, argsToLocals, Value.category]; done) | rfl
theorem d6_0 : decode B6_ 0 = .ok (.iload_n 0, 1) := by decide +kernel
theorem d6_1 : decode B6_ 1 = .ok (.invokestatic 111, 3) := by decide +kernel
theorem pd_0 : parseMethodDescriptor "(I)Z" = some ⟨[.int], some .boolean⟩ := by decide +kernel
theorem d6_4 : decode B6_ 4 = .ok (.ifCond .eq 10, 3) := by decide +kernel
theorem d6_7 : decode B6_ 7 = .ok (.aload_n 1, 1) := by decide +kernel
theorem d6_8 : decode B6_ 8 = .ok (.iload_n 2, 1) := by decide +kernel
theorem d6_9 : decode B6_ 9 = .ok (.iload_n 0, 1) := by decide +kernel
theorem d6_10 : decode B6_ 10 = .ok (.i2c, 1) := by decide +kernel
theorem d6_11 : decode B6_ 11 = .ok (.castore, 1) := by decide +kernel
theorem d6_12 : decode B6_ 12 = .ok (.iconst 1, 1) := by decide +kernel
theorem d6_13 : decode B6_ 13 = .ok (.ireturn, 1) := by decide +kernel
theorem rmTC (hw : HW a0 Z) (ws : List Jvm.Cond) (p1 : Int32) (ta : Addr) (j1 : Int32) (ka : ClassId) (cs : List Int32) (Nz : Nat) (h0 : Heap) (n0 : Nat) (Z0 : n0 ≤ h0.size) (A1 : Arv Z h0 ta ka .char (Int32.ofNat Nz) (chV cs) (.int (0 : Int32))) (hb : ¬ p1 < 0 ∧ ¬ (256 : Int32) < p1) (hj : j1 = Int32.ofNat cs.length) (hN : cs.length < Nz) (hNz : Nz ≤ 8) (g1 : n0 ≤ ta) : MetN l Z mn6 jdk_89_method_30_code 3 (some .int) ws (rM 1 0 0 12) #[(.int p1), (.ref ta), (.int j1)] h0 (Q_rmTC Z p1 ta j1 ka cs Nz h0 n0) := by
 refine enterN (plainFor_of_name pn_java_lang_Character) (fun m => ef_rmTC m _ _ _) fun p e s m below meth c s₁ Bd hZ hx hD hlk hml hown hnm X0 e0 => ?_
 have N0 := Fr.nil n0
 have K0 := Keep.refl h0 [ta]
 have lt_A1 := ny A1.lt
 refine Wk.iloadN X0 hx (hD d6_0) (n := 1) rfl rfl ?_
 have cl1_ := fun Ls (hLs : LsOk c Ls) => Jvm.LawKit.callS X0 hx (y := mn5) hown (mW hZ hw 57 rfl) (mW hZ hw 58 rfl) (mW hZ hw 37 rfl) (mW hZ hw 59 rfl) (by decide) (backOf (W := 0) (rmBMP l Z a0 hw [] p1 h0 n0 (by omega) hb) hZ (oW hw 59 rfl) (oW hw 37 rfl) (by decide) (by decide)) (g := mkF m 1 Ls [(.int p1)]) rfl hLs (argsL := [(.int p1)]) (rest := []) (lenOf pd_0 rfl) rfl (leq0 rfl) (hD d6_1) (fun _ _ => ⟨rfl, e0, (by decide : 0 + 0 ≤ _), (by decide : 0 + 0 ≤ _)⟩)
 refine Wk.backS (n := 4) (rc := 0) (rs := 0) (Q := Q_rmBMP Z p1 h0 n0) (cl1_ _ (lsok hml rfl)) fun vn1 T1 L1 X1 hQ1 => ?_
 clear cl1_
 obtain ⟨rfl, M1, e1⟩ := hQ1
 have N1 := Fr.app N0 M1
 show Wk p e below _ T1 (mkF m 4 _ [(.int (1 : Int32))])
 have hc4_2 : ¬ ((1 : Int32) = (0 : Int32)) := by decide
 refine Wk.ifNo X1 hx (hD d6_4) (n := 7) rfl ((if0 _ _).trans (feq hc4_2).1) ?_
 refine Wk.aloadN X1 hx (hD d6_7) (n := 8) rfl rfl rfl ?_
 refine Wk.iloadN X1 hx (hD d6_8) (n := 9) rfl rfl ?_
 refine Wk.iloadN X1 hx (hD d6_9) (n := 10) rfl rfl ?_
 refine Wk.i2c X1 hx (hD d6_10) (n := 11) rfl rfl ?_
 have Pd3 := Arv.pad A1 (pad_rep (chV cs) (.int (0 : Int32)) 1)
 obtain ⟨cl4, Ar4, qn4, Sz4, N_4, H_4, Gn4⟩ := id Pd3
 have hin4 : ¬ (j1 < 0 ∨ cl4.slots.size ≤ (j1).toNatClampNeg) := inb_of Sz4 (by rw [hj]; exact ⟨own_nonneg (by omega), (own_lt (by omega) (by omega)).mpr (by omega)⟩)
 refine Wk.stC X1 hx hZ e1 Ar4 hin4 (hD d6_11) (n := 12) rfl fun T4 H4 X4 e4 Wn4 => ?_
 have Vn4 := Arv.set Ar4 qn4 Sz4 N_4 H_4 Gn4 (fits_nar_char _) Wn4 cs.length (by rw [hj]; exact own_cl (by omega)) (by simp [chV])
 have Un4 : Arv Z H4 ta ka .char (Int32.ofNat Nz) (chV (cs ++ [p1])) (.int (0 : Int32)) := own_arv (own_sc1 (own_nc2 hb)) Vn4
 have sz4 := Wn4.size
 have K4 := K0.wr Wn4 (Or.inl (List.mem_of_getElem? (i := 0) rfl))
 have N4 := Fr.snoc X4 N1 (by omega)
 refine Wk.iconst X4 hx (hD d6_12) (n := 13) rfl (z := (1 : Int32)) rfl ?_
 exact Wk.leave X4 (v := some (.int (1 : Int32))) (fun h => by rw [Bd.returns] at h; cases h) hlk e4 ⟨rfl, N4, K4, Un4⟩ (by decide) (by decide) (fun fs hr => retI X4 hx Bd.returns (hD d6_13) hr)
def Q_rmC1I (Z : State) (ta : Addr) (ka : ClassId) (h0 : Heap) (n0 : Nat) (v : Option Value) (h : Heap) (L : List Loc) : Prop := ∃ (r : Addr) (kb : ClassId), v = some (.ref r) ∧ Fr n0 L ∧ Keep h0 h [] ∧ Arv Z h r kb .int (1 : Int32) [(.int (0 : Int32))] (.int (0 : Int32)) ∧ Exa Z h r "[I" ∧ (h0.size ≤ r)
theorem ef_rmC1I (m : MethodId) (x0 : Addr) : entryFrame m #[(.ref x0), (.int (1 : Int32))] 3 = mkF m 0 #[.val (.ref x0), .val (.int (1 : Int32)), .unset] [] := by first | (simp [entryFrame, mkF, argsToLocals, Value.category]; done) | rfl
theorem pn_java_util_Arrays : plainName "java/util/Arrays" = true := by first | (simp [plainName, overriddenIn]; done) | decide +kernel
theorem d7_0 : decode B7_ 0 = .ok (.iload_n 1, 1) := by decide +kernel
theorem d7_1 : decode B7_ 1 = .ok (.aload_n 0, 1) := by decide +kernel
theorem d7_2 : decode B7_ 2 = .ok (.arraylength, 1) := by decide +kernel
theorem d7_3 : decode B7_ 3 = .ok (.if_icmp .ne 11, 3) := by decide +kernel
theorem d7_14 : decode B7_ 14 = .ok (.iload_n 1, 1) := by decide +kernel
theorem d7_15 : decode B7_ 15 = .ok (.newarray .int, 2) := by decide +kernel
theorem d7_17 : decode B7_ 17 = .ok (.astore_n 2, 1) := by decide +kernel
theorem d7_18 : decode B7_ 18 = .ok (.aload_n 0, 1) := by decide +kernel
theorem d7_19 : decode B7_ 19 = .ok (.iconst 0, 1) := by decide +kernel
theorem d7_20 : decode B7_ 20 = .ok (.aload_n 2, 1) := by decide +kernel
theorem d7_21 : decode B7_ 21 = .ok (.iconst 0, 1) := by decide +kernel
theorem d7_22 : decode B7_ 22 = .ok (.aload_n 0, 1) := by decide +kernel
theorem d7_23 : decode B7_ 23 = .ok (.arraylength, 1) := by decide +kernel
theorem d7_24 : decode B7_ 24 = .ok (.iload_n 1, 1) := by decide +kernel
theorem d7_25 : decode B7_ 25 = .ok (.invokestatic 304, 3) := by decide +kernel
theorem pd_1 : parseMethodDescriptor "(II)I" = some ⟨[.int, .int], some .int⟩ := by decide +kernel
theorem d7_28 : decode B7_ 28 = .ok (.invokestatic 150, 3) := by decide +kernel
theorem d7_31 : decode B7_ 31 = .ok (.aload_n 2, 1) := by decide +kernel
theorem d7_32 : decode B7_ 32 = .ok (.areturn, 1) := by decide +kernel
theorem rmC1I (hw : HW a0 Z) (ws : List Jvm.Cond) (ta : Addr) (ka : ClassId) (h0 : Heap) (n0 : Nat) (Z0 : n0 ≤ h0.size) (A1 : Arv Z h0 ta ka .int (0 : Int32) [] (.int (0 : Int32))) : MetN l Z mn7 jdk_65_method_123_code 3 (some (.array .int)) ws (rM 1 1 1 32) #[(.ref ta), (.int (1 : Int32))] h0 (Q_rmC1I Z ta ka h0 n0) := by
 refine enterN (plainFor_of_name pn_java_util_Arrays) (fun m => ef_rmC1I m _) fun p e s m below meth c s₁ Bd hZ hx hD hlk hml hown hnm X0 e0 => ?_
 have N0 := Fr.nil n0
 have K0 := Keep.refl h0 []
 have lt_A1 := ny A1.lt
 refine Wk.iloadN X0 hx (hD d7_0) (n := 1) rfl rfl ?_
 refine Wk.aloadN X0 hx (hD d7_1) (n := 2) rfl rfl rfl ?_
 obtain ⟨cl1, Ar1, qn1, Sz1, N_1, H_1, Gn1⟩ := id A1
 refine Wk.arrlen X0 hx hZ e0 Ar1 Sz1 N_1 (hD d7_2) (n := 3) rfl ?_
 have hc3_2 : ¬ ((1 : Int32) = (0 : Int32)) := by decide
 refine Wk.icmpYes X0 hx (hD d7_3) (feq hc3_2).2 (by decide) (n := 14) (by decide) ?_
 refine Wk.iloadN X0 hx (hD d7_14) (n := 15) rfl rfl ?_
 refine Wk.newPE X0 hx hZ (oW hw 171 rfl) e0 (hD d7_15) (n := 17) rfl (by decide) (cap := 1) (by decide) (by decide) (by decide) (by decide) (ad := "[I") (by decide) fun T3 H3 b3 k3 gn3 X3 e3 Ex3 An3 Aq3 => ?_
 have gn3 := nx gn3
 have sz3 := Ex3.1
 have K3 := K0.ext Ex3
 have Vn3 : Arv Z H3 b3 k3 .int (1 : Int32) [(.int (0 : Int32))] (.int (0 : Int32)) := (Arv.new An3 (by decide)).pad (pad_rep [] (.int (0 : Int32)) 1)
 have lt3 := ny Vn3.lt
 refine Wk.astoreN X3 hx (hD d7_17) (n := 18) rfl rfl (L' := #[.val (.ref ta), .val (.int (1 : Int32)), .val (.ref b3)]) rfl ?_
 refine Wk.aloadN X3 hx (hD d7_18) (n := 19) rfl rfl rfl ?_
 refine Wk.iconst X3 hx (hD d7_19) (n := 20) rfl (z := (0 : Int32)) rfl ?_
 refine Wk.aloadN X3 hx (hD d7_20) (n := 21) rfl rfl rfl ?_
 refine Wk.iconst X3 hx (hD d7_21) (n := 22) rfl (z := (0 : Int32)) rfl ?_
 refine Wk.aloadN X3 hx (hD d7_22) (n := 23) rfl rfl rfl ?_
 have f4 := (A1.ext Ex3)
 obtain ⟨cl5, Ar5, qn5, Sz5, N_5, H_5, Gn5⟩ := id f4
 refine Wk.arrlen X3 hx hZ e3 Ar5 Sz5 N_5 (hD d7_23) (n := 24) rfl ?_
 refine Wk.iloadN X3 hx (hD d7_24) (n := 25) rfl rfl ?_
 have cl6_ := fun Ls (hLs : LsOk c Ls) => Jvm.LawKit.callS X3 hx (y := mn3) hown (mW hZ hw 172 rfl) (mW hZ hw 165 rfl) (mW hZ hw 162 rfl) (mW hZ hw 166 rfl) (by decide) (backOf (W := 4) (rmMN l Z a0 hw [] (0 : Int32) (1 : Int32) H3 n0 (by omega) (by decide)) hZ (oW hw 166 rfl) (oW hw 162 rfl) (by decide) (by decide)) (g := mkF m 25 Ls [(.int (1 : Int32)), (.int (0 : Int32)), (.int (0 : Int32)), (.ref b3), (.int (0 : Int32)), (.ref ta)]) rfl hLs (argsL := [(.int (0 : Int32)), (.int (1 : Int32))]) (rest := [(.int (0 : Int32)), (.ref b3), (.int (0 : Int32)), (.ref ta)]) (lenOf pd_1 rfl) rfl (leq0 rfl) (hD d7_25) (fun _ _ => ⟨rfl, e3, (by decide : 1 + 0 ≤ _), (by decide : 1 + 0 ≤ _)⟩)
 refine Wk.backS (n := 28) (rc := 0) (rs := 0) (Q := Q_rmMN Z (0 : Int32) (1 : Int32) H3 n0) (cl6_ _ (lsok hml rfl)) fun vn6 T6 L6 X6 hQ6 => ?_
 clear cl6_
 obtain ⟨rfl, M6, e6⟩ := hQ6
 have N6 := Fr.app N0 M6
 show Wk p e below _ T6 (mkF m 28 _ [(.int (0 : Int32)), (.int (0 : Int32)), (.ref b3), (.int (0 : Int32)), (.ref ta)])
 refine Wk.cpA X6 hx hZ hown (oW hw 173 rfl) (oW hw 176 rfl) (oW hw 174 rfl) (oW hw 175 rfl) e6 f4 Vn3 (Or.inl ⟨rfl, rfl⟩) (i := 0) (j := 0) (q := 0) rfl rfl rfl (by decide) (by decide) (by decide) (by decide) (by decide) rfl (by decide) N6 (by omega) (vn := [(.int (0 : Int32))]) rfl (by rw [hml]; rfl) (hD d7_28) (n := 31) rfl (by decide) (w := 0) (Nat.le_of_eq rfl) (by decide) fun T7 H7 Lc7 X7 e7 N7 J7 Vn7 => ?_
 have sz7 := J7.1
 have K7 := K3.trans J7 (allS (Or.inr (by omega)) all0)
 refine Wk.aloadN X7 hx (hD d7_31) (n := 32) rfl rfl rfl ?_
 have f8 := (Aq3.keep J7)
 exact Wk.leave X7 (v := some (.ref b3)) (fun h => by rw [Bd.returns] at h; cases h) hlk e7 ⟨b3, k3, rfl, N7, K7, Vn7, f8, (by omega)⟩ (by decide) (by decide) (fun fs hr => retA X7 hx rfl Bd.returns rfl (hD d7_32) hr)
def Q_rmCCI (Z : State) (ta : Addr) (ka : ClassId) (i1 : Int32) (vs : List Value) (h0 : Heap) (n0 : Nat) (v : Option Value) (h : Heap) (L : List Loc) : Prop := ∃ (r : Addr), v = some (.ref r) ∧ Fr n0 L ∧ Keep h0 h [] ∧ Exa Z h r "[I"
theorem ef_rmCCI (m : MethodId) (x0 : Addr) (x1 : Int32) : entryFrame m #[(.ref x0), (.int x1)] 3 = mkF m 0 #[.val (.ref x0), .val (.int x1), .unset] [] := by first | (simp [entryFrame, mkF, argsToLocals, Value.category]; done) | rfl
theorem d7_6 : decode B7_ 6 = .ok (.aload_n 0, 1) := by decide +kernel
theorem d7_7 : decode B7_ 7 = .ok (.invokevirtual 316, 3) := by decide +kernel
theorem d7_10 : decode B7_ 10 = .ok (.checkcast 317, 3) := by decide +kernel
theorem d7_13 : decode B7_ 13 = .ok (.areturn, 1) := by decide +kernel
theorem rmCCI (hw : HW a0 Z) (ws : List Jvm.Cond) (ta : Addr) (ka : ClassId) (i1 : Int32) (vs : List Value) (h0 : Heap) (n0 : Nat) (Z0 : n0 ≤ h0.size) (A1 : Arv Z h0 ta ka .int i1 vs (.int (0 : Int32))) (E1 : Exa Z h0 ta "[I") (h1 : i1.toNatClampNeg ≤ 1) : MetN l Z mn7 jdk_65_method_123_code 3 (some (.array .int)) ws (rM 1 1 1 14) #[(.ref ta), (.int i1)] h0 (Q_rmCCI Z ta ka i1 vs h0 n0) := by
 refine enterN (plainFor_of_name pn_java_util_Arrays) (fun m => ef_rmCCI m _ _) fun p e s m below meth c s₁ Bd hZ hx hD hlk hml hown hnm X0 e0 => ?_
 have N0 := Fr.nil n0
 have K0 := Keep.refl h0 []
 have lt_A1 := ny A1.lt
 have lt_E1 := ny E1.lt
 refine Wk.iloadN X0 hx (hD d7_0) (n := 1) rfl rfl ?_
 refine Wk.aloadN X0 hx (hD d7_1) (n := 2) rfl rfl rfl ?_
 obtain ⟨cl1, Ar1, qn1, Sz1, N_1, H_1, Gn1⟩ := id A1
 refine Wk.arrlen X0 hx hZ e0 Ar1 Sz1 N_1 (hD d7_2) (n := 3) rfl ?_
 have hc3_2 : i1 = i1 := rfl
 refine Wk.icmpNo X0 hx (hD d7_3) (n := 6) rfl (teq hc3_2).2 ?_
 refine Wk.aloadN X0 hx (hD d7_6) (n := 7) rfl rfl rfl ?_
 obtain ⟨cl3, Ar3, qn3, Sz3, N_3, H_3, Gn3⟩ := id A1
 have cl3_ := fun (Ls : Array Slot) (hLs : Ls.size = c.maxLocals) => cloneA X0 hx hZ hown (ad := "[I") (oW hw 209 rfl) (oW hw 210 rfl) (oW hw 214 rfl) (oW hw 212 rfl) (oW hw 213 rfl) (oW hw 215 rfl) e0 Ar3 E1 (own_fitc Ar3 H_3 Gn3) (g := mkF m 7 Ls [(.ref ta)]) rfl hLs (rest := []) rfl (hD d7_7) (by decide) (W := 0) (by show 2 * 0 + _ ≤ _; exact Nat.le_of_eq rfl) (by decide) (cap := 1) (by rw [Sz3]; exact h1) (by decide) (by decide)
 obtain ⟨T3, H3, X3, e3, Ex3, A3_, An3, st3_⟩ := cl3_ #[.val (.ref ta), .val (.int i1), .unset] (by rw [hml]; rfl)
 refine Wk.go st3_ ?_
 clear st3_ cl3_
 obtain ⟨b3, gn3⟩ : ∃ z : Addr, @Eq Nat z h0.size := ⟨_, rfl⟩
 rw [← (gn3 : b3 = Array.size h0)] at A3_ An3
 have sz3 := Ex3.1
 have K3 := K0.ext Ex3
 have lt3 := ny An3.lt
 show Wk p e below _ T3 (mkF m 10 _ [.ref (Array.size _)])
 rw [← (gn3 : b3 = Array.size _)]
 refine Wk.castY X3 hx hZ hown (oW hw 216 rfl) e3 (Ins.self An3) (hD d7_10) (n := 13) rfl fun T4 X4 e4 => ?_
 exact Wk.leave X4 (v := some (.ref b3)) (fun h => by rw [Bd.returns] at h; cases h) hlk e4 ⟨b3, rfl, N0, K3, An3⟩ (by decide) (by decide) (fun fs hr => retA X4 hx rfl Bd.returns rfl (hD d7_13) hr)
def Q_rmC1C (Z : State) (ta : Addr) (ka : ClassId) (h0 : Heap) (n0 : Nat) (v : Option Value) (h : Heap) (L : List Loc) : Prop := ∃ (r : Addr) (kb : ClassId), v = some (.ref r) ∧ Fr n0 L ∧ Keep h0 h [] ∧ Arv Z h r kb .char (1 : Int32) [(.int (0 : Int32))] (.int (0 : Int32)) ∧ Exa Z h r "[C" ∧ (h0.size ≤ r)
theorem ef_rmC1C (m : MethodId) (x0 : Addr) : entryFrame m #[(.ref x0), (.int (1 : Int32))] 3 = mkF m 0 #[.val (.ref x0), .val (.int (1 : Int32)), .unset] [] := by first | (simp [entryFrame, mkF, argsToLocals, Value.category]; done) | rfl
theorem d8_0 : decode B8_ 0 = .ok (.iload_n 1, 1) := by decide +kernel
theorem d8_1 : decode B8_ 1 = .ok (.aload_n 0, 1) := by decide +kernel
theorem d8_2 : decode B8_ 2 = .ok (.arraylength, 1) := by decide +kernel
theorem d8_3 : decode B8_ 3 = .ok (.if_icmp .ne 11, 3) := by decide +kernel
theorem d8_14 : decode B8_ 14 = .ok (.iload_n 1, 1) := by decide +kernel
theorem d8_15 : decode B8_ 15 = .ok (.newarray .char, 2) := by decide +kernel
theorem d8_17 : decode B8_ 17 = .ok (.astore_n 2, 1) := by decide +kernel
theorem d8_18 : decode B8_ 18 = .ok (.aload_n 0, 1) := by decide +kernel
theorem d8_19 : decode B8_ 19 = .ok (.iconst 0, 1) := by decide +kernel
theorem d8_20 : decode B8_ 20 = .ok (.aload_n 2, 1) := by decide +kernel
theorem d8_21 : decode B8_ 21 = .ok (.iconst 0, 1) := by decide +kernel
theorem d8_22 : decode B8_ 22 = .ok (.aload_n 0, 1) := by decide +kernel
theorem d8_23 : decode B8_ 23 = .ok (.arraylength, 1) := by decide +kernel
theorem d8_24 : decode B8_ 24 = .ok (.iload_n 1, 1) := by decide +kernel
theorem d8_25 : decode B8_ 25 = .ok (.invokestatic 304, 3) := by decide +kernel
theorem d8_28 : decode B8_ 28 = .ok (.invokestatic 150, 3) := by decide +kernel
theorem d8_31 : decode B8_ 31 = .ok (.aload_n 2, 1) := by decide +kernel
theorem d8_32 : decode B8_ 32 = .ok (.areturn, 1) := by decide +kernel
theorem rmC1C (hw : HW a0 Z) (ws : List Jvm.Cond) (ta : Addr) (ka : ClassId) (h0 : Heap) (n0 : Nat) (Z0 : n0 ≤ h0.size) (A1 : Arv Z h0 ta ka .char (0 : Int32) [] (.int (0 : Int32))) : MetN l Z mn8 jdk_65_method_125_code 3 (some (.array .char)) ws (rM 1 1 1 32) #[(.ref ta), (.int (1 : Int32))] h0 (Q_rmC1C Z ta ka h0 n0) := by
 refine enterN (plainFor_of_name pn_java_util_Arrays) (fun m => ef_rmC1C m _) fun p e s m below meth c s₁ Bd hZ hx hD hlk hml hown hnm X0 e0 => ?_
 have N0 := Fr.nil n0
 have K0 := Keep.refl h0 []
 have lt_A1 := ny A1.lt
 refine Wk.iloadN X0 hx (hD d8_0) (n := 1) rfl rfl ?_
 refine Wk.aloadN X0 hx (hD d8_1) (n := 2) rfl rfl rfl ?_
 obtain ⟨cl1, Ar1, qn1, Sz1, N_1, H_1, Gn1⟩ := id A1
 refine Wk.arrlen X0 hx hZ e0 Ar1 Sz1 N_1 (hD d8_2) (n := 3) rfl ?_
 have hc3_2 : ¬ ((1 : Int32) = (0 : Int32)) := by decide
 refine Wk.icmpYes X0 hx (hD d8_3) (feq hc3_2).2 (by decide) (n := 14) (by decide) ?_
 refine Wk.iloadN X0 hx (hD d8_14) (n := 15) rfl rfl ?_
 refine Wk.newPE X0 hx hZ (oW hw 48 rfl) e0 (hD d8_15) (n := 17) rfl (by decide) (cap := 1) (by decide) (by decide) (by decide) (by decide) (ad := "[C") (by decide) fun T3 H3 b3 k3 gn3 X3 e3 Ex3 An3 Aq3 => ?_
 have gn3 := nx gn3
 have sz3 := Ex3.1
 have K3 := K0.ext Ex3
 have Vn3 : Arv Z H3 b3 k3 .char (1 : Int32) [(.int (0 : Int32))] (.int (0 : Int32)) := (Arv.new An3 (by decide)).pad (pad_rep [] (.int (0 : Int32)) 1)
 have lt3 := ny Vn3.lt
 refine Wk.astoreN X3 hx (hD d8_17) (n := 18) rfl rfl (L' := #[.val (.ref ta), .val (.int (1 : Int32)), .val (.ref b3)]) rfl ?_
 refine Wk.aloadN X3 hx (hD d8_18) (n := 19) rfl rfl rfl ?_
 refine Wk.iconst X3 hx (hD d8_19) (n := 20) rfl (z := (0 : Int32)) rfl ?_
 refine Wk.aloadN X3 hx (hD d8_20) (n := 21) rfl rfl rfl ?_
 refine Wk.iconst X3 hx (hD d8_21) (n := 22) rfl (z := (0 : Int32)) rfl ?_
 refine Wk.aloadN X3 hx (hD d8_22) (n := 23) rfl rfl rfl ?_
 have f4 := (A1.ext Ex3)
 obtain ⟨cl5, Ar5, qn5, Sz5, N_5, H_5, Gn5⟩ := id f4
 refine Wk.arrlen X3 hx hZ e3 Ar5 Sz5 N_5 (hD d8_23) (n := 24) rfl ?_
 refine Wk.iloadN X3 hx (hD d8_24) (n := 25) rfl rfl ?_
 have cl6_ := fun Ls (hLs : LsOk c Ls) => Jvm.LawKit.callS X3 hx (y := mn3) hown (mW hZ hw 172 rfl) (mW hZ hw 165 rfl) (mW hZ hw 162 rfl) (mW hZ hw 166 rfl) (by decide) (backOf (W := 4) (rmMN l Z a0 hw [] (0 : Int32) (1 : Int32) H3 n0 (by omega) (by decide)) hZ (oW hw 166 rfl) (oW hw 162 rfl) (by decide) (by decide)) (g := mkF m 25 Ls [(.int (1 : Int32)), (.int (0 : Int32)), (.int (0 : Int32)), (.ref b3), (.int (0 : Int32)), (.ref ta)]) rfl hLs (argsL := [(.int (0 : Int32)), (.int (1 : Int32))]) (rest := [(.int (0 : Int32)), (.ref b3), (.int (0 : Int32)), (.ref ta)]) (lenOf pd_1 rfl) rfl (leq0 rfl) (hD d8_25) (fun _ _ => ⟨rfl, e3, (by decide : 1 + 0 ≤ _), (by decide : 1 + 0 ≤ _)⟩)
 refine Wk.backS (n := 28) (rc := 0) (rs := 0) (Q := Q_rmMN Z (0 : Int32) (1 : Int32) H3 n0) (cl6_ _ (lsok hml rfl)) fun vn6 T6 L6 X6 hQ6 => ?_
 clear cl6_
 obtain ⟨rfl, M6, e6⟩ := hQ6
 have N6 := Fr.app N0 M6
 show Wk p e below _ T6 (mkF m 28 _ [(.int (0 : Int32)), (.int (0 : Int32)), (.ref b3), (.int (0 : Int32)), (.ref ta)])
 refine Wk.cpA X6 hx hZ hown (oW hw 173 rfl) (oW hw 176 rfl) (oW hw 174 rfl) (oW hw 175 rfl) e6 f4 Vn3 (Or.inl ⟨rfl, rfl⟩) (i := 0) (j := 0) (q := 0) rfl rfl rfl (by decide) (by decide) (by decide) (by decide) (by decide) rfl (by decide) N6 (by omega) (vn := [(.int (0 : Int32))]) rfl (by rw [hml]; rfl) (hD d8_28) (n := 31) rfl (by decide) (w := 0) (Nat.le_of_eq rfl) (by decide) fun T7 H7 Lc7 X7 e7 N7 J7 Vn7 => ?_
 have sz7 := J7.1
 have K7 := K3.trans J7 (allS (Or.inr (by omega)) all0)
 refine Wk.aloadN X7 hx (hD d8_31) (n := 32) rfl rfl rfl ?_
 have f8 := (Aq3.keep J7)
 exact Wk.leave X7 (v := some (.ref b3)) (fun h => by rw [Bd.returns] at h; cases h) hlk e7 ⟨b3, k3, rfl, N7, K7, Vn7, f8, (by omega)⟩ (by decide) (by decide) (fun fs hr => retA X7 hx rfl Bd.returns rfl (hD d8_32) hr)
def Q_rmCCC (Z : State) (ta : Addr) (ka : ClassId) (i1 : Int32) (vs : List Value) (h0 : Heap) (n0 : Nat) (v : Option Value) (h : Heap) (L : List Loc) : Prop := ∃ (r : Addr), v = some (.ref r) ∧ Fr n0 L ∧ Keep h0 h [] ∧ Exa Z h r "[C"
theorem ef_rmCCC (m : MethodId) (x0 : Addr) (x1 : Int32) : entryFrame m #[(.ref x0), (.int x1)] 3 = mkF m 0 #[.val (.ref x0), .val (.int x1), .unset] [] := by first | (simp [entryFrame, mkF, argsToLocals, Value.category]; done) | rfl
theorem d8_6 : decode B8_ 6 = .ok (.aload_n 0, 1) := by decide +kernel
theorem d8_7 : decode B8_ 7 = .ok (.invokevirtual 322, 3) := by decide +kernel
theorem d8_10 : decode B8_ 10 = .ok (.checkcast 323, 3) := by decide +kernel
theorem d8_13 : decode B8_ 13 = .ok (.areturn, 1) := by decide +kernel
theorem rmCCC (hw : HW a0 Z) (ws : List Jvm.Cond) (ta : Addr) (ka : ClassId) (i1 : Int32) (vs : List Value) (h0 : Heap) (n0 : Nat) (Z0 : n0 ≤ h0.size) (A1 : Arv Z h0 ta ka .char i1 vs (.int (0 : Int32))) (E1 : Exa Z h0 ta "[C") (h1 : i1.toNatClampNeg ≤ 1) : MetN l Z mn8 jdk_65_method_125_code 3 (some (.array .char)) ws (rM 1 1 1 14) #[(.ref ta), (.int i1)] h0 (Q_rmCCC Z ta ka i1 vs h0 n0) := by
 refine enterN (plainFor_of_name pn_java_util_Arrays) (fun m => ef_rmCCC m _ _) fun p e s m below meth c s₁ Bd hZ hx hD hlk hml hown hnm X0 e0 => ?_
 have N0 := Fr.nil n0
 have K0 := Keep.refl h0 []
 have lt_A1 := ny A1.lt
 have lt_E1 := ny E1.lt
 refine Wk.iloadN X0 hx (hD d8_0) (n := 1) rfl rfl ?_
 refine Wk.aloadN X0 hx (hD d8_1) (n := 2) rfl rfl rfl ?_
 obtain ⟨cl1, Ar1, qn1, Sz1, N_1, H_1, Gn1⟩ := id A1
 refine Wk.arrlen X0 hx hZ e0 Ar1 Sz1 N_1 (hD d8_2) (n := 3) rfl ?_
 have hc3_2 : i1 = i1 := rfl
 refine Wk.icmpNo X0 hx (hD d8_3) (n := 6) rfl (teq hc3_2).2 ?_
 refine Wk.aloadN X0 hx (hD d8_6) (n := 7) rfl rfl rfl ?_
 obtain ⟨cl3, Ar3, qn3, Sz3, N_3, H_3, Gn3⟩ := id A1
 have cl3_ := fun (Ls : Array Slot) (hLs : Ls.size = c.maxLocals) => cloneA X0 hx hZ hown (ad := "[C") (oW hw 218 rfl) (oW hw 219 rfl) (oW hw 214 rfl) (oW hw 212 rfl) (oW hw 220 rfl) (oW hw 221 rfl) e0 Ar3 E1 (own_fitc Ar3 H_3 Gn3) (g := mkF m 7 Ls [(.ref ta)]) rfl hLs (rest := []) rfl (hD d8_7) (by decide) (W := 0) (by show 2 * 0 + _ ≤ _; exact Nat.le_of_eq rfl) (by decide) (cap := 1) (by rw [Sz3]; exact h1) (by decide) (by decide)
 obtain ⟨T3, H3, X3, e3, Ex3, A3_, An3, st3_⟩ := cl3_ #[.val (.ref ta), .val (.int i1), .unset] (by rw [hml]; rfl)
 refine Wk.go st3_ ?_
 clear st3_ cl3_
 obtain ⟨b3, gn3⟩ : ∃ z : Addr, @Eq Nat z h0.size := ⟨_, rfl⟩
 rw [← (gn3 : b3 = Array.size h0)] at A3_ An3
 have sz3 := Ex3.1
 have K3 := K0.ext Ex3
 have lt3 := ny An3.lt
 show Wk p e below _ T3 (mkF m 10 _ [.ref (Array.size _)])
 rw [← (gn3 : b3 = Array.size _)]
 refine Wk.castY X3 hx hZ hown (oW hw 222 rfl) e3 (Ins.self An3) (hD d8_10) (n := 13) rfl fun T4 X4 e4 => ?_
 exact Wk.leave X4 (v := some (.ref b3)) (fun h => by rw [Bd.returns] at h; cases h) hlk e4 ⟨b3, rfl, N0, K3, An3⟩ (by decide) (by decide) (fun fs hr => retA X4 hx rfl Bd.returns rfl (hD d8_13) hr)
def Q_rmSAF (Z : State) (a1 : Addr) (h0 : Heap) (n0 : Nat) (v : Option Value) (h : Heap) (L : List Loc) : Prop := v = some (.int (0 : Int32)) ∧ Fr n0 L ∧ h = h0
theorem ef_rmSAF (m : MethodId) (x0 : Addr) : entryFrame m #[(.ref x0), (.int (256 : Int32))] 4 = mkF m 0 #[.val (.ref x0), .val (.int (256 : Int32)), .unset, .unset] [] := by first | (simp [entryFrame, mkF, argsToLocals, Value.category]; done) | rfl
theorem d9_0 : decode B9_ 0 = .ok (.iload_n 1, 1) := by decide +kernel
theorem d9_1 : decode B9_ 1 = .ok (.invokestatic 58, 3) := by decide +kernel
theorem pd_2 : parseMethodDescriptor "(I)I" = some ⟨[.int], some .int⟩ := by decide +kernel
theorem d9_4 : decode B9_ 4 = .ok (.istore_n 2, 1) := by decide +kernel
theorem d9_5 : decode B9_ 5 = .ok (.aload_n 0, 1) := by decide +kernel
theorem d9_6 : decode B9_ 6 = .ok (.getfield 62, 3) := by decide +kernel
theorem d9_9 : decode B9_ 9 = .ok (.iload_n 2, 1) := by decide +kernel
theorem d9_10 : decode B9_ 10 = .ok (.iadd, 1) := by decide +kernel
theorem d9_11 : decode B9_ 11 = .ok (.aload_n 0, 1) := by decide +kernel
theorem d9_12 : decode B9_ 12 = .ok (.getfield 29, 3) := by decide +kernel
theorem d9_15 : decode B9_ 15 = .ok (.if_icmp .le 5, 3) := by decide +kernel
theorem d9_18 : decode B9_ 18 = .ok (.iconst 0, 1) := by decide +kernel
theorem d9_19 : decode B9_ 19 = .ok (.ireturn, 1) := by decide +kernel
theorem rmSAF (hw : HW a0 Z) (ws : List Jvm.Cond) (a1 : Addr) (h0 : Heap) (n0 : Nat) (Z0 : n0 ≤ h0.size) (F1 : Fld Z h0 a1 "com/example/depeche/depeche/hl7/Text$Builder" "asideCount" "I" (.int (0 : Int32))) (F2 : Fld Z h0 a1 "com/example/depeche/depeche/hl7/Text$Builder" "asideLimit" "I" (.int (0 : Int32))) : MetN l Z mn9 prog_27_method_4_code 4 (some .boolean) ws (rM 1 0 0 12) #[(.ref a1), (.int (256 : Int32))] h0 (Q_rmSAF Z a1 h0 n0) := by
 refine enterN (plainFor_of_name pn_com_example_depeche_depeche_hl7_Text_Builder) (fun m => ef_rmSAF m _) fun p e s m below meth c s₁ Bd hZ hx hD hlk hml hown hnm X0 e0 => ?_
 have N0 := Fr.nil n0
 have K0 := Keep.refl h0 []
 have lt_F1 := ny F1.lt
 have lt_F2 := ny F2.lt
 refine Wk.iloadN X0 hx (hD d9_0) (n := 1) rfl rfl ?_
 have cl1_ := fun Ls (hLs : LsOk c Ls) => Jvm.LawKit.callS X0 hx (y := mn4) hown (mW hZ hw 35 rfl) (mW hZ hw 36 rfl) (mW hZ hw 37 rfl) (mW hZ hw 38 rfl) (by decide) (backOf (W := 0) (rmCT l Z a0 hw []  h0 n0 (by omega)) hZ (oW hw 38 rfl) (oW hw 37 rfl) (by decide) (by decide)) (g := mkF m 1 Ls [(.int (256 : Int32))]) rfl hLs (argsL := [(.int (256 : Int32))]) (rest := []) (lenOf pd_2 rfl) rfl (leq0 rfl) (hD d9_1) (fun _ _ => ⟨rfl, e0, (by decide : 0 + 0 ≤ _), (by decide : 0 + 0 ≤ _)⟩)
 refine Wk.backS (n := 4) (rc := 0) (rs := 0) (Q := Q_rmCT Z  h0 n0) (cl1_ _ (lsok hml rfl)) fun vn1 T1 L1 X1 hQ1 => ?_
 clear cl1_
 obtain ⟨rfl, M1, e1⟩ := hQ1
 have N1 := Fr.app N0 M1
 show Wk p e below _ T1 (mkF m 4 _ [(.int (1 : Int32))])
 refine Wk.istoreN X1 hx (hD d9_4) (n := 5) rfl (L' := #[.val (.ref a1), .val (.int (256 : Int32)), .val (.int (1 : Int32)), .unset]) rfl ?_
 refine Wk.aloadN X1 hx (hD d9_5) (n := 6) rfl rfl rfl ?_
 refine Wk.getF X1 hx hZ hown (host := "") (Or.inl (oW hw 40 rfl)) Via.refl e1 F1 (hD d9_6) (n := 9) rfl fun T2 X2 e2 => ?_
 refine Wk.iloadN X2 hx (hD d9_9) (n := 10) rfl rfl ?_
 refine Wk.iadd X2 hx (hD d9_10) (n := 11) rfl ?_
 refine Wk.aloadN X2 hx (hD d9_11) (n := 12) rfl rfl rfl ?_
 refine Wk.getF X2 hx hZ hown (host := "") (Or.inl (oW hw 22 rfl)) Via.refl e2 F2 (hD d9_12) (n := 15) rfl fun T3 X3 e3 => ?_
 have hc15_4 : (0 : Int32) < (1 : Int32) := by decide
 refine Wk.icmpNo X3 hx (hD d9_15) (n := 18) rfl (tlt hc15_4).2.2.2 ?_
 refine Wk.iconst X3 hx (hD d9_18) (n := 19) rfl (z := (0 : Int32)) rfl ?_
 exact Wk.leave X3 (v := some (.int (0 : Int32))) (fun h => by rw [Bd.returns] at h; cases h) hlk e3 ⟨rfl, N1, rfl⟩ (by decide) (by decide) (fun fs hr => retNz X3 hx (t := .boolean) rfl Bd.returns (by simp) (hD d9_19) hr)
def Q_rmSAT (Z : State) (a1 : Addr) (ta : Addr) (ka : ClassId) (wi : Addr) (wc : Addr) (ki : ClassId) (kc : ClassId) (h0 : Heap) (n0 : Nat) (v : Option Value) (h : Heap) (L : List Loc) : Prop := ∃ (ai : Addr) (ac : Addr) (kai : ClassId) (kac : ClassId), v = some (.int (1 : Int32)) ∧ Fr n0 L ∧ Keep h0 h [a1, ta] ∧ Exa Z h a1 "com/example/depeche/depeche/hl7/Text$Builder" ∧ Fld Z h a1 "com/example/depeche/depeche/hl7/Text$Builder" "asideAt" "[I" (.ref ai) ∧ Fld Z h a1 "com/example/depeche/depeche/hl7/Text$Builder" "aside" "[C" (.ref ac) ∧ Fld Z h a1 "com/example/depeche/depeche/hl7/Text$Builder" "bytes" "[B" (.ref ta) ∧ Fld Z h a1 "com/example/depeche/depeche/hl7/Text$Builder" "asideLimit" "I" (.int (1 : Int32)) ∧ Fld Z h a1 "com/example/depeche/depeche/hl7/Text$Builder" "chars" "[C" .null ∧ Fld Z h a1 "com/example/depeche/depeche/hl7/Text$Builder" "asideCount" "I" (.int (1 : Int32)) ∧ Fld Z h a1 "com/example/depeche/depeche/hl7/Text$Builder" "length" "I" (.int (Int32.ofNat ([26] : List Int32).length)) ∧ Arv Z h ta ka .byte (Int32.ofNat 8) (bsV ([26] : List Int32)) (.int (0 : Int32)) ∧ Arv Z h ai kai .int (1 : Int32) [(.int (0 : Int32))] (.int (0 : Int32)) ∧ Exa Z h ai "[I" ∧ Arv Z h ac kac .char (1 : Int32) [(.int (256 : Int32))] (.int (0 : Int32)) ∧ Exa Z h ac "[C" ∧ (h0.size ≤ ai) ∧ (h0.size ≤ ac)
theorem ef_rmSAT (m : MethodId) (x0 : Addr) : entryFrame m #[(.ref x0), (.int (256 : Int32))] 4 = mkF m 0 #[.val (.ref x0), .val (.int (256 : Int32)), .unset, .unset] [] := by first | (simp [entryFrame, mkF, argsToLocals, Value.category]; done) | rfl
theorem d9_20 : decode B9_ 20 = .ok (.aload_n 0, 1) := by decide +kernel
theorem d9_21 : decode B9_ 21 = .ok (.getfield 62, 3) := by decide +kernel
theorem d9_24 : decode B9_ 24 = .ok (.iload_n 2, 1) := by decide +kernel
theorem d9_25 : decode B9_ 25 = .ok (.iadd, 1) := by decide +kernel
theorem d9_26 : decode B9_ 26 = .ok (.aload_n 0, 1) := by decide +kernel
theorem d9_27 : decode B9_ 27 = .ok (.getfield 13, 3) := by decide +kernel
theorem d9_30 : decode B9_ 30 = .ok (.arraylength, 1) := by decide +kernel
theorem d9_31 : decode B9_ 31 = .ok (.if_icmp .le 47, 3) := by decide +kernel
theorem d9_34 : decode B9_ 34 = .ok (.aload_n 0, 1) := by decide +kernel
theorem d9_35 : decode B9_ 35 = .ok (.getfield 29, 3) := by decide +kernel
theorem d9_38 : decode B9_ 38 = .ok (.bipush 16, 2) := by decide +kernel
theorem d9_40 : decode B9_ 40 = .ok (.iconst 2, 1) := by decide +kernel
theorem d9_41 : decode B9_ 41 = .ok (.aload_n 0, 1) := by decide +kernel
theorem d9_42 : decode B9_ 42 = .ok (.getfield 13, 3) := by decide +kernel
theorem d9_45 : decode B9_ 45 = .ok (.arraylength, 1) := by decide +kernel
theorem d9_46 : decode B9_ 46 = .ok (.imul, 1) := by decide +kernel
theorem d9_47 : decode B9_ 47 = .ok (.invokestatic 65, 3) := by decide +kernel
theorem d9_50 : decode B9_ 50 = .ok (.invokestatic 71, 3) := by decide +kernel
theorem d9_53 : decode B9_ 53 = .ok (.istore_n 3, 1) := by decide +kernel
theorem d9_54 : decode B9_ 54 = .ok (.aload_n 0, 1) := by decide +kernel
theorem d9_55 : decode B9_ 55 = .ok (.aload_n 0, 1) := by decide +kernel
theorem d9_56 : decode B9_ 56 = .ok (.getfield 13, 3) := by decide +kernel
theorem d9_59 : decode B9_ 59 = .ok (.iload_n 3, 1) := by decide +kernel
theorem d9_60 : decode B9_ 60 = .ok (.invokestatic 74, 3) := by decide +kernel
theorem pd_3 : parseMethodDescriptor "([II)[I" = some ⟨[(.array .int), .int], some (.array .int)⟩ := by decide +kernel
theorem d9_63 : decode B9_ 63 = .ok (.putfield 13, 3) := by decide +kernel
theorem d9_66 : decode B9_ 66 = .ok (.aload_n 0, 1) := by decide +kernel
theorem d9_67 : decode B9_ 67 = .ok (.aload_n 0, 1) := by decide +kernel
theorem d9_68 : decode B9_ 68 = .ok (.getfield 22, 3) := by decide +kernel
theorem d9_71 : decode B9_ 71 = .ok (.iload_n 3, 1) := by decide +kernel
theorem d9_72 : decode B9_ 72 = .ok (.invokestatic 80, 3) := by decide +kernel
theorem pd_4 : parseMethodDescriptor "([CI)[C" = some ⟨[(.array .char), .int], some (.array .char)⟩ := by decide +kernel
theorem d9_75 : decode B9_ 75 = .ok (.putfield 22, 3) := by decide +kernel
theorem d9_78 : decode B9_ 78 = .ok (.iload_n 1, 1) := by decide +kernel
theorem d9_79 : decode B9_ 79 = .ok (.aload_n 0, 1) := by decide +kernel
theorem d9_80 : decode B9_ 80 = .ok (.getfield 22, 3) := by decide +kernel
theorem d9_83 : decode B9_ 83 = .ok (.aload_n 0, 1) := by decide +kernel
theorem d9_84 : decode B9_ 84 = .ok (.getfield 62, 3) := by decide +kernel
theorem d9_87 : decode B9_ 87 = .ok (.invokestatic 45, 3) := by decide +kernel
theorem pd_5 : parseMethodDescriptor "(I[CI)I" = some ⟨[.int, (.array .char), .int], some .int⟩ := by decide +kernel
theorem d9_90 : decode B9_ 90 = .ok (.pop, 1) := by decide +kernel
theorem d9_91 : decode B9_ 91 = .ok (.iconst 0, 1) := by decide +kernel
theorem d9_92 : decode B9_ 92 = .ok (.istore_n 3, 1) := by decide +kernel
theorem d9_93 : decode B9_ 93 = .ok (.iload_n 3, 1) := by decide +kernel
theorem d9_94 : decode B9_ 94 = .ok (.iload_n 2, 1) := by decide +kernel
theorem d9_95 : decode B9_ 95 = .ok (.if_icmp .ge 47, 3) := by decide +kernel
theorem d9_98 : decode B9_ 98 = .ok (.aload_n 0, 1) := by decide +kernel
theorem d9_99 : decode B9_ 99 = .ok (.getfield 13, 3) := by decide +kernel
theorem d9_102 : decode B9_ 102 = .ok (.aload_n 0, 1) := by decide +kernel
theorem d9_103 : decode B9_ 103 = .ok (.dup, 1) := by decide +kernel
theorem d9_104 : decode B9_ 104 = .ok (.getfield 62, 3) := by decide +kernel
theorem d9_107 : decode B9_ 107 = .ok (.dup_x1, 1) := by decide +kernel
theorem d9_108 : decode B9_ 108 = .ok (.iconst 1, 1) := by decide +kernel
theorem d9_109 : decode B9_ 109 = .ok (.iadd, 1) := by decide +kernel
theorem d9_110 : decode B9_ 110 = .ok (.putfield 62, 3) := by decide +kernel
theorem d9_113 : decode B9_ 113 = .ok (.aload_n 0, 1) := by decide +kernel
theorem d9_114 : decode B9_ 114 = .ok (.getfield 36, 3) := by decide +kernel
theorem d9_117 : decode B9_ 117 = .ok (.iastore, 1) := by decide +kernel
theorem d9_118 : decode B9_ 118 = .ok (.aload_n 0, 1) := by decide +kernel
theorem d9_119 : decode B9_ 119 = .ok (.getfield 25, 3) := by decide +kernel
theorem d9_122 : decode B9_ 122 = .ok (.aload_n 0, 1) := by decide +kernel
theorem d9_123 : decode B9_ 123 = .ok (.dup, 1) := by decide +kernel
theorem d9_124 : decode B9_ 124 = .ok (.getfield 36, 3) := by decide +kernel
theorem d9_127 : decode B9_ 127 = .ok (.dup_x1, 1) := by decide +kernel
theorem d9_128 : decode B9_ 128 = .ok (.iconst 1, 1) := by decide +kernel
theorem d9_129 : decode B9_ 129 = .ok (.iadd, 1) := by decide +kernel
theorem d9_130 : decode B9_ 130 = .ok (.putfield 36, 3) := by decide +kernel
theorem d9_133 : decode B9_ 133 = .ok (.bipush 26, 2) := by decide +kernel
theorem d9_135 : decode B9_ 135 = .ok (.bastore, 1) := by decide +kernel
theorem d9_136 : decode B9_ 136 = .ok (.iinc 3 1, 3) := by decide +kernel
theorem d9_139 : decode B9_ 139 = .ok (.goto (-46), 3) := by decide +kernel
theorem d9_142 : decode B9_ 142 = .ok (.iconst 1, 1) := by decide +kernel
theorem d9_143 : decode B9_ 143 = .ok (.ireturn, 1) := by decide +kernel
theorem rmSAT (hw : HW a0 Z) (ws : List Jvm.Cond) (a1 : Addr) (ta : Addr) (ka : ClassId) (wi : Addr) (wc : Addr) (ki : ClassId) (kc : ClassId) (h0 : Heap) (n0 : Nat) (Z0 : n0 ≤ h0.size) (EF : Exa Z h0 a1 "com/example/depeche/depeche/hl7/Text$Builder") (F_at : Fld Z h0 a1 "com/example/depeche/depeche/hl7/Text$Builder" "asideAt" "[I" (.ref wi)) (F_as : Fld Z h0 a1 "com/example/depeche/depeche/hl7/Text$Builder" "aside" "[C" (.ref wc)) (F_by : Fld Z h0 a1 "com/example/depeche/depeche/hl7/Text$Builder" "bytes" "[B" (.ref ta)) (F_lm : Fld Z h0 a1 "com/example/depeche/depeche/hl7/Text$Builder" "asideLimit" "I" (.int (1 : Int32))) (F_ch : Fld Z h0 a1 "com/example/depeche/depeche/hl7/Text$Builder" "chars" "[C" .null) (F_ct : Fld Z h0 a1 "com/example/depeche/depeche/hl7/Text$Builder" "asideCount" "I" (.int (0 : Int32))) (F_ln : Fld Z h0 a1 "com/example/depeche/depeche/hl7/Text$Builder" "length" "I" (.int (0 : Int32))) (A1 : Arv Z h0 ta ka .byte (Int32.ofNat 8) (bsV ([] : List Int32)) (.int (0 : Int32))) (S1 : Sta Z Z.heap "com/example/depeche/depeche/hl7/Text" "NO_INDEXES" "[I" (.ref wi)) (S2 : Sta Z Z.heap "com/example/depeche/depeche/hl7/Text" "NO_CHARS" "[C" (.ref wc)) (O1 : Old Z n0 h0) (Ai : Arv Z Z.heap wi ki .int (0 : Int32) [] (.int (0 : Int32))) (Ei : Exa Z Z.heap wi "[I") (Ac : Arv Z Z.heap wc kc .char (0 : Int32) [] (.int (0 : Int32))) (Ec : Exa Z Z.heap wc "[C") (g1 : n0 ≤ a1) (g2 : n0 ≤ ta) (hn : ¬ @Eq Nat ta a1) (hm1 : wi < n0) (hm2 : wc < n0) : MetN l Z mn9 prog_27_method_4_code 4 (some .boolean) ws (rM 2 2 2 47) #[(.ref a1), (.int (256 : Int32))] h0 (Q_rmSAT Z a1 ta ka wi wc ki kc h0 n0) := by
 refine enterN (plainFor_of_name pn_com_example_depeche_depeche_hl7_Text_Builder) (fun m => ef_rmSAT m _) fun p e s m below meth c s₁ Bd hZ hx hD hlk hml hown hnm X0 e0 => ?_
 have N0 := Fr.nil n0
 have K0 := Keep.refl h0 [a1, ta]
 have lt_EF := ny EF.lt
 have lt_F_at := ny F_at.lt
 have lt_F_as := ny F_as.lt
 have lt_F_by := ny F_by.lt
 have lt_F_lm := ny F_lm.lt
 have lt_F_ch := ny F_ch.lt
 have lt_F_ct := ny F_ct.lt
 have lt_F_ln := ny F_ln.lt
 have lt_A1 := ny A1.lt
 refine Wk.iloadN X0 hx (hD d9_0) (n := 1) rfl rfl ?_
 have cl1_ := fun Ls (hLs : LsOk c Ls) => Jvm.LawKit.callS X0 hx (y := mn4) hown (mW hZ hw 35 rfl) (mW hZ hw 36 rfl) (mW hZ hw 37 rfl) (mW hZ hw 38 rfl) (by decide) (backOf (W := 0) (rmCT l Z a0 hw []  h0 n0 (by omega)) hZ (oW hw 38 rfl) (oW hw 37 rfl) (by decide) (by decide)) (g := mkF m 1 Ls [(.int (256 : Int32))]) rfl hLs (argsL := [(.int (256 : Int32))]) (rest := []) (lenOf pd_2 rfl) rfl (leq0 rfl) (hD d9_1) (fun _ _ => ⟨rfl, e0, (by decide : 0 + 0 ≤ _), (by decide : 0 + 0 ≤ _)⟩)
 refine Wk.backS (n := 4) (rc := 0) (rs := 0) (Q := Q_rmCT Z  h0 n0) (cl1_ _ (lsok hml rfl)) fun vn1 T1 L1 X1 hQ1 => ?_
 clear cl1_
 obtain ⟨rfl, M1, e1⟩ := hQ1
 have N1 := Fr.app N0 M1
 show Wk p e below _ T1 (mkF m 4 _ [(.int (1 : Int32))])
 refine Wk.istoreN X1 hx (hD d9_4) (n := 5) rfl (L' := #[.val (.ref a1), .val (.int (256 : Int32)), .val (.int (1 : Int32)), .unset]) rfl ?_
 refine Wk.aloadN X1 hx (hD d9_5) (n := 6) rfl rfl rfl ?_
 refine Wk.getF X1 hx hZ hown (host := "") (Or.inl (oW hw 40 rfl)) Via.refl e1 F_ct (hD d9_6) (n := 9) rfl fun T2 X2 e2 => ?_
 refine Wk.iloadN X2 hx (hD d9_9) (n := 10) rfl rfl ?_
 refine Wk.iadd X2 hx (hD d9_10) (n := 11) rfl ?_
 refine Wk.aloadN X2 hx (hD d9_11) (n := 12) rfl rfl rfl ?_
 refine Wk.getF X2 hx hZ hown (host := "") (Or.inl (oW hw 22 rfl)) Via.refl e2 F_lm (hD d9_12) (n := 15) rfl fun T3 X3 e3 => ?_
 have hc15_4 : ¬ ((1 : Int32) < (1 : Int32)) := by decide
 refine Wk.icmpYes X3 hx (hD d9_15) (flt hc15_4).2.2.2 (by decide) (n := 20) (by decide) ?_
 refine Wk.aloadN X3 hx (hD d9_20) (n := 21) rfl rfl rfl ?_
 refine Wk.getF X3 hx hZ hown (host := "") (Or.inl (oW hw 40 rfl)) Via.refl e3 F_ct (hD d9_21) (n := 24) rfl fun T5 X5 e5 => ?_
 refine Wk.iloadN X5 hx (hD d9_24) (n := 25) rfl rfl ?_
 refine Wk.iadd X5 hx (hD d9_25) (n := 26) rfl ?_
 refine Wk.aloadN X5 hx (hD d9_26) (n := 27) rfl rfl rfl ?_
 refine Wk.getF X5 hx hZ hown (host := "") (Or.inl (oW hw 14 rfl)) Via.refl e5 F_at (hD d9_27) (n := 30) rfl fun T6 X6 e6 => ?_
 have f7 := Ai.ext O1.2
 obtain ⟨cl8, Ar8, qn8, Sz8, N_8, H_8, Gn8⟩ := id f7
 refine Wk.arrlen X6 hx hZ e6 Ar8 Sz8 N_8 (hD d9_30) (n := 31) rfl ?_
 have hc31_9 : (0 : Int32) < (1 : Int32) := by decide
 refine Wk.icmpNo X6 hx (hD d9_31) (n := 34) rfl (tlt hc31_9).2.2.2 ?_
 refine Wk.aloadN X6 hx (hD d9_34) (n := 35) rfl rfl rfl ?_
 refine Wk.getF X6 hx hZ hown (host := "") (Or.inl (oW hw 22 rfl)) Via.refl e6 F_lm (hD d9_35) (n := 38) rfl fun T10 X10 e10 => ?_
 refine Wk.bipush X10 hx (hD d9_38) (n := 40) rfl (z := (16 : Int32)) rfl ?_
 refine Wk.iconst X10 hx (hD d9_40) (n := 41) rfl (z := (2 : Int32)) rfl ?_
 refine Wk.aloadN X10 hx (hD d9_41) (n := 42) rfl rfl rfl ?_
 refine Wk.getF X10 hx hZ hown (host := "") (Or.inl (oW hw 14 rfl)) Via.refl e10 F_at (hD d9_42) (n := 45) rfl fun T11 X11 e11 => ?_
 obtain ⟨cl12, Ar12, qn12, Sz12, N_12, H_12, Gn12⟩ := id f7
 refine Wk.arrlen X11 hx hZ e11 Ar12 Sz12 N_12 (hD d9_45) (n := 46) rfl ?_
 refine Wk.imul X11 hx (hD d9_46) (n := 47) rfl ?_
 have cl13_ := fun Ls (hLs : LsOk c Ls) => Jvm.LawKit.callS X11 hx (y := mn2) hown (mW hZ hw 160 rfl) (mW hZ hw 161 rfl) (mW hZ hw 162 rfl) (mW hZ hw 163 rfl) (by decide) (backOf (W := 1) (rmMX l Z a0 hw [] (16 : Int32) ((2 : Int32) * (0 : Int32)) h0 n0 (by omega) (by decide)) hZ (oW hw 163 rfl) (oW hw 162 rfl) (by decide) (by decide)) (g := mkF m 47 Ls [(.int ((2 : Int32) * (0 : Int32))), (.int (16 : Int32)), (.int (1 : Int32))]) rfl hLs (argsL := [(.int (16 : Int32)), (.int ((2 : Int32) * (0 : Int32)))]) (rest := [(.int (1 : Int32))]) (lenOf pd_1 rfl) rfl (leq0 rfl) (hD d9_47) (fun _ _ => ⟨rfl, e11, (by decide : 0 + 0 ≤ _), (by decide : 0 + 0 ≤ _)⟩)
 refine Wk.backS (n := 50) (rc := 0) (rs := 0) (Q := Q_rmMX Z (16 : Int32) ((2 : Int32) * (0 : Int32)) h0 n0) (cl13_ _ (lsok hml rfl)) fun vn13 T13 L13 X13 hQ13 => ?_
 clear cl13_
 obtain ⟨rfl, M13, e13⟩ := hQ13
 have N13 := Fr.app N1 M13
 show Wk p e below _ T13 (mkF m 50 _ [(.int (16 : Int32)), (.int (1 : Int32))])
 have cl14_ := fun Ls (hLs : LsOk c Ls) => Jvm.LawKit.callS X13 hx (y := mn3) hown (mW hZ hw 164 rfl) (mW hZ hw 165 rfl) (mW hZ hw 162 rfl) (mW hZ hw 166 rfl) (by decide) (backOf (W := 0) (rmMN l Z a0 hw [] (1 : Int32) (16 : Int32) h0 n0 (by omega) (by decide)) hZ (oW hw 166 rfl) (oW hw 162 rfl) (by decide) (by decide)) (g := mkF m 50 Ls [(.int (16 : Int32)), (.int (1 : Int32))]) rfl hLs (argsL := [(.int (1 : Int32)), (.int (16 : Int32))]) (rest := []) (lenOf pd_1 rfl) rfl (leq0 rfl) (hD d9_50) (fun _ _ => ⟨rfl, e13, (by decide : 0 + 0 ≤ _), (by decide : 0 + 0 ≤ _)⟩)
 refine Wk.backS (n := 53) (rc := 0) (rs := 0) (Q := Q_rmMN Z (1 : Int32) (16 : Int32) h0 n0) (cl14_ _ (lsok hml rfl)) fun vn14 T14 L14 X14 hQ14 => ?_
 clear cl14_
 obtain ⟨rfl, M14, e14⟩ := hQ14
 have N14 := Fr.app N13 M14
 show Wk p e below _ T14 (mkF m 53 _ [(.int (1 : Int32))])
 refine Wk.istoreN X14 hx (hD d9_53) (n := 54) rfl (L' := #[.val (.ref a1), .val (.int (256 : Int32)), .val (.int (1 : Int32)), .val (.int (1 : Int32))]) rfl ?_
 refine Wk.aloadN X14 hx (hD d9_54) (n := 55) rfl rfl rfl ?_
 refine Wk.aloadN X14 hx (hD d9_55) (n := 56) rfl rfl rfl ?_
 refine Wk.getF X14 hx hZ hown (host := "") (Or.inl (oW hw 14 rfl)) Via.refl e14 F_at (hD d9_56) (n := 59) rfl fun T15 X15 e15 => ?_
 refine Wk.iloadN X15 hx (hD d9_59) (n := 60) rfl rfl ?_
 have cl16_ := fun Ls (hLs : LsOk c Ls) => Jvm.LawKit.callS X15 hx (y := mn7) hown (mW hZ hw 167 rfl) (mW hZ hw 168 rfl) (mW hZ hw 169 rfl) (mW hZ hw 170 rfl) (by decide) (backOf (W := 1) (rmC1I l Z a0 hw [] wi ki h0 n0 (by omega) f7) hZ (oW hw 170 rfl) (oW hw 169 rfl) (by decide) (by decide)) (g := mkF m 60 Ls [(.int (1 : Int32)), (.ref wi), (.ref a1)]) rfl hLs (argsL := [(.ref wi), (.int (1 : Int32))]) (rest := [(.ref a1)]) (lenOf pd_3 rfl) rfl (leq0 rfl) (hD d9_60) (fun _ _ => ⟨rfl, e15, (by decide : 0 + 1 ≤ _), (by decide : 0 + 1 ≤ _)⟩)
 refine Wk.backS (n := 63) (rc := 1) (rs := 1) (Q := Q_rmC1I Z wi ki h0 n0) (cl16_ _ (lsok hml rfl)) fun vn16 T16 L16 X16 hQ16 => ?_
 clear cl16_
 obtain ⟨r_16, kb_16, rfl, M16, J16, p16_0, p16_1, gr_16⟩ := hQ16
 have N16 := Fr.app N14 M16
 have sz16 := J16.1
 have K16 := K0.trans J16 (fun x hx => nomatch hx)
 have lt_p16_0 := ny p16_0.lt
 show Wk p e below _ T16 (mkF m 63 _ [(.ref r_16), (.ref a1)])
 have f17 := (F_at.keep J16 nin0)
 have f18 := (EF.keep J16)
 refine Wk.putF X16 hx hZ hown (host := "") (Or.inl (oW hw 14 rfl)) Via.refl rfl f17 f18 (Or.inl (oW hw 15 rfl)) (oW hw 3 rfl) (ty := (.array .int)) (by decide) rfl rfl (hD d9_63) (n := 66) rfl fun T19 H19 X19 e19 Wn19 => ?_
 have sz19 := Wn19.size
 have Fn19 := f17.same Wn19
 have K19 := K16.wr Wn19 (Or.inl (List.mem_of_getElem? (i := 0) rfl))
 have N19 := Fr.snoc X19 N16 (by omega)
 refine Wk.aloadN X19 hx (hD d9_66) (n := 67) rfl rfl rfl ?_
 refine Wk.aloadN X19 hx (hD d9_67) (n := 68) rfl rfl rfl ?_
 have f20 := ((F_as.keep J16 nin0).other Wn19 (Or.inr (slot_ne (Or.inl (oW hw 19 rfl)) (Or.inl (oW hw 15 rfl)) (by decide) (t := (.array .char)) (t' := (.array .int)) (by decide) (by decide))))
 refine Wk.getF X19 hx hZ hown (host := "") (Or.inl (oW hw 18 rfl)) Via.refl e19 f20 (hD d9_68) (n := 71) rfl fun T21 X21 e21 => ?_
 refine Wk.iloadN X21 hx (hD d9_71) (n := 72) rfl rfl ?_
 have f22 := ((O1.keep J16 all0).wr Wn19 (by omega))
 have f23 := Ac.ext f22.2
 have cl24_ := fun Ls (hLs : LsOk c Ls) => Jvm.LawKit.callS X21 hx (y := mn8) hown (mW hZ hw 177 rfl) (mW hZ hw 178 rfl) (mW hZ hw 169 rfl) (mW hZ hw 179 rfl) (by decide) (backOf (W := 1) (rmC1C l Z a0 hw [] wc kc H19 n0 (by omega) f23) hZ (oW hw 179 rfl) (oW hw 169 rfl) (by decide) (by decide)) (g := mkF m 72 Ls [(.int (1 : Int32)), (.ref wc), (.ref a1)]) rfl hLs (argsL := [(.ref wc), (.int (1 : Int32))]) (rest := [(.ref a1)]) (lenOf pd_4 rfl) rfl (leq0 rfl) (hD d9_72) (fun _ _ => ⟨rfl, e21, (by decide : 1 + 1 ≤ _), (by decide : 1 + 1 ≤ _)⟩)
 refine Wk.backS (n := 75) (rc := 1) (rs := 1) (Q := Q_rmC1C Z wc kc H19 n0) (cl24_ _ (lsok hml rfl)) fun vn24 T24 L24 X24 hQ24 => ?_
 clear cl24_
 obtain ⟨r_24, kb_24, rfl, M24, J24, p24_0, p24_1, gr_24⟩ := hQ24
 have N24 := Fr.app N19 M24
 have sz24 := J24.1
 have K24 := K19.trans J24 (fun x hx => nomatch hx)
 have lt_p24_0 := ny p24_0.lt
 show Wk p e below _ T24 (mkF m 75 _ [(.ref r_24), (.ref a1)])
 have f25 := (f20.keep J24 nin0)
 have f26 := ((f18.wr Wn19).keep J24)
 refine Wk.putF X24 hx hZ hown (host := "") (Or.inl (oW hw 18 rfl)) Via.refl rfl f25 f26 (Or.inl (oW hw 19 rfl)) (oW hw 3 rfl) (ty := (.array .char)) (by decide) rfl rfl (hD d9_75) (n := 78) rfl fun T27 H27 X27 e27 Wn27 => ?_
 have sz27 := Wn27.size
 have Fn27 := f25.same Wn27
 have K27 := K24.wr Wn27 (Or.inl (List.mem_of_getElem? (i := 0) rfl))
 have N27 := Fr.snoc X27 N24 (by omega)
 refine Wk.iloadN X27 hx (hD d9_78) (n := 79) rfl rfl ?_
 refine Wk.aloadN X27 hx (hD d9_79) (n := 80) rfl rfl rfl ?_
 refine Wk.getF X27 hx hZ hown (host := "") (Or.inl (oW hw 18 rfl)) Via.refl e27 Fn27 (hD d9_80) (n := 83) rfl fun T28 X28 e28 => ?_
 refine Wk.aloadN X28 hx (hD d9_83) (n := 84) rfl rfl rfl ?_
 have f29 := ((((F_ct.keep J16 nin0).other Wn19 (Or.inr (slot_ne (Or.inl (oW hw 41 rfl)) (Or.inl (oW hw 15 rfl)) (by decide) (t := .int) (t' := (.array .int)) (by decide) (by decide)))).keep J24 nin0).other Wn27 (Or.inr (slot_ne (Or.inl (oW hw 41 rfl)) (Or.inl (oW hw 19 rfl)) (by decide) (t := .int) (t' := (.array .char)) (by decide) (by decide))))
 refine Wk.getF X28 hx hZ hown (host := "") (Or.inl (oW hw 40 rfl)) Via.refl e28 f29 (hD d9_84) (n := 87) rfl fun T30 X30 e30 => ?_
 have f31 := (p24_0.other Wn27 (nz (by omega)))
 have cl32_ := fun Ls (hLs : LsOk c Ls) => Jvm.LawKit.callS X30 hx (y := mn6) hown (mW hZ hw 54 rfl) (mW hZ hw 55 rfl) (mW hZ hw 37 rfl) (mW hZ hw 56 rfl) (by decide) (backOf (W := 0) (rmTC l Z a0 hw [] (256 : Int32) r_24 (0 : Int32) kb_24 ([] : List Int32) 1 H27 n0 (by omega) (Arv.pad f31 (fun i => (pad_rep [] _ 1 i).symm)) (by decide) rfl (by decide) (by decide) (by omega)) hZ (oW hw 56 rfl) (oW hw 37 rfl) (by decide) (by decide)) (g := mkF m 87 Ls [(.int (0 : Int32)), (.ref r_24), (.int (256 : Int32))]) rfl hLs (argsL := [(.int (256 : Int32)), (.ref r_24), (.int (0 : Int32))]) (rest := []) (lenOf pd_5 rfl) rfl (leq0 rfl) (hD d9_87) (fun _ _ => ⟨rfl, e30, (by decide : 2 + 0 ≤ _), (by decide : 2 + 0 ≤ _)⟩)
 refine Wk.backS (n := 90) (rc := 0) (rs := 0) (Q := Q_rmTC Z (256 : Int32) r_24 (0 : Int32) kb_24 ([] : List Int32) 1 H27 n0) (cl32_ _ (lsok hml rfl)) fun vn32 T32 L32 X32 hQ32 => ?_
 clear cl32_
 obtain ⟨rfl, M32, J32, p32_0⟩ := hQ32
 have N32 := Fr.app N27 M32
 have sz32 := J32.1
 have K32 := K27.trans J32 (allS (Or.inr (by omega)) all0)
 have lt_p32_0 := ny p32_0.lt
 show Wk p e below _ T32 (mkF m 90 _ [(.int (1 : Int32))])
 refine Wk.pop X32 hx (hD d9_90) (n := 91) rfl rfl ?_
 refine Wk.iconst X32 hx (hD d9_91) (n := 92) rfl (z := (0 : Int32)) rfl ?_
 refine Wk.istoreN X32 hx (hD d9_92) (n := 93) rfl (L' := #[.val (.ref a1), .val (.int (256 : Int32)), .val (.int (1 : Int32)), .val (.int (0 : Int32))]) rfl ?_
 refine Wk.iloadN X32 hx (hD d9_93) (n := 94) rfl rfl ?_
 refine Wk.iloadN X32 hx (hD d9_94) (n := 95) rfl rfl ?_
 have hc95_33 : (0 : Int32) < (1 : Int32) := by decide
 refine Wk.icmpNo X32 hx (hD d9_95) (n := 98) rfl (tlt hc95_33).2.1 ?_
 refine Wk.aloadN X32 hx (hD d9_98) (n := 99) rfl rfl rfl ?_
 have f34 := (((Fn19.keep J24 nin0).other Wn27 (Or.inr (slot_ne (Or.inl (oW hw 15 rfl)) (Or.inl (oW hw 19 rfl)) (by decide) (t := (.array .int)) (t' := (.array .char)) (by decide) (by decide)))).keep J32 (ninS (nz (by omega)) nin0))
 refine Wk.getF X32 hx hZ hown (host := "") (Or.inl (oW hw 14 rfl)) Via.refl rfl f34 (hD d9_99) (n := 102) rfl fun T35 X35 e35 => ?_
 refine Wk.aloadN X35 hx (hD d9_102) (n := 103) rfl rfl rfl ?_
 refine Wk.dup X35 hx (hD d9_103) (n := 104) rfl rfl ?_
 have f36 := (f29.keep J32 (ninS (nz (by omega)) nin0))
 refine Wk.getF X35 hx hZ hown (host := "") (Or.inl (oW hw 40 rfl)) Via.refl e35 f36 (hD d9_104) (n := 107) rfl fun T37 X37 e37 => ?_
 refine Wk.dupX1 X37 hx (hD d9_107) (n := 108) rfl rfl rfl ?_
 refine Wk.iconst X37 hx (hD d9_108) (n := 109) rfl (z := (1 : Int32)) rfl ?_
 refine Wk.iadd X37 hx (hD d9_109) (n := 110) rfl ?_
 have f38 := ((f26.wr Wn27).keep J32)
 refine Wk.putF X37 hx hZ hown (host := "") (Or.inl (oW hw 40 rfl)) Via.refl e37 f36 f38 (Or.inl (oW hw 41 rfl)) (oW hw 3 rfl) (ty := .int) (by decide) rfl rfl (hD d9_110) (n := 113) rfl fun T39 H39 X39 e39 Wn39 => ?_
 have sz39 := Wn39.size
 have Fn39 := f36.same Wn39
 have K39 := K32.wr Wn39 (Or.inl (List.mem_of_getElem? (i := 0) rfl))
 have N39 := Fr.snoc X39 N32 (by omega)
 refine Wk.aloadN X39 hx (hD d9_113) (n := 114) rfl rfl rfl ?_
 have f40 := ((((((F_ln.keep J16 nin0).other Wn19 (Or.inr (slot_ne (Or.inl (oW hw 47 rfl)) (Or.inl (oW hw 15 rfl)) (by decide) (t := .int) (t' := (.array .int)) (by decide) (by decide)))).keep J24 nin0).other Wn27 (Or.inr (slot_ne (Or.inl (oW hw 47 rfl)) (Or.inl (oW hw 19 rfl)) (by decide) (t := .int) (t' := (.array .char)) (by decide) (by decide)))).keep J32 (ninS (nz (by omega)) nin0)).other Wn39 (Or.inr (slot_ne (Or.inl (oW hw 47 rfl)) (Or.inl (oW hw 41 rfl)) (by decide) (t := .int) (t' := .int) (by decide) (by decide))))
 refine Wk.getF X39 hx hZ hown (host := "") (Or.inl (oW hw 46 rfl)) Via.refl e39 f40 (hD d9_114) (n := 117) rfl fun T41 X41 e41 => ?_
 have f42 := (((((p16_0.other Wn19 (nz (by omega))).keep J24 nin0).other Wn27 (nz (by omega))).keep J32 (ninS (nz (by omega)) nin0)).other Wn39 (nz (by omega)))
 obtain ⟨cl43, Ar43, qn43, Sz43, N_43, H_43, Gn43⟩ := id f42
 have hin43 : ¬ ((0 : Int32) < 0 ∨ cl43.slots.size ≤ ((0 : Int32)).toNatClampNeg) := inb_of Sz43 ⟨by decide, by decide⟩
 refine Wk.stI X41 hx hZ e41 Ar43 hin43 (hD d9_117) (n := 118) rfl fun T43 H43 X43 e43 Wn43 => ?_
 have Vn43 := Arv.set Ar43 qn43 Sz43 N_43 H_43 Gn43 rfl Wn43 0 rfl (Nat.le_of_ble_eq_true rfl)
 have Un43 : Arv Z H43 r_16 kb_16 .int (1 : Int32) [(.int (0 : Int32))] (.int (0 : Int32)) := Vn43
 have sz43 := Wn43.size
 have K43 := K39.wr Wn43 (Or.inr (by omega))
 have N43 := Fr.snoc X43 N39 (by omega)
 refine Wk.aloadN X43 hx (hD d9_118) (n := 119) rfl rfl rfl ?_
 have f44 := (((((((F_by.keep J16 nin0).other Wn19 (Or.inr (slot_ne (Or.inl (oW hw 21 rfl)) (Or.inl (oW hw 15 rfl)) (by decide) (t := (.array .byte)) (t' := (.array .int)) (by decide) (by decide)))).keep J24 nin0).other Wn27 (Or.inr (slot_ne (Or.inl (oW hw 21 rfl)) (Or.inl (oW hw 19 rfl)) (by decide) (t := (.array .byte)) (t' := (.array .char)) (by decide) (by decide)))).keep J32 (ninS (nz (by omega)) nin0)).other Wn39 (Or.inr (slot_ne (Or.inl (oW hw 21 rfl)) (Or.inl (oW hw 41 rfl)) (by decide) (t := (.array .byte)) (t' := .int) (by decide) (by decide)))).other Wn43 (Or.inl (nz (by omega))))
 refine Wk.getF X43 hx hZ hown (host := "") (Or.inl (oW hw 20 rfl)) Via.refl e43 f44 (hD d9_119) (n := 122) rfl fun T45 X45 e45 => ?_
 refine Wk.aloadN X45 hx (hD d9_122) (n := 123) rfl rfl rfl ?_
 refine Wk.dup X45 hx (hD d9_123) (n := 124) rfl rfl ?_
 have f46 := (f40.other Wn43 (Or.inl (nz (by omega))))
 refine Wk.getF X45 hx hZ hown (host := "") (Or.inl (oW hw 46 rfl)) Via.refl e45 f46 (hD d9_124) (n := 127) rfl fun T47 X47 e47 => ?_
 refine Wk.dupX1 X47 hx (hD d9_127) (n := 128) rfl rfl rfl ?_
 refine Wk.iconst X47 hx (hD d9_128) (n := 129) rfl (z := (1 : Int32)) rfl ?_
 refine Wk.iadd X47 hx (hD d9_129) (n := 130) rfl ?_
 have f48 := ((f38.wr Wn39).wr Wn43)
 refine Wk.putF X47 hx hZ hown (host := "") (Or.inl (oW hw 46 rfl)) Via.refl e47 f46 f48 (Or.inl (oW hw 47 rfl)) (oW hw 3 rfl) (ty := .int) (by decide) rfl rfl (hD d9_130) (n := 133) rfl fun T49 H49 X49 e49 Wn49 => ?_
 have sz49 := Wn49.size
 have Fn49 := f46.same Wn49
 have K49 := K43.wr Wn49 (Or.inl (List.mem_of_getElem? (i := 0) rfl))
 have N49 := Fr.snoc X49 N43 (by omega)
 refine Wk.bipush X49 hx (hD d9_133) (n := 135) rfl (z := (26 : Int32)) rfl ?_
 have f50 := ((((((((A1.keep J16 nin0).other Wn19 (nz (by omega))).keep J24 nin0).other Wn27 (nz (by omega))).keep J32 (ninS (nz (by omega)) nin0)).other Wn39 (nz (by omega))).other Wn43 (nz (by omega))).other Wn49 (nz (by omega)))
 have Pd := Arv.pad f50 (pad_rep (bsV ([] : List Int32)) (.int (0 : Int32)) 1)
 obtain ⟨cl51, Ar51, qn51, Sz51, N_51, H_51, Gn51⟩ := id Pd
 have hin51 : ¬ ((0 : Int32) < 0 ∨ cl51.slots.size ≤ ((0 : Int32)).toNatClampNeg) := inb_of Sz51 ⟨by decide, by decide⟩
 refine Wk.stB X49 hx hZ e49 Ar51 hin51 (hD d9_135) (n := 136) rfl fun T51 H51 X51 e51 Wn51 => ?_
 have Vn51 := Arv.set Ar51 qn51 Sz51 N_51 H_51 Gn51 (fits_nar_byte _) Wn51 0 rfl (by simp)
 have Un51 : Arv Z H51 ta ka .byte (Int32.ofNat 8) (bsV ([26] : List Int32)) (.int (0 : Int32)) := Vn51
 have sz51 := Wn51.size
 have K51 := K49.wr Wn51 (Or.inl (List.mem_of_getElem? (i := 1) rfl))
 have N51 := Fr.snoc X51 N49 (by omega)
 refine Wk.iinc X51 hx (hD d9_136) (n := 139) rfl rfl (L' := #[.val (.ref a1), .val (.int (256 : Int32)), .val (.int (1 : Int32)), .val (.int (1 : Int32))]) rfl ?_
 refine Wk.goto X51 hx (hD d9_139) (by decide) (n := 93) (by decide) ?_
 refine Wk.iloadN X51 hx (hD d9_93) (n := 94) rfl rfl ?_
 refine Wk.iloadN X51 hx (hD d9_94) (n := 95) rfl rfl ?_
 have hc95_52 : ¬ ((1 : Int32) < (1 : Int32)) := by decide
 refine Wk.icmpYes X51 hx (hD d9_95) (flt hc95_52).2.1 (by decide) (n := 142) (by decide) ?_
 refine Wk.iconst X51 hx (hD d9_142) (n := 143) rfl (z := (1 : Int32)) rfl ?_
 have f53 := ((f48.wr Wn49).wr Wn51)
 have f54 := ((((f34.other Wn39 (Or.inr (slot_ne (Or.inl (oW hw 15 rfl)) (Or.inl (oW hw 41 rfl)) (by decide) (t := (.array .int)) (t' := .int) (by decide) (by decide)))).other Wn43 (Or.inl (nz (by omega)))).other Wn49 (Or.inr (slot_ne (Or.inl (oW hw 15 rfl)) (Or.inl (oW hw 47 rfl)) (by decide) (t := (.array .int)) (t' := .int) (by decide) (by decide)))).other Wn51 (Or.inl (nz (by omega))))
 have f55 := (((((Fn27.keep J32 (ninS (nz (by omega)) nin0)).other Wn39 (Or.inr (slot_ne (Or.inl (oW hw 19 rfl)) (Or.inl (oW hw 41 rfl)) (by decide) (t := (.array .char)) (t' := .int) (by decide) (by decide)))).other Wn43 (Or.inl (nz (by omega)))).other Wn49 (Or.inr (slot_ne (Or.inl (oW hw 19 rfl)) (Or.inl (oW hw 47 rfl)) (by decide) (t := (.array .char)) (t' := .int) (by decide) (by decide)))).other Wn51 (Or.inl (nz (by omega))))
 have f56 := ((f44.other Wn49 (Or.inr (slot_ne (Or.inl (oW hw 21 rfl)) (Or.inl (oW hw 47 rfl)) (by decide) (t := (.array .byte)) (t' := .int) (by decide) (by decide)))).other Wn51 (Or.inl (nz (by omega))))
 have f57 := (((((((((F_lm.keep J16 nin0).other Wn19 (Or.inr (slot_ne (Or.inr (oW hw 23 rfl)) (Or.inl (oW hw 15 rfl)) (by decide) (t := .int) (t' := (.array .int)) (by decide) (by decide)))).keep J24 nin0).other Wn27 (Or.inr (slot_ne (Or.inr (oW hw 23 rfl)) (Or.inl (oW hw 19 rfl)) (by decide) (t := .int) (t' := (.array .char)) (by decide) (by decide)))).keep J32 (ninS (nz (by omega)) nin0)).other Wn39 (Or.inr (slot_ne (Or.inr (oW hw 23 rfl)) (Or.inl (oW hw 41 rfl)) (by decide) (t := .int) (t' := .int) (by decide) (by decide)))).other Wn43 (Or.inl (nz (by omega)))).other Wn49 (Or.inr (slot_ne (Or.inr (oW hw 23 rfl)) (Or.inl (oW hw 47 rfl)) (by decide) (t := .int) (t' := .int) (by decide) (by decide)))).other Wn51 (Or.inl (nz (by omega))))
 have f58 := (((((((((F_ch.keep J16 nin0).other Wn19 (Or.inr (slot_ne (Or.inl (oW hw 30 rfl)) (Or.inl (oW hw 15 rfl)) (by decide) (t := (.array .char)) (t' := (.array .int)) (by decide) (by decide)))).keep J24 nin0).other Wn27 (Or.inr (slot_ne (Or.inl (oW hw 30 rfl)) (Or.inl (oW hw 19 rfl)) (by decide) (t := (.array .char)) (t' := (.array .char)) (by decide) (by decide)))).keep J32 (ninS (nz (by omega)) nin0)).other Wn39 (Or.inr (slot_ne (Or.inl (oW hw 30 rfl)) (Or.inl (oW hw 41 rfl)) (by decide) (t := (.array .char)) (t' := .int) (by decide) (by decide)))).other Wn43 (Or.inl (nz (by omega)))).other Wn49 (Or.inr (slot_ne (Or.inl (oW hw 30 rfl)) (Or.inl (oW hw 47 rfl)) (by decide) (t := (.array .char)) (t' := .int) (by decide) (by decide)))).other Wn51 (Or.inl (nz (by omega))))
 have f59 := (((Fn39.other Wn43 (Or.inl (nz (by omega)))).other Wn49 (Or.inr (slot_ne (Or.inl (oW hw 41 rfl)) (Or.inl (oW hw 47 rfl)) (by decide) (t := .int) (t' := .int) (by decide) (by decide)))).other Wn51 (Or.inl (nz (by omega))))
 have f60 := (Fn49.other Wn51 (Or.inl (nz (by omega))))
 have f61 := ((Un43.other Wn49 (nz (by omega))).other Wn51 (nz (by omega)))
 have f62 := ((((((((p16_1.wr Wn19).keep J24).wr Wn27).keep J32).wr Wn39).wr Wn43).wr Wn49).wr Wn51)
 have f63 := ((((p32_0.other Wn39 (nz (by omega))).other Wn43 (nz (by omega))).other Wn49 (nz (by omega))).other Wn51 (nz (by omega)))
 have f64 := ((((((p24_1.wr Wn27).keep J32).wr Wn39).wr Wn43).wr Wn49).wr Wn51)
 exact Wk.leave X51 (v := some (.int (1 : Int32))) (fun h => by rw [Bd.returns] at h; cases h) hlk e51 ⟨r_16, r_24, kb_16, kb_24, rfl, N51, K51, f53, f54, f55, f56, f57, f58, f59, f60, Un51, f61, f62, f63, f64, (by omega), (by omega)⟩ (by decide) (by decide) (fun fs hr => retNz X51 hx (t := .boolean) rfl Bd.returns (by simp) (hD d9_143) hr)
def Q_rmWD (Z : State) (a1 : Addr) (ta : Addr) (ka : ClassId) (wi : Addr) (wc : Addr) (h0 : Heap) (n0 : Nat) (v : Option Value) (h : Heap) (L : List Loc) : Prop := ∃ (t : Addr) (kb : ClassId), v = none ∧ Fr n0 L ∧ Keep h0 h [a1] ∧ Exa Z h a1 "com/example/depeche/depeche/hl7/Text$Builder" ∧ Fld Z h a1 "com/example/depeche/depeche/hl7/Text$Builder" "asideAt" "[I" (.ref wi) ∧ Fld Z h a1 "com/example/depeche/depeche/hl7/Text$Builder" "aside" "[C" (.ref wc) ∧ Fld Z h a1 "com/example/depeche/depeche/hl7/Text$Builder" "bytes" "[B" .null ∧ Fld Z h a1 "com/example/depeche/depeche/hl7/Text$Builder" "asideLimit" "I" (.int (0 : Int32)) ∧ Fld Z h a1 "com/example/depeche/depeche/hl7/Text$Builder" "chars" "[C" (.ref t) ∧ Fld Z h a1 "com/example/depeche/depeche/hl7/Text$Builder" "asideCount" "I" (.int (0 : Int32)) ∧ Fld Z h a1 "com/example/depeche/depeche/hl7/Text$Builder" "length" "I" (.int (Int32.ofNat ([] : List Int32).length)) ∧ Arv Z h t kb .char (Int32.ofNat 7) (chV ([] : List Int32)) (.int (0 : Int32)) ∧ (h0.size ≤ t)
theorem ef_rmWD (m : MethodId) (x0 : Addr) : entryFrame m #[(.ref x0)] 2 = mkF m 0 #[.val (.ref x0), .unset] [] := by first | (simp [entryFrame, mkF, argsToLocals, Value.category]; done) | rfl
theorem d10_0 : decode B10_ 0 = .ok (.aload_n 0, 1) := by decide +kernel
theorem d10_1 : decode B10_ 1 = .ok (.getfield 25, 3) := by decide +kernel
theorem d10_4 : decode B10_ 4 = .ok (.arraylength, 1) := by decide +kernel
theorem d10_5 : decode B10_ 5 = .ok (.istore_n 1, 1) := by decide +kernel
theorem d10_6 : decode B10_ 6 = .ok (.aload_n 0, 1) := by decide +kernel
theorem d10_7 : decode B10_ 7 = .ok (.aconst_null, 1) := by decide +kernel
theorem d10_8 : decode B10_ 8 = .ok (.putfield 25, 3) := by decide +kernel
theorem d10_11 : decode B10_ 11 = .ok (.aload_n 0, 1) := by decide +kernel
theorem d10_12 : decode B10_ 12 = .ok (.getstatic 9, 3) := by decide +kernel
theorem d10_15 : decode B10_ 15 = .ok (.putfield 13, 3) := by decide +kernel
theorem d10_18 : decode B10_ 18 = .ok (.aload_n 0, 1) := by decide +kernel
theorem d10_19 : decode B10_ 19 = .ok (.getstatic 18, 3) := by decide +kernel
theorem d10_22 : decode B10_ 22 = .ok (.putfield 22, 3) := by decide +kernel
theorem d10_25 : decode B10_ 25 = .ok (.aload_n 0, 1) := by decide +kernel
theorem d10_26 : decode B10_ 26 = .ok (.iconst 0, 1) := by decide +kernel
theorem d10_27 : decode B10_ 27 = .ok (.putfield 36, 3) := by decide +kernel
theorem d10_30 : decode B10_ 30 = .ok (.aload_n 0, 1) := by decide +kernel
theorem d10_31 : decode B10_ 31 = .ok (.iload_n 1, 1) := by decide +kernel
theorem d10_32 : decode B10_ 32 = .ok (.newarray .char, 2) := by decide +kernel
theorem d10_34 : decode B10_ 34 = .ok (.putfield 33, 3) := by decide +kernel
theorem d10_37 : decode B10_ 37 = .ok (.return_, 1) := by decide +kernel
theorem rmWD (hw : HW a0 Z) (ws : List Jvm.Cond) (a1 : Addr) (ta : Addr) (ka : ClassId) (wi : Addr) (wc : Addr) (h0 : Heap) (n0 : Nat) (Z0 : n0 ≤ h0.size) (EF : Exa Z h0 a1 "com/example/depeche/depeche/hl7/Text$Builder") (F_at : Fld Z h0 a1 "com/example/depeche/depeche/hl7/Text$Builder" "asideAt" "[I" (.ref wi)) (F_as : Fld Z h0 a1 "com/example/depeche/depeche/hl7/Text$Builder" "aside" "[C" (.ref wc)) (F_by : Fld Z h0 a1 "com/example/depeche/depeche/hl7/Text$Builder" "bytes" "[B" (.ref ta)) (F_lm : Fld Z h0 a1 "com/example/depeche/depeche/hl7/Text$Builder" "asideLimit" "I" (.int (0 : Int32))) (F_ch : Fld Z h0 a1 "com/example/depeche/depeche/hl7/Text$Builder" "chars" "[C" .null) (F_ct : Fld Z h0 a1 "com/example/depeche/depeche/hl7/Text$Builder" "asideCount" "I" (.int (0 : Int32))) (F_ln : Fld Z h0 a1 "com/example/depeche/depeche/hl7/Text$Builder" "length" "I" (.int (0 : Int32))) (A1 : Arv Z h0 ta ka .byte (Int32.ofNat 7) (bsV ([] : List Int32)) (.int (0 : Int32))) (S1 : Sta Z Z.heap "com/example/depeche/depeche/hl7/Text" "NO_INDEXES" "[I" (.ref wi)) (S2 : Sta Z Z.heap "com/example/depeche/depeche/hl7/Text" "NO_CHARS" "[C" (.ref wc)) (O1 : Old Z n0 h0) (g1 : n0 ≤ a1) : MetN l Z mn10 prog_27_method_5_code 2 none ws (rM 0 1 7 0) #[(.ref a1)] h0 (Q_rmWD Z a1 ta ka wi wc h0 n0) := by
 refine enterN (plainFor_of_name pn_com_example_depeche_depeche_hl7_Text_Builder) (fun m => ef_rmWD m _) fun p e s m below meth c s₁ Bd hZ hx hD hlk hml hown hnm X0 e0 => ?_
 have N0 := Fr.nil n0
 have K0 := Keep.refl h0 [a1]
 have lt_EF := ny EF.lt
 have lt_F_at := ny F_at.lt
 have lt_F_as := ny F_as.lt
 have lt_F_by := ny F_by.lt
 have lt_F_lm := ny F_lm.lt
 have lt_F_ch := ny F_ch.lt
 have lt_F_ct := ny F_ct.lt
 have lt_F_ln := ny F_ln.lt
 have lt_A1 := ny A1.lt
 refine Wk.aloadN X0 hx (hD d10_0) (n := 1) rfl rfl rfl ?_
 refine Wk.getF X0 hx hZ hown (host := "") (Or.inl (oW hw 20 rfl)) Via.refl e0 F_by (hD d10_1) (n := 4) rfl fun T1 X1 e1 => ?_
 obtain ⟨cl2, Ar2, qn2, Sz2, N_2, H_2, Gn2⟩ := id A1
 refine Wk.arrlen X1 hx hZ e1 Ar2 Sz2 N_2 (hD d10_4) (n := 5) rfl ?_
 refine Wk.istoreN X1 hx (hD d10_5) (n := 6) rfl (L' := #[.val (.ref a1), .val (.int (Int32.ofNat 7))]) rfl ?_
 refine Wk.aloadN X1 hx (hD d10_6) (n := 7) rfl rfl rfl ?_
 refine Wk.aconstNull X1 hx (hD d10_7) (n := 8) rfl ?_
 refine Wk.putF X1 hx hZ hown (host := "") (Or.inl (oW hw 20 rfl)) Via.refl e1 F_by EF (Or.inl (oW hw 21 rfl)) (oW hw 3 rfl) (ty := (.array .byte)) (by decide) rfl rfl (hD d10_8) (n := 11) rfl fun T3 H3 X3 e3 Wn3 => ?_
 have sz3 := Wn3.size
 have Fn3 := F_by.same Wn3
 have K3 := K0.wr Wn3 (Or.inl (List.mem_of_getElem? (i := 0) rfl))
 have N3 := Fr.snoc X3 N0 (by omega)
 refine Wk.aloadN X3 hx (hD d10_11) (n := 12) rfl rfl rfl ?_
 have f4 := (O1.wr Wn3 (by omega))
 refine Wk.getS X3 hx hZ hown (Or.inr (oW hw 11 rfl)) Via.refl e3 (Sta.ext f4.2 S1) (hD d10_12) (n := 15) rfl fun T5 X5 e5 => ?_
 have f6 := (F_at.other Wn3 (Or.inr (slot_ne (Or.inl (oW hw 15 rfl)) (Or.inl (oW hw 21 rfl)) (by decide) (t := (.array .int)) (t' := (.array .byte)) (by decide) (by decide))))
 have f7 := (EF.wr Wn3)
 refine Wk.putF X5 hx hZ hown (host := "") (Or.inl (oW hw 14 rfl)) Via.refl e5 f6 f7 (Or.inl (oW hw 15 rfl)) (oW hw 3 rfl) (ty := (.array .int)) (by decide) rfl rfl (hD d10_15) (n := 18) rfl fun T8 H8 X8 e8 Wn8 => ?_
 have sz8 := Wn8.size
 have Fn8 := f6.same Wn8
 have K8 := K3.wr Wn8 (Or.inl (List.mem_of_getElem? (i := 0) rfl))
 have N8 := Fr.snoc X8 N3 (by omega)
 refine Wk.aloadN X8 hx (hD d10_18) (n := 19) rfl rfl rfl ?_
 have f9 := (f4.wr Wn8 (by omega))
 refine Wk.getS X8 hx hZ hown (Or.inr (oW hw 16 rfl)) Via.refl e8 (Sta.ext f9.2 S2) (hD d10_19) (n := 22) rfl fun T10 X10 e10 => ?_
 have f11 := ((F_as.other Wn3 (Or.inr (slot_ne (Or.inl (oW hw 19 rfl)) (Or.inl (oW hw 21 rfl)) (by decide) (t := (.array .char)) (t' := (.array .byte)) (by decide) (by decide)))).other Wn8 (Or.inr (slot_ne (Or.inl (oW hw 19 rfl)) (Or.inl (oW hw 15 rfl)) (by decide) (t := (.array .char)) (t' := (.array .int)) (by decide) (by decide))))
 have f12 := (f7.wr Wn8)
 refine Wk.putF X10 hx hZ hown (host := "") (Or.inl (oW hw 18 rfl)) Via.refl e10 f11 f12 (Or.inl (oW hw 19 rfl)) (oW hw 3 rfl) (ty := (.array .char)) (by decide) rfl rfl (hD d10_22) (n := 25) rfl fun T13 H13 X13 e13 Wn13 => ?_
 have sz13 := Wn13.size
 have Fn13 := f11.same Wn13
 have K13 := K8.wr Wn13 (Or.inl (List.mem_of_getElem? (i := 0) rfl))
 have N13 := Fr.snoc X13 N8 (by omega)
 refine Wk.aloadN X13 hx (hD d10_25) (n := 26) rfl rfl rfl ?_
 refine Wk.iconst X13 hx (hD d10_26) (n := 27) rfl (z := (0 : Int32)) rfl ?_
 have f14 := (((F_ln.other Wn3 (Or.inr (slot_ne (Or.inl (oW hw 47 rfl)) (Or.inl (oW hw 21 rfl)) (by decide) (t := .int) (t' := (.array .byte)) (by decide) (by decide)))).other Wn8 (Or.inr (slot_ne (Or.inl (oW hw 47 rfl)) (Or.inl (oW hw 15 rfl)) (by decide) (t := .int) (t' := (.array .int)) (by decide) (by decide)))).other Wn13 (Or.inr (slot_ne (Or.inl (oW hw 47 rfl)) (Or.inl (oW hw 19 rfl)) (by decide) (t := .int) (t' := (.array .char)) (by decide) (by decide))))
 have f15 := (f12.wr Wn13)
 refine Wk.putF X13 hx hZ hown (host := "") (Or.inl (oW hw 46 rfl)) Via.refl e13 f14 f15 (Or.inl (oW hw 47 rfl)) (oW hw 3 rfl) (ty := .int) (by decide) rfl rfl (hD d10_27) (n := 30) rfl fun T16 H16 X16 e16 Wn16 => ?_
 have sz16 := Wn16.size
 have Fn16 := f14.same Wn16
 have K16 := K13.wr Wn16 (Or.inl (List.mem_of_getElem? (i := 0) rfl))
 have N16 := Fr.snoc X16 N13 (by omega)
 refine Wk.aloadN X16 hx (hD d10_30) (n := 31) rfl rfl rfl ?_
 refine Wk.iloadN X16 hx (hD d10_31) (n := 32) rfl rfl ?_
 refine Wk.newP X16 hx hZ (oW hw 48 rfl) e16 (hD d10_32) (n := 34) rfl (by decide) (cap := 7) (by decide) (by decide) (by decide) (by decide) fun T17 H17 b17 k17 gn17 X17 e17 Ex17 An17 => ?_
 have gn17 := nx gn17
 have sz17 := Ex17.1
 have K17 := K16.ext Ex17
 have Vn17 : Arv Z H17 b17 k17 .char (Int32.ofNat 7) (List.replicate 7 (.int (0 : Int32))) (.int (0 : Int32)) := (Arv.new An17 (by decide)).pad (pad_rep [] (.int (0 : Int32)) 7)
 have lt17 := ny Vn17.lt
 have f18 := (((((F_ch.other Wn3 (Or.inr (slot_ne (Or.inl (oW hw 30 rfl)) (Or.inl (oW hw 21 rfl)) (by decide) (t := (.array .char)) (t' := (.array .byte)) (by decide) (by decide)))).other Wn8 (Or.inr (slot_ne (Or.inl (oW hw 30 rfl)) (Or.inl (oW hw 15 rfl)) (by decide) (t := (.array .char)) (t' := (.array .int)) (by decide) (by decide)))).other Wn13 (Or.inr (slot_ne (Or.inl (oW hw 30 rfl)) (Or.inl (oW hw 19 rfl)) (by decide) (t := (.array .char)) (t' := (.array .char)) (by decide) (by decide)))).other Wn16 (Or.inr (slot_ne (Or.inl (oW hw 30 rfl)) (Or.inl (oW hw 47 rfl)) (by decide) (t := (.array .char)) (t' := .int) (by decide) (by decide)))).ext Ex17)
 have f19 := ((f15.wr Wn16).ext Ex17)
 refine Wk.putF X17 hx hZ hown (host := "") (Or.inl (oW hw 29 rfl)) Via.refl e17 f18 f19 (Or.inl (oW hw 30 rfl)) (oW hw 3 rfl) (ty := (.array .char)) (by decide) rfl rfl (hD d10_34) (n := 37) rfl fun T20 H20 X20 e20 Wn20 => ?_
 have sz20 := Wn20.size
 have Fn20 := f18.same Wn20
 have K20 := K17.wr Wn20 (Or.inl (List.mem_of_getElem? (i := 0) rfl))
 have N20 := Fr.snoc X20 N16 (by omega)
 have f21 := (Vn17.other Wn20 (nz (by omega)))
 have f22 := (f19.wr Wn20)
 have f23 := ((((Fn8.other Wn13 (Or.inr (slot_ne (Or.inl (oW hw 15 rfl)) (Or.inl (oW hw 19 rfl)) (by decide) (t := (.array .int)) (t' := (.array .char)) (by decide) (by decide)))).other Wn16 (Or.inr (slot_ne (Or.inl (oW hw 15 rfl)) (Or.inl (oW hw 47 rfl)) (by decide) (t := (.array .int)) (t' := .int) (by decide) (by decide)))).ext Ex17).other Wn20 (Or.inr (slot_ne (Or.inl (oW hw 15 rfl)) (Or.inl (oW hw 30 rfl)) (by decide) (t := (.array .int)) (t' := (.array .char)) (by decide) (by decide))))
 have f24 := (((Fn13.other Wn16 (Or.inr (slot_ne (Or.inl (oW hw 19 rfl)) (Or.inl (oW hw 47 rfl)) (by decide) (t := (.array .char)) (t' := .int) (by decide) (by decide)))).ext Ex17).other Wn20 (Or.inr (slot_ne (Or.inl (oW hw 19 rfl)) (Or.inl (oW hw 30 rfl)) (by decide) (t := (.array .char)) (t' := (.array .char)) (by decide) (by decide))))
 have f25 := (((((Fn3.other Wn8 (Or.inr (slot_ne (Or.inl (oW hw 21 rfl)) (Or.inl (oW hw 15 rfl)) (by decide) (t := (.array .byte)) (t' := (.array .int)) (by decide) (by decide)))).other Wn13 (Or.inr (slot_ne (Or.inl (oW hw 21 rfl)) (Or.inl (oW hw 19 rfl)) (by decide) (t := (.array .byte)) (t' := (.array .char)) (by decide) (by decide)))).other Wn16 (Or.inr (slot_ne (Or.inl (oW hw 21 rfl)) (Or.inl (oW hw 47 rfl)) (by decide) (t := (.array .byte)) (t' := .int) (by decide) (by decide)))).ext Ex17).other Wn20 (Or.inr (slot_ne (Or.inl (oW hw 21 rfl)) (Or.inl (oW hw 30 rfl)) (by decide) (t := (.array .byte)) (t' := (.array .char)) (by decide) (by decide))))
 have f26 := ((((((F_lm.other Wn3 (Or.inr (slot_ne (Or.inr (oW hw 23 rfl)) (Or.inl (oW hw 21 rfl)) (by decide) (t := .int) (t' := (.array .byte)) (by decide) (by decide)))).other Wn8 (Or.inr (slot_ne (Or.inr (oW hw 23 rfl)) (Or.inl (oW hw 15 rfl)) (by decide) (t := .int) (t' := (.array .int)) (by decide) (by decide)))).other Wn13 (Or.inr (slot_ne (Or.inr (oW hw 23 rfl)) (Or.inl (oW hw 19 rfl)) (by decide) (t := .int) (t' := (.array .char)) (by decide) (by decide)))).other Wn16 (Or.inr (slot_ne (Or.inr (oW hw 23 rfl)) (Or.inl (oW hw 47 rfl)) (by decide) (t := .int) (t' := .int) (by decide) (by decide)))).ext Ex17).other Wn20 (Or.inr (slot_ne (Or.inr (oW hw 23 rfl)) (Or.inl (oW hw 30 rfl)) (by decide) (t := .int) (t' := (.array .char)) (by decide) (by decide))))
 have f27 := ((((((F_ct.other Wn3 (Or.inr (slot_ne (Or.inl (oW hw 41 rfl)) (Or.inl (oW hw 21 rfl)) (by decide) (t := .int) (t' := (.array .byte)) (by decide) (by decide)))).other Wn8 (Or.inr (slot_ne (Or.inl (oW hw 41 rfl)) (Or.inl (oW hw 15 rfl)) (by decide) (t := .int) (t' := (.array .int)) (by decide) (by decide)))).other Wn13 (Or.inr (slot_ne (Or.inl (oW hw 41 rfl)) (Or.inl (oW hw 19 rfl)) (by decide) (t := .int) (t' := (.array .char)) (by decide) (by decide)))).other Wn16 (Or.inr (slot_ne (Or.inl (oW hw 41 rfl)) (Or.inl (oW hw 47 rfl)) (by decide) (t := .int) (t' := .int) (by decide) (by decide)))).ext Ex17).other Wn20 (Or.inr (slot_ne (Or.inl (oW hw 41 rfl)) (Or.inl (oW hw 30 rfl)) (by decide) (t := .int) (t' := (.array .char)) (by decide) (by decide))))
 have f28 := ((Fn16.ext Ex17).other Wn20 (Or.inr (slot_ne (Or.inl (oW hw 47 rfl)) (Or.inl (oW hw 30 rfl)) (by decide) (t := .int) (t' := (.array .char)) (by decide) (by decide))))
 exact Wk.leave X20 (v := none) (fun _ => rfl) hlk e20 ⟨b17, k17, rfl, N20, K20, f22, f23, f24, f25, f26, Fn20, f27, f28, (Arv.pad f21 (fun i => (pad_rep [] _ 7 i).symm)), (by omega)⟩ (by decide) (by decide) (fun fs hr => X20.returnOut hx Bd.returns (hD d10_37) hr)
def Q_rmAA (Z : State) (a1 : Addr) (ta : Addr) (ka : ClassId) (wi : Addr) (wc : Addr) (ki : ClassId) (kc : ClassId) (h0 : Heap) (n0 : Nat) (v : Option Value) (h : Heap) (L : List Loc) : Prop := ∃ (ai : Addr) (ac : Addr) (kai : ClassId) (kac : ClassId), v = some (.int (1 : Int32)) ∧ Fr n0 L ∧ Keep h0 h [a1, ta] ∧ Exa Z h a1 "com/example/depeche/depeche/hl7/Text$Builder" ∧ Fld Z h a1 "com/example/depeche/depeche/hl7/Text$Builder" "asideAt" "[I" (.ref ai) ∧ Fld Z h a1 "com/example/depeche/depeche/hl7/Text$Builder" "aside" "[C" (.ref ac) ∧ Fld Z h a1 "com/example/depeche/depeche/hl7/Text$Builder" "bytes" "[B" (.ref ta) ∧ Fld Z h a1 "com/example/depeche/depeche/hl7/Text$Builder" "asideLimit" "I" (.int (1 : Int32)) ∧ Fld Z h a1 "com/example/depeche/depeche/hl7/Text$Builder" "chars" "[C" .null ∧ Fld Z h a1 "com/example/depeche/depeche/hl7/Text$Builder" "asideCount" "I" (.int (1 : Int32)) ∧ Fld Z h a1 "com/example/depeche/depeche/hl7/Text$Builder" "length" "I" (.int (Int32.ofNat ([26] : List Int32).length)) ∧ Arv Z h ta ka .byte (Int32.ofNat 8) (bsV ([26] : List Int32)) (.int (0 : Int32)) ∧ Arv Z h ai kai .int (1 : Int32) [(.int (0 : Int32))] (.int (0 : Int32)) ∧ Exa Z h ai "[I" ∧ Arv Z h ac kac .char (1 : Int32) [(.int (256 : Int32))] (.int (0 : Int32)) ∧ Exa Z h ac "[C" ∧ (h0.size ≤ ai) ∧ (h0.size ≤ ac)
theorem ef_rmAA (m : MethodId) (x0 : Addr) : entryFrame m #[(.ref x0), (.int (256 : Int32))] 3 = mkF m 0 #[.val (.ref x0), .val (.int (256 : Int32)), .unset] [] := by first | (simp [entryFrame, mkF, argsToLocals, Value.category]; done) | rfl
theorem d11_0 : decode B11_ 0 = .ok (.iconst 1, 1) := by decide +kernel
theorem d11_1 : decode B11_ 1 = .ok (.istore_n 2, 1) := by decide +kernel
theorem d11_2 : decode B11_ 2 = .ok (.aload_n 0, 1) := by decide +kernel
theorem d11_3 : decode B11_ 3 = .ok (.getfield 33, 3) := by decide +kernel
theorem d11_6 : decode B11_ 6 = .ok (.ifnull 27, 3) := by decide +kernel
theorem d11_33 : decode B11_ 33 = .ok (.iload_n 1, 1) := by decide +kernel
theorem d11_34 : decode B11_ 34 = .ok (.sipush 255, 3) := by decide +kernel
theorem d11_37 : decode B11_ 37 = .ok (.if_icmp .gt 24, 3) := by decide +kernel
theorem d11_61 : decode B11_ 61 = .ok (.aload_n 0, 1) := by decide +kernel
theorem d11_62 : decode B11_ 62 = .ok (.iload_n 1, 1) := by decide +kernel
theorem d11_63 : decode B11_ 63 = .ok (.invokevirtual 51, 3) := by decide +kernel
theorem d11_66 : decode B11_ 66 = .ok (.ifCond .ne 9, 3) := by decide +kernel
theorem d11_75 : decode B11_ 75 = .ok (.iload_n 2, 1) := by decide +kernel
theorem d11_76 : decode B11_ 76 = .ok (.ireturn, 1) := by decide +kernel
theorem rmAA (hw : HW a0 Z) (ws : List Jvm.Cond) (a1 : Addr) (ta : Addr) (ka : ClassId) (wi : Addr) (wc : Addr) (ki : ClassId) (kc : ClassId) (h0 : Heap) (n0 : Nat) (Z0 : n0 ≤ h0.size) (EF : Exa Z h0 a1 "com/example/depeche/depeche/hl7/Text$Builder") (F_at : Fld Z h0 a1 "com/example/depeche/depeche/hl7/Text$Builder" "asideAt" "[I" (.ref wi)) (F_as : Fld Z h0 a1 "com/example/depeche/depeche/hl7/Text$Builder" "aside" "[C" (.ref wc)) (F_by : Fld Z h0 a1 "com/example/depeche/depeche/hl7/Text$Builder" "bytes" "[B" (.ref ta)) (F_lm : Fld Z h0 a1 "com/example/depeche/depeche/hl7/Text$Builder" "asideLimit" "I" (.int (1 : Int32))) (F_ch : Fld Z h0 a1 "com/example/depeche/depeche/hl7/Text$Builder" "chars" "[C" .null) (F_ct : Fld Z h0 a1 "com/example/depeche/depeche/hl7/Text$Builder" "asideCount" "I" (.int (0 : Int32))) (F_ln : Fld Z h0 a1 "com/example/depeche/depeche/hl7/Text$Builder" "length" "I" (.int (0 : Int32))) (A1 : Arv Z h0 ta ka .byte (Int32.ofNat 8) (bsV ([] : List Int32)) (.int (0 : Int32))) (S1 : Sta Z Z.heap "com/example/depeche/depeche/hl7/Text" "NO_INDEXES" "[I" (.ref wi)) (S2 : Sta Z Z.heap "com/example/depeche/depeche/hl7/Text" "NO_CHARS" "[C" (.ref wc)) (O1 : Old Z n0 h0) (Ai : Arv Z Z.heap wi ki .int (0 : Int32) [] (.int (0 : Int32))) (Ei : Exa Z Z.heap wi "[I") (Ac : Arv Z Z.heap wc kc .char (0 : Int32) [] (.int (0 : Int32))) (Ec : Exa Z Z.heap wc "[C") (g1 : n0 ≤ a1) (g2 : n0 ≤ ta) (hn : ¬ @Eq Nat ta a1) (hm1 : wi < n0) (hm2 : wc < n0) : MetN l Z mn11 prog_27_method_3_code 3 (some .boolean) ws (rM 3 2 2 62) #[(.ref a1), (.int (256 : Int32))] h0 (Q_rmAA Z a1 ta ka wi wc ki kc h0 n0) := by
 refine enterN (plainFor_of_name pn_com_example_depeche_depeche_hl7_Text_Builder) (fun m => ef_rmAA m _) fun p e s m below meth c s₁ Bd hZ hx hD hlk hml hown hnm X0 e0 => ?_
 have N0 := Fr.nil n0
 have K0 := Keep.refl h0 [a1, ta]
 have lt_EF := ny EF.lt
 have lt_F_at := ny F_at.lt
 have lt_F_as := ny F_as.lt
 have lt_F_by := ny F_by.lt
 have lt_F_lm := ny F_lm.lt
 have lt_F_ch := ny F_ch.lt
 have lt_F_ct := ny F_ct.lt
 have lt_F_ln := ny F_ln.lt
 have lt_A1 := ny A1.lt
 refine Wk.iconst X0 hx (hD d11_0) (n := 1) rfl (z := (1 : Int32)) rfl ?_
 refine Wk.istoreN X0 hx (hD d11_1) (n := 2) rfl (L' := #[.val (.ref a1), .val (.int (256 : Int32)), .val (.int (1 : Int32))]) rfl ?_
 refine Wk.aloadN X0 hx (hD d11_2) (n := 3) rfl rfl rfl ?_
 refine Wk.getF X0 hx hZ hown (host := "") (Or.inl (oW hw 29 rfl)) Via.refl e0 F_ch (hD d11_3) (n := 6) rfl fun T1 X1 e1 => ?_
 refine Wk.ifnullYes X1 hx (hD d11_6) (by decide) (n := 33) (by decide) ?_
 refine Wk.iloadN X1 hx (hD d11_33) (n := 34) rfl rfl ?_
 refine Wk.sipush X1 hx (hD d11_34) (n := 37) rfl (z := (255 : Int32)) rfl ?_
 have hc37_2 : (255 : Int32) < (256 : Int32) := by decide
 refine Wk.icmpYes X1 hx (hD d11_37) (tlt hc37_2).2.2.1 (by decide) (n := 61) (by decide) ?_
 refine Wk.aloadN X1 hx (hD d11_61) (n := 62) rfl rfl rfl ?_
 refine Wk.iloadN X1 hx (hD d11_62) (n := 63) rfl rfl ?_
 obtain ⟨cq3, qn3, qn3'⟩ := EF.cell
 have cl3_ := fun Ls (hLs : LsOk c Ls) => X1.privateBack hx (y := mn9) hown (mW hZ hw 31 rfl) (mW hZ hw 32 rfl) (mvT hZ (own_selp (oW hw 32 rfl) (oW hw 33 rfl) (oW hw 26 rfl) (oW hw 27 rfl) (by decide))) (Cond.privateMethod_at (mvP hZ (oW hw 33 rfl) (args := #[]))) (mW hZ hw 34 rfl) (by decide) (backOf (W := 0) (rmSAT l Z a0 hw [] a1 ta ka wi wc ki kc h0 n0 (by omega) EF F_at F_as F_by F_lm F_ch F_ct F_ln A1 S1 S2 O1 Ai Ei Ac Ec (by omega) (by omega) (by omega) (by omega) (by omega)) hZ (oW hw 34 rfl) (oW hw 4 rfl) (by decide) (by decide)) (g := mkF m 63 Ls [(.int (256 : Int32)), (.ref a1)]) rfl hLs (Steps.refl _) (a := a1) (by rw [e1]; exact qn3) qn3' (argsL := [(.int (256 : Int32))]) (rest := []) (lenOf pd_0 rfl) rfl (leq0 rfl) (hD d11_63) (fun _ _ => ⟨rfl, e1, (by decide : 0 + 2 ≤ _), (by decide : 0 + 2 ≤ _)⟩)
 refine Wk.back (n := 66) (rc := 2) (rs := 2) (Q := Q_rmSAT Z a1 ta ka wi wc ki kc h0 n0) (cl3_ _ (lsok hml rfl)) fun vn3 T3 L3 X3 hQ3 => ?_
 clear cl3_
 obtain ⟨ai_3, ac_3, kai_3, kac_3, rfl, M3, J3, p3_0, p3_1, p3_2, p3_3, p3_4, p3_5, p3_6, p3_7, p3_8, p3_9, p3_10, p3_11, p3_12, gai_3, gac_3⟩ := hQ3
 have N3 := Fr.app N0 M3
 have sz3 := J3.1
 have K3 := K0.trans J3 (allS (Or.inl (List.mem_of_getElem? (i := 0) rfl)) (allS (Or.inl (List.mem_of_getElem? (i := 1) rfl)) all0))
 have lt_p3_0 := ny p3_0.lt
 have lt_p3_8 := ny p3_8.lt
 have lt_p3_9 := ny p3_9.lt
 have lt_p3_11 := ny p3_11.lt
 show Wk p e below _ T3 (mkF m 66 _ [(.int (1 : Int32))])
 have hc66_4 : ¬ ((1 : Int32) = (0 : Int32)) := by decide
 refine Wk.ifYes X3 hx (hD d11_66) ((if0 _ _).trans (feq hc66_4).2) (by decide) (n := 75) (by decide) ?_
 refine Wk.iloadN X3 hx (hD d11_75) (n := 76) rfl rfl ?_
 exact Wk.leave X3 (v := some (.int (1 : Int32))) (fun h => by rw [Bd.returns] at h; cases h) hlk rfl ⟨ai_3, ac_3, kai_3, kac_3, rfl, N3, K3, p3_0, p3_1, p3_2, p3_3, p3_4, p3_5, p3_6, p3_7, p3_8, p3_9, p3_10, p3_11, p3_12, (by omega), (by omega)⟩ (by decide) (by decide) (fun fs hr => retNz X3 hx (t := .boolean) rfl Bd.returns (by simp) (hD d11_76) hr)
def Q_rmAW (Z : State) (a1 : Addr) (ta : Addr) (ka : ClassId) (wi : Addr) (wc : Addr) (h0 : Heap) (n0 : Nat) (v : Option Value) (h : Heap) (L : List Loc) : Prop := ∃ (t : Addr) (kb : ClassId), v = some (.int (0 : Int32)) ∧ Fr n0 L ∧ Keep h0 h [a1] ∧ Exa Z h a1 "com/example/depeche/depeche/hl7/Text$Builder" ∧ Fld Z h a1 "com/example/depeche/depeche/hl7/Text$Builder" "asideAt" "[I" (.ref wi) ∧ Fld Z h a1 "com/example/depeche/depeche/hl7/Text$Builder" "aside" "[C" (.ref wc) ∧ Fld Z h a1 "com/example/depeche/depeche/hl7/Text$Builder" "bytes" "[B" .null ∧ Fld Z h a1 "com/example/depeche/depeche/hl7/Text$Builder" "asideLimit" "I" (.int (0 : Int32)) ∧ Fld Z h a1 "com/example/depeche/depeche/hl7/Text$Builder" "chars" "[C" (.ref t) ∧ Fld Z h a1 "com/example/depeche/depeche/hl7/Text$Builder" "asideCount" "I" (.int (0 : Int32)) ∧ Fld Z h a1 "com/example/depeche/depeche/hl7/Text$Builder" "length" "I" (.int (Int32.ofNat ([] : List Int32).length)) ∧ Arv Z h t kb .char (Int32.ofNat 7) (chV ([] : List Int32)) (.int (0 : Int32)) ∧ (h0.size ≤ t)
theorem ef_rmAW (m : MethodId) (x0 : Addr) : entryFrame m #[(.ref x0), (.int (256 : Int32))] 3 = mkF m 0 #[.val (.ref x0), .val (.int (256 : Int32)), .unset] [] := by first | (simp [entryFrame, mkF, argsToLocals, Value.category]; done) | rfl
theorem d11_69 : decode B11_ 69 = .ok (.aload_n 0, 1) := by decide +kernel
theorem d11_70 : decode B11_ 70 = .ok (.invokevirtual 55, 3) := by decide +kernel
theorem pd_6 : parseMethodDescriptor "()V" = some ⟨[], none⟩ := by decide +kernel
theorem d11_73 : decode B11_ 73 = .ok (.iconst 0, 1) := by decide +kernel
theorem d11_74 : decode B11_ 74 = .ok (.istore_n 2, 1) := by decide +kernel
theorem rmAW (hw : HW a0 Z) (ws : List Jvm.Cond) (a1 : Addr) (ta : Addr) (ka : ClassId) (wi : Addr) (wc : Addr) (h0 : Heap) (n0 : Nat) (Z0 : n0 ≤ h0.size) (EF : Exa Z h0 a1 "com/example/depeche/depeche/hl7/Text$Builder") (F_at : Fld Z h0 a1 "com/example/depeche/depeche/hl7/Text$Builder" "asideAt" "[I" (.ref wi)) (F_as : Fld Z h0 a1 "com/example/depeche/depeche/hl7/Text$Builder" "aside" "[C" (.ref wc)) (F_by : Fld Z h0 a1 "com/example/depeche/depeche/hl7/Text$Builder" "bytes" "[B" (.ref ta)) (F_lm : Fld Z h0 a1 "com/example/depeche/depeche/hl7/Text$Builder" "asideLimit" "I" (.int (0 : Int32))) (F_ch : Fld Z h0 a1 "com/example/depeche/depeche/hl7/Text$Builder" "chars" "[C" .null) (F_ct : Fld Z h0 a1 "com/example/depeche/depeche/hl7/Text$Builder" "asideCount" "I" (.int (0 : Int32))) (F_ln : Fld Z h0 a1 "com/example/depeche/depeche/hl7/Text$Builder" "length" "I" (.int (0 : Int32))) (A1 : Arv Z h0 ta ka .byte (Int32.ofNat 7) (bsV ([] : List Int32)) (.int (0 : Int32))) (S1 : Sta Z Z.heap "com/example/depeche/depeche/hl7/Text" "NO_INDEXES" "[I" (.ref wi)) (S2 : Sta Z Z.heap "com/example/depeche/depeche/hl7/Text" "NO_CHARS" "[C" (.ref wc)) (O1 : Old Z n0 h0) (g1 : n0 ≤ a1) : MetN l Z mn11 prog_27_method_3_code 3 (some .boolean) ws (rM 2 1 7 27) #[(.ref a1), (.int (256 : Int32))] h0 (Q_rmAW Z a1 ta ka wi wc h0 n0) := by
 refine enterN (plainFor_of_name pn_com_example_depeche_depeche_hl7_Text_Builder) (fun m => ef_rmAW m _) fun p e s m below meth c s₁ Bd hZ hx hD hlk hml hown hnm X0 e0 => ?_
 have N0 := Fr.nil n0
 have K0 := Keep.refl h0 [a1]
 have lt_EF := ny EF.lt
 have lt_F_at := ny F_at.lt
 have lt_F_as := ny F_as.lt
 have lt_F_by := ny F_by.lt
 have lt_F_lm := ny F_lm.lt
 have lt_F_ch := ny F_ch.lt
 have lt_F_ct := ny F_ct.lt
 have lt_F_ln := ny F_ln.lt
 have lt_A1 := ny A1.lt
 refine Wk.iconst X0 hx (hD d11_0) (n := 1) rfl (z := (1 : Int32)) rfl ?_
 refine Wk.istoreN X0 hx (hD d11_1) (n := 2) rfl (L' := #[.val (.ref a1), .val (.int (256 : Int32)), .val (.int (1 : Int32))]) rfl ?_
 refine Wk.aloadN X0 hx (hD d11_2) (n := 3) rfl rfl rfl ?_
 refine Wk.getF X0 hx hZ hown (host := "") (Or.inl (oW hw 29 rfl)) Via.refl e0 F_ch (hD d11_3) (n := 6) rfl fun T1 X1 e1 => ?_
 refine Wk.ifnullYes X1 hx (hD d11_6) (by decide) (n := 33) (by decide) ?_
 refine Wk.iloadN X1 hx (hD d11_33) (n := 34) rfl rfl ?_
 refine Wk.sipush X1 hx (hD d11_34) (n := 37) rfl (z := (255 : Int32)) rfl ?_
 have hc37_2 : (255 : Int32) < (256 : Int32) := by decide
 refine Wk.icmpYes X1 hx (hD d11_37) (tlt hc37_2).2.2.1 (by decide) (n := 61) (by decide) ?_
 refine Wk.aloadN X1 hx (hD d11_61) (n := 62) rfl rfl rfl ?_
 refine Wk.iloadN X1 hx (hD d11_62) (n := 63) rfl rfl ?_
 obtain ⟨cq3, qn3, qn3'⟩ := EF.cell
 have cl3_ := fun Ls (hLs : LsOk c Ls) => X1.privateBack hx (y := mn9) hown (mW hZ hw 31 rfl) (mW hZ hw 32 rfl) (mvT hZ (own_selp (oW hw 32 rfl) (oW hw 33 rfl) (oW hw 26 rfl) (oW hw 27 rfl) (by decide))) (Cond.privateMethod_at (mvP hZ (oW hw 33 rfl) (args := #[]))) (mW hZ hw 34 rfl) (by decide) (backOf (W := 0) (rmSAF l Z a0 hw [] a1 h0 n0 (by omega) F_ct F_lm) hZ (oW hw 34 rfl) (oW hw 4 rfl) (by decide) (by decide)) (g := mkF m 63 Ls [(.int (256 : Int32)), (.ref a1)]) rfl hLs (Steps.refl _) (a := a1) (by rw [e1]; exact qn3) qn3' (argsL := [(.int (256 : Int32))]) (rest := []) (lenOf pd_0 rfl) rfl (leq0 rfl) (hD d11_63) (fun _ _ => ⟨rfl, e1, (by decide : 0 + 0 ≤ _), (by decide : 0 + 0 ≤ _)⟩)
 refine Wk.back (n := 66) (rc := 0) (rs := 0) (Q := Q_rmSAF Z a1 h0 n0) (cl3_ _ (lsok hml rfl)) fun vn3 T3 L3 X3 hQ3 => ?_
 clear cl3_
 obtain ⟨rfl, M3, e3⟩ := hQ3
 have N3 := Fr.app N0 M3
 show Wk p e below _ T3 (mkF m 66 _ [(.int (0 : Int32))])
 have hc66_4 : (0 : Int32) = (0 : Int32) := rfl
 refine Wk.ifNo X3 hx (hD d11_66) (n := 69) rfl ((if0 _ _).trans (teq hc66_4).2) ?_
 refine Wk.aloadN X3 hx (hD d11_69) (n := 70) rfl rfl rfl ?_
 obtain ⟨cq5, qn5, qn5'⟩ := EF.cell
 have cl5_ := fun Ls (hLs : LsOk c Ls) => X3.privateBack hx (y := mn10) hown (mW hZ hw 42 rfl) (mW hZ hw 43 rfl) (mvT hZ (own_selp (oW hw 43 rfl) (oW hw 44 rfl) (oW hw 26 rfl) (oW hw 27 rfl) (by decide))) (Cond.privateMethod_at (mvP hZ (oW hw 44 rfl) (args := #[]))) (mW hZ hw 45 rfl) (by decide) (backOf (W := 0) (rmWD l Z a0 hw [] a1 ta ka wi wc h0 n0 (by omega) EF F_at F_as F_by F_lm F_ch F_ct F_ln A1 S1 S2 O1 (by omega)) hZ (oW hw 45 rfl) (oW hw 4 rfl) (by decide) (by decide)) (g := mkF m 70 Ls [(.ref a1)]) rfl hLs (Steps.refl _) (a := a1) (by rw [e3]; exact qn5) qn5' (argsL := []) (rest := []) (lenOf pd_6 rfl) rfl (leq0 rfl) (hD d11_70) (fun _ _ => ⟨rfl, e3, (by decide : 0 + 1 ≤ _), (by decide : 0 + 7 ≤ _)⟩)
 refine Wk.back (n := 73) (rc := 1) (rs := 7) (Q := Q_rmWD Z a1 ta ka wi wc h0 n0) (cl5_ _ (lsok hml rfl)) fun vn5 T5 L5 X5 hQ5 => ?_
 clear cl5_
 obtain ⟨t_5, kb_5, rfl, M5, J5, p5_0, p5_1, p5_2, p5_3, p5_4, p5_5, p5_6, p5_7, p5_8, gt_5⟩ := hQ5
 have N5 := Fr.app N3 M5
 have sz5 := J5.1
 have K5 := K0.trans J5 (allS (Or.inl (List.mem_of_getElem? (i := 0) rfl)) all0)
 have lt_p5_0 := ny p5_0.lt
 have lt_p5_8 := ny p5_8.lt
 show Wk p e below _ T5 (mkF m 73 _ [])
 refine Wk.iconst X5 hx (hD d11_73) (n := 74) rfl (z := (0 : Int32)) rfl ?_
 refine Wk.istoreN X5 hx (hD d11_74) (n := 75) rfl (L' := #[.val (.ref a1), .val (.int (256 : Int32)), .val (.int (0 : Int32))]) rfl ?_
 refine Wk.iloadN X5 hx (hD d11_75) (n := 76) rfl rfl ?_
 exact Wk.leave X5 (v := some (.int (0 : Int32))) (fun h => by rw [Bd.returns] at h; cases h) hlk rfl ⟨t_5, kb_5, rfl, N5, K5, p5_0, p5_1, p5_2, p5_3, p5_4, p5_5, p5_6, p5_7, p5_8, (by omega)⟩ (by decide) (by decide) (fun fs hr => retNz X5 hx (t := .boolean) rfl Bd.returns (by simp) (hD d11_76) hr)
def Q_rmAB (Z : State) (a1 : Addr) (p1 : Int32) (ta : Addr) (ka : ClassId) (cs : List Int32) (Nz : Nat) (vat : Value) (vas : Value) (vlm : Value) (vct : Value) (h0 : Heap) (n0 : Nat) (v : Option Value) (h : Heap) (L : List Loc) : Prop := v = some (.int (1 : Int32)) ∧ Fr n0 L ∧ Keep h0 h [a1, ta] ∧ Exa Z h a1 "com/example/depeche/depeche/hl7/Text$Builder" ∧ Fld Z h a1 "com/example/depeche/depeche/hl7/Text$Builder" "asideAt" "[I" vat ∧ Fld Z h a1 "com/example/depeche/depeche/hl7/Text$Builder" "aside" "[C" vas ∧ Fld Z h a1 "com/example/depeche/depeche/hl7/Text$Builder" "bytes" "[B" (.ref ta) ∧ Fld Z h a1 "com/example/depeche/depeche/hl7/Text$Builder" "asideLimit" "I" vlm ∧ Fld Z h a1 "com/example/depeche/depeche/hl7/Text$Builder" "chars" "[C" .null ∧ Fld Z h a1 "com/example/depeche/depeche/hl7/Text$Builder" "asideCount" "I" vct ∧ Fld Z h a1 "com/example/depeche/depeche/hl7/Text$Builder" "length" "I" (.int (Int32.ofNat (cs ++ [p1]).length)) ∧ Arv Z h ta ka .byte (Int32.ofNat Nz) (bsV (cs ++ [p1])) (.int (0 : Int32))
theorem ef_rmAB (m : MethodId) (x0 : Addr) (x1 : Int32) : entryFrame m #[(.ref x0), (.int x1)] 3 = mkF m 0 #[.val (.ref x0), .val (.int x1), .unset] [] := by first | (simp [entryFrame, mkF, argsToLocals, Value.category]; done) | rfl
theorem d11_40 : decode B11_ 40 = .ok (.aload_n 0, 1) := by decide +kernel
theorem d11_41 : decode B11_ 41 = .ok (.getfield 25, 3) := by decide +kernel
theorem d11_44 : decode B11_ 44 = .ok (.aload_n 0, 1) := by decide +kernel
theorem d11_45 : decode B11_ 45 = .ok (.dup, 1) := by decide +kernel
theorem d11_46 : decode B11_ 46 = .ok (.getfield 36, 3) := by decide +kernel
theorem d11_49 : decode B11_ 49 = .ok (.dup_x1, 1) := by decide +kernel
theorem d11_50 : decode B11_ 50 = .ok (.iconst 1, 1) := by decide +kernel
theorem d11_51 : decode B11_ 51 = .ok (.iadd, 1) := by decide +kernel
theorem d11_52 : decode B11_ 52 = .ok (.putfield 36, 3) := by decide +kernel
theorem d11_55 : decode B11_ 55 = .ok (.iload_n 1, 1) := by decide +kernel
theorem d11_56 : decode B11_ 56 = .ok (.i2b, 1) := by decide +kernel
theorem d11_57 : decode B11_ 57 = .ok (.bastore, 1) := by decide +kernel
theorem d11_58 : decode B11_ 58 = .ok (.goto 17, 3) := by decide +kernel
theorem rmAB (hw : HW a0 Z) (ws : List Jvm.Cond) (a1 : Addr) (p1 : Int32) (ta : Addr) (ka : ClassId) (cs : List Int32) (Nz : Nat) (vat : Value) (vas : Value) (vlm : Value) (vct : Value) (h0 : Heap) (n0 : Nat) (Z0 : n0 ≤ h0.size) (EF : Exa Z h0 a1 "com/example/depeche/depeche/hl7/Text$Builder") (F_at : Fld Z h0 a1 "com/example/depeche/depeche/hl7/Text$Builder" "asideAt" "[I" vat) (F_as : Fld Z h0 a1 "com/example/depeche/depeche/hl7/Text$Builder" "aside" "[C" vas) (F_by : Fld Z h0 a1 "com/example/depeche/depeche/hl7/Text$Builder" "bytes" "[B" (.ref ta)) (F_lm : Fld Z h0 a1 "com/example/depeche/depeche/hl7/Text$Builder" "asideLimit" "I" vlm) (F_ch : Fld Z h0 a1 "com/example/depeche/depeche/hl7/Text$Builder" "chars" "[C" .null) (F_ct : Fld Z h0 a1 "com/example/depeche/depeche/hl7/Text$Builder" "asideCount" "I" vct) (F_ln : Fld Z h0 a1 "com/example/depeche/depeche/hl7/Text$Builder" "length" "I" (.int (Int32.ofNat cs.length))) (A1 : Arv Z h0 ta ka .byte (Int32.ofNat Nz) (bsV cs) (.int (0 : Int32))) (hp : ¬ (255 : Int32) < p1) (hN : cs.length < Nz) (hNz : Nz ≤ 8) (g1 : n0 ≤ a1) (g2 : n0 ≤ ta) (hn : ¬ @Eq Nat ta a1) : MetN l Z mn11 prog_27_method_3_code 3 (some .boolean) ws (rM 0 0 0 0) #[(.ref a1), (.int p1)] h0 (Q_rmAB Z a1 p1 ta ka cs Nz vat vas vlm vct h0 n0) := by
 refine enterN (plainFor_of_name pn_com_example_depeche_depeche_hl7_Text_Builder) (fun m => ef_rmAB m _ _) fun p e s m below meth c s₁ Bd hZ hx hD hlk hml hown hnm X0 e0 => ?_
 have N0 := Fr.nil n0
 have K0 := Keep.refl h0 [a1, ta]
 have lt_EF := ny EF.lt
 have lt_F_at := ny F_at.lt
 have lt_F_as := ny F_as.lt
 have lt_F_by := ny F_by.lt
 have lt_F_lm := ny F_lm.lt
 have lt_F_ch := ny F_ch.lt
 have lt_F_ct := ny F_ct.lt
 have lt_F_ln := ny F_ln.lt
 have lt_A1 := ny A1.lt
 refine Wk.iconst X0 hx (hD d11_0) (n := 1) rfl (z := (1 : Int32)) rfl ?_
 refine Wk.istoreN X0 hx (hD d11_1) (n := 2) rfl (L' := #[.val (.ref a1), .val (.int p1), .val (.int (1 : Int32))]) rfl ?_
 refine Wk.aloadN X0 hx (hD d11_2) (n := 3) rfl rfl rfl ?_
 refine Wk.getF X0 hx hZ hown (host := "") (Or.inl (oW hw 29 rfl)) Via.refl e0 F_ch (hD d11_3) (n := 6) rfl fun T1 X1 e1 => ?_
 refine Wk.ifnullYes X1 hx (hD d11_6) (by decide) (n := 33) (by decide) ?_
 refine Wk.iloadN X1 hx (hD d11_33) (n := 34) rfl rfl ?_
 refine Wk.sipush X1 hx (hD d11_34) (n := 37) rfl (z := (255 : Int32)) rfl ?_
 have hc37_2 : ¬ ((255 : Int32) < p1) := hp
 refine Wk.icmpNo X1 hx (hD d11_37) (n := 40) rfl (flt hc37_2).2.2.1 ?_
 refine Wk.aloadN X1 hx (hD d11_40) (n := 41) rfl rfl rfl ?_
 refine Wk.getF X1 hx hZ hown (host := "") (Or.inl (oW hw 20 rfl)) Via.refl e1 F_by (hD d11_41) (n := 44) rfl fun T3 X3 e3 => ?_
 refine Wk.aloadN X3 hx (hD d11_44) (n := 45) rfl rfl rfl ?_
 refine Wk.dup X3 hx (hD d11_45) (n := 46) rfl rfl ?_
 refine Wk.getF X3 hx hZ hown (host := "") (Or.inl (oW hw 46 rfl)) Via.refl e3 F_ln (hD d11_46) (n := 49) rfl fun T4 X4 e4 => ?_
 refine Wk.dupX1 X4 hx (hD d11_49) (n := 50) rfl rfl rfl ?_
 refine Wk.iconst X4 hx (hD d11_50) (n := 51) rfl (z := (1 : Int32)) rfl ?_
 refine Wk.iadd X4 hx (hD d11_51) (n := 52) rfl ?_
 refine Wk.putF X4 hx hZ hown (host := "") (Or.inl (oW hw 46 rfl)) Via.refl e4 F_ln EF (Or.inl (oW hw 47 rfl)) (oW hw 3 rfl) (ty := .int) (by decide) rfl rfl (hD d11_52) (n := 55) rfl fun T5 H5 X5 e5 Wn5 => ?_
 have sz5 := Wn5.size
 have Fn5 := F_ln.same Wn5
 have K5 := K0.wr Wn5 (Or.inl (List.mem_of_getElem? (i := 0) rfl))
 have N5 := Fr.snoc X5 N0 (by omega)
 refine Wk.iloadN X5 hx (hD d11_55) (n := 56) rfl rfl ?_
 refine Wk.i2b X5 hx (hD d11_56) (n := 57) rfl ?_
 have f7 := (A1.other Wn5 (nz (by omega)))
 have Pd6 := Arv.pad f7 (pad_rep (bsV cs) (.int (0 : Int32)) 1)
 obtain ⟨cl8, Ar8, qn8, Sz8, N_8, H_8, Gn8⟩ := id Pd6
 have hin8 : ¬ ((Int32.ofNat cs.length) < 0 ∨ cl8.slots.size ≤ ((Int32.ofNat cs.length)).toNatClampNeg) := inb_of Sz8 ⟨own_nonneg (by omega), (own_lt (by omega) (by omega)).mpr (by omega)⟩
 refine Wk.stB X5 hx hZ e5 Ar8 hin8 (hD d11_57) (n := 58) rfl fun T8 H8 X8 e8 Wn8 => ?_
 have Vn8 := Arv.set Ar8 qn8 Sz8 N_8 H_8 Gn8 (fits_nar_byte _) Wn8 cs.length (own_cl (by omega)) (by simp [bsV])
 have Un8 : Arv Z H8 ta ka .byte (Int32.ofNat Nz) (bsV (cs ++ [p1])) (.int (0 : Int32)) := own_arv (own_sb1 cs p1) Vn8
 have sz8 := Wn8.size
 have K8 := K5.wr Wn8 (Or.inl (List.mem_of_getElem? (i := 1) rfl))
 have N8 := Fr.snoc X8 N5 (by omega)
 refine Wk.goto X8 hx (hD d11_58) (by decide) (n := 75) (by decide) ?_
 refine Wk.iloadN X8 hx (hD d11_75) (n := 76) rfl rfl ?_
 have f9 := (Fn5.other Wn8 (Or.inl (nz (by omega))))
 have f10 := ((EF.wr Wn5).wr Wn8)
 have f11 := ((F_at.other Wn5 (Or.inr (slot_ne (Or.inl (oW hw 15 rfl)) (Or.inl (oW hw 47 rfl)) (by decide) (t := (.array .int)) (t' := .int) (by decide) (by decide)))).other Wn8 (Or.inl (nz (by omega))))
 have f12 := ((F_as.other Wn5 (Or.inr (slot_ne (Or.inl (oW hw 19 rfl)) (Or.inl (oW hw 47 rfl)) (by decide) (t := (.array .char)) (t' := .int) (by decide) (by decide)))).other Wn8 (Or.inl (nz (by omega))))
 have f13 := ((F_by.other Wn5 (Or.inr (slot_ne (Or.inl (oW hw 21 rfl)) (Or.inl (oW hw 47 rfl)) (by decide) (t := (.array .byte)) (t' := .int) (by decide) (by decide)))).other Wn8 (Or.inl (nz (by omega))))
 have f14 := ((F_lm.other Wn5 (Or.inr (slot_ne (Or.inr (oW hw 23 rfl)) (Or.inl (oW hw 47 rfl)) (by decide) (t := .int) (t' := .int) (by decide) (by decide)))).other Wn8 (Or.inl (nz (by omega))))
 have f15 := ((F_ch.other Wn5 (Or.inr (slot_ne (Or.inl (oW hw 30 rfl)) (Or.inl (oW hw 47 rfl)) (by decide) (t := (.array .char)) (t' := .int) (by decide) (by decide)))).other Wn8 (Or.inl (nz (by omega))))
 have f16 := ((F_ct.other Wn5 (Or.inr (slot_ne (Or.inl (oW hw 41 rfl)) (Or.inl (oW hw 47 rfl)) (by decide) (t := .int) (t' := .int) (by decide) (by decide)))).other Wn8 (Or.inl (nz (by omega))))
 exact Wk.leave X8 (v := some (.int (1 : Int32))) (fun h => by rw [Bd.returns] at h; cases h) hlk e8 ⟨rfl, N8, K8, f10, f11, f12, f13, f14, f15, f16, (by have q := f9; rw [own_ln1 cs p1] at q; exact q), Un8⟩ (by decide) (by decide) (fun fs hr => retNz X8 hx (t := .boolean) rfl Bd.returns (by simp) (hD d11_76) hr)
def Q_rmAC (Z : State) (a1 : Addr) (p1 : Int32) (ta : Addr) (ka : ClassId) (cs : List Int32) (Nz : Nat) (vat : Value) (vas : Value) (vlm : Value) (vct : Value) (vby : Value) (h0 : Heap) (n0 : Nat) (v : Option Value) (h : Heap) (L : List Loc) : Prop := v = some (.int (1 : Int32)) ∧ Fr n0 L ∧ Keep h0 h [a1, ta] ∧ Exa Z h a1 "com/example/depeche/depeche/hl7/Text$Builder" ∧ Fld Z h a1 "com/example/depeche/depeche/hl7/Text$Builder" "asideAt" "[I" vat ∧ Fld Z h a1 "com/example/depeche/depeche/hl7/Text$Builder" "aside" "[C" vas ∧ Fld Z h a1 "com/example/depeche/depeche/hl7/Text$Builder" "bytes" "[B" vby ∧ Fld Z h a1 "com/example/depeche/depeche/hl7/Text$Builder" "asideLimit" "I" vlm ∧ Fld Z h a1 "com/example/depeche/depeche/hl7/Text$Builder" "chars" "[C" (.ref ta) ∧ Fld Z h a1 "com/example/depeche/depeche/hl7/Text$Builder" "asideCount" "I" vct ∧ Fld Z h a1 "com/example/depeche/depeche/hl7/Text$Builder" "length" "I" (.int (Int32.ofNat (cs ++ [p1]).length)) ∧ Arv Z h ta ka .char (Int32.ofNat Nz) (chV (cs ++ [p1])) (.int (0 : Int32))
theorem ef_rmAC (m : MethodId) (x0 : Addr) (x1 : Int32) : entryFrame m #[(.ref x0), (.int x1)] 3 = mkF m 0 #[.val (.ref x0), .val (.int x1), .unset] [] := by first | (simp [entryFrame, mkF, argsToLocals, Value.category]; done) | rfl
theorem d11_9 : decode B11_ 9 = .ok (.aload_n 0, 1) := by decide +kernel
theorem d11_10 : decode B11_ 10 = .ok (.dup, 1) := by decide +kernel
theorem d11_11 : decode B11_ 11 = .ok (.getfield 36, 3) := by decide +kernel
theorem d11_14 : decode B11_ 14 = .ok (.iload_n 1, 1) := by decide +kernel
theorem d11_15 : decode B11_ 15 = .ok (.aload_n 0, 1) := by decide +kernel
theorem d11_16 : decode B11_ 16 = .ok (.getfield 33, 3) := by decide +kernel
theorem d11_19 : decode B11_ 19 = .ok (.aload_n 0, 1) := by decide +kernel
theorem d11_20 : decode B11_ 20 = .ok (.getfield 36, 3) := by decide +kernel
theorem d11_23 : decode B11_ 23 = .ok (.invokestatic 45, 3) := by decide +kernel
theorem d11_26 : decode B11_ 26 = .ok (.iadd, 1) := by decide +kernel
theorem d11_27 : decode B11_ 27 = .ok (.putfield 36, 3) := by decide +kernel
theorem d11_30 : decode B11_ 30 = .ok (.goto 45, 3) := by decide +kernel
theorem rmAC (hw : HW a0 Z) (ws : List Jvm.Cond) (a1 : Addr) (p1 : Int32) (ta : Addr) (ka : ClassId) (cs : List Int32) (Nz : Nat) (vat : Value) (vas : Value) (vlm : Value) (vct : Value) (vby : Value) (h0 : Heap) (n0 : Nat) (Z0 : n0 ≤ h0.size) (EF : Exa Z h0 a1 "com/example/depeche/depeche/hl7/Text$Builder") (F_at : Fld Z h0 a1 "com/example/depeche/depeche/hl7/Text$Builder" "asideAt" "[I" vat) (F_as : Fld Z h0 a1 "com/example/depeche/depeche/hl7/Text$Builder" "aside" "[C" vas) (F_by : Fld Z h0 a1 "com/example/depeche/depeche/hl7/Text$Builder" "bytes" "[B" vby) (F_lm : Fld Z h0 a1 "com/example/depeche/depeche/hl7/Text$Builder" "asideLimit" "I" vlm) (F_ch : Fld Z h0 a1 "com/example/depeche/depeche/hl7/Text$Builder" "chars" "[C" (.ref ta)) (F_ct : Fld Z h0 a1 "com/example/depeche/depeche/hl7/Text$Builder" "asideCount" "I" vct) (F_ln : Fld Z h0 a1 "com/example/depeche/depeche/hl7/Text$Builder" "length" "I" (.int (Int32.ofNat cs.length))) (A1 : Arv Z h0 ta ka .char (Int32.ofNat Nz) (chV cs) (.int (0 : Int32))) (hb : ¬ p1 < 0 ∧ ¬ (256 : Int32) < p1) (hN : cs.length < Nz) (hNz : Nz ≤ 8) (g1 : n0 ≤ a1) (g2 : n0 ≤ ta) (hn : ¬ @Eq Nat ta a1) : MetN l Z mn11 prog_27_method_3_code 3 (some .boolean) ws (rM 2 0 0 28) #[(.ref a1), (.int p1)] h0 (Q_rmAC Z a1 p1 ta ka cs Nz vat vas vlm vct vby h0 n0) := by
 refine enterN (plainFor_of_name pn_com_example_depeche_depeche_hl7_Text_Builder) (fun m => ef_rmAC m _ _) fun p e s m below meth c s₁ Bd hZ hx hD hlk hml hown hnm X0 e0 => ?_
 have N0 := Fr.nil n0
 have K0 := Keep.refl h0 [a1, ta]
 have lt_EF := ny EF.lt
 have lt_F_at := ny F_at.lt
 have lt_F_as := ny F_as.lt
 have lt_F_by := ny F_by.lt
 have lt_F_lm := ny F_lm.lt
 have lt_F_ch := ny F_ch.lt
 have lt_F_ct := ny F_ct.lt
 have lt_F_ln := ny F_ln.lt
 have lt_A1 := ny A1.lt
 refine Wk.iconst X0 hx (hD d11_0) (n := 1) rfl (z := (1 : Int32)) rfl ?_
 refine Wk.istoreN X0 hx (hD d11_1) (n := 2) rfl (L' := #[.val (.ref a1), .val (.int p1), .val (.int (1 : Int32))]) rfl ?_
 refine Wk.aloadN X0 hx (hD d11_2) (n := 3) rfl rfl rfl ?_
 refine Wk.getF X0 hx hZ hown (host := "") (Or.inl (oW hw 29 rfl)) Via.refl e0 F_ch (hD d11_3) (n := 6) rfl fun T1 X1 e1 => ?_
 refine Wk.ifnullNo X1 hx (hD d11_6) (n := 9) rfl ?_
 refine Wk.aloadN X1 hx (hD d11_9) (n := 10) rfl rfl rfl ?_
 refine Wk.dup X1 hx (hD d11_10) (n := 11) rfl rfl ?_
 refine Wk.getF X1 hx hZ hown (host := "") (Or.inl (oW hw 46 rfl)) Via.refl e1 F_ln (hD d11_11) (n := 14) rfl fun T2 X2 e2 => ?_
 refine Wk.iloadN X2 hx (hD d11_14) (n := 15) rfl rfl ?_
 refine Wk.aloadN X2 hx (hD d11_15) (n := 16) rfl rfl rfl ?_
 refine Wk.getF X2 hx hZ hown (host := "") (Or.inl (oW hw 29 rfl)) Via.refl e2 F_ch (hD d11_16) (n := 19) rfl fun T3 X3 e3 => ?_
 refine Wk.aloadN X3 hx (hD d11_19) (n := 20) rfl rfl rfl ?_
 refine Wk.getF X3 hx hZ hown (host := "") (Or.inl (oW hw 46 rfl)) Via.refl e3 F_ln (hD d11_20) (n := 23) rfl fun T4 X4 e4 => ?_
 have cl5_ := fun Ls (hLs : LsOk c Ls) => Jvm.LawKit.callS X4 hx (y := mn6) hown (mW hZ hw 54 rfl) (mW hZ hw 55 rfl) (mW hZ hw 37 rfl) (mW hZ hw 56 rfl) (by decide) (backOf (W := 2) (rmTC l Z a0 hw [] p1 ta (Int32.ofNat cs.length) ka cs Nz h0 n0 (by omega) A1 hb rfl (by omega) (by omega) (by omega)) hZ (oW hw 56 rfl) (oW hw 37 rfl) (by decide) (by decide)) (g := mkF m 23 Ls [(.int (Int32.ofNat cs.length)), (.ref ta), (.int p1), (.int (Int32.ofNat cs.length)), (.ref a1)]) rfl hLs (argsL := [(.int p1), (.ref ta), (.int (Int32.ofNat cs.length))]) (rest := [(.int (Int32.ofNat cs.length)), (.ref a1)]) (lenOf pd_5 rfl) rfl (leq0 rfl) (hD d11_23) (fun _ _ => ⟨rfl, e4, (by decide : 0 + 0 ≤ _), (by decide : 0 + 0 ≤ _)⟩)
 refine Wk.backS (n := 26) (rc := 0) (rs := 0) (Q := Q_rmTC Z p1 ta (Int32.ofNat cs.length) ka cs Nz h0 n0) (cl5_ _ (lsok hml rfl)) fun vn5 T5 L5 X5 hQ5 => ?_
 clear cl5_
 obtain ⟨rfl, M5, J5, p5_0⟩ := hQ5
 have N5 := Fr.app N0 M5
 have sz5 := J5.1
 have K5 := K0.trans J5 (allS (Or.inl (List.mem_of_getElem? (i := 1) rfl)) all0)
 have lt_p5_0 := ny p5_0.lt
 show Wk p e below _ T5 (mkF m 26 _ [(.int (1 : Int32)), (.int (Int32.ofNat cs.length)), (.ref a1)])
 refine Wk.iadd X5 hx (hD d11_26) (n := 27) rfl ?_
 have f6 := (F_ln.keep J5 (ninS (nz (by omega)) nin0))
 have f7 := (EF.keep J5)
 refine Wk.putF X5 hx hZ hown (host := "") (Or.inl (oW hw 46 rfl)) Via.refl rfl f6 f7 (Or.inl (oW hw 47 rfl)) (oW hw 3 rfl) (ty := .int) (by decide) rfl rfl (hD d11_27) (n := 30) rfl fun T8 H8 X8 e8 Wn8 => ?_
 have sz8 := Wn8.size
 have Fn8 := f6.same Wn8
 have K8 := K5.wr Wn8 (Or.inl (List.mem_of_getElem? (i := 0) rfl))
 have N8 := Fr.snoc X8 N5 (by omega)
 refine Wk.goto X8 hx (hD d11_30) (by decide) (n := 75) (by decide) ?_
 refine Wk.iloadN X8 hx (hD d11_75) (n := 76) rfl rfl ?_
 have f9 := (f7.wr Wn8)
 have f10 := ((F_at.keep J5 (ninS (nz (by omega)) nin0)).other Wn8 (Or.inr (slot_ne (Or.inl (oW hw 15 rfl)) (Or.inl (oW hw 47 rfl)) (by decide) (t := (.array .int)) (t' := .int) (by decide) (by decide))))
 have f11 := ((F_as.keep J5 (ninS (nz (by omega)) nin0)).other Wn8 (Or.inr (slot_ne (Or.inl (oW hw 19 rfl)) (Or.inl (oW hw 47 rfl)) (by decide) (t := (.array .char)) (t' := .int) (by decide) (by decide))))
 have f12 := ((F_by.keep J5 (ninS (nz (by omega)) nin0)).other Wn8 (Or.inr (slot_ne (Or.inl (oW hw 21 rfl)) (Or.inl (oW hw 47 rfl)) (by decide) (t := (.array .byte)) (t' := .int) (by decide) (by decide))))
 have f13 := ((F_lm.keep J5 (ninS (nz (by omega)) nin0)).other Wn8 (Or.inr (slot_ne (Or.inr (oW hw 23 rfl)) (Or.inl (oW hw 47 rfl)) (by decide) (t := .int) (t' := .int) (by decide) (by decide))))
 have f14 := ((F_ch.keep J5 (ninS (nz (by omega)) nin0)).other Wn8 (Or.inr (slot_ne (Or.inl (oW hw 30 rfl)) (Or.inl (oW hw 47 rfl)) (by decide) (t := (.array .char)) (t' := .int) (by decide) (by decide))))
 have f15 := ((F_ct.keep J5 (ninS (nz (by omega)) nin0)).other Wn8 (Or.inr (slot_ne (Or.inl (oW hw 41 rfl)) (Or.inl (oW hw 47 rfl)) (by decide) (t := .int) (t' := .int) (by decide) (by decide))))
 have f16 := (p5_0.other Wn8 (nz (by omega)))
 exact Wk.leave X8 (v := some (.int (1 : Int32))) (fun h => by rw [Bd.returns] at h; cases h) hlk e8 ⟨rfl, N8, K8, f9, f10, f11, f12, f13, f14, f15, (by have q := Fn8; rw [own_ln1 cs p1] at q; exact q), f16⟩ (by decide) (by decide) (fun fs hr => retNz X8 hx (t := .boolean) rfl Bd.returns (by simp) (hD d11_76) hr)
def Q_rmBB (Z : State) (a1 : Addr) (tf : Addr) (i2 : Int32) (i3 : Int32) (kf : ClassId) (fl : List Int32) (sn : Nat) (en : Nat) (ta : Addr) (ka : ClassId) (cs : List Int32) (Nz : Nat) (vat : Value) (vas : Value) (vlm : Value) (vct : Value) (h0 : Heap) (n0 : Nat) (v : Option Value) (h : Heap) (L : List Loc) : Prop := v = none ∧ Fr n0 L ∧ Keep h0 h [a1, ta] ∧ Exa Z h a1 "com/example/depeche/depeche/hl7/Text$Builder" ∧ Fld Z h a1 "com/example/depeche/depeche/hl7/Text$Builder" "asideAt" "[I" vat ∧ Fld Z h a1 "com/example/depeche/depeche/hl7/Text$Builder" "aside" "[C" vas ∧ Fld Z h a1 "com/example/depeche/depeche/hl7/Text$Builder" "bytes" "[B" (.ref ta) ∧ Fld Z h a1 "com/example/depeche/depeche/hl7/Text$Builder" "asideLimit" "I" vlm ∧ Fld Z h a1 "com/example/depeche/depeche/hl7/Text$Builder" "chars" "[C" .null ∧ Fld Z h a1 "com/example/depeche/depeche/hl7/Text$Builder" "asideCount" "I" vct ∧ Fld Z h a1 "com/example/depeche/depeche/hl7/Text$Builder" "length" "I" (.int (Int32.ofNat (cs ++ ((fl.drop sn).take (en - sn))).length)) ∧ Arv Z h ta ka .byte (Int32.ofNat Nz) (bsV (cs ++ ((fl.drop sn).take (en - sn)))) (.int (0 : Int32))
theorem ef_rmBB (m : MethodId) (x0 : Addr) (x1 : Addr) (x2 : Int32) (x3 : Int32) : entryFrame m #[(.ref x0), (.ref x1), (.int x2), (.int x3)] 5 = mkF m 0 #[.val (.ref x0), .val (.ref x1), .val (.int x2), .val (.int x3), .unset] [] := by first | (simp [entryFrame, mkF, argsToLocals, Value.category]; done) | rfl
theorem d12_0 : decode B12_ 0 = .ok (.aload_n 0, 1) := by decide +kernel
theorem d12_1 : decode B12_ 1 = .ok (.getfield 33, 3) := by decide +kernel
theorem d12_4 : decode B12_ 4 = .ok (.ifnonnull 34, 3) := by decide +kernel
theorem d12_7 : decode B12_ 7 = .ok (.aload_n 1, 1) := by decide +kernel
theorem d12_8 : decode B12_ 8 = .ok (.iload_n 2, 1) := by decide +kernel
theorem d12_9 : decode B12_ 9 = .ok (.aload_n 0, 1) := by decide +kernel
theorem d12_10 : decode B12_ 10 = .ok (.getfield 25, 3) := by decide +kernel
theorem d12_13 : decode B12_ 13 = .ok (.aload_n 0, 1) := by decide +kernel
theorem d12_14 : decode B12_ 14 = .ok (.getfield 36, 3) := by decide +kernel
theorem d12_17 : decode B12_ 17 = .ok (.iload_n 3, 1) := by decide +kernel
theorem d12_18 : decode B12_ 18 = .ok (.iload_n 2, 1) := by decide +kernel
theorem d12_19 : decode B12_ 19 = .ok (.isub, 1) := by decide +kernel
theorem d12_20 : decode B12_ 20 = .ok (.invokestatic 39, 3) := by decide +kernel
theorem d12_23 : decode B12_ 23 = .ok (.aload_n 0, 1) := by decide +kernel
theorem d12_24 : decode B12_ 24 = .ok (.dup, 1) := by decide +kernel
theorem d12_25 : decode B12_ 25 = .ok (.getfield 36, 3) := by decide +kernel
theorem d12_28 : decode B12_ 28 = .ok (.iload_n 3, 1) := by decide +kernel
theorem d12_29 : decode B12_ 29 = .ok (.iload_n 2, 1) := by decide +kernel
theorem d12_30 : decode B12_ 30 = .ok (.isub, 1) := by decide +kernel
theorem d12_31 : decode B12_ 31 = .ok (.iadd, 1) := by decide +kernel
theorem d12_32 : decode B12_ 32 = .ok (.putfield 36, 3) := by decide +kernel
theorem d12_35 : decode B12_ 35 = .ok (.goto 43, 3) := by decide +kernel
theorem d12_78 : decode B12_ 78 = .ok (.return_, 1) := by decide +kernel
theorem rmBB (hw : HW a0 Z) (ws : List Jvm.Cond) (a1 : Addr) (tf : Addr) (i2 : Int32) (i3 : Int32) (kf : ClassId) (fl : List Int32) (sn : Nat) (en : Nat) (ta : Addr) (ka : ClassId) (cs : List Int32) (Nz : Nat) (vat : Value) (vas : Value) (vlm : Value) (vct : Value) (h0 : Heap) (n0 : Nat) (Z0 : n0 ≤ h0.size) (EF : Exa Z h0 a1 "com/example/depeche/depeche/hl7/Text$Builder") (F_at : Fld Z h0 a1 "com/example/depeche/depeche/hl7/Text$Builder" "asideAt" "[I" vat) (F_as : Fld Z h0 a1 "com/example/depeche/depeche/hl7/Text$Builder" "aside" "[C" vas) (F_by : Fld Z h0 a1 "com/example/depeche/depeche/hl7/Text$Builder" "bytes" "[B" (.ref ta)) (F_lm : Fld Z h0 a1 "com/example/depeche/depeche/hl7/Text$Builder" "asideLimit" "I" vlm) (F_ch : Fld Z h0 a1 "com/example/depeche/depeche/hl7/Text$Builder" "chars" "[C" .null) (F_ct : Fld Z h0 a1 "com/example/depeche/depeche/hl7/Text$Builder" "asideCount" "I" vct) (F_ln : Fld Z h0 a1 "com/example/depeche/depeche/hl7/Text$Builder" "length" "I" (.int (Int32.ofNat cs.length))) (A1 : Arv Z h0 ta ka .byte (Int32.ofNat Nz) (bsV cs) (.int (0 : Int32))) (A2 : Arv Z h0 tf kf .byte (4 : Int32) (bsV fl) (.int (0 : Int32))) (h2 : i2 = Int32.ofNat sn) (h3 : i3 = Int32.ofNat en) (hs : sn ≤ en) (he : en ≤ 4) (hf4 : fl.length = 4) (hN : cs.length + (en - sn) ≤ Nz) (hNz : Nz ≤ 8) (g1 : n0 ≤ a1) (g2 : n0 ≤ ta) (hn : ¬ @Eq Nat ta a1) (hn2 : ¬ @Eq Nat tf a1) (hn3 : ¬ @Eq Nat tf ta) : MetN l Z mn12 prog_27_method_2_code 5 none ws (rM 1 0 0 32) #[(.ref a1), (.ref tf), (.int i2), (.int i3)] h0 (Q_rmBB Z a1 tf i2 i3 kf fl sn en ta ka cs Nz vat vas vlm vct h0 n0) := by
 refine enterN (plainFor_of_name pn_com_example_depeche_depeche_hl7_Text_Builder) (fun m => ef_rmBB m _ _ _ _) fun p e s m below meth c s₁ Bd hZ hx hD hlk hml hown hnm X0 e0 => ?_
 have N0 := Fr.nil n0
 have K0 := Keep.refl h0 [a1, ta]
 have lt_EF := ny EF.lt
 have lt_F_at := ny F_at.lt
 have lt_F_as := ny F_as.lt
 have lt_F_by := ny F_by.lt
 have lt_F_lm := ny F_lm.lt
 have lt_F_ch := ny F_ch.lt
 have lt_F_ct := ny F_ct.lt
 have lt_F_ln := ny F_ln.lt
 have lt_A1 := ny A1.lt
 have lt_A2 := ny A2.lt
 refine Wk.aloadN X0 hx (hD d12_0) (n := 1) rfl rfl rfl ?_
 refine Wk.getF X0 hx hZ hown (host := "") (Or.inl (oW hw 29 rfl)) Via.refl e0 F_ch (hD d12_1) (n := 4) rfl fun T1 X1 e1 => ?_
 refine Wk.ifnonnullNo X1 hx (hD d12_4) (n := 7) rfl ?_
 refine Wk.aloadN X1 hx (hD d12_7) (n := 8) rfl rfl rfl ?_
 refine Wk.iloadN X1 hx (hD d12_8) (n := 9) rfl rfl ?_
 refine Wk.aloadN X1 hx (hD d12_9) (n := 10) rfl rfl rfl ?_
 refine Wk.getF X1 hx hZ hown (host := "") (Or.inl (oW hw 20 rfl)) Via.refl e1 F_by (hD d12_10) (n := 13) rfl fun T2 X2 e2 => ?_
 refine Wk.aloadN X2 hx (hD d12_13) (n := 14) rfl rfl rfl ?_
 refine Wk.getF X2 hx hZ hown (host := "") (Or.inl (oW hw 46 rfl)) Via.refl e2 F_ln (hD d12_14) (n := 17) rfl fun T3 X3 e3 => ?_
 refine Wk.iloadN X3 hx (hD d12_17) (n := 18) rfl rfl ?_
 refine Wk.iloadN X3 hx (hD d12_18) (n := 19) rfl rfl ?_
 refine Wk.isub X3 hx (hD d12_19) (n := 20) rfl ?_
 have Pd := Arv.pad A1 (pad_rep (bsV cs) (.int (0 : Int32)) (en - sn))
 refine Wk.cpA X3 hx hZ hown (oW hw 180 rfl) (oW hw 176 rfl) (oW hw 174 rfl) (oW hw 175 rfl) e3 A2 Pd (Or.inl ⟨rfl, rfl⟩) (i := sn) (j := cs.length) (q := (en - sn)) h2 rfl (by rw [h2, h3]; exact own_ofsub hs) (by omega) (by omega) (by omega) (by show sn + (en - sn) ≤ 4; omega) (by rw [own_cl (by omega)]; omega) rfl (by simp [bsV]) N0 (by omega) (vn := (bsV (cs ++ ((fl.drop sn).take (en - sn))))) (own_vns (by omega)) (by rw [hml]; rfl) (hD d12_20) (n := 23) rfl (by decide) (w := 0) (Nat.le_of_eq rfl) (by decide) fun T4 H4 Lc4 X4 e4 N4 J4 Vn4 => ?_
 have sz4 := J4.1
 have K4 := K0.trans J4 (allS (Or.inl (List.mem_of_getElem? (i := 1) rfl)) all0)
 refine Wk.aloadN X4 hx (hD d12_23) (n := 24) rfl rfl rfl ?_
 refine Wk.dup X4 hx (hD d12_24) (n := 25) rfl rfl ?_
 have f5 := (F_ln.keep J4 (ninS (nz (by omega)) nin0))
 refine Wk.getF X4 hx hZ hown (host := "") (Or.inl (oW hw 46 rfl)) Via.refl e4 f5 (hD d12_25) (n := 28) rfl fun T6 X6 e6 => ?_
 refine Wk.iloadN X6 hx (hD d12_28) (n := 29) rfl rfl ?_
 refine Wk.iloadN X6 hx (hD d12_29) (n := 30) rfl rfl ?_
 refine Wk.isub X6 hx (hD d12_30) (n := 31) rfl ?_
 refine Wk.iadd X6 hx (hD d12_31) (n := 32) rfl ?_
 have f7 := (EF.keep J4)
 refine Wk.putF X6 hx hZ hown (host := "") (Or.inl (oW hw 46 rfl)) Via.refl e6 f5 f7 (Or.inl (oW hw 47 rfl)) (oW hw 3 rfl) (ty := .int) (by decide) rfl rfl (hD d12_32) (n := 35) rfl fun T8 H8 X8 e8 Wn8 => ?_
 have sz8 := Wn8.size
 have Fn8 := f5.same Wn8
 have K8 := K4.wr Wn8 (Or.inl (List.mem_of_getElem? (i := 0) rfl))
 have N8 := Fr.snoc X8 N4 (by omega)
 refine Wk.goto X8 hx (hD d12_35) (by decide) (n := 78) (by decide) ?_
 have f9 := (f7.wr Wn8)
 have f10 := ((F_at.keep J4 (ninS (nz (by omega)) nin0)).other Wn8 (Or.inr (slot_ne (Or.inl (oW hw 15 rfl)) (Or.inl (oW hw 47 rfl)) (by decide) (t := (.array .int)) (t' := .int) (by decide) (by decide))))
 have f11 := ((F_as.keep J4 (ninS (nz (by omega)) nin0)).other Wn8 (Or.inr (slot_ne (Or.inl (oW hw 19 rfl)) (Or.inl (oW hw 47 rfl)) (by decide) (t := (.array .char)) (t' := .int) (by decide) (by decide))))
 have f12 := ((F_by.keep J4 (ninS (nz (by omega)) nin0)).other Wn8 (Or.inr (slot_ne (Or.inl (oW hw 21 rfl)) (Or.inl (oW hw 47 rfl)) (by decide) (t := (.array .byte)) (t' := .int) (by decide) (by decide))))
 have f13 := ((F_lm.keep J4 (ninS (nz (by omega)) nin0)).other Wn8 (Or.inr (slot_ne (Or.inr (oW hw 23 rfl)) (Or.inl (oW hw 47 rfl)) (by decide) (t := .int) (t' := .int) (by decide) (by decide))))
 have f14 := ((F_ch.keep J4 (ninS (nz (by omega)) nin0)).other Wn8 (Or.inr (slot_ne (Or.inl (oW hw 30 rfl)) (Or.inl (oW hw 47 rfl)) (by decide) (t := (.array .char)) (t' := .int) (by decide) (by decide))))
 have f15 := ((F_ct.keep J4 (ninS (nz (by omega)) nin0)).other Wn8 (Or.inr (slot_ne (Or.inl (oW hw 41 rfl)) (Or.inl (oW hw 47 rfl)) (by decide) (t := .int) (t' := .int) (by decide) (by decide))))
 have f16 := (Vn4.other Wn8 (nz (by omega)))
 exact Wk.leave X8 (v := none) (fun _ => rfl) hlk e8 ⟨rfl, N8, K8, f9, f10, f11, f12, f13, f14, f15, (by have q := Fn8; rw [h2, h3, own_ofsub hs, own_ofadd, own_sll (fl := fl) (sn := sn) (q := en - sn) (by omega)] at q; exact q), f16⟩ (by decide) (by decide) (fun fs hr => X8.returnOut hx Bd.returns (hD d12_78) hr)
def Q_rmBC (Z : State) (a1 : Addr) (tf : Addr) (i2 : Int32) (i3 : Int32) (kf : ClassId) (fl : List Int32) (sn : Nat) (en : Nat) (ta : Addr) (ka : ClassId) (cs : List Int32) (Nz : Nat) (vat : Value) (vas : Value) (vlm : Value) (vct : Value) (vby : Value) (h0 : Heap) (n0 : Nat) (v : Option Value) (h : Heap) (L : List Loc) : Prop := v = none ∧ Fr n0 L ∧ Keep h0 h [a1, ta] ∧ Exa Z h a1 "com/example/depeche/depeche/hl7/Text$Builder" ∧ Fld Z h a1 "com/example/depeche/depeche/hl7/Text$Builder" "asideAt" "[I" vat ∧ Fld Z h a1 "com/example/depeche/depeche/hl7/Text$Builder" "aside" "[C" vas ∧ Fld Z h a1 "com/example/depeche/depeche/hl7/Text$Builder" "bytes" "[B" vby ∧ Fld Z h a1 "com/example/depeche/depeche/hl7/Text$Builder" "asideLimit" "I" vlm ∧ Fld Z h a1 "com/example/depeche/depeche/hl7/Text$Builder" "chars" "[C" (.ref ta) ∧ Fld Z h a1 "com/example/depeche/depeche/hl7/Text$Builder" "asideCount" "I" vct ∧ Fld Z h a1 "com/example/depeche/depeche/hl7/Text$Builder" "length" "I" (.int (Int32.ofNat (cs ++ ((fl.drop sn).take (en - sn))).length)) ∧ Arv Z h ta ka .char (Int32.ofNat Nz) (chV (cs ++ ((fl.drop sn).take (en - sn)))) (.int (0 : Int32))
theorem ef_rmBC (m : MethodId) (x0 : Addr) (x1 : Addr) (x2 : Int32) (x3 : Int32) : entryFrame m #[(.ref x0), (.ref x1), (.int x2), (.int x3)] 5 = mkF m 0 #[.val (.ref x0), .val (.ref x1), .val (.int x2), .val (.int x3), .unset] [] := by first | (simp [entryFrame, mkF, argsToLocals, Value.category]; done) | rfl
theorem d12_41 : decode B12_ 41 = .ok (.iload 4, 2) := by decide +kernel
theorem d12_43 : decode B12_ 43 = .ok (.iload_n 3, 1) := by decide +kernel
theorem d12_44 : decode B12_ 44 = .ok (.if_icmp .ge 34, 3) := by decide +kernel
theorem d12_47 : decode B12_ 47 = .ok (.aload_n 0, 1) := by decide +kernel
theorem d12_48 : decode B12_ 48 = .ok (.getfield 33, 3) := by decide +kernel
theorem d12_51 : decode B12_ 51 = .ok (.aload_n 0, 1) := by decide +kernel
theorem d12_52 : decode B12_ 52 = .ok (.dup, 1) := by decide +kernel
theorem d12_53 : decode B12_ 53 = .ok (.getfield 36, 3) := by decide +kernel
theorem d12_56 : decode B12_ 56 = .ok (.dup_x1, 1) := by decide +kernel
theorem d12_57 : decode B12_ 57 = .ok (.iconst 1, 1) := by decide +kernel
theorem d12_58 : decode B12_ 58 = .ok (.iadd, 1) := by decide +kernel
theorem d12_59 : decode B12_ 59 = .ok (.putfield 36, 3) := by decide +kernel
theorem d12_62 : decode B12_ 62 = .ok (.aload_n 1, 1) := by decide +kernel
theorem d12_63 : decode B12_ 63 = .ok (.iload 4, 2) := by decide +kernel
theorem d12_65 : decode B12_ 65 = .ok (.baload, 1) := by decide +kernel
theorem d12_66 : decode B12_ 66 = .ok (.sipush 255, 3) := by decide +kernel
theorem d12_69 : decode B12_ 69 = .ok (.iand, 1) := by decide +kernel
theorem d12_70 : decode B12_ 70 = .ok (.i2c, 1) := by decide +kernel
theorem d12_71 : decode B12_ 71 = .ok (.castore, 1) := by decide +kernel
theorem d12_72 : decode B12_ 72 = .ok (.iinc 4 1, 3) := by decide +kernel
theorem d12_75 : decode B12_ 75 = .ok (.goto (-34), 3) := by decide +kernel
theorem d12_38 : decode B12_ 38 = .ok (.iload_n 2, 1) := by decide +kernel
theorem d12_39 : decode B12_ 39 = .ok (.istore 4, 2) := by decide +kernel
theorem rmBC (hw : HW a0 Z) (ws : List Jvm.Cond) (a1 : Addr) (tf : Addr) (i2 : Int32) (i3 : Int32) (kf : ClassId) (fl : List Int32) (sn : Nat) (en : Nat) (ta : Addr) (ka : ClassId) (cs : List Int32) (Nz : Nat) (vat : Value) (vas : Value) (vlm : Value) (vct : Value) (vby : Value) (h0 : Heap) (n0 : Nat) (Z0 : n0 ≤ h0.size) (EF : Exa Z h0 a1 "com/example/depeche/depeche/hl7/Text$Builder") (F_at : Fld Z h0 a1 "com/example/depeche/depeche/hl7/Text$Builder" "asideAt" "[I" vat) (F_as : Fld Z h0 a1 "com/example/depeche/depeche/hl7/Text$Builder" "aside" "[C" vas) (F_by : Fld Z h0 a1 "com/example/depeche/depeche/hl7/Text$Builder" "bytes" "[B" vby) (F_lm : Fld Z h0 a1 "com/example/depeche/depeche/hl7/Text$Builder" "asideLimit" "I" vlm) (F_ch : Fld Z h0 a1 "com/example/depeche/depeche/hl7/Text$Builder" "chars" "[C" (.ref ta)) (F_ct : Fld Z h0 a1 "com/example/depeche/depeche/hl7/Text$Builder" "asideCount" "I" vct) (F_ln : Fld Z h0 a1 "com/example/depeche/depeche/hl7/Text$Builder" "length" "I" (.int (Int32.ofNat cs.length))) (A1 : Arv Z h0 ta ka .char (Int32.ofNat Nz) (chV cs) (.int (0 : Int32))) (A2 : Arv Z h0 tf kf .byte (4 : Int32) (bsV fl) (.int (0 : Int32))) (hp : ∀ c ∈ fl, ¬ c < 0 ∧ ¬ (255 : Int32) < c) (h2 : i2 = Int32.ofNat sn) (h3 : i3 = Int32.ofNat en) (hs : sn ≤ en) (he : en ≤ 4) (hf4 : fl.length = 4) (hN : cs.length + (en - sn) ≤ Nz) (hNz : Nz ≤ 8) (g1 : n0 ≤ a1) (g2 : n0 ≤ ta) (hn : ¬ @Eq Nat ta a1) (hn2 : ¬ @Eq Nat tf a1) (hn3 : ¬ @Eq Nat tf ta) : MetN l Z mn12 prog_27_method_2_code 5 none ws (rM 0 0 0 0) #[(.ref a1), (.ref tf), (.int i2), (.int i3)] h0 (Q_rmBC Z a1 tf i2 i3 kf fl sn en ta ka cs Nz vat vas vlm vct vby h0 n0) := by
 refine enterN (plainFor_of_name pn_com_example_depeche_depeche_hl7_Text_Builder) (fun m => ef_rmBC m _ _ _ _) fun p e s m below meth c s₁ Bd hZ hx hD hlk hml hown hnm X0 e0 => ?_
 have N0 := Fr.nil n0
 have K0 := Keep.refl h0 [a1, ta]
 have lt_EF := ny EF.lt
 have lt_F_at := ny F_at.lt
 have lt_F_as := ny F_as.lt
 have lt_F_by := ny F_by.lt
 have lt_F_lm := ny F_lm.lt
 have lt_F_ch := ny F_ch.lt
 have lt_F_ct := ny F_ct.lt
 have lt_F_ln := ny F_ln.lt
 have lt_A1 := ny A1.lt
 have lt_A2 := ny A2.lt
 have loopA : ∀ (fu : Nat) (Tj1 : State) (Hj1 : Heap) (Lcj1 : List Loc) (cq : List Int32) (j4 : Int32) (mz : Nat), (Stand p l e (rM 0 0 0 0) s m #[(.ref a1), (.ref tf), (.int i2), (.int i3)] below meth c Tj1 Lcj1 0 0) → (Tj1.heap = Hj1) → (Keep h0 Hj1 [a1, ta]) → (Fr n0 Lcj1) → (Exa Z Hj1 a1 "com/example/depeche/depeche/hl7/Text$Builder") → (Fld Z Hj1 a1 "com/example/depeche/depeche/hl7/Text$Builder" "asideAt" "[I" vat) → (Fld Z Hj1 a1 "com/example/depeche/depeche/hl7/Text$Builder" "aside" "[C" vas) → (Fld Z Hj1 a1 "com/example/depeche/depeche/hl7/Text$Builder" "bytes" "[B" vby) → (Fld Z Hj1 a1 "com/example/depeche/depeche/hl7/Text$Builder" "asideLimit" "I" vlm) → (Fld Z Hj1 a1 "com/example/depeche/depeche/hl7/Text$Builder" "chars" "[C" (.ref ta)) → (Fld Z Hj1 a1 "com/example/depeche/depeche/hl7/Text$Builder" "asideCount" "I" vct) → (Fld Z Hj1 a1 "com/example/depeche/depeche/hl7/Text$Builder" "length" "I" (.int (Int32.ofNat cq.length))) → (Arv Z Hj1 ta ka .char (Int32.ofNat Nz) (chV cq) (.int (0 : Int32))) → (Arv Z Hj1 tf kf .byte (4 : Int32) (bsV fl) (.int (0 : Int32))) → (en - (sn + mz) < fu) → (j4 = Int32.ofNat (sn + mz)) → (sn + mz ≤ en) → (cq = cs ++ (fl.drop sn).take mz) → Wk p e below (EndN s (Q_rmBC Z a1 tf i2 i3 kf fl sn en ta ka cs Nz vat vas vlm vct vby h0 n0) (rM 0 0 0 0).cells (rM 0 0 0 0).slots) Tj1 (mkF m 41 #[.val (.ref a1), .val (.ref tf), .val (.int i2), .val (.int i3), .val (.int j4)] []) := by
  intro fu
  induction fu with
  | zero => intros; exfalso; omega
  | succ fu ih =>
   intro Tj1 Hj1 Lcj1 cq j4 mz Xj1 ej1 Kj1 Nj1 EG G_at G_as G_by G_lm G_ch G_ct G_ln B1_ B2_ hfu q4 hm hcq
   have szj1 := Kj1.1
   have lt_EG := ny EG.lt
   have lt_G_at := ny G_at.lt
   have lt_G_as := ny G_as.lt
   have lt_G_by := ny G_by.lt
   have lt_G_lm := ny G_lm.lt
   have lt_G_ch := ny G_ch.lt
   have lt_G_ct := ny G_ct.lt
   have lt_G_ln := ny G_ln.lt
   have lt_B1_ := ny B1_.lt
   have lt_B2_ := ny B2_.lt
   have hcl : cq.length = cs.length + mz := by rw [hcq, List.length_append, List.length_take, List.length_drop]; omega
   refine Wk.iload Xj1 hx (hD d12_41) (n := 43) rfl rfl ?_
   refine Wk.iloadN Xj1 hx (hD d12_43) (n := 44) rfl rfl ?_
   by_cases hc44 : j4 < i3
   ·
    refine Wk.icmpNo Xj1 hx (hD d12_44) (n := 47) rfl (tlt hc44).2.1 ?_
    have hlt : sn + mz < en := by rw [q4, h3] at hc44; exact (own_lt (by omega) (by omega)).mp hc44
    have hlf : sn + mz < fl.length := by omega
    refine Wk.aloadN Xj1 hx (hD d12_47) (n := 48) rfl rfl rfl ?_
    refine Wk.getF Xj1 hx hZ hown (host := "") (Or.inl (oW hw 29 rfl)) Via.refl ej1 G_ch (hD d12_48) (n := 51) rfl fun T2 X2 e2 => ?_
    refine Wk.aloadN X2 hx (hD d12_51) (n := 52) rfl rfl rfl ?_
    refine Wk.dup X2 hx (hD d12_52) (n := 53) rfl rfl ?_
    refine Wk.getF X2 hx hZ hown (host := "") (Or.inl (oW hw 46 rfl)) Via.refl e2 G_ln (hD d12_53) (n := 56) rfl fun T3 X3 e3 => ?_
    refine Wk.dupX1 X3 hx (hD d12_56) (n := 57) rfl rfl rfl ?_
    refine Wk.iconst X3 hx (hD d12_57) (n := 58) rfl (z := (1 : Int32)) rfl ?_
    refine Wk.iadd X3 hx (hD d12_58) (n := 59) rfl ?_
    refine Wk.putF X3 hx hZ hown (host := "") (Or.inl (oW hw 46 rfl)) Via.refl e3 G_ln EG (Or.inl (oW hw 47 rfl)) (oW hw 3 rfl) (ty := .int) (by decide) rfl rfl (hD d12_59) (n := 62) rfl fun T4 H4 X4 e4 Wn4 => ?_
    have sz4 := Wn4.size
    have Fn4 := G_ln.same Wn4
    have K4 := Kj1.wr Wn4 (Or.inl (List.mem_of_getElem? (i := 0) rfl))
    have N4 := Fr.snoc X4 Nj1 (by omega)
    refine Wk.aloadN X4 hx (hD d12_62) (n := 63) rfl rfl rfl ?_
    refine Wk.iload X4 hx (hD d12_63) (n := 65) rfl rfl ?_
    have f6 := (B2_.other Wn4 (nz (by omega)))
    obtain ⟨cl5, Ar5, qn5, Sz5, N_5, H_5, Gn5⟩ := id f6
    have hin5 : ¬ (j4 < 0 ∨ cl5.slots.size ≤ (j4).toNatClampNeg) := inb_of Sz5 (by rw [q4]; exact ⟨own_nonneg (by omega), (own_lt (b := 4) (by omega) (by decide)).mpr (by omega)⟩)
    refine Wk.baloadBytes X4 hx hZ e4 Ar5 (v := (.int ((fl.getD (sn + mz) 0).toInt8.toInt32))) hin5 (H_5.at hin5 (by rw [q4, own_cl (by omega)]; exact own_bsg hlf)) (hD d12_65) (n := 66) rfl ?_
    refine Wk.sipush X4 hx (hD d12_66) (n := 69) rfl (z := (255 : Int32)) rfl ?_
    refine Wk.iand X4 hx (hD d12_69) (n := 70) rfl ?_
    refine Wk.i2c X4 hx (hD d12_70) (n := 71) rfl rfl ?_
    have f8 := (B1_.other Wn4 (nz (by omega)))
    have Pd7 := Arv.pad f8 (pad_rep (chV cq) (.int (0 : Int32)) 1)
    obtain ⟨cl9, Ar9, qn9, Sz9, N_9, H_9, Gn9⟩ := id Pd7
    have hin9 : ¬ ((Int32.ofNat cq.length) < 0 ∨ cl9.slots.size ≤ ((Int32.ofNat cq.length)).toNatClampNeg) := inb_of Sz9 (by exact ⟨own_nonneg (by omega), (own_lt (by omega) (by omega)).mpr (by omega)⟩)
    refine Wk.stC X4 hx hZ e4 Ar9 hin9 (hD d12_71) (n := 72) rfl fun T9 H9 X9 e9 Wn9 => ?_
    have Vn9 := Arv.set Ar9 qn9 Sz9 N_9 H_9 Gn9 (fits_nar_char _) Wn9 cq.length (by exact own_cl (by omega)) (by simp [chV])
    have Un9 : Arv Z H9 ta ka .char (Int32.ofNat Nz) (chV (cq ++ [(fl.getD (sn + mz) 0)])) (.int (0 : Int32)) := own_arv (own_sc1 (own_lat (hp _ (own_mem hlf)))) Vn9
    have sz9 := Wn9.size
    have K9 := K4.wr Wn9 (Or.inl (List.mem_of_getElem? (i := 1) rfl))
    have N9 := Fr.snoc X9 N4 (by omega)
    refine Wk.iinc X9 hx (hD d12_72) (n := 75) rfl rfl (L' := #[.val (.ref a1), .val (.ref tf), .val (.int i2), .val (.int i3), .val (.int (j4 + (1 : Int32)))]) rfl ?_
    refine Wk.goto X9 hx (hD d12_75) (by decide) (n := 41) (by decide) ?_
    have f10 := (Fn4.other Wn9 (Or.inl (nz (by omega))))
    have f11 := ((EG.wr Wn4).wr Wn9)
    have f12 := ((G_at.other Wn4 (Or.inr (slot_ne (Or.inl (oW hw 15 rfl)) (Or.inl (oW hw 47 rfl)) (by decide) (t := (.array .int)) (t' := .int) (by decide) (by decide)))).other Wn9 (Or.inl (nz (by omega))))
    have f13 := ((G_as.other Wn4 (Or.inr (slot_ne (Or.inl (oW hw 19 rfl)) (Or.inl (oW hw 47 rfl)) (by decide) (t := (.array .char)) (t' := .int) (by decide) (by decide)))).other Wn9 (Or.inl (nz (by omega))))
    have f14 := ((G_by.other Wn4 (Or.inr (slot_ne (Or.inl (oW hw 21 rfl)) (Or.inl (oW hw 47 rfl)) (by decide) (t := (.array .byte)) (t' := .int) (by decide) (by decide)))).other Wn9 (Or.inl (nz (by omega))))
    have f15 := ((G_lm.other Wn4 (Or.inr (slot_ne (Or.inr (oW hw 23 rfl)) (Or.inl (oW hw 47 rfl)) (by decide) (t := .int) (t' := .int) (by decide) (by decide)))).other Wn9 (Or.inl (nz (by omega))))
    have f16 := ((G_ch.other Wn4 (Or.inr (slot_ne (Or.inl (oW hw 30 rfl)) (Or.inl (oW hw 47 rfl)) (by decide) (t := (.array .char)) (t' := .int) (by decide) (by decide)))).other Wn9 (Or.inl (nz (by omega))))
    have f17 := ((G_ct.other Wn4 (Or.inr (slot_ne (Or.inl (oW hw 41 rfl)) (Or.inl (oW hw 47 rfl)) (by decide) (t := .int) (t' := .int) (by decide) (by decide)))).other Wn9 (Or.inl (nz (by omega))))
    have f18 := (f6.other Wn9 (nz (by omega)))
    exact ih T9 H9 _ (cq ++ [(fl.getD (sn + mz) 0)]) (j4 + (1 : Int32)) (mz + 1) (X9.mono (by decide) (by decide)) e9 K9 N9 f11 f12 f13 f14 f15 f16 f17 (by have q := f10; rw [own_ln1 cq (fl.getD (sn + mz) 0)] at q; exact q) Un9 f18 (by omega) (by rw [q4]; exact own_ofadd (sn + mz) 1) (by omega) (by rw [hcq, own_tk2 hlf, List.append_assoc])
   ·
    refine Wk.icmpYes Xj1 hx (hD d12_44) (flt hc44).2.1 (by decide) (n := 78) (by decide) ?_
    have hmz : mz = en - sn := by have q : ¬ sn + mz < en := fun q => hc44 (by rw [q4, h3]; exact (own_lt (by omega) (by omega)).mpr q); omega
    have hcz : cq = cs ++ ((fl.drop sn).take (en - sn)) := by rw [hcq, hmz]
    exact Wk.leave Xj1 (v := none) (fun _ => rfl) hlk ej1 ⟨rfl, Nj1, Kj1, EG, G_at, G_as, G_by, G_lm, G_ch, G_ct, (by rw [← hcz]; exact G_ln), (by rw [← hcz]; exact B1_)⟩ (by decide) (by decide) (fun fs hr => Xj1.returnOut hx Bd.returns (hD d12_78) hr)
 refine Wk.aloadN X0 hx (hD d12_0) (n := 1) rfl rfl rfl ?_
 refine Wk.getF X0 hx hZ hown (host := "") (Or.inl (oW hw 29 rfl)) Via.refl e0 F_ch (hD d12_1) (n := 4) rfl fun T19 X19 e19 => ?_
 refine Wk.ifnonnullYes X19 hx (hD d12_4) (by decide) (n := 38) (by decide) ?_
 refine Wk.iloadN X19 hx (hD d12_38) (n := 39) rfl rfl ?_
 refine Wk.istore X19 hx (hD d12_39) (n := 41) rfl (L' := #[.val (.ref a1), .val (.ref tf), .val (.int i2), .val (.int i3), .val (.int i2)]) rfl ?_
 exact loopA (en + 1) T19 h0 _ cs i2 0 (X19.mono (by decide) (by decide)) e19 K0 N0 EF F_at F_as F_by F_lm F_ch F_ct F_ln A1 A2 (by omega) h2 (by omega) (by simp)
def Q_rmRN (Z : State) (a1 : Addr) (h0 : Heap) (n0 : Nat) (v : Option Value) (h : Heap) (L : List Loc) : Prop := v = some (.ref a1) ∧ Fr n0 L ∧ h = h0
theorem ef_rmRN (m : MethodId) (x0 : Addr) : entryFrame m #[(.ref x0)] 1 = mkF m 0 #[.val (.ref x0)] [] := by first | (simp [entryFrame, mkF, argsToLocals, Value.category]; done) | rfl
theorem pn_java_util_Objects : plainName "java/util/Objects" = true := by first | (simp [plainName, overriddenIn]; done) | decide +kernel
theorem d13_0 : decode B13_ 0 = .ok (.aload_n 0, 1) := by decide +kernel
theorem d13_1 : decode B13_ 1 = .ok (.ifnonnull 11, 3) := by decide +kernel
theorem d13_12 : decode B13_ 12 = .ok (.aload_n 0, 1) := by decide +kernel
theorem d13_13 : decode B13_ 13 = .ok (.areturn, 1) := by decide +kernel
theorem rmRN (hw : HW a0 Z) (ws : List Jvm.Cond) (a1 : Addr) (h0 : Heap) (n0 : Nat) (Z0 : n0 ≤ h0.size) : MetN l Z mn13 jdk_31_method_10_code 1 (some (.object "java/lang/Object")) ws (rM 0 0 0 0) #[(.ref a1)] h0 (Q_rmRN Z a1 h0 n0) := by
 refine enterN (plainFor_of_name pn_java_util_Objects) (fun m => ef_rmRN m _) fun p e s m below meth c s₁ Bd hZ hx hD hlk hml hown hnm X0 e0 => ?_
 have N0 := Fr.nil n0
 have K0 := Keep.refl h0 []
 refine Wk.aloadN X0 hx (hD d13_0) (n := 1) rfl rfl rfl ?_
 refine Wk.ifnonnullYes X0 hx (hD d13_1) (by decide) (n := 12) (by decide) ?_
 refine Wk.aloadN X0 hx (hD d13_12) (n := 13) rfl rfl rfl ?_
 exact Wk.leave X0 (v := some (.ref a1)) (fun h => by rw [Bd.returns] at h; cases h) hlk e0 ⟨rfl, N0, rfl⟩ (by decide) (by decide) (fun fs hr => retA X0 hx rfl Bd.returns rfl (hD d13_13) hr)
def Q_rmFI (Z : State) (i1 : Int32) (i2 : Int32) (fm : Value) (uz : Nat) (vz : Nat) (h0 : Heap) (n0 : Nat) (v : Option Value) (h : Heap) (L : List Loc) : Prop := v = some (.int (0 : Int32)) ∧ Fr n0 L ∧ h = h0
theorem ef_rmFI (m : MethodId) (x1 : Int32) (x2 : Int32) (x3 : Value) (hq3 : x3.isRef = true) : entryFrame m #[(.int (0 : Int32)), (.int x1), (.int x2), x3] 4 = mkF m 0 #[.val (.int (0 : Int32)), .val (.int x1), .val (.int x2), .val x3] [] := by rcases ref_cases hq3 with rfl | ⟨z3, rfl⟩ <;> first | (simp [entryFrame, mkF, argsToLocals, Value.category]; done) | rfl
theorem pn_jdk_internal_util_Preconditions : plainName "jdk/internal/util/Preconditions" = true := by first | (simp [plainName, overriddenIn]; done) | decide +kernel
theorem d14_0 : decode B14_ 0 = .ok (.iload_n 2, 1) := by decide +kernel
theorem d14_1 : decode B14_ 1 = .ok (.iload_n 0, 1) := by decide +kernel
theorem d14_2 : decode B14_ 2 = .ok (.ior, 1) := by decide +kernel
theorem d14_3 : decode B14_ 3 = .ok (.iload_n 1, 1) := by decide +kernel
theorem d14_4 : decode B14_ 4 = .ok (.ior, 1) := by decide +kernel
theorem d14_5 : decode B14_ 5 = .ok (.ifCond .lt 10, 3) := by decide +kernel
theorem d14_8 : decode B14_ 8 = .ok (.iload_n 1, 1) := by decide +kernel
theorem d14_9 : decode B14_ 9 = .ok (.iload_n 2, 1) := by decide +kernel
theorem d14_10 : decode B14_ 10 = .ok (.iload_n 0, 1) := by decide +kernel
theorem d14_11 : decode B14_ 11 = .ok (.isub, 1) := by decide +kernel
theorem d14_12 : decode B14_ 12 = .ok (.if_icmp .le 11, 3) := by decide +kernel
theorem d14_23 : decode B14_ 23 = .ok (.iload_n 0, 1) := by decide +kernel
theorem d14_24 : decode B14_ 24 = .ok (.ireturn, 1) := by decide +kernel
theorem rmFI (hw : HW a0 Z) (ws : List Jvm.Cond) (i1 : Int32) (i2 : Int32) (fm : Value) (uz : Nat) (vz : Nat) (h0 : Heap) (n0 : Nat) (Z0 : n0 ≤ h0.size) (hFM : fm.isRef = true) (h1 : i1 = Int32.ofNat uz) (h2 : i2 = Int32.ofNat vz) (hu : uz ≤ vz) (hv : vz ≤ 8) : MetN l Z mn14 jdk_41_method_13_code 4 (some .int) ws (rM 0 0 0 0) #[(.int (0 : Int32)), (.int i1), (.int i2), fm] h0 (Q_rmFI Z i1 i2 fm uz vz h0 n0) := by
 refine enterN (plainFor_of_name pn_jdk_internal_util_Preconditions) (fun m => ef_rmFI m _ _ _ hFM) fun p e s m below meth c s₁ Bd hZ hx hD hlk hml hown hnm X0 e0 => ?_
 have N0 := Fr.nil n0
 have K0 := Keep.refl h0 []
 refine Wk.iloadN X0 hx (hD d14_0) (n := 1) rfl rfl ?_
 refine Wk.iloadN X0 hx (hD d14_1) (n := 2) rfl rfl ?_
 refine Wk.ior X0 hx (hD d14_2) (n := 3) rfl ?_
 refine Wk.iloadN X0 hx (hD d14_3) (n := 4) rfl rfl ?_
 refine Wk.ior X0 hx (hD d14_4) (n := 5) rfl ?_
 have hc5_1 : ¬ (((i2 ||| (0 : Int32)) ||| i1) < (0 : Int32)) := by rw [h1, h2]; exact own_or8 (by omega) (by omega)
 refine Wk.ifNo X0 hx (hD d14_5) (n := 8) rfl ((if0 _ _).trans (flt hc5_1).1) ?_
 refine Wk.iloadN X0 hx (hD d14_8) (n := 9) rfl rfl ?_
 refine Wk.iloadN X0 hx (hD d14_9) (n := 10) rfl rfl ?_
 refine Wk.iloadN X0 hx (hD d14_10) (n := 11) rfl rfl ?_
 refine Wk.isub X0 hx (hD d14_11) (n := 12) rfl ?_
 have hc12_2 : ¬ ((i2 - (0 : Int32)) < i1) := by rw [h1, h2, own_sub0]; exact fun q => absurd ((own_lt (by omega) (by omega)).mp q) (by omega)
 refine Wk.icmpYes X0 hx (hD d14_12) (flt hc12_2).2.2.2 (by decide) (n := 23) (by decide) ?_
 refine Wk.iloadN X0 hx (hD d14_23) (n := 24) rfl rfl ?_
 exact Wk.leave X0 (v := some (.int (0 : Int32))) (fun h => by rw [Bd.returns] at h; cases h) hlk e0 ⟨rfl, N0, rfl⟩ (by decide) (by decide) (fun fs hr => retI X0 hx Bd.returns (hD d14_24) hr)
def Q_rmBO (Z : State) (i1 : Int32) (i2 : Int32) (fm : Value) (uz : Nat) (vz : Nat) (h0 : Heap) (n0 : Nat) (v : Option Value) (h : Heap) (L : List Loc) : Prop := v = some (.int (0 : Int32)) ∧ Fr n0 L ∧ h = h0
theorem ef_rmBO (m : MethodId) (x1 : Int32) (x2 : Int32) : entryFrame m #[(.int (0 : Int32)), (.int x1), (.int x2)] 3 = mkF m 0 #[.val (.int (0 : Int32)), .val (.int x1), .val (.int x2)] [] := by first | (simp [entryFrame, mkF, argsToLocals, Value.category]; done) | rfl
theorem pn_java_lang_String : plainName "java/lang/String" = true := by first | (simp [plainName, overriddenIn]; done) | decide +kernel
theorem d15_0 : decode B15_ 0 = .ok (.iload_n 0, 1) := by decide +kernel
theorem d15_1 : decode B15_ 1 = .ok (.iload_n 1, 1) := by decide +kernel
theorem d15_2 : decode B15_ 2 = .ok (.iload_n 2, 1) := by decide +kernel
theorem d15_3 : decode B15_ 3 = .ok (.getstatic 1053, 3) := by decide +kernel
theorem d15_6 : decode B15_ 6 = .ok (.invokestatic 1065, 3) := by decide +kernel
theorem pd_7 : parseMethodDescriptor "(IIILjava/util/function/BiFunction;)I" = some ⟨[.int, .int, .int, (.object "java/util/function/BiFunction")], some .int⟩ := by decide +kernel
theorem d15_9 : decode B15_ 9 = .ok (.ireturn, 1) := by decide +kernel
theorem rmBO (hw : HW a0 Z) (ws : List Jvm.Cond) (i1 : Int32) (i2 : Int32) (fm : Value) (uz : Nat) (vz : Nat) (h0 : Heap) (n0 : Nat) (Z0 : n0 ≤ h0.size) (S5 : Sta Z Z.heap "jdk/internal/util/Preconditions" "SIOOBE_FORMATTER" "Ljava/util/function/BiFunction;" fm) (O1 : Old Z n0 h0) (hFM : fm.isRef = true) (h1 : i1 = Int32.ofNat uz) (h2 : i2 = Int32.ofNat vz) (hu : uz ≤ vz) (hv : vz ≤ 8) : MetN l Z mn15 jdk_42_method_157_code 3 (some .int) ws (rM 1 0 0 15) #[(.int (0 : Int32)), (.int i1), (.int i2)] h0 (Q_rmBO Z i1 i2 fm uz vz h0 n0) := by
 refine enterN (plainFor_of_name pn_java_lang_String) (fun m => ef_rmBO m _ _) fun p e s m below meth c s₁ Bd hZ hx hD hlk hml hown hnm X0 e0 => ?_
 have N0 := Fr.nil n0
 have K0 := Keep.refl h0 []
 refine Wk.iloadN X0 hx (hD d15_0) (n := 1) rfl rfl ?_
 refine Wk.iloadN X0 hx (hD d15_1) (n := 2) rfl rfl ?_
 refine Wk.iloadN X0 hx (hD d15_2) (n := 3) rfl rfl ?_
 refine Wk.getS X0 hx hZ hown (host := "") (Or.inl (oW hw 77 rfl)) Via.refl e0 (Sta.ext O1.2 S5) (hD d15_3) (n := 6) rfl fun T1 X1 e1 => ?_
 have cl2_ := fun Ls (hLs : LsOk c Ls) => Jvm.LawKit.callS X1 hx (y := mn14) hown (mW hZ hw 79 rfl) (mW hZ hw 80 rfl) (mW hZ hw 78 rfl) (mW hZ hw 81 rfl) (by decide) (backOf (W := 0) (rmFI l Z a0 hw [] i1 i2 fm uz vz h0 n0 (by omega) hFM h1 h2 (by omega) (by omega)) hZ (oW hw 81 rfl) (oW hw 78 rfl) (by decide) (by decide)) (g := mkF m 6 Ls [fm, (.int i2), (.int i1), (.int (0 : Int32))]) rfl hLs (argsL := [(.int (0 : Int32)), (.int i1), (.int i2), fm]) (rest := []) (lenOf pd_7 rfl) rfl (leq0 rfl) (hD d15_6) (fun _ _ => ⟨rfl, e1, (by decide : 0 + 0 ≤ _), (by decide : 0 + 0 ≤ _)⟩)
 refine Wk.backS (n := 9) (rc := 0) (rs := 0) (Q := Q_rmFI Z i1 i2 fm uz vz h0 n0) (cl2_ _ (lsok hml rfl)) fun vn2 T2 L2 X2 hQ2 => ?_
 clear cl2_
 obtain ⟨rfl, M2, e2⟩ := hQ2
 have N2 := Fr.app N0 M2
 show Wk p e below _ T2 (mkF m 9 _ [(.int (0 : Int32))])
 exact Wk.leave X2 (v := some (.int (0 : Int32))) (fun h => by rw [Bd.returns] at h; cases h) hlk e2 ⟨rfl, N2, rfl⟩ (by decide) (by decide) (fun fs hr => retI X2 hx Bd.returns (hD d15_9) hr)
def Q_rmCL (Z : State) (i1 : Int32) (i2 : Int32) (h0 : Heap) (n0 : Nat) (v : Option Value) (h : Heap) (L : List Loc) : Prop := v = none ∧ Fr n0 L ∧ h = h0
theorem ef_rmCL (m : MethodId) (x0 : Int32) (x1 : Int32) : entryFrame m #[(.int x0), (.int x1)] 2 = mkF m 0 #[.val (.int x0), .val (.int x1)] [] := by first | (simp [entryFrame, mkF, argsToLocals, Value.category]; done) | rfl
theorem d16_0 : decode B16_ 0 = .ok (.iload_n 1, 1) := by decide +kernel
theorem d16_1 : decode B16_ 1 = .ok (.iload_n 0, 1) := by decide +kernel
theorem d16_2 : decode B16_ 2 = .ok (.if_icmp .ge 35, 3) := by decide +kernel
theorem d16_37 : decode B16_ 37 = .ok (.return_, 1) := by decide +kernel
theorem rmCL (hw : HW a0 Z) (ws : List Jvm.Cond) (i1 : Int32) (i2 : Int32) (h0 : Heap) (n0 : Nat) (Z0 : n0 ≤ h0.size) (h1 : ¬ i2 < i1) : MetN l Z mn16 jdk_65_method_131_code 2 none ws (rM 0 0 0 0) #[(.int i1), (.int i2)] h0 (Q_rmCL Z i1 i2 h0 n0) := by
 refine enterN (plainFor_of_name pn_java_util_Arrays) (fun m => ef_rmCL m _ _) fun p e s m below meth c s₁ Bd hZ hx hD hlk hml hown hnm X0 e0 => ?_
 have N0 := Fr.nil n0
 have K0 := Keep.refl h0 []
 refine Wk.iloadN X0 hx (hD d16_0) (n := 1) rfl rfl ?_
 refine Wk.iloadN X0 hx (hD d16_1) (n := 2) rfl rfl ?_
 have hc2_1 : ¬ (i2 < i1) := h1
 refine Wk.icmpYes X0 hx (hD d16_2) (flt hc2_1).2.1 (by decide) (n := 37) (by decide) ?_
 exact Wk.leave X0 (v := none) (fun _ => rfl) hlk e0 ⟨rfl, N0, rfl⟩ (by decide) (by decide) (fun fs hr => X0.returnOut hx Bd.returns (hD d16_37) hr)
def Q_rmCB (Z : State) (ta : Addr) (ka : ClassId) (cs : List Int32) (i1 : Int32) (Nz : Nat) (h0 : Heap) (n0 : Nat) (v : Option Value) (h : Heap) (L : List Loc) : Prop := ∃ (t : Addr) (kb : ClassId), v = some (.ref t) ∧ Fr n0 L ∧ Keep h0 h [] ∧ Arv Z h t kb .byte (Int32.ofNat cs.length) (bsV cs) (.int (0 : Int32)) ∧ (h0.size ≤ t)
theorem ef_rmCB (m : MethodId) (x0 : Addr) (x2 : Int32) : entryFrame m #[(.ref x0), (.int (0 : Int32)), (.int x2)] 5 = mkF m 0 #[.val (.ref x0), .val (.int (0 : Int32)), .val (.int x2), .unset, .unset] [] := by first | (simp [entryFrame, mkF, argsToLocals, Value.category]; done) | rfl
theorem d17_0 : decode B17_ 0 = .ok (.iload_n 1, 1) := by decide +kernel
theorem d17_1 : decode B17_ 1 = .ok (.iload_n 2, 1) := by decide +kernel
theorem d17_2 : decode B17_ 2 = .ok (.invokestatic 343, 3) := by decide +kernel
theorem pd_8 : parseMethodDescriptor "(II)V" = some ⟨[.int, .int], none⟩ := by decide +kernel
theorem d17_5 : decode B17_ 5 = .ok (.iload_n 2, 1) := by decide +kernel
theorem d17_6 : decode B17_ 6 = .ok (.iload_n 1, 1) := by decide +kernel
theorem d17_7 : decode B17_ 7 = .ok (.isub, 1) := by decide +kernel
theorem d17_8 : decode B17_ 8 = .ok (.istore_n 3, 1) := by decide +kernel
theorem d17_9 : decode B17_ 9 = .ok (.iload_n 3, 1) := by decide +kernel
theorem d17_10 : decode B17_ 10 = .ok (.newarray .byte, 2) := by decide +kernel
theorem d17_12 : decode B17_ 12 = .ok (.astore 4, 2) := by decide +kernel
theorem d17_14 : decode B17_ 14 = .ok (.aload_n 0, 1) := by decide +kernel
theorem d17_15 : decode B17_ 15 = .ok (.iload_n 1, 1) := by decide +kernel
theorem d17_16 : decode B17_ 16 = .ok (.aload 4, 2) := by decide +kernel
theorem d17_18 : decode B17_ 18 = .ok (.iconst 0, 1) := by decide +kernel
theorem d17_19 : decode B17_ 19 = .ok (.aload_n 0, 1) := by decide +kernel
theorem d17_20 : decode B17_ 20 = .ok (.arraylength, 1) := by decide +kernel
theorem d17_21 : decode B17_ 21 = .ok (.iload_n 1, 1) := by decide +kernel
theorem d17_22 : decode B17_ 22 = .ok (.isub, 1) := by decide +kernel
theorem d17_23 : decode B17_ 23 = .ok (.iload_n 3, 1) := by decide +kernel
theorem d17_24 : decode B17_ 24 = .ok (.invokestatic 304, 3) := by decide +kernel
theorem d17_27 : decode B17_ 27 = .ok (.invokestatic 150, 3) := by decide +kernel
theorem d17_30 : decode B17_ 30 = .ok (.aload 4, 2) := by decide +kernel
theorem d17_32 : decode B17_ 32 = .ok (.areturn, 1) := by decide +kernel
theorem rmCB (hw : HW a0 Z) (ws : List Jvm.Cond) (ta : Addr) (ka : ClassId) (cs : List Int32) (i1 : Int32) (Nz : Nat) (h0 : Heap) (n0 : Nat) (Z0 : n0 ≤ h0.size) (A1 : Arv Z h0 ta ka .byte (Int32.ofNat Nz) (bsV cs) (.int (0 : Int32))) (hi : i1 = Int32.ofNat cs.length) (hN : cs.length < Nz) (hNz : Nz ≤ 8) : MetN l Z mn17 jdk_65_method_133_code 5 (some (.array .byte)) ws (rM 1 1 8 31) #[(.ref ta), (.int (0 : Int32)), (.int i1)] h0 (Q_rmCB Z ta ka cs i1 Nz h0 n0) := by
 refine enterN (plainFor_of_name pn_java_util_Arrays) (fun m => ef_rmCB m _ _) fun p e s m below meth c s₁ Bd hZ hx hD hlk hml hown hnm X0 e0 => ?_
 have N0 := Fr.nil n0
 have K0 := Keep.refl h0 []
 have lt_A1 := ny A1.lt
 have hi0 : i1 - (0 : Int32) = Int32.ofNat cs.length := (own_sub0 _).trans hi
 refine Wk.iloadN X0 hx (hD d17_0) (n := 1) rfl rfl ?_
 refine Wk.iloadN X0 hx (hD d17_1) (n := 2) rfl rfl ?_
 have cl1_ := fun Ls (hLs : LsOk c Ls) => Jvm.LawKit.callS X0 hx (y := mn16) hown (mW hZ hw 206 rfl) (mW hZ hw 207 rfl) (mW hZ hw 169 rfl) (mW hZ hw 208 rfl) (by decide) (backOf (W := 0) (rmCL l Z a0 hw [] (0 : Int32) i1 h0 n0 (by omega) (by rw [hi]; exact own_nonneg (by omega))) hZ (oW hw 208 rfl) (oW hw 169 rfl) (by decide) (by decide)) (g := mkF m 2 Ls [(.int i1), (.int (0 : Int32))]) rfl hLs (argsL := [(.int (0 : Int32)), (.int i1)]) (rest := []) (lenOf pd_8 rfl) rfl (leq0 rfl) (hD d17_2) (fun _ _ => ⟨rfl, e0, (by decide : 0 + 0 ≤ _), (by decide : 0 + 0 ≤ _)⟩)
 refine Wk.backS (n := 5) (rc := 0) (rs := 0) (Q := Q_rmCL Z (0 : Int32) i1 h0 n0) (cl1_ _ (lsok hml rfl)) fun vn1 T1 L1 X1 hQ1 => ?_
 clear cl1_
 obtain ⟨rfl, M1, e1⟩ := hQ1
 have N1 := Fr.app N0 M1
 show Wk p e below _ T1 (mkF m 5 _ [])
 refine Wk.iloadN X1 hx (hD d17_5) (n := 6) rfl rfl ?_
 refine Wk.iloadN X1 hx (hD d17_6) (n := 7) rfl rfl ?_
 refine Wk.isub X1 hx (hD d17_7) (n := 8) rfl ?_
 refine Wk.istoreN X1 hx (hD d17_8) (n := 9) rfl (L' := #[.val (.ref ta), .val (.int (0 : Int32)), .val (.int i1), .val (.int (i1 - (0 : Int32))), .unset]) rfl ?_
 refine Wk.iloadN X1 hx (hD d17_9) (n := 10) rfl rfl ?_
 refine Wk.newP X1 hx hZ (oW hw 0 rfl) e1 (hD d17_10) (n := 12) rfl (by rw [hi0]; exact own_nonneg (by omega)) (cap := 8) (by rw [hi0, own_cl (by omega)]; omega) (by decide) (by decide) (by decide) fun T2 H2 b2 k2 gn2 X2 e2 Ex2 An2 => ?_
 have gn2 := nx gn2
 have sz2 := Ex2.1
 have K2 := K0.ext Ex2
 have Vn2 : Arv Z H2 b2 k2 .byte (i1 - (0 : Int32)) (List.replicate 8 (.int (0 : Int32))) (.int (0 : Int32)) := (Arv.new An2 (by rw [hi0]; exact own_nonneg (by omega))).pad (pad_rep [] (.int (0 : Int32)) 8)
 have lt2 := ny Vn2.lt
 refine Wk.astore X2 hx (hD d17_12) (n := 14) rfl rfl (L' := #[.val (.ref ta), .val (.int (0 : Int32)), .val (.int i1), .val (.int (i1 - (0 : Int32))), .val (.ref b2)]) rfl ?_
 refine Wk.aloadN X2 hx (hD d17_14) (n := 15) rfl rfl rfl ?_
 refine Wk.iloadN X2 hx (hD d17_15) (n := 16) rfl rfl ?_
 refine Wk.aload X2 hx (hD d17_16) (n := 18) rfl rfl rfl ?_
 refine Wk.iconst X2 hx (hD d17_18) (n := 19) rfl (z := (0 : Int32)) rfl ?_
 refine Wk.aloadN X2 hx (hD d17_19) (n := 20) rfl rfl rfl ?_
 have f3 := (A1.ext Ex2)
 obtain ⟨cl4, Ar4, qn4, Sz4, N_4, H_4, Gn4⟩ := id f3
 refine Wk.arrlen X2 hx hZ e2 Ar4 Sz4 N_4 (hD d17_20) (n := 21) rfl ?_
 refine Wk.iloadN X2 hx (hD d17_21) (n := 22) rfl rfl ?_
 refine Wk.isub X2 hx (hD d17_22) (n := 23) rfl ?_
 refine Wk.iloadN X2 hx (hD d17_23) (n := 24) rfl rfl ?_
 have cl5_ := fun Ls (hLs : LsOk c Ls) => Jvm.LawKit.callS X2 hx (y := mn3) hown (mW hZ hw 172 rfl) (mW hZ hw 165 rfl) (mW hZ hw 162 rfl) (mW hZ hw 166 rfl) (by decide) (backOf (W := 4) (rmMG l Z a0 hw [] ((Int32.ofNat Nz) - (0 : Int32)) (i1 - (0 : Int32)) H2 n0 (by omega) (by rw [hi0, own_sub0]; exact (own_lt (by omega) (by omega)).mpr hN)) hZ (oW hw 166 rfl) (oW hw 162 rfl) (by decide) (by decide)) (g := mkF m 24 Ls [(.int (i1 - (0 : Int32))), (.int ((Int32.ofNat Nz) - (0 : Int32))), (.int (0 : Int32)), (.ref b2), (.int (0 : Int32)), (.ref ta)]) rfl hLs (argsL := [(.int ((Int32.ofNat Nz) - (0 : Int32))), (.int (i1 - (0 : Int32)))]) (rest := [(.int (0 : Int32)), (.ref b2), (.int (0 : Int32)), (.ref ta)]) (lenOf pd_1 rfl) rfl (leq0 rfl) (hD d17_24) (fun _ _ => ⟨rfl, e2, (by decide : 1 + 0 ≤ _), (by decide : 8 + 0 ≤ _)⟩)
 refine Wk.backS (n := 27) (rc := 0) (rs := 0) (Q := Q_rmMG Z ((Int32.ofNat Nz) - (0 : Int32)) (i1 - (0 : Int32)) H2 n0) (cl5_ _ (lsok hml rfl)) fun vn5 T5 L5 X5 hQ5 => ?_
 clear cl5_
 obtain ⟨rfl, M5, e5⟩ := hQ5
 have N5 := Fr.app N1 M5
 show Wk p e below _ T5 (mkF m 27 _ [(.int (i1 - (0 : Int32))), (.int (0 : Int32)), (.ref b2), (.int (0 : Int32)), (.ref ta)])
 have Pd := Arv.pad Vn2 (own_padr 8 cs.length (.int (0 : Int32)))
 refine Wk.cpA X5 hx hZ hown (oW hw 173 rfl) (oW hw 176 rfl) (oW hw 174 rfl) (oW hw 175 rfl) e5 f3 Pd (Or.inl ⟨rfl, rfl⟩) (i := 0) (j := 0) (q := cs.length) rfl rfl hi0 (by omega) (by omega) (by omega) (by rw [own_cl (by omega)]; omega) (by rw [hi0, own_cl (by omega)]; omega) rfl (by simp) N5 (by omega) (vn := (bsV cs)) (own_vr cs) (by rw [hml]; rfl) (hD d17_27) (n := 30) rfl (by decide) (w := 0) (Nat.le_of_eq rfl) (by decide) fun T6 H6 Lc6 X6 e6 N6 J6 Vn6 => ?_
 have sz6 := J6.1
 have K6 := K2.trans J6 (allS (Or.inr (by omega)) all0)
 refine Wk.aload X6 hx (hD d17_30) (n := 32) rfl rfl rfl ?_
 exact Wk.leave X6 (v := some (.ref b2)) (fun h => by rw [Bd.returns] at h; cases h) hlk e6 ⟨b2, k2, rfl, N6, K6, (by have q := Vn6; rw [hi0] at q; exact q), (by omega)⟩ (by decide) (by decide) (fun fs hr => retA X6 hx rfl Bd.returns rfl (hD d17_32) hr)
def Q_rmCR (Z : State) (ta : Addr) (ka : ClassId) (cs : List Int32) (i1 : Int32) (Nz : Nat) (h0 : Heap) (n0 : Nat) (v : Option Value) (h : Heap) (L : List Loc) : Prop := ∃ (t : Addr) (kb : ClassId), v = some (.ref t) ∧ Fr n0 L ∧ Keep h0 h [] ∧ Arv Z h t kb .byte (Int32.ofNat cs.length) (bsV cs) (.int (0 : Int32)) ∧ (h0.size ≤ t)
theorem ef_rmCR (m : MethodId) (x0 : Addr) (x2 : Int32) : entryFrame m #[(.ref x0), (.int (0 : Int32)), (.int x2)] 3 = mkF m 0 #[.val (.ref x0), .val (.int (0 : Int32)), .val (.int x2)] [] := by first | (simp [entryFrame, mkF, argsToLocals, Value.category]; done) | rfl
theorem d18_0 : decode B18_ 0 = .ok (.iload_n 1, 1) := by decide +kernel
theorem d18_1 : decode B18_ 1 = .ok (.ifCond .ne 9, 3) := by decide +kernel
theorem d18_4 : decode B18_ 4 = .ok (.iload_n 2, 1) := by decide +kernel
theorem d18_5 : decode B18_ 5 = .ok (.aload_n 0, 1) := by decide +kernel
theorem d18_6 : decode B18_ 6 = .ok (.arraylength, 1) := by decide +kernel
theorem d18_7 : decode B18_ 7 = .ok (.if_icmp .eq 10, 3) := by decide +kernel
theorem d18_10 : decode B18_ 10 = .ok (.aload_n 0, 1) := by decide +kernel
theorem d18_11 : decode B18_ 11 = .ok (.iload_n 1, 1) := by decide +kernel
theorem d18_12 : decode B18_ 12 = .ok (.iload_n 2, 1) := by decide +kernel
theorem d18_13 : decode B18_ 13 = .ok (.invokestatic 339, 3) := by decide +kernel
theorem pd_9 : parseMethodDescriptor "([BII)[B" = some ⟨[(.array .byte), .int, .int], some (.array .byte)⟩ := by decide +kernel
theorem d18_16 : decode B18_ 16 = .ok (.areturn, 1) := by decide +kernel
theorem rmCR (hw : HW a0 Z) (ws : List Jvm.Cond) (ta : Addr) (ka : ClassId) (cs : List Int32) (i1 : Int32) (Nz : Nat) (h0 : Heap) (n0 : Nat) (Z0 : n0 ≤ h0.size) (A1 : Arv Z h0 ta ka .byte (Int32.ofNat Nz) (bsV cs) (.int (0 : Int32))) (hi : i1 = Int32.ofNat cs.length) (hN : cs.length < Nz) (hNz : Nz ≤ 8) : MetN l Z mn18 jdk_65_method_132_code 3 (some (.array .byte)) ws (rM 2 1 8 47) #[(.ref ta), (.int (0 : Int32)), (.int i1)] h0 (Q_rmCR Z ta ka cs i1 Nz h0 n0) := by
 refine enterN (plainFor_of_name pn_java_util_Arrays) (fun m => ef_rmCR m _ _) fun p e s m below meth c s₁ Bd hZ hx hD hlk hml hown hnm X0 e0 => ?_
 have N0 := Fr.nil n0
 have K0 := Keep.refl h0 []
 have lt_A1 := ny A1.lt
 refine Wk.iloadN X0 hx (hD d18_0) (n := 1) rfl rfl ?_
 have hc1_1 : (0 : Int32) = (0 : Int32) := rfl
 refine Wk.ifNo X0 hx (hD d18_1) (n := 4) rfl ((if0 _ _).trans (teq hc1_1).2) ?_
 refine Wk.iloadN X0 hx (hD d18_4) (n := 5) rfl rfl ?_
 refine Wk.aloadN X0 hx (hD d18_5) (n := 6) rfl rfl rfl ?_
 obtain ⟨cl2, Ar2, qn2, Sz2, N_2, H_2, Gn2⟩ := id A1
 refine Wk.arrlen X0 hx hZ e0 Ar2 Sz2 N_2 (hD d18_6) (n := 7) rfl ?_
 have hc7_3 : ¬ (i1 = (Int32.ofNat Nz)) := by rw [hi]; exact fun q => absurd ((own_eqi (by omega) (by omega)).mp q) (by omega)
 refine Wk.icmpNo X0 hx (hD d18_7) (n := 10) rfl (feq hc7_3).1 ?_
 refine Wk.aloadN X0 hx (hD d18_10) (n := 11) rfl rfl rfl ?_
 refine Wk.iloadN X0 hx (hD d18_11) (n := 12) rfl rfl ?_
 refine Wk.iloadN X0 hx (hD d18_12) (n := 13) rfl rfl ?_
 have cl4_ := fun Ls (hLs : LsOk c Ls) => Jvm.LawKit.callS X0 hx (y := mn17) hown (mW hZ hw 203 rfl) (mW hZ hw 204 rfl) (mW hZ hw 169 rfl) (mW hZ hw 205 rfl) (by decide) (backOf (W := 0) (rmCB l Z a0 hw [] ta ka cs i1 Nz h0 n0 (by omega) A1 hi (by omega) (by omega)) hZ (oW hw 205 rfl) (oW hw 169 rfl) (by decide) (by decide)) (g := mkF m 13 Ls [(.int i1), (.int (0 : Int32)), (.ref ta)]) rfl hLs (argsL := [(.ref ta), (.int (0 : Int32)), (.int i1)]) (rest := []) (lenOf pd_9 rfl) rfl (leq0 rfl) (hD d18_13) (fun _ _ => ⟨rfl, e0, (by decide : 0 + 1 ≤ _), (by decide : 0 + 8 ≤ _)⟩)
 refine Wk.backS (n := 16) (rc := 1) (rs := 8) (Q := Q_rmCB Z ta ka cs i1 Nz h0 n0) (cl4_ _ (lsok hml rfl)) fun vn4 T4 L4 X4 hQ4 => ?_
 clear cl4_
 obtain ⟨t_4, kb_4, rfl, M4, J4, p4_0, gt_4⟩ := hQ4
 have N4 := Fr.app N0 M4
 have sz4 := J4.1
 have K4 := K0.trans J4 (fun x hx => nomatch hx)
 have lt_p4_0 := ny p4_0.lt
 show Wk p e below _ T4 (mkF m 16 _ [(.ref t_4)])
 exact Wk.leave X4 (v := some (.ref t_4)) (fun h => by rw [Bd.returns] at h; cases h) hlk rfl ⟨t_4, kb_4, rfl, N4, K4, p4_0, (by omega)⟩ (by decide) (by decide) (fun fs hr => retA X4 hx rfl Bd.returns rfl (hD d18_16) hr)
def Q_rmNH (Z : State) (x1 : Addr) (wso : Addr) (ta : Addr) (i1 : Int32) (wu : Addr) (ka : ClassId) (cs : List Int32) (Nz : Nat) (zc : Int32) (h0 : Heap) (n0 : Nat) (v : Option Value) (h : Heap) (L : List Loc) : Prop := ∃ (t : Addr) (kb : ClassId), v = none ∧ Fr n0 L ∧ Keep h0 h [x1] ∧ Exa Z h x1 "java/lang/String" ∧ Fld Z h x1 "java/lang/String" "value" "[B" (.ref t) ∧ Fld Z h x1 "java/lang/String" "coder" "B" (.int (0 : Int32)) ∧ Arv Z h t kb .byte (Int32.ofNat cs.length) (bsV cs) (.int (0 : Int32)) ∧ (h0.size ≤ t)
theorem ef_rmNH (m : MethodId) (x0 : Addr) (x1 : Addr) (x2 : Addr) (x4 : Int32) : entryFrame m #[(.ref x0), (.ref x1), (.ref x2), (.int (0 : Int32)), (.int x4)] 11 = mkF m 0 #[.val (.ref x0), .val (.ref x1), .val (.ref x2), .val (.int (0 : Int32)), .val (.int x4), .unset, .unset, .unset, .unset, .unset, .unset] [] := by first | (simp [entryFrame, mkF, argsToLocals, Value.category]; done) | rfl
theorem d19_0 : decode B19_ 0 = .ok (.aload_n 0, 1) := by decide +kernel
theorem d19_1 : decode B19_ 1 = .ok (.invokespecial 1, 3) := by decide +kernel
theorem d19_4 : decode B19_ 4 = .ok (.iload 4, 2) := by decide +kernel
theorem d19_6 : decode B19_ 6 = .ok (.ifCond .ne 24, 3) := by decide +kernel
theorem d19_30 : decode B19_ 30 = .ok (.aload_n 1, 1) := by decide +kernel
theorem d19_31 : decode B19_ 31 = .ok (.getstatic 86, 3) := by decide +kernel
theorem d19_34 : decode B19_ 34 = .ok (.if_acmp .ne 312, 3) := by decide +kernel
theorem d19_346 : decode B19_ 346 = .ok (.aload_n 1, 1) := by decide +kernel
theorem d19_347 : decode B19_ 347 = .ok (.getstatic 116, 3) := by decide +kernel
theorem d19_350 : decode B19_ 350 = .ok (.if_acmp .ne 49, 3) := by decide +kernel
theorem d19_353 : decode B19_ 353 = .ok (.getstatic 38, 3) := by decide +kernel
theorem d19_356 : decode B19_ 356 = .ok (.ifCond .eq 24, 3) := by decide +kernel
theorem d19_359 : decode B19_ 359 = .ok (.aload_n 0, 1) := by decide +kernel
theorem d19_360 : decode B19_ 360 = .ok (.aload_n 2, 1) := by decide +kernel
theorem d19_361 : decode B19_ 361 = .ok (.iload_n 3, 1) := by decide +kernel
theorem d19_362 : decode B19_ 362 = .ok (.iload_n 3, 1) := by decide +kernel
theorem d19_363 : decode B19_ 363 = .ok (.iload 4, 2) := by decide +kernel
theorem d19_365 : decode B19_ 365 = .ok (.iadd, 1) := by decide +kernel
theorem d19_366 : decode B19_ 366 = .ok (.invokestatic 54, 3) := by decide +kernel
theorem d19_369 : decode B19_ 369 = .ok (.putfield 9, 3) := by decide +kernel
theorem d19_372 : decode B19_ 372 = .ok (.aload_n 0, 1) := by decide +kernel
theorem d19_373 : decode B19_ 373 = .ok (.iconst 0, 1) := by decide +kernel
theorem d19_374 : decode B19_ 374 = .ok (.putfield 15, 3) := by decide +kernel
theorem d19_377 : decode B19_ 377 = .ok (.goto 502, 3) := by decide +kernel
theorem d19_879 : decode B19_ 879 = .ok (.return_, 1) := by decide +kernel
theorem rmNH (hw : HW a0 Z) (ws : List Jvm.Cond) (x1 : Addr) (wso : Addr) (ta : Addr) (i1 : Int32) (wu : Addr) (ka : ClassId) (cs : List Int32) (Nz : Nat) (zc : Int32) (h0 : Heap) (n0 : Nat) (Z0 : n0 ≤ h0.size) (E1 : Exa Z h0 x1 "java/lang/String") (F1 : Fld Z h0 x1 "java/lang/String" "value" "[B" .null) (F2 : Fld Z h0 x1 "java/lang/String" "coder" "B" (.int (0 : Int32))) (A1 : Arv Z h0 ta ka .byte (Int32.ofNat Nz) (bsV cs) (.int (0 : Int32))) (S4 : Sta Z Z.heap "java/lang/String" "COMPACT_STRINGS" "Z" (.int zc)) (S6 : Sta Z Z.heap "sun/nio/cs/UTF_8" "INSTANCE" "Lsun/nio/cs/UTF_8;" (.ref wu)) (S7 : Sta Z Z.heap "sun/nio/cs/ISO_8859_1" "INSTANCE" "Lsun/nio/cs/ISO_8859_1;" (.ref wso)) (O1 : Old Z n0 h0) (hCS : ¬ zc = 0) (hi : i1 = Int32.ofNat cs.length) (h0_ : 0 < cs.length) (hN : cs.length < Nz) (hNz : Nz ≤ 8) (g1 : n0 ≤ x1) (hn : ¬ @Eq Nat x1 ta) (hnu : ¬ wso = wu) : MetH l Z mn19 jdk_42_method_11_code 11 none [(800, 813, 816, 202)] ws (rM 3 1 8 62) #[(.ref x1), (.ref wso), (.ref ta), (.int (0 : Int32)), (.int i1)] h0 (Q_rmNH Z x1 wso ta i1 wu ka cs Nz zc h0 n0) := by
 refine enterH (plainFor_of_name pn_java_lang_String) (fun m => ef_rmNH m _ _ _ _) fun p e s m below meth c s₁ Bd hZ hx hD hlk hml hown hnm X0 e0 => ?_
 have N0 := Fr.nil n0
 have K0 := Keep.refl h0 [x1]
 have lt_E1 := ny E1.lt
 have lt_F1 := ny F1.lt
 have lt_F2 := ny F2.lt
 have lt_A1 := ny A1.lt
 refine Wk.aloadN X0 hx (hD d19_0) (n := 1) rfl rfl rfl ?_
 refine Wk.initO X0 hx hZ hown (oW hw 86 rfl) (oW hw 9 rfl) (oW hw 10 rfl) e0 (by rw [hml]; rfl) (hD d19_1) (n := 4) rfl (by decide) (w := 0) (Nat.le_of_eq rfl) (by decide) fun T1 X1 e1 => ?_
 refine Wk.iload X1 hx (hD d19_4) (n := 6) rfl rfl ?_
 have hc6_2 : ¬ (i1 = (0 : Int32)) := by rw [hi]; exact fun q => absurd ((own_eqi (b := 0) (by omega) (by decide)).mp q) (by omega)
 refine Wk.ifYes X1 hx (hD d19_6) ((if0 _ _).trans (feq hc6_2).2) (by decide) (n := 30) (by decide) ?_
 refine Wk.aloadN X1 hx (hD d19_30) (n := 31) rfl rfl rfl ?_
 refine Wk.getS X1 hx hZ hown (host := "") (Or.inl (oW hw 196 rfl)) Via.refl e1 (Sta.ext O1.2 S6) (hD d19_31) (n := 34) rfl fun T3 X3 e3 => ?_
 refine Wk.acmp X3 hx rfl rfl (hD d19_34) (same := false) (decide_eq_false fun q => (hnu : ¬ wso = wu) (Value.ref.inj q)) (by decide) (n := 346) (by decide) ?_
 refine Wk.aloadN X3 hx (hD d19_346) (n := 347) rfl rfl rfl ?_
 refine Wk.getS X3 hx hZ hown (host := "") (Or.inl (oW hw 198 rfl)) Via.refl e3 (Sta.ext O1.2 S7) (hD d19_347) (n := 350) rfl fun T4 X4 e4 => ?_
 refine Wk.acmp X4 hx rfl rfl (hD d19_350) (same := true) (decide_eq_true rfl) (by decide) (n := 353) (by decide) ?_
 refine Wk.getS X4 hx hZ hown (host := "") (Or.inl (oW hw 87 rfl)) Via.refl e4 (Sta.ext O1.2 S4) (hD d19_353) (n := 356) rfl fun T5 X5 e5 => ?_
 have hc356_6 : ¬ (zc = (0 : Int32)) := hCS
 refine Wk.ifNo X5 hx (hD d19_356) (n := 359) rfl ((if0 _ _).trans (feq hc356_6).1) ?_
 refine Wk.aloadN X5 hx (hD d19_359) (n := 360) rfl rfl rfl ?_
 refine Wk.aloadN X5 hx (hD d19_360) (n := 361) rfl rfl rfl ?_
 refine Wk.iloadN X5 hx (hD d19_361) (n := 362) rfl rfl ?_
 refine Wk.iloadN X5 hx (hD d19_362) (n := 363) rfl rfl ?_
 refine Wk.iload X5 hx (hD d19_363) (n := 365) rfl rfl ?_
 refine Wk.iadd X5 hx (hD d19_365) (n := 366) rfl ?_
 have cl7_ := fun Ls (hLs : LsOk c Ls) => Jvm.LawKit.callS X5 hx (y := mn18) hown (mW hZ hw 200 rfl) (mW hZ hw 201 rfl) (mW hZ hw 169 rfl) (mW hZ hw 202 rfl) (by decide) (backOf (W := 1) (rmCR l Z a0 hw [] ta ka cs ((0 : Int32) + i1) Nz h0 n0 (by omega) A1 (by rw [Int32.zero_add]; exact hi) (by omega) (by omega)) hZ (oW hw 202 rfl) (oW hw 169 rfl) (by decide) (by decide)) (g := mkF m 366 Ls [(.int ((0 : Int32) + i1)), (.int (0 : Int32)), (.ref ta), (.ref x1)]) rfl hLs (argsL := [(.ref ta), (.int (0 : Int32)), (.int ((0 : Int32) + i1))]) (rest := [(.ref x1)]) (lenOf pd_9 rfl) rfl (leq0 rfl) (hD d19_366) (fun _ _ => ⟨rfl, e5, (by decide : 0 + 1 ≤ _), (by decide : 0 + 8 ≤ _)⟩)
 refine Wk.backS (n := 369) (rc := 1) (rs := 8) (Q := Q_rmCR Z ta ka cs ((0 : Int32) + i1) Nz h0 n0) (cl7_ _ (lsok hml rfl)) fun vn7 T7 L7 X7 hQ7 => ?_
 clear cl7_
 obtain ⟨t_7, kb_7, rfl, M7, J7, p7_0, gt_7⟩ := hQ7
 have N7 := Fr.app N0 M7
 have sz7 := J7.1
 have K7 := K0.trans J7 (fun x hx => nomatch hx)
 have lt_p7_0 := ny p7_0.lt
 show Wk p e below _ T7 (mkF m 369 _ [(.ref t_7), (.ref x1)])
 have f8 := (F1.keep J7 nin0)
 have f9 := (E1.keep J7)
 refine Wk.putF X7 hx hZ hown (host := "") (Or.inl (oW hw 100 rfl)) Via.refl rfl f8 f9 (Or.inr ⟨(oW hw 101 rfl), rfl, hnm⟩) (oW hw 66 rfl) (ty := (.array .byte)) (by decide) rfl rfl (hD d19_369) (n := 372) rfl fun T10 H10 X10 e10 Wn10 => ?_
 have sz10 := Wn10.size
 have Fn10 := f8.same Wn10
 have K10 := K7.wr Wn10 (Or.inl (List.mem_of_getElem? (i := 0) rfl))
 have N10 := Fr.snoc X10 N7 (by omega)
 refine Wk.aloadN X10 hx (hD d19_372) (n := 373) rfl rfl rfl ?_
 refine Wk.iconst X10 hx (hD d19_373) (n := 374) rfl (z := (0 : Int32)) rfl ?_
 have f11 := ((F2.keep J7 nin0).other Wn10 (Or.inr (slot_ne (Or.inr (oW hw 99 rfl)) (Or.inr (oW hw 101 rfl)) (by decide) (t := .byte) (t' := (.array .byte)) (by decide) (by decide))))
 have f12 := (f9.wr Wn10)
 refine Wk.putFN X10 hx hZ hown (oW hw 98 rfl) Via.refl e10 f11 f12 (Or.inr ⟨(oW hw 99 rfl), rfl, hnm⟩) (oW hw 66 rfl) (ty := .byte) (by decide) (v' := (.int (0 : Int32))) rfl rfl (hD d19_374) (n := 377) rfl fun T13 H13 X13 e13 Wn13 => ?_
 have sz13 := Wn13.size
 have Fn13 := f11.same Wn13
 have K13 := K10.wr Wn13 (Or.inl (List.mem_of_getElem? (i := 0) rfl))
 have N13 := Fr.snoc X13 N10 (by omega)
 refine Wk.goto X13 hx (hD d19_377) (by decide) (n := 879) (by decide) ?_
 have f14 := (f12.wr Wn13)
 have f15 := (Fn10.other Wn13 (Or.inr (slot_ne (Or.inr (oW hw 101 rfl)) (Or.inr (oW hw 99 rfl)) (by decide) (t := (.array .byte)) (t' := .byte) (by decide) (by decide))))
 have f16 := ((p7_0.other Wn10 (nz (by omega))).other Wn13 (nz (by omega)))
 exact Wk.leave X13 (v := none) (fun _ => rfl) hlk e13 ⟨t_7, kb_7, rfl, N13, K13, f14, f15, Fn13, f16, (by omega)⟩ (by decide) (by decide) (fun fs hr => X13.returnOut hx Bd.returns (hD d19_879) hr)
def Q_rmNI (Z : State) (x1 : Addr) (ta : Addr) (i1 : Int32) (wso : Addr) (wu : Addr) (ka : ClassId) (cs : List Int32) (Nz : Nat) (zc : Int32) (fm : Value) (h0 : Heap) (n0 : Nat) (v : Option Value) (h : Heap) (L : List Loc) : Prop := ∃ (t : Addr) (kb : ClassId), v = none ∧ Fr n0 L ∧ Keep h0 h [x1] ∧ Exa Z h x1 "java/lang/String" ∧ Fld Z h x1 "java/lang/String" "value" "[B" (.ref t) ∧ Fld Z h x1 "java/lang/String" "coder" "B" (.int (0 : Int32)) ∧ Arv Z h t kb .byte (Int32.ofNat cs.length) (bsV cs) (.int (0 : Int32)) ∧ (h0.size ≤ t)
theorem ef_rmNI (m : MethodId) (x0 : Addr) (x1 : Addr) (x3 : Int32) (x4 : Addr) : entryFrame m #[(.ref x0), (.ref x1), (.int (0 : Int32)), (.int x3), (.ref x4)] 5 = mkF m 0 #[.val (.ref x0), .val (.ref x1), .val (.int (0 : Int32)), .val (.int x3), .val (.ref x4)] [] := by first | (simp [entryFrame, mkF, argsToLocals, Value.category]; done) | rfl
theorem d20_0 : decode B20_ 0 = .ok (.aload_n 0, 1) := by decide +kernel
theorem d20_1 : decode B20_ 1 = .ok (.aload 4, 2) := by decide +kernel
theorem d20_3 : decode B20_ 3 = .ok (.invokestatic 78, 3) := by decide +kernel
theorem pd_10 : parseMethodDescriptor "(Ljava/lang/Object;)Ljava/lang/Object;" = some ⟨[(.object "java/lang/Object")], some (.object "java/lang/Object")⟩ := by decide +kernel
theorem d20_6 : decode B20_ 6 = .ok (.checkcast 84, 3) := by decide +kernel
theorem d20_9 : decode B20_ 9 = .ok (.aload_n 1, 1) := by decide +kernel
theorem d20_10 : decode B20_ 10 = .ok (.iload_n 2, 1) := by decide +kernel
theorem d20_11 : decode B20_ 11 = .ok (.iload_n 3, 1) := by decide +kernel
theorem d20_12 : decode B20_ 12 = .ok (.aload_n 1, 1) := by decide +kernel
theorem d20_13 : decode B20_ 13 = .ok (.arraylength, 1) := by decide +kernel
theorem d20_14 : decode B20_ 14 = .ok (.invokestatic 34, 3) := by decide +kernel
theorem pd_11 : parseMethodDescriptor "(III)I" = some ⟨[.int, .int, .int], some .int⟩ := by decide +kernel
theorem d20_17 : decode B20_ 17 = .ok (.iload_n 3, 1) := by decide +kernel
theorem d20_18 : decode B20_ 18 = .ok (.invokespecial 75, 3) := by decide +kernel
theorem pd_12 : parseMethodDescriptor "(Ljava/nio/charset/Charset;[BII)V" = some ⟨[(.object "java/nio/charset/Charset"), (.array .byte), .int, .int], none⟩ := by decide +kernel
theorem d20_21 : decode B20_ 21 = .ok (.return_, 1) := by decide +kernel
theorem rmNI (hw : HW a0 Z) (ws : List Jvm.Cond) (x1 : Addr) (ta : Addr) (i1 : Int32) (wso : Addr) (wu : Addr) (ka : ClassId) (cs : List Int32) (Nz : Nat) (zc : Int32) (fm : Value) (h0 : Heap) (n0 : Nat) (Z0 : n0 ≤ h0.size) (E1 : Exa Z h0 x1 "java/lang/String") (F1 : Fld Z h0 x1 "java/lang/String" "value" "[B" .null) (F2 : Fld Z h0 x1 "java/lang/String" "coder" "B" (.int (0 : Int32))) (A1 : Arv Z h0 ta ka .byte (Int32.ofNat Nz) (bsV cs) (.int (0 : Int32))) (S4 : Sta Z Z.heap "java/lang/String" "COMPACT_STRINGS" "Z" (.int zc)) (S6 : Sta Z Z.heap "sun/nio/cs/UTF_8" "INSTANCE" "Lsun/nio/cs/UTF_8;" (.ref wu)) (S7 : Sta Z Z.heap "sun/nio/cs/ISO_8859_1" "INSTANCE" "Lsun/nio/cs/ISO_8859_1;" (.ref wso)) (S5 : Sta Z Z.heap "jdk/internal/util/Preconditions" "SIOOBE_FORMATTER" "Ljava/util/function/BiFunction;" fm) (Es : Exa Z Z.heap wso "sun/nio/cs/ISO_8859_1") (O1 : Old Z n0 h0) (hCS : ¬ zc = 0) (hFM : fm.isRef = true) (hi : i1 = Int32.ofNat cs.length) (h0_ : 0 < cs.length) (hN : cs.length < Nz) (hNz : Nz ≤ 8) (g1 : n0 ≤ x1) (hn : ¬ @Eq Nat x1 ta) (hnu : ¬ wso = wu) : MetN l Z mn20 jdk_42_method_10_code 5 none ws (rM 4 1 8 84) #[(.ref x1), (.ref ta), (.int (0 : Int32)), (.int i1), (.ref wso)] h0 (Q_rmNI Z x1 ta i1 wso wu ka cs Nz zc fm h0 n0) := by
 refine enterN (plainFor_of_name pn_java_lang_String) (fun m => ef_rmNI m _ _ _ _) fun p e s m below meth c s₁ Bd hZ hx hD hlk hml hown hnm X0 e0 => ?_
 have N0 := Fr.nil n0
 have K0 := Keep.refl h0 [x1]
 have lt_E1 := ny E1.lt
 have lt_F1 := ny F1.lt
 have lt_F2 := ny F2.lt
 have lt_A1 := ny A1.lt
 refine Wk.aloadN X0 hx (hD d20_0) (n := 1) rfl rfl rfl ?_
 refine Wk.aload X0 hx (hD d20_1) (n := 3) rfl rfl rfl ?_
 have cl1_ := fun Ls (hLs : LsOk c Ls) => Jvm.LawKit.callS X0 hx (y := mn13) hown (mW hZ hw 187 rfl) (mW hZ hw 188 rfl) (mW hZ hw 189 rfl) (mW hZ hw 190 rfl) (by decide) (backOf (W := 1) (rmRN l Z a0 hw [] wso h0 n0 (by omega)) hZ (oW hw 190 rfl) (oW hw 189 rfl) (by decide) (by decide)) (g := mkF m 3 Ls [(.ref wso), (.ref x1)]) rfl hLs (argsL := [(.ref wso)]) (rest := [(.ref x1)]) (lenOf pd_10 rfl) rfl (leq0 rfl) (hD d20_3) (fun _ _ => ⟨rfl, e0, (by decide : 0 + 0 ≤ _), (by decide : 0 + 0 ≤ _)⟩)
 refine Wk.backS (n := 6) (rc := 0) (rs := 0) (Q := Q_rmRN Z wso h0 n0) (cl1_ _ (lsok hml rfl)) fun vn1 T1 L1 X1 hQ1 => ?_
 clear cl1_
 obtain ⟨rfl, M1, e1⟩ := hQ1
 have N1 := Fr.app N0 M1
 show Wk p e below _ T1 (mkF m 6 _ [(.ref wso), (.ref x1)])
 have f3 := Es.ext O1.2
 refine Wk.castY X1 hx hZ hown (oW hw 191 rfl) e1 (Ins.of_exa f3 (oW hw 192 rfl)) (hD d20_6) (n := 9) rfl fun T2 X2 e2 => ?_
 refine Wk.aloadN X2 hx (hD d20_9) (n := 10) rfl rfl rfl ?_
 refine Wk.iloadN X2 hx (hD d20_10) (n := 11) rfl rfl ?_
 refine Wk.iloadN X2 hx (hD d20_11) (n := 12) rfl rfl ?_
 refine Wk.aloadN X2 hx (hD d20_12) (n := 13) rfl rfl rfl ?_
 obtain ⟨cl4, Ar4, qn4, Sz4, N_4, H_4, Gn4⟩ := id A1
 refine Wk.arrlen X2 hx hZ e2 Ar4 Sz4 N_4 (hD d20_13) (n := 14) rfl ?_
 have cl5_ := fun Ls (hLs : LsOk c Ls) => Jvm.LawKit.callS X2 hx (y := mn15) hown (mW hZ hw 74 rfl) (mW hZ hw 75 rfl) (mW hZ hw 67 rfl) (mW hZ hw 76 rfl) (by decide) (backOf (W := 3) (rmBO l Z a0 hw [] i1 (Int32.ofNat Nz) fm cs.length Nz h0 n0 (by omega) S5 O1 hFM hi rfl (by omega) (by omega)) hZ (oW hw 76 rfl) (oW hw 67 rfl) (by decide) (by decide)) (g := mkF m 14 Ls [(.int (Int32.ofNat Nz)), (.int i1), (.int (0 : Int32)), (.ref ta), (.ref wso), (.ref x1)]) rfl hLs (argsL := [(.int (0 : Int32)), (.int i1), (.int (Int32.ofNat Nz))]) (rest := [(.ref ta), (.ref wso), (.ref x1)]) (lenOf pd_11 rfl) rfl (leq0 rfl) (hD d20_14) (fun _ _ => ⟨rfl, e2, (by decide : 0 + 0 ≤ _), (by decide : 0 + 0 ≤ _)⟩)
 refine Wk.backS (n := 17) (rc := 0) (rs := 0) (Q := Q_rmBO Z i1 (Int32.ofNat Nz) fm cs.length Nz h0 n0) (cl5_ _ (lsok hml rfl)) fun vn5 T5 L5 X5 hQ5 => ?_
 clear cl5_
 obtain ⟨rfl, M5, e5⟩ := hQ5
 have N5 := Fr.app N1 M5
 show Wk p e below _ T5 (mkF m 17 _ [(.int (0 : Int32)), (.ref ta), (.ref wso), (.ref x1)])
 refine Wk.iloadN X5 hx (hD d20_17) (n := 18) rfl rfl ?_
 have cl6_ := fun Ls (hLs : LsOk c Ls) => X5.specialBackH hx (y := mn19) rfl hown (mW hZ hw 193 rfl) (mW hZ hw 194 rfl) (mW hZ hw 195 rfl) (by decide) (backOfWith (W := 0) (rmNH l Z a0 hw [] x1 wso ta i1 wu ka cs Nz zc h0 n0 (by omega) E1 F1 F2 A1 S4 S6 S7 O1 hCS hi (by omega) (by omega) (by omega) (by omega) (by omega) hnu) hZ (oW hw 195 rfl) (oW hw 67 rfl) (by decide) (by decide)) (g := mkF m 18 Ls [(.int i1), (.int (0 : Int32)), (.ref ta), (.ref wso), (.ref x1)]) rfl hLs (Steps.refl _) (a := x1) (argsL := [(.ref wso), (.ref ta), (.int (0 : Int32)), (.int i1)]) (rest := []) (lenOf pd_12 rfl) rfl (leq0 rfl) (hD d20_18) (fun _ _ => ⟨rfl, e5, (by decide : 0 + 1 ≤ _), (by decide : 0 + 8 ≤ _)⟩)
 refine Wk.back (n := 21) (rc := 1) (rs := 8) (Q := Q_rmNH Z x1 wso ta i1 wu ka cs Nz zc h0 n0) (cl6_ _ (lsok hml rfl)) fun vn6 T6 L6 X6 hQ6 => ?_
 clear cl6_
 obtain ⟨t_6, kb_6, rfl, M6, J6, p6_0, p6_1, p6_2, p6_3, gt_6⟩ := hQ6
 have N6 := Fr.app N5 M6
 have sz6 := J6.1
 have K6 := K0.trans J6 (allS (Or.inl (List.mem_of_getElem? (i := 0) rfl)) all0)
 have lt_p6_0 := ny p6_0.lt
 have lt_p6_3 := ny p6_3.lt
 show Wk p e below _ T6 (mkF m 21 _ [])
 exact Wk.leave X6 (v := none) (fun _ => rfl) hlk rfl ⟨t_6, kb_6, rfl, N6, K6, p6_0, p6_1, p6_2, p6_3, (by omega)⟩ (by decide) (by decide) (fun fs hr => X6.returnOut hx Bd.returns (hD d20_21) hr)
def Q_rmCPL (Z : State) (ta : Addr) (tb : Addr) (i4 : Int32) (ka : ClassId) (kd : ClassId) (cs : List Int32) (Nz : Nat) (h0 : Heap) (n0 : Nat) (v : Option Value) (h : Heap) (L : List Loc) : Prop := v = some (.int i4) ∧ Fr n0 L ∧ Keep h0 h [tb] ∧ Arv Z h tb kd .byte i4 (bsV cs) (.int (0 : Int32))
theorem ef_rmCPL (m : MethodId) (x0 : Addr) (x2 : Addr) (x4 : Int32) : entryFrame m #[(.ref x0), (.int (0 : Int32)), (.ref x2), (.int (0 : Int32)), (.int x4)] 7 = mkF m 0 #[.val (.ref x0), .val (.int (0 : Int32)), .val (.ref x2), .val (.int (0 : Int32)), .val (.int x4), .unset, .unset] [] := by first | (simp [entryFrame, mkF, argsToLocals, Value.category]; done) | rfl
theorem pn_java_lang_StringUTF16 : plainName "java/lang/StringUTF16" = true := by first | (simp [plainName, overriddenIn]; done) | decide +kernel
theorem d21_3 : decode B21_ 3 = .ok (.iload 5, 2) := by decide +kernel
theorem d21_5 : decode B21_ 5 = .ok (.iload 4, 2) := by decide +kernel
theorem d21_7 : decode B21_ 7 = .ok (.if_icmp .ge 37, 3) := by decide +kernel
theorem d21_10 : decode B21_ 10 = .ok (.aload_n 0, 1) := by decide +kernel
theorem d21_11 : decode B21_ 11 = .ok (.iload_n 1, 1) := by decide +kernel
theorem d21_12 : decode B21_ 12 = .ok (.caload, 1) := by decide +kernel
theorem d21_13 : decode B21_ 13 = .ok (.istore 6, 2) := by decide +kernel
theorem d21_15 : decode B21_ 15 = .ok (.iload 6, 2) := by decide +kernel
theorem d21_17 : decode B21_ 17 = .ok (.sipush 255, 3) := by decide +kernel
theorem d21_20 : decode B21_ 20 = .ok (.if_icmp .le 6, 3) := by decide +kernel
theorem d21_26 : decode B21_ 26 = .ok (.aload_n 2, 1) := by decide +kernel
theorem d21_27 : decode B21_ 27 = .ok (.iload_n 3, 1) := by decide +kernel
theorem d21_28 : decode B21_ 28 = .ok (.iload 6, 2) := by decide +kernel
theorem d21_30 : decode B21_ 30 = .ok (.i2b, 1) := by decide +kernel
theorem d21_31 : decode B21_ 31 = .ok (.bastore, 1) := by decide +kernel
theorem d21_32 : decode B21_ 32 = .ok (.iinc 1 1, 3) := by decide +kernel
theorem d21_35 : decode B21_ 35 = .ok (.iinc 3 1, 3) := by decide +kernel
theorem d21_38 : decode B21_ 38 = .ok (.iinc 5 1, 3) := by decide +kernel
theorem d21_41 : decode B21_ 41 = .ok (.goto (-38), 3) := by decide +kernel
theorem d21_44 : decode B21_ 44 = .ok (.iload 4, 2) := by decide +kernel
theorem d21_46 : decode B21_ 46 = .ok (.ireturn, 1) := by decide +kernel
theorem d21_0 : decode B21_ 0 = .ok (.iconst 0, 1) := by decide +kernel
theorem d21_1 : decode B21_ 1 = .ok (.istore 5, 2) := by decide +kernel
theorem rmCPL (hw : HW a0 Z) (ws : List Jvm.Cond) (ta : Addr) (tb : Addr) (i4 : Int32) (ka : ClassId) (kd : ClassId) (cs : List Int32) (Nz : Nat) (h0 : Heap) (n0 : Nat) (Z0 : n0 ≤ h0.size) (A1 : Arv Z h0 ta ka .char (Int32.ofNat Nz) (chV cs) (.int (0 : Int32))) (A2 : Arv Z h0 tb kd .byte i4 (bsV ([] : List Int32)) (.int (0 : Int32))) (h4 : i4 = Int32.ofNat cs.length) (hp : ∀ c ∈ cs, ¬ c < 0 ∧ ¬ (255 : Int32) < c) (hN : cs.length ≤ Nz) (hNz : Nz ≤ 8) (g1 : n0 ≤ tb) (hn : ¬ @Eq Nat ta tb) : MetN l Z mn21 jdk_52_method_21_code 7 (some .int) ws (rM 0 0 0 0) #[(.ref ta), (.int (0 : Int32)), (.ref tb), (.int (0 : Int32)), (.int i4)] h0 (Q_rmCPL Z ta tb i4 ka kd cs Nz h0 n0) := by
 refine enterN (plainFor_of_name pn_java_lang_StringUTF16) (fun m => ef_rmCPL m _ _ _) fun p e s m below meth c s₁ Bd hZ hx hD hlk hml hown hnm X0 e0 => ?_
 have N0 := Fr.nil n0
 have K0 := Keep.refl h0 [tb]
 have lt_A1 := ny A1.lt
 have lt_A2 := ny A2.lt
 have loopB : ∀ (fu : Nat) (Tj1 : State) (Hj1 : Heap) (Lcj1 : List Loc) (cq : List Int32) (j1 : Int32) (mz : Nat) (y6 : Slot), (Stand p l e (rM 0 0 0 0) s m #[(.ref ta), (.int (0 : Int32)), (.ref tb), (.int (0 : Int32)), (.int i4)] below meth c Tj1 Lcj1 0 0) → (Tj1.heap = Hj1) → (Keep h0 Hj1 [tb]) → (Fr n0 Lcj1) → (Arv Z Hj1 ta ka .char (Int32.ofNat Nz) (chV cs) (.int (0 : Int32))) → (Arv Z Hj1 tb kd .byte i4 (bsV cq) (.int (0 : Int32))) → (cs.length - mz < fu) → (j1 = Int32.ofNat mz) → (mz ≤ cs.length) → (cq = cs.take mz) → (PlS y6) → Wk p e below (EndN s (Q_rmCPL Z ta tb i4 ka kd cs Nz h0 n0) (rM 0 0 0 0).cells (rM 0 0 0 0).slots) Tj1 (mkF m 3 #[.val (.ref ta), .val (.int j1), .val (.ref tb), .val (.int j1), .val (.int i4), .val (.int j1), y6] []) := by
  intro fu
  induction fu with
  | zero => intros; exfalso; omega
  | succ fu ih =>
   intro Tj1 Hj1 Lcj1 cq j1 mz y6 Xj1 ej1 Kj1 Nj1 G1_ G2_ hfu q1 hm hcq hy6
   have szj1 := Kj1.1
   have lt_G1_ := ny G1_.lt
   have lt_G2_ := ny G2_.lt
   have hcl : cq.length = mz := by rw [hcq, List.length_take]; omega
   refine Wk.iload Xj1 hx (hD d21_3) (n := 5) rfl rfl ?_
   refine Wk.iload Xj1 hx (hD d21_5) (n := 7) rfl rfl ?_
   by_cases hc7 : j1 < i4
   ·
    refine Wk.icmpNo Xj1 hx (hD d21_7) (n := 10) rfl (tlt hc7).2.1 ?_
    have hlm : mz < cs.length := by rw [q1, h4] at hc7; exact (own_lt (by omega) (by omega)).mp hc7
    refine Wk.aloadN Xj1 hx (hD d21_10) (n := 11) rfl rfl rfl ?_
    refine Wk.iloadN Xj1 hx (hD d21_11) (n := 12) rfl rfl ?_
    obtain ⟨cl2, Ar2, qn2, Sz2, N_2, H_2, Gn2⟩ := id G1_
    have hin2 : ¬ (j1 < 0 ∨ cl2.slots.size ≤ (j1).toNatClampNeg) := inb_of Sz2 (by rw [q1]; exact ⟨own_nonneg (by omega), (own_lt (by omega) (by omega)).mpr (by omega)⟩)
    refine Wk.caload Xj1 hx hZ ej1 Ar2 (v := (.int (cs.getD mz 0))) hin2 (H_2.at hin2 (by rw [q1, own_cl (by omega)]; exact own_chg hlm)) (hD d21_12) (n := 13) rfl ?_
    refine Wk.istore Xj1 hx (hD d21_13) (n := 15) rfl (L' := #[.val (.ref ta), .val (.int j1), .val (.ref tb), .val (.int j1), .val (.int i4), .val (.int j1), .val (.int (cs.getD mz 0))]) (by rcases hy6 with rfl | ⟨zz, rfl⟩ <;> rfl) ?_
    refine Wk.iload Xj1 hx (hD d21_15) (n := 17) rfl rfl ?_
    refine Wk.sipush Xj1 hx (hD d21_17) (n := 20) rfl (z := (255 : Int32)) rfl ?_
    have hc20_3 : ¬ ((255 : Int32) < (cs.getD mz 0)) := (hp _ (own_mem hlm)).2
    refine Wk.icmpYes Xj1 hx (hD d21_20) (flt hc20_3).2.2.2 (by decide) (n := 26) (by decide) ?_
    refine Wk.aloadN Xj1 hx (hD d21_26) (n := 27) rfl rfl rfl ?_
    refine Wk.iloadN Xj1 hx (hD d21_27) (n := 28) rfl rfl ?_
    refine Wk.iload Xj1 hx (hD d21_28) (n := 30) rfl rfl ?_
    refine Wk.i2b Xj1 hx (hD d21_30) (n := 31) rfl ?_
    have Pd4 := Arv.pad G2_ (pad_rep (bsV cq) (.int (0 : Int32)) 1)
    obtain ⟨cl5, Ar5, qn5, Sz5, N_5, H_5, Gn5⟩ := id Pd4
    have hin5 : ¬ (j1 < 0 ∨ cl5.slots.size ≤ (j1).toNatClampNeg) := inb_of Sz5 (by rw [q1, h4]; exact ⟨own_nonneg (by omega), (own_lt (by omega) (by omega)).mpr hlm⟩)
    refine Wk.stB Xj1 hx hZ ej1 Ar5 hin5 (hD d21_31) (n := 32) rfl fun T5 H5 X5 e5 Wn5 => ?_
    have Vn5 := Arv.set Ar5 qn5 Sz5 N_5 H_5 Gn5 (fits_nar_byte _) Wn5 cq.length (by rw [q1, hcl]; exact own_cl (by omega)) (by simp [bsV])
    have Un5 : Arv Z H5 tb kd .byte i4 (bsV (cq ++ [(cs.getD mz 0)])) (.int (0 : Int32)) := own_arv (own_sb1 cq (cs.getD mz 0)) Vn5
    have sz5 := Wn5.size
    have K5 := Kj1.wr Wn5 (Or.inl (List.mem_of_getElem? (i := 0) rfl))
    have N5 := Fr.snoc X5 Nj1 (by omega)
    refine Wk.iinc X5 hx (hD d21_32) (n := 35) rfl rfl (L' := #[.val (.ref ta), .val (.int (j1 + (1 : Int32))), .val (.ref tb), .val (.int j1), .val (.int i4), .val (.int j1), .val (.int (cs.getD mz 0))]) rfl ?_
    refine Wk.iinc X5 hx (hD d21_35) (n := 38) rfl rfl (L' := #[.val (.ref ta), .val (.int (j1 + (1 : Int32))), .val (.ref tb), .val (.int (j1 + (1 : Int32))), .val (.int i4), .val (.int j1), .val (.int (cs.getD mz 0))]) rfl ?_
    refine Wk.iinc X5 hx (hD d21_38) (n := 41) rfl rfl (L' := #[.val (.ref ta), .val (.int (j1 + (1 : Int32))), .val (.ref tb), .val (.int (j1 + (1 : Int32))), .val (.int i4), .val (.int (j1 + (1 : Int32))), .val (.int (cs.getD mz 0))]) rfl ?_
    refine Wk.goto X5 hx (hD d21_41) (by decide) (n := 3) (by decide) ?_
    have f6 := (G1_.other Wn5 (nz (by omega)))
    exact ih T5 H5 _ (cq ++ [(cs.getD mz 0)]) (j1 + (1 : Int32)) (mz + 1) (.val (.int (cs.getD mz 0))) (X5.mono (by decide) (by decide)) e5 K5 N5 f6 Un5 (by omega) (by rw [q1]; exact own_ofadd mz 1) (by omega) (by rw [hcq, own_tk3 hlm]) (Or.inr ⟨_, rfl⟩)
   ·
    refine Wk.icmpYes Xj1 hx (hD d21_7) (flt hc7).2.1 (by decide) (n := 44) (by decide) ?_
    refine Wk.iload Xj1 hx (hD d21_44) (n := 46) rfl rfl ?_
    have hmz : mz = cs.length := by have q : ¬ mz < cs.length := fun q => hc7 (by rw [q1, h4]; exact (own_lt (by omega) (by omega)).mpr q); omega
    exact Wk.leave Xj1 (v := some (.int i4)) (fun h => by rw [Bd.returns] at h; cases h) hlk ej1 ⟨rfl, Nj1, Kj1, (by have q := G2_; rw [hcq, hmz, List.take_length] at q; exact q)⟩ (by decide) (by decide) (fun fs hr => retI Xj1 hx Bd.returns (hD d21_46) hr)
 refine Wk.iconst X0 hx (hD d21_0) (n := 1) rfl (z := (0 : Int32)) rfl ?_
 refine Wk.istore X0 hx (hD d21_1) (n := 3) rfl (L' := #[.val (.ref ta), .val (.int (0 : Int32)), .val (.ref tb), .val (.int (0 : Int32)), .val (.int i4), .val (.int (0 : Int32)), .unset]) rfl ?_
 exact loopB (cs.length + 1) s₁ h0 _ ([] : List Int32) (0 : Int32) 0 Slot.unset (X0.mono (by decide) (by decide)) e0 K0 N0 A1 A2 (by omega) rfl (by omega) (by simp) (Or.inl rfl)
def Q_rmCP (Z : State) (ta : Addr) (i3 : Int32) (ka : ClassId) (cs : List Int32) (Nz : Nat) (h0 : Heap) (n0 : Nat) (v : Option Value) (h : Heap) (L : List Loc) : Prop := ∃ (t : Addr) (kb : ClassId), v = some (.ref t) ∧ Fr n0 L ∧ Keep h0 h [] ∧ Arv Z h t kb .byte (Int32.ofNat cs.length) (bsV cs) (.int (0 : Int32)) ∧ (h0.size ≤ t)
theorem ef_rmCP (m : MethodId) (x0 : Addr) (x2 : Int32) : entryFrame m #[(.ref x0), (.int (0 : Int32)), (.int x2)] 6 = mkF m 0 #[.val (.ref x0), .val (.int (0 : Int32)), .val (.int x2), .unset, .unset, .unset] [] := by first | (simp [entryFrame, mkF, argsToLocals, Value.category]; done) | rfl
theorem d22_0 : decode B22_ 0 = .ok (.iload_n 2, 1) := by decide +kernel
theorem d22_1 : decode B22_ 1 = .ok (.newarray .byte, 2) := by decide +kernel
theorem d22_3 : decode B22_ 3 = .ok (.astore_n 3, 1) := by decide +kernel
theorem d22_4 : decode B22_ 4 = .ok (.aload_n 0, 1) := by decide +kernel
theorem d22_5 : decode B22_ 5 = .ok (.iload_n 1, 1) := by decide +kernel
theorem d22_6 : decode B22_ 6 = .ok (.aload_n 3, 1) := by decide +kernel
theorem d22_7 : decode B22_ 7 = .ok (.iconst 0, 1) := by decide +kernel
theorem d22_8 : decode B22_ 8 = .ok (.iload_n 2, 1) := by decide +kernel
theorem d22_9 : decode B22_ 9 = .ok (.invokestatic 115, 3) := by decide +kernel
theorem pd_13 : parseMethodDescriptor "([CI[BII)I" = some ⟨[(.array .char), .int, (.array .byte), .int, .int], some .int⟩ := by decide +kernel
theorem d22_12 : decode B22_ 12 = .ok (.istore 4, 2) := by decide +kernel
theorem d22_14 : decode B22_ 14 = .ok (.iload 4, 2) := by decide +kernel
theorem d22_16 : decode B22_ 16 = .ok (.iload_n 2, 1) := by decide +kernel
theorem d22_17 : decode B22_ 17 = .ok (.if_icmp .eq 40, 3) := by decide +kernel
theorem d22_57 : decode B22_ 57 = .ok (.aload_n 3, 1) := by decide +kernel
theorem d22_58 : decode B22_ 58 = .ok (.areturn, 1) := by decide +kernel
theorem rmCP (hw : HW a0 Z) (ws : List Jvm.Cond) (ta : Addr) (i3 : Int32) (ka : ClassId) (cs : List Int32) (Nz : Nat) (h0 : Heap) (n0 : Nat) (Z0 : n0 ≤ h0.size) (A1 : Arv Z h0 ta ka .char (Int32.ofNat Nz) (chV cs) (.int (0 : Int32))) (hi : i3 = Int32.ofNat cs.length) (hp : ∀ c ∈ cs, ¬ c < 0 ∧ ¬ (255 : Int32) < c) (hN : cs.length ≤ Nz) (hNz : Nz ≤ 8) : MetN l Z mn22 jdk_52_method_16_code 6 (some (.array .byte)) ws (rM 1 1 8 18) #[(.ref ta), (.int (0 : Int32)), (.int i3)] h0 (Q_rmCP Z ta i3 ka cs Nz h0 n0) := by
 refine enterN (plainFor_of_name pn_java_lang_StringUTF16) (fun m => ef_rmCP m _ _) fun p e s m below meth c s₁ Bd hZ hx hD hlk hml hown hnm X0 e0 => ?_
 have N0 := Fr.nil n0
 have K0 := Keep.refl h0 []
 have lt_A1 := ny A1.lt
 refine Wk.iloadN X0 hx (hD d22_0) (n := 1) rfl rfl ?_
 refine Wk.newP X0 hx hZ (oW hw 0 rfl) e0 (hD d22_1) (n := 3) rfl (by rw [hi]; exact own_nonneg (by omega)) (cap := 8) (by rw [hi, own_cl (by omega)]; omega) (by decide) (by decide) (by decide) fun T1 H1 b1 k1 gn1 X1 e1 Ex1 An1 => ?_
 have gn1 := nx gn1
 have sz1 := Ex1.1
 have K1 := K0.ext Ex1
 have Vn1 : Arv Z H1 b1 k1 .byte i3 (List.replicate 8 (.int (0 : Int32))) (.int (0 : Int32)) := (Arv.new An1 (by rw [hi]; exact own_nonneg (by omega))).pad (pad_rep [] (.int (0 : Int32)) 8)
 have lt1 := ny Vn1.lt
 refine Wk.astoreN X1 hx (hD d22_3) (n := 4) rfl rfl (L' := #[.val (.ref ta), .val (.int (0 : Int32)), .val (.int i3), .val (.ref b1), .unset, .unset]) rfl ?_
 refine Wk.aloadN X1 hx (hD d22_4) (n := 5) rfl rfl rfl ?_
 refine Wk.iloadN X1 hx (hD d22_5) (n := 6) rfl rfl ?_
 refine Wk.aloadN X1 hx (hD d22_6) (n := 7) rfl rfl rfl ?_
 refine Wk.iconst X1 hx (hD d22_7) (n := 8) rfl (z := (0 : Int32)) rfl ?_
 refine Wk.iloadN X1 hx (hD d22_8) (n := 9) rfl rfl ?_
 have Pd := Arv.pad Vn1 (fun i => (pad_rep [] _ 8 i).symm)
 have f2 := (A1.ext Ex1)
 have cl3_ := fun Ls (hLs : LsOk c Ls) => Jvm.LawKit.callS X1 hx (y := mn21) hown (mW hZ hw 92 rfl) (mW hZ hw 93 rfl) (mW hZ hw 90 rfl) (mW hZ hw 94 rfl) (by decide) (backOf (W := 0) (rmCPL l Z a0 hw [] ta b1 i3 ka k1 cs Nz H1 n0 (by omega) f2 Pd hi hp (by omega) (by omega) (by omega) (by omega)) hZ (oW hw 94 rfl) (oW hw 90 rfl) (by decide) (by decide)) (g := mkF m 9 Ls [(.int i3), (.int (0 : Int32)), (.ref b1), (.int (0 : Int32)), (.ref ta)]) rfl hLs (argsL := [(.ref ta), (.int (0 : Int32)), (.ref b1), (.int (0 : Int32)), (.int i3)]) (rest := []) (lenOf pd_13 rfl) rfl (leq0 rfl) (hD d22_9) (fun _ _ => ⟨rfl, e1, (by decide : 1 + 0 ≤ _), (by decide : 8 + 0 ≤ _)⟩)
 refine Wk.backS (n := 12) (rc := 0) (rs := 0) (Q := Q_rmCPL Z ta b1 i3 ka k1 cs Nz H1 n0) (cl3_ _ (lsok hml rfl)) fun vn3 T3 L3 X3 hQ3 => ?_
 clear cl3_
 obtain ⟨rfl, M3, J3, p3_0⟩ := hQ3
 have N3 := Fr.app N0 M3
 have sz3 := J3.1
 have K3 := K1.trans J3 (allS (Or.inr (by omega)) all0)
 have lt_p3_0 := ny p3_0.lt
 show Wk p e below _ T3 (mkF m 12 _ [(.int i3)])
 refine Wk.istore X3 hx (hD d22_12) (n := 14) rfl (L' := #[.val (.ref ta), .val (.int (0 : Int32)), .val (.int i3), .val (.ref b1), .val (.int i3), .unset]) rfl ?_
 refine Wk.iload X3 hx (hD d22_14) (n := 16) rfl rfl ?_
 refine Wk.iloadN X3 hx (hD d22_16) (n := 17) rfl rfl ?_
 have hc17_4 : i3 = i3 := rfl
 refine Wk.icmpYes X3 hx (hD d22_17) (teq hc17_4).1 (by decide) (n := 57) (by decide) ?_
 refine Wk.aloadN X3 hx (hD d22_57) (n := 58) rfl rfl rfl ?_
 exact Wk.leave X3 (v := some (.ref b1)) (fun h => by rw [Bd.returns] at h; cases h) hlk rfl ⟨b1, k1, rfl, N3, K3, (by have q := p3_0; rw [hi] at q; exact q), (by omega)⟩ (by decide) (by decide) (fun fs hr => retA X3 hx rfl Bd.returns rfl (hD d22_58) hr)
def Q_rmCFA (Z : State) (tb : Addr) (i1 : Int32) (kd : ClassId) (vs : List Value) (cs : List Int32) (h0 : Heap) (n0 : Nat) (v : Option Value) (h : Heap) (L : List Loc) : Prop := v = some (.int (0 : Int32)) ∧ Fr n0 L ∧ h = h0
theorem ef_rmCFA (m : MethodId) (x0 : Addr) (x1 : Int32) : entryFrame m #[(.ref x0), (.int x1)] 2 = mkF m 0 #[.val (.ref x0), .val (.int x1)] [] := by first | (simp [entryFrame, mkF, argsToLocals, Value.category]; done) | rfl
theorem d23_0 : decode B23_ 0 = .ok (.iload_n 1, 1) := by decide +kernel
theorem d23_1 : decode B23_ 1 = .ok (.aload_n 0, 1) := by decide +kernel
theorem d23_2 : decode B23_ 2 = .ok (.arraylength, 1) := by decide +kernel
theorem d23_3 : decode B23_ 3 = .ok (.isub, 1) := by decide +kernel
theorem d23_4 : decode B23_ 4 = .ok (.bipush 31, 2) := by decide +kernel
theorem d23_6 : decode B23_ 6 = .ok (.iushr, 1) := by decide +kernel
theorem d23_7 : decode B23_ 7 = .ok (.i2b, 1) := by decide +kernel
theorem d23_8 : decode B23_ 8 = .ok (.ireturn, 1) := by decide +kernel
theorem rmCFA (hw : HW a0 Z) (ws : List Jvm.Cond) (tb : Addr) (i1 : Int32) (kd : ClassId) (vs : List Value) (cs : List Int32) (h0 : Heap) (n0 : Nat) (Z0 : n0 ≤ h0.size) (A1 : Arv Z h0 tb kd .byte (Int32.ofNat cs.length) vs (.int (0 : Int32))) (hi : i1 = Int32.ofNat cs.length) : MetN l Z mn23 jdk_52_method_15_code 2 (some .byte) ws (rM 0 0 0 0) #[(.ref tb), (.int i1)] h0 (Q_rmCFA Z tb i1 kd vs cs h0 n0) := by
 refine enterN (plainFor_of_name pn_java_lang_StringUTF16) (fun m => ef_rmCFA m _ _) fun p e s m below meth c s₁ Bd hZ hx hD hlk hml hown hnm X0 e0 => ?_
 have N0 := Fr.nil n0
 have K0 := Keep.refl h0 []
 have lt_A1 := ny A1.lt
 refine Wk.iloadN X0 hx (hD d23_0) (n := 1) rfl rfl ?_
 refine Wk.aloadN X0 hx (hD d23_1) (n := 2) rfl rfl rfl ?_
 obtain ⟨cl1, Ar1, qn1, Sz1, N_1, H_1, Gn1⟩ := id A1
 refine Wk.arrlen X0 hx hZ e0 Ar1 Sz1 N_1 (hD d23_2) (n := 3) rfl ?_
 refine Wk.isub X0 hx (hD d23_3) (n := 4) rfl ?_
 refine Wk.bipush X0 hx (hD d23_4) (n := 6) rfl (z := (31 : Int32)) rfl ?_
 refine Wk.iushr X0 hx (hD d23_6) (n := 7) rfl ?_
 refine Wk.i2b X0 hx (hD d23_7) (n := 8) rfl ?_
 exact Wk.leave X0 (v := some (.int (0 : Int32))) (fun h => by rw [Bd.returns] at h; cases h) hlk e0 ⟨rfl, N0, rfl⟩ (by decide) (by decide) (fun fs hr => retNz X0 hx (t := .byte) (by rw [hi]; exact own_cfa _) Bd.returns (by simp) (hD d23_8) hr)
def Q_rmNV (Z : State) (x1 : Addr) (ta : Addr) (i3 : Int32) (ka : ClassId) (cs : List Int32) (Nz : Nat) (zc : Int32) (h0 : Heap) (n0 : Nat) (v : Option Value) (h : Heap) (L : List Loc) : Prop := ∃ (t : Addr) (kb : ClassId), v = none ∧ Fr n0 L ∧ Keep h0 h [x1] ∧ Exa Z h x1 "java/lang/String" ∧ Fld Z h x1 "java/lang/String" "value" "[B" (.ref t) ∧ Fld Z h x1 "java/lang/String" "coder" "B" (.int (0 : Int32)) ∧ Arv Z h t kb .byte (Int32.ofNat cs.length) (bsV cs) (.int (0 : Int32)) ∧ (h0.size ≤ t)
theorem ef_rmNV (m : MethodId) (x0 : Addr) (x1 : Addr) (x3 : Int32) : entryFrame m #[(.ref x0), (.ref x1), (.int (0 : Int32)), (.int x3), .null] 6 = mkF m 0 #[.val (.ref x0), .val (.ref x1), .val (.int (0 : Int32)), .val (.int x3), .val .null, .unset] [] := by first | (simp [entryFrame, mkF, argsToLocals, Value.category]; done) | rfl
theorem d24_0 : decode B24_ 0 = .ok (.aload_n 0, 1) := by decide +kernel
theorem d24_1 : decode B24_ 1 = .ok (.invokespecial 1, 3) := by decide +kernel
theorem d24_4 : decode B24_ 4 = .ok (.iload_n 3, 1) := by decide +kernel
theorem d24_5 : decode B24_ 5 = .ok (.ifCond .ne 22, 3) := by decide +kernel
theorem d24_27 : decode B24_ 27 = .ok (.getstatic 38, 3) := by decide +kernel
theorem d24_30 : decode B24_ 30 = .ok (.ifCond .eq 28, 3) := by decide +kernel
theorem d24_33 : decode B24_ 33 = .ok (.aload_n 1, 1) := by decide +kernel
theorem d24_34 : decode B24_ 34 = .ok (.iload_n 2, 1) := by decide +kernel
theorem d24_35 : decode B24_ 35 = .ok (.iload_n 3, 1) := by decide +kernel
theorem d24_36 : decode B24_ 36 = .ok (.invokestatic 177, 3) := by decide +kernel
theorem pd_14 : parseMethodDescriptor "([CII)[B" = some ⟨[(.array .char), .int, .int], some (.array .byte)⟩ := by decide +kernel
theorem d24_39 : decode B24_ 39 = .ok (.astore 5, 2) := by decide +kernel
theorem d24_41 : decode B24_ 41 = .ok (.aload_n 0, 1) := by decide +kernel
theorem d24_42 : decode B24_ 42 = .ok (.aload 5, 2) := by decide +kernel
theorem d24_44 : decode B24_ 44 = .ok (.iload_n 3, 1) := by decide +kernel
theorem d24_45 : decode B24_ 45 = .ok (.invokestatic 47, 3) := by decide +kernel
theorem pd_15 : parseMethodDescriptor "([BI)B" = some ⟨[(.array .byte), .int], some .byte⟩ := by decide +kernel
theorem d24_48 : decode B24_ 48 = .ok (.putfield 15, 3) := by decide +kernel
theorem d24_51 : decode B24_ 51 = .ok (.aload_n 0, 1) := by decide +kernel
theorem d24_52 : decode B24_ 52 = .ok (.aload 5, 2) := by decide +kernel
theorem d24_54 : decode B24_ 54 = .ok (.putfield 9, 3) := by decide +kernel
theorem d24_57 : decode B24_ 57 = .ok (.return_, 1) := by decide +kernel
theorem rmNV (hw : HW a0 Z) (ws : List Jvm.Cond) (x1 : Addr) (ta : Addr) (i3 : Int32) (ka : ClassId) (cs : List Int32) (Nz : Nat) (zc : Int32) (h0 : Heap) (n0 : Nat) (Z0 : n0 ≤ h0.size) (E1 : Exa Z h0 x1 "java/lang/String") (F1 : Fld Z h0 x1 "java/lang/String" "value" "[B" .null) (F2 : Fld Z h0 x1 "java/lang/String" "coder" "B" (.int (0 : Int32))) (A1 : Arv Z h0 ta ka .char (Int32.ofNat Nz) (chV cs) (.int (0 : Int32))) (S4 : Sta Z Z.heap "java/lang/String" "COMPACT_STRINGS" "Z" (.int zc)) (O1 : Old Z n0 h0) (hCS : ¬ zc = 0) (hi : i3 = Int32.ofNat cs.length) (h0_ : 0 < cs.length) (hp : ∀ c ∈ cs, ¬ c < 0 ∧ ¬ (255 : Int32) < c) (hN : cs.length ≤ Nz) (hNz : Nz ≤ 8) (g1 : n0 ≤ x1) (hn : ¬ @Eq Nat x1 ta) : MetN l Z mn24 jdk_42_method_149_code 6 none ws (rM 2 1 8 35) #[(.ref x1), (.ref ta), (.int (0 : Int32)), (.int i3), .null] h0 (Q_rmNV Z x1 ta i3 ka cs Nz zc h0 n0) := by
 refine enterN (plainFor_of_name pn_java_lang_String) (fun m => ef_rmNV m _ _ _) fun p e s m below meth c s₁ Bd hZ hx hD hlk hml hown hnm X0 e0 => ?_
 have N0 := Fr.nil n0
 have K0 := Keep.refl h0 [x1]
 have lt_E1 := ny E1.lt
 have lt_F1 := ny F1.lt
 have lt_F2 := ny F2.lt
 have lt_A1 := ny A1.lt
 refine Wk.aloadN X0 hx (hD d24_0) (n := 1) rfl rfl rfl ?_
 refine Wk.initO X0 hx hZ hown (oW hw 86 rfl) (oW hw 9 rfl) (oW hw 10 rfl) e0 (by rw [hml]; rfl) (hD d24_1) (n := 4) rfl (by decide) (w := 0) (Nat.le_of_eq rfl) (by decide) fun T1 X1 e1 => ?_
 refine Wk.iloadN X1 hx (hD d24_4) (n := 5) rfl rfl ?_
 have hc5_2 : ¬ (i3 = (0 : Int32)) := by rw [hi]; exact fun q => absurd ((own_eqi (b := 0) (by omega) (by decide)).mp q) (by omega)
 refine Wk.ifYes X1 hx (hD d24_5) ((if0 _ _).trans (feq hc5_2).2) (by decide) (n := 27) (by decide) ?_
 refine Wk.getS X1 hx hZ hown (host := "") (Or.inl (oW hw 87 rfl)) Via.refl e1 (Sta.ext O1.2 S4) (hD d24_27) (n := 30) rfl fun T3 X3 e3 => ?_
 have hc30_4 : ¬ (zc = (0 : Int32)) := hCS
 refine Wk.ifNo X3 hx (hD d24_30) (n := 33) rfl ((if0 _ _).trans (feq hc30_4).1) ?_
 refine Wk.aloadN X3 hx (hD d24_33) (n := 34) rfl rfl rfl ?_
 refine Wk.iloadN X3 hx (hD d24_34) (n := 35) rfl rfl ?_
 refine Wk.iloadN X3 hx (hD d24_35) (n := 36) rfl rfl ?_
 have cl5_ := fun Ls (hLs : LsOk c Ls) => Jvm.LawKit.callS X3 hx (y := mn22) hown (mW hZ hw 88 rfl) (mW hZ hw 89 rfl) (mW hZ hw 90 rfl) (mW hZ hw 91 rfl) (by decide) (backOf (W := 0) (rmCP l Z a0 hw [] ta i3 ka cs Nz h0 n0 (by omega) A1 hi hp (by omega) (by omega)) hZ (oW hw 91 rfl) (oW hw 90 rfl) (by decide) (by decide)) (g := mkF m 36 Ls [(.int i3), (.int (0 : Int32)), (.ref ta)]) rfl hLs (argsL := [(.ref ta), (.int (0 : Int32)), (.int i3)]) (rest := []) (lenOf pd_14 rfl) rfl (leq0 rfl) (hD d24_36) (fun _ _ => ⟨rfl, e3, (by decide : 0 + 1 ≤ _), (by decide : 0 + 8 ≤ _)⟩)
 refine Wk.backS (n := 39) (rc := 1) (rs := 8) (Q := Q_rmCP Z ta i3 ka cs Nz h0 n0) (cl5_ _ (lsok hml rfl)) fun vn5 T5 L5 X5 hQ5 => ?_
 clear cl5_
 obtain ⟨t_5, kb_5, rfl, M5, J5, p5_0, gt_5⟩ := hQ5
 have N5 := Fr.app N0 M5
 have sz5 := J5.1
 have K5 := K0.trans J5 (fun x hx => nomatch hx)
 have lt_p5_0 := ny p5_0.lt
 show Wk p e below _ T5 (mkF m 39 _ [(.ref t_5)])
 refine Wk.astore X5 hx (hD d24_39) (n := 41) rfl rfl (L' := #[.val (.ref x1), .val (.ref ta), .val (.int (0 : Int32)), .val (.int i3), .val .null, .val (.ref t_5)]) rfl ?_
 refine Wk.aloadN X5 hx (hD d24_41) (n := 42) rfl rfl rfl ?_
 refine Wk.aload X5 hx (hD d24_42) (n := 44) rfl rfl rfl ?_
 refine Wk.iloadN X5 hx (hD d24_44) (n := 45) rfl rfl ?_
 have cl6_ := fun Ls (hLs : LsOk c Ls) => Jvm.LawKit.callS X5 hx (y := mn23) hown (mW hZ hw 95 rfl) (mW hZ hw 96 rfl) (mW hZ hw 90 rfl) (mW hZ hw 97 rfl) (by decide) (backOf (W := 1) (rmCFA l Z a0 hw [] t_5 i3 kb_5 (bsV cs) cs T5.heap n0 (by omega) p5_0 hi) hZ (oW hw 97 rfl) (oW hw 90 rfl) (by decide) (by decide)) (g := mkF m 45 Ls [(.int i3), (.ref t_5), (.ref x1)]) rfl hLs (argsL := [(.ref t_5), (.int i3)]) (rest := [(.ref x1)]) (lenOf pd_15 rfl) rfl (leq0 rfl) (hD d24_45) (fun _ _ => ⟨rfl, rfl, (by decide : 1 + 0 ≤ _), (by decide : 8 + 0 ≤ _)⟩)
 refine Wk.backS (n := 48) (rc := 0) (rs := 0) (Q := Q_rmCFA Z t_5 i3 kb_5 (bsV cs) cs T5.heap n0) (cl6_ _ (lsok hml rfl)) fun vn6 T6 L6 X6 hQ6 => ?_
 clear cl6_
 obtain ⟨rfl, M6, e6⟩ := hQ6
 have N6 := Fr.app N5 M6
 show Wk p e below _ T6 (mkF m 48 _ [(.int (0 : Int32)), (.ref x1)])
 have f7 := (F2.keep J5 nin0)
 have f8 := (E1.keep J5)
 refine Wk.putFN X6 hx hZ hown (oW hw 98 rfl) Via.refl e6 f7 f8 (Or.inr ⟨(oW hw 99 rfl), rfl, hnm⟩) (oW hw 66 rfl) (ty := .byte) (by decide) (v' := (.int (0 : Int32))) rfl rfl (hD d24_48) (n := 51) rfl fun T9 H9 X9 e9 Wn9 => ?_
 have sz9 := Wn9.size
 have Fn9 := f7.same Wn9
 have K9 := K5.wr Wn9 (Or.inl (List.mem_of_getElem? (i := 0) rfl))
 have N9 := Fr.snoc X9 N6 (by omega)
 refine Wk.aloadN X9 hx (hD d24_51) (n := 52) rfl rfl rfl ?_
 refine Wk.aload X9 hx (hD d24_52) (n := 54) rfl rfl rfl ?_
 have f10 := ((F1.keep J5 nin0).other Wn9 (Or.inr (slot_ne (Or.inr (oW hw 101 rfl)) (Or.inr (oW hw 99 rfl)) (by decide) (t := (.array .byte)) (t' := .byte) (by decide) (by decide))))
 have f11 := (f8.wr Wn9)
 refine Wk.putF X9 hx hZ hown (host := "") (Or.inl (oW hw 100 rfl)) Via.refl e9 f10 f11 (Or.inr ⟨(oW hw 101 rfl), rfl, hnm⟩) (oW hw 66 rfl) (ty := (.array .byte)) (by decide) rfl rfl (hD d24_54) (n := 57) rfl fun T12 H12 X12 e12 Wn12 => ?_
 have sz12 := Wn12.size
 have Fn12 := f10.same Wn12
 have K12 := K9.wr Wn12 (Or.inl (List.mem_of_getElem? (i := 0) rfl))
 have N12 := Fr.snoc X12 N9 (by omega)
 have f13 := (f11.wr Wn12)
 have f14 := (Fn9.other Wn12 (Or.inr (slot_ne (Or.inr (oW hw 99 rfl)) (Or.inr (oW hw 101 rfl)) (by decide) (t := .byte) (t' := (.array .byte)) (by decide) (by decide))))
 have f15 := ((p5_0.other Wn9 (nz (by omega))).other Wn12 (nz (by omega)))
 exact Wk.leave X12 (v := none) (fun _ => rfl) hlk e12 ⟨t_5, kb_5, rfl, N12, K12, f13, Fn12, f14, f15, (by omega)⟩ (by decide) (by decide) (fun fs hr => X12.returnOut hx Bd.returns (hD d24_57) hr)
def Q_rmRC (Z : State) (ta : Addr) (i3 : Int32) (ka : ClassId) (cs : List Int32) (Nz : Nat) (fm : Value) (h0 : Heap) (n0 : Nat) (v : Option Value) (h : Heap) (L : List Loc) : Prop := v = some .null ∧ Fr n0 L ∧ h = h0
theorem ef_rmRC (m : MethodId) (x0 : Addr) (x2 : Int32) : entryFrame m #[(.ref x0), (.int (0 : Int32)), (.int x2)] 3 = mkF m 0 #[.val (.ref x0), .val (.int (0 : Int32)), .val (.int x2)] [] := by first | (simp [entryFrame, mkF, argsToLocals, Value.category]; done) | rfl
theorem d25_0 : decode B25_ 0 = .ok (.iload_n 1, 1) := by decide +kernel
theorem d25_1 : decode B25_ 1 = .ok (.iload_n 2, 1) := by decide +kernel
theorem d25_2 : decode B25_ 2 = .ok (.aload_n 0, 1) := by decide +kernel
theorem d25_3 : decode B25_ 3 = .ok (.arraylength, 1) := by decide +kernel
theorem d25_4 : decode B25_ 4 = .ok (.invokestatic 34, 3) := by decide +kernel
theorem d25_7 : decode B25_ 7 = .ok (.pop, 1) := by decide +kernel
theorem d25_8 : decode B25_ 8 = .ok (.aconst_null, 1) := by decide +kernel
theorem d25_9 : decode B25_ 9 = .ok (.areturn, 1) := by decide +kernel
theorem rmRC (hw : HW a0 Z) (ws : List Jvm.Cond) (ta : Addr) (i3 : Int32) (ka : ClassId) (cs : List Int32) (Nz : Nat) (fm : Value) (h0 : Heap) (n0 : Nat) (Z0 : n0 ≤ h0.size) (A1 : Arv Z h0 ta ka .char (Int32.ofNat Nz) (chV cs) (.int (0 : Int32))) (S5 : Sta Z Z.heap "jdk/internal/util/Preconditions" "SIOOBE_FORMATTER" "Ljava/util/function/BiFunction;" fm) (O1 : Old Z n0 h0) (hFM : fm.isRef = true) (hi : i3 = Int32.ofNat cs.length) (hN : cs.length ≤ Nz) (hNz : Nz ≤ 8) : MetN l Z mn25 jdk_42_method_5_code 3 (some (.object "java/lang/Void")) ws (rM 2 0 0 29) #[(.ref ta), (.int (0 : Int32)), (.int i3)] h0 (Q_rmRC Z ta i3 ka cs Nz fm h0 n0) := by
 refine enterN (plainFor_of_name pn_java_lang_String) (fun m => ef_rmRC m _ _) fun p e s m below meth c s₁ Bd hZ hx hD hlk hml hown hnm X0 e0 => ?_
 have N0 := Fr.nil n0
 have K0 := Keep.refl h0 []
 have lt_A1 := ny A1.lt
 refine Wk.iloadN X0 hx (hD d25_0) (n := 1) rfl rfl ?_
 refine Wk.iloadN X0 hx (hD d25_1) (n := 2) rfl rfl ?_
 refine Wk.aloadN X0 hx (hD d25_2) (n := 3) rfl rfl rfl ?_
 obtain ⟨cl1, Ar1, qn1, Sz1, N_1, H_1, Gn1⟩ := id A1
 refine Wk.arrlen X0 hx hZ e0 Ar1 Sz1 N_1 (hD d25_3) (n := 4) rfl ?_
 have cl2_ := fun Ls (hLs : LsOk c Ls) => Jvm.LawKit.callS X0 hx (y := mn15) hown (mW hZ hw 74 rfl) (mW hZ hw 75 rfl) (mW hZ hw 67 rfl) (mW hZ hw 76 rfl) (by decide) (backOf (W := 0) (rmBO l Z a0 hw [] i3 (Int32.ofNat Nz) fm cs.length Nz h0 n0 (by omega) S5 O1 hFM hi rfl (by omega) (by omega)) hZ (oW hw 76 rfl) (oW hw 67 rfl) (by decide) (by decide)) (g := mkF m 4 Ls [(.int (Int32.ofNat Nz)), (.int i3), (.int (0 : Int32))]) rfl hLs (argsL := [(.int (0 : Int32)), (.int i3), (.int (Int32.ofNat Nz))]) (rest := []) (lenOf pd_11 rfl) rfl (leq0 rfl) (hD d25_4) (fun _ _ => ⟨rfl, e0, (by decide : 0 + 0 ≤ _), (by decide : 0 + 0 ≤ _)⟩)
 refine Wk.backS (n := 7) (rc := 0) (rs := 0) (Q := Q_rmBO Z i3 (Int32.ofNat Nz) fm cs.length Nz h0 n0) (cl2_ _ (lsok hml rfl)) fun vn2 T2 L2 X2 hQ2 => ?_
 clear cl2_
 obtain ⟨rfl, M2, e2⟩ := hQ2
 have N2 := Fr.app N0 M2
 show Wk p e below _ T2 (mkF m 7 _ [(.int (0 : Int32))])
 refine Wk.pop X2 hx (hD d25_7) (n := 8) rfl rfl ?_
 refine Wk.aconstNull X2 hx (hD d25_8) (n := 9) rfl ?_
 exact Wk.leave X2 (v := some .null) (fun h => by rw [Bd.returns] at h; cases h) hlk e2 ⟨rfl, N2, rfl⟩ (by decide) (by decide) (fun fs hr => retA X2 hx rfl Bd.returns rfl (hD d25_9) hr)
def Q_rmNC (Z : State) (x1 : Addr) (ta : Addr) (i3 : Int32) (ka : ClassId) (cs : List Int32) (Nz : Nat) (zc : Int32) (fm : Value) (h0 : Heap) (n0 : Nat) (v : Option Value) (h : Heap) (L : List Loc) : Prop := ∃ (t : Addr) (kb : ClassId), v = none ∧ Fr n0 L ∧ Keep h0 h [x1] ∧ Exa Z h x1 "java/lang/String" ∧ Fld Z h x1 "java/lang/String" "value" "[B" (.ref t) ∧ Fld Z h x1 "java/lang/String" "coder" "B" (.int (0 : Int32)) ∧ Arv Z h t kb .byte (Int32.ofNat cs.length) (bsV cs) (.int (0 : Int32)) ∧ (h0.size ≤ t)
theorem ef_rmNC (m : MethodId) (x0 : Addr) (x1 : Addr) (x3 : Int32) : entryFrame m #[(.ref x0), (.ref x1), (.int (0 : Int32)), (.int x3)] 4 = mkF m 0 #[.val (.ref x0), .val (.ref x1), .val (.int (0 : Int32)), .val (.int x3)] [] := by first | (simp [entryFrame, mkF, argsToLocals, Value.category]; done) | rfl
theorem d26_0 : decode B26_ 0 = .ok (.aload_n 0, 1) := by decide +kernel
theorem d26_1 : decode B26_ 1 = .ok (.aload_n 1, 1) := by decide +kernel
theorem d26_2 : decode B26_ 2 = .ok (.iload_n 2, 1) := by decide +kernel
theorem d26_3 : decode B26_ 3 = .ok (.iload_n 3, 1) := by decide +kernel
theorem d26_4 : decode B26_ 4 = .ok (.aload_n 1, 1) := by decide +kernel
theorem d26_5 : decode B26_ 5 = .ok (.iload_n 2, 1) := by decide +kernel
theorem d26_6 : decode B26_ 6 = .ok (.iload_n 3, 1) := by decide +kernel
theorem d26_7 : decode B26_ 7 = .ok (.invokestatic 30, 3) := by decide +kernel
theorem pd_16 : parseMethodDescriptor "([CII)Ljava/lang/Void;" = some ⟨[(.array .char), .int, .int], some (.object "java/lang/Void")⟩ := by decide +kernel
theorem d26_10 : decode B26_ 10 = .ok (.invokespecial 27, 3) := by decide +kernel
theorem pd_17 : parseMethodDescriptor "([CIILjava/lang/Void;)V" = some ⟨[(.array .char), .int, .int, (.object "java/lang/Void")], none⟩ := by decide +kernel
theorem d26_13 : decode B26_ 13 = .ok (.return_, 1) := by decide +kernel
theorem rmNC (hw : HW a0 Z) (ws : List Jvm.Cond) (x1 : Addr) (ta : Addr) (i3 : Int32) (ka : ClassId) (cs : List Int32) (Nz : Nat) (zc : Int32) (fm : Value) (h0 : Heap) (n0 : Nat) (Z0 : n0 ≤ h0.size) (E1 : Exa Z h0 x1 "java/lang/String") (F1 : Fld Z h0 x1 "java/lang/String" "value" "[B" .null) (F2 : Fld Z h0 x1 "java/lang/String" "coder" "B" (.int (0 : Int32))) (A1 : Arv Z h0 ta ka .char (Int32.ofNat Nz) (chV cs) (.int (0 : Int32))) (S4 : Sta Z Z.heap "java/lang/String" "COMPACT_STRINGS" "Z" (.int zc)) (S5 : Sta Z Z.heap "jdk/internal/util/Preconditions" "SIOOBE_FORMATTER" "Ljava/util/function/BiFunction;" fm) (O1 : Old Z n0 h0) (hCS : ¬ zc = 0) (hFM : fm.isRef = true) (hi : i3 = Int32.ofNat cs.length) (h0_ : 0 < cs.length) (hp : ∀ c ∈ cs, ¬ c < 0 ∧ ¬ (255 : Int32) < c) (hN : cs.length ≤ Nz) (hNz : Nz ≤ 8) (g1 : n0 ≤ x1) (hn : ¬ @Eq Nat x1 ta) : MetN l Z mn26 jdk_42_method_4_code 4 none ws (rM 3 1 8 52) #[(.ref x1), (.ref ta), (.int (0 : Int32)), (.int i3)] h0 (Q_rmNC Z x1 ta i3 ka cs Nz zc fm h0 n0) := by
 refine enterN (plainFor_of_name pn_java_lang_String) (fun m => ef_rmNC m _ _ _) fun p e s m below meth c s₁ Bd hZ hx hD hlk hml hown hnm X0 e0 => ?_
 have N0 := Fr.nil n0
 have K0 := Keep.refl h0 [x1]
 have lt_E1 := ny E1.lt
 have lt_F1 := ny F1.lt
 have lt_F2 := ny F2.lt
 have lt_A1 := ny A1.lt
 refine Wk.aloadN X0 hx (hD d26_0) (n := 1) rfl rfl rfl ?_
 refine Wk.aloadN X0 hx (hD d26_1) (n := 2) rfl rfl rfl ?_
 refine Wk.iloadN X0 hx (hD d26_2) (n := 3) rfl rfl ?_
 refine Wk.iloadN X0 hx (hD d26_3) (n := 4) rfl rfl ?_
 refine Wk.aloadN X0 hx (hD d26_4) (n := 5) rfl rfl rfl ?_
 refine Wk.iloadN X0 hx (hD d26_5) (n := 6) rfl rfl ?_
 refine Wk.iloadN X0 hx (hD d26_6) (n := 7) rfl rfl ?_
 have cl1_ := fun Ls (hLs : LsOk c Ls) => Jvm.LawKit.callS X0 hx (y := mn25) hown (mW hZ hw 71 rfl) (mW hZ hw 72 rfl) (mW hZ hw 67 rfl) (mW hZ hw 73 rfl) (by decide) (backOf (W := 4) (rmRC l Z a0 hw [] ta i3 ka cs Nz fm h0 n0 (by omega) A1 S5 O1 hFM hi (by omega) (by omega)) hZ (oW hw 73 rfl) (oW hw 67 rfl) (by decide) (by decide)) (g := mkF m 7 Ls [(.int i3), (.int (0 : Int32)), (.ref ta), (.int i3), (.int (0 : Int32)), (.ref ta), (.ref x1)]) rfl hLs (argsL := [(.ref ta), (.int (0 : Int32)), (.int i3)]) (rest := [(.int i3), (.int (0 : Int32)), (.ref ta), (.ref x1)]) (lenOf pd_16 rfl) rfl (leq0 rfl) (hD d26_7) (fun _ _ => ⟨rfl, e0, (by decide : 0 + 0 ≤ _), (by decide : 0 + 0 ≤ _)⟩)
 refine Wk.backS (n := 10) (rc := 0) (rs := 0) (Q := Q_rmRC Z ta i3 ka cs Nz fm h0 n0) (cl1_ _ (lsok hml rfl)) fun vn1 T1 L1 X1 hQ1 => ?_
 clear cl1_
 obtain ⟨rfl, M1, e1⟩ := hQ1
 have N1 := Fr.app N0 M1
 show Wk p e below _ T1 (mkF m 10 _ [.null, (.int i3), (.int (0 : Int32)), (.ref ta), (.ref x1)])
 have cl2_ := fun Ls (hLs : LsOk c Ls) => X1.specialBack hx (y := mn24) rfl hown (mW hZ hw 82 rfl) (mW hZ hw 83 rfl) (mW hZ hw 85 rfl) (by decide) (backOf (W := 0) (rmNV l Z a0 hw [] x1 ta i3 ka cs Nz zc h0 n0 (by omega) E1 F1 F2 A1 S4 O1 hCS hi (by omega) hp (by omega) (by omega) (by omega) (by omega)) hZ (oW hw 85 rfl) (oW hw 67 rfl) (by decide) (by decide)) (g := mkF m 10 Ls [.null, (.int i3), (.int (0 : Int32)), (.ref ta), (.ref x1)]) rfl hLs (Steps.refl _) (a := x1) (argsL := [(.ref ta), (.int (0 : Int32)), (.int i3), .null]) (rest := []) (lenOf pd_17 rfl) rfl (leq0 rfl) (hD d26_10) (fun _ _ => ⟨rfl, e1, (by decide : 0 + 1 ≤ _), (by decide : 0 + 8 ≤ _)⟩)
 refine Wk.back (n := 13) (rc := 1) (rs := 8) (Q := Q_rmNV Z x1 ta i3 ka cs Nz zc h0 n0) (cl2_ _ (lsok hml rfl)) fun vn2 T2 L2 X2 hQ2 => ?_
 clear cl2_
 obtain ⟨t_2, kb_2, rfl, M2, J2, p2_0, p2_1, p2_2, p2_3, gt_2⟩ := hQ2
 have N2 := Fr.app N1 M2
 have sz2 := J2.1
 have K2 := K0.trans J2 (allS (Or.inl (List.mem_of_getElem? (i := 0) rfl)) all0)
 have lt_p2_0 := ny p2_0.lt
 have lt_p2_3 := ny p2_3.lt
 show Wk p e below _ T2 (mkF m 13 _ [])
 exact Wk.leave X2 (v := none) (fun _ => rfl) hlk rfl ⟨t_2, kb_2, rfl, N2, K2, p2_0, p2_1, p2_2, p2_3, (by omega)⟩ (by decide) (by decide) (fun fs hr => X2.returnOut hx Bd.returns (hD d26_13) hr)
def Q_rmTI (Z : State) (a1 : Addr) (x1 : Addr) (p1 : Int32) (y1 : Addr) (y2 : Addr) (u0 : Value) (u1 : Value) (u2 : Value) (u3 : Value) (h0 : Heap) (n0 : Nat) (v : Option Value) (h : Heap) (L : List Loc) : Prop := v = none ∧ Fr n0 L ∧ Keep h0 h [a1] ∧ Exa Z h a1 "com/example/depeche/depeche/hl7/Text" ∧ Fld Z h a1 "com/example/depeche/depeche/hl7/Text" "string" "Ljava/lang/String;" (.ref x1)
theorem ef_rmTI (m : MethodId) (x0 : Addr) (x1 : Addr) (x2 : Int32) (x3 : Addr) (x4 : Addr) : entryFrame m #[(.ref x0), (.ref x1), (.int x2), (.ref x3), (.ref x4)] 5 = mkF m 0 #[.val (.ref x0), .val (.ref x1), .val (.int x2), .val (.ref x3), .val (.ref x4)] [] := by first | (simp [entryFrame, mkF, argsToLocals, Value.category]; done) | rfl
theorem pn_com_example_depeche_depeche_hl7_Text : plainName "com/example/depeche/depeche/hl7/Text" = true := by first | (simp [plainName, overriddenIn]; done) | decide +kernel
theorem d27_0 : decode B27_ 0 = .ok (.aload_n 0, 1) := by decide +kernel
theorem d27_1 : decode B27_ 1 = .ok (.invokespecial 1, 3) := by decide +kernel
theorem d27_4 : decode B27_ 4 = .ok (.aload_n 0, 1) := by decide +kernel
theorem d27_5 : decode B27_ 5 = .ok (.aload_n 1, 1) := by decide +kernel
theorem d27_6 : decode B27_ 6 = .ok (.putfield 7, 3) := by decide +kernel
theorem d27_9 : decode B27_ 9 = .ok (.aload_n 0, 1) := by decide +kernel
theorem d27_10 : decode B27_ 10 = .ok (.iload_n 2, 1) := by decide +kernel
theorem d27_11 : decode B27_ 11 = .ok (.putfield 13, 3) := by decide +kernel
theorem d27_14 : decode B27_ 14 = .ok (.aload_n 0, 1) := by decide +kernel
theorem d27_15 : decode B27_ 15 = .ok (.aload_n 3, 1) := by decide +kernel
theorem d27_16 : decode B27_ 16 = .ok (.putfield 17, 3) := by decide +kernel
theorem d27_19 : decode B27_ 19 = .ok (.aload_n 0, 1) := by decide +kernel
theorem d27_20 : decode B27_ 20 = .ok (.aload 4, 2) := by decide +kernel
theorem d27_22 : decode B27_ 22 = .ok (.putfield 21, 3) := by decide +kernel
theorem d27_25 : decode B27_ 25 = .ok (.return_, 1) := by decide +kernel
theorem rmTI (hw : HW a0 Z) (ws : List Jvm.Cond) (a1 : Addr) (x1 : Addr) (p1 : Int32) (y1 : Addr) (y2 : Addr) (u0 : Value) (u1 : Value) (u2 : Value) (u3 : Value) (h0 : Heap) (n0 : Nat) (Z0 : n0 ≤ h0.size) (E1 : Exa Z h0 a1 "com/example/depeche/depeche/hl7/Text") (F1 : Fld Z h0 a1 "com/example/depeche/depeche/hl7/Text" "string" "Ljava/lang/String;" u0) (F2 : Fld Z h0 a1 "com/example/depeche/depeche/hl7/Text" "narrow" "Z" u1) (F3 : Fld Z h0 a1 "com/example/depeche/depeche/hl7/Text" "asideAt" "[I" u2) (F4 : Fld Z h0 a1 "com/example/depeche/depeche/hl7/Text" "aside" "[C" u3) (g1 : n0 ≤ a1) (hb1 : nar .boolean p1 = p1) : MetN l Z mn27 prog_26_method_1_code 5 none ws (rM 1 0 0 12) #[(.ref a1), (.ref x1), (.int p1), (.ref y1), (.ref y2)] h0 (Q_rmTI Z a1 x1 p1 y1 y2 u0 u1 u2 u3 h0 n0) := by
 refine enterN (plainFor_of_name pn_com_example_depeche_depeche_hl7_Text) (fun m => ef_rmTI m _ _ _ _ _) fun p e s m below meth c s₁ Bd hZ hx hD hlk hml hown hnm X0 e0 => ?_
 have N0 := Fr.nil n0
 have K0 := Keep.refl h0 [a1]
 have lt_E1 := ny E1.lt
 have lt_F1 := ny F1.lt
 have lt_F2 := ny F2.lt
 have lt_F3 := ny F3.lt
 have lt_F4 := ny F4.lt
 refine Wk.aloadN X0 hx (hD d27_0) (n := 1) rfl rfl rfl ?_
 refine Wk.initO X0 hx hZ hown (oW hw 112 rfl) (oW hw 9 rfl) (oW hw 10 rfl) e0 (by rw [hml]; rfl) (hD d27_1) (n := 4) rfl (by decide) (w := 0) (Nat.le_of_eq rfl) (by decide) fun T1 X1 e1 => ?_
 refine Wk.aloadN X1 hx (hD d27_4) (n := 5) rfl rfl rfl ?_
 refine Wk.aloadN X1 hx (hD d27_5) (n := 6) rfl rfl rfl ?_
 refine Wk.putF X1 hx hZ hown (host := "") (Or.inl (oW hw 113 rfl)) Via.refl e1 F1 E1 (Or.inr ⟨(oW hw 114 rfl), rfl, hnm⟩) (oW hw 106 rfl) (ty := (.object "java/lang/String")) (by decide) rfl rfl (hD d27_6) (n := 9) rfl fun T2 H2 X2 e2 Wn2 => ?_
 have sz2 := Wn2.size
 have Fn2 := F1.same Wn2
 have K2 := K0.wr Wn2 (Or.inl (List.mem_of_getElem? (i := 0) rfl))
 have N2 := Fr.snoc X2 N0 (by omega)
 refine Wk.aloadN X2 hx (hD d27_9) (n := 10) rfl rfl rfl ?_
 refine Wk.iloadN X2 hx (hD d27_10) (n := 11) rfl rfl ?_
 have f3 := (F2.other Wn2 (Or.inr (slot_ne (Or.inr (oW hw 116 rfl)) (Or.inr (oW hw 114 rfl)) (by decide) (t := .boolean) (t' := (.object "java/lang/String")) (by decide) (by decide))))
 have f4 := (E1.wr Wn2)
 refine Wk.putFN X2 hx hZ hown (oW hw 115 rfl) Via.refl e2 f3 f4 (Or.inr ⟨(oW hw 116 rfl), rfl, hnm⟩) (oW hw 106 rfl) (ty := .boolean) (by decide) (v' := (.int p1)) (congrArg Value.int hb1) (own_fitz hb1) (hD d27_11) (n := 14) rfl fun T5 H5 X5 e5 Wn5 => ?_
 have sz5 := Wn5.size
 have Fn5 := f3.same Wn5
 have K5 := K2.wr Wn5 (Or.inl (List.mem_of_getElem? (i := 0) rfl))
 have N5 := Fr.snoc X5 N2 (by omega)
 refine Wk.aloadN X5 hx (hD d27_14) (n := 15) rfl rfl rfl ?_
 refine Wk.aloadN X5 hx (hD d27_15) (n := 16) rfl rfl rfl ?_
 have f6 := ((F3.other Wn2 (Or.inr (slot_ne (Or.inr (oW hw 118 rfl)) (Or.inr (oW hw 114 rfl)) (by decide) (t := (.array .int)) (t' := (.object "java/lang/String")) (by decide) (by decide)))).other Wn5 (Or.inr (slot_ne (Or.inr (oW hw 118 rfl)) (Or.inr (oW hw 116 rfl)) (by decide) (t := (.array .int)) (t' := .boolean) (by decide) (by decide))))
 have f7 := (f4.wr Wn5)
 refine Wk.putF X5 hx hZ hown (host := "") (Or.inl (oW hw 117 rfl)) Via.refl e5 f6 f7 (Or.inr ⟨(oW hw 118 rfl), rfl, hnm⟩) (oW hw 106 rfl) (ty := (.array .int)) (by decide) rfl rfl (hD d27_16) (n := 19) rfl fun T8 H8 X8 e8 Wn8 => ?_
 have sz8 := Wn8.size
 have Fn8 := f6.same Wn8
 have K8 := K5.wr Wn8 (Or.inl (List.mem_of_getElem? (i := 0) rfl))
 have N8 := Fr.snoc X8 N5 (by omega)
 refine Wk.aloadN X8 hx (hD d27_19) (n := 20) rfl rfl rfl ?_
 refine Wk.aload X8 hx (hD d27_20) (n := 22) rfl rfl rfl ?_
 have f9 := (((F4.other Wn2 (Or.inr (slot_ne (Or.inr (oW hw 120 rfl)) (Or.inr (oW hw 114 rfl)) (by decide) (t := (.array .char)) (t' := (.object "java/lang/String")) (by decide) (by decide)))).other Wn5 (Or.inr (slot_ne (Or.inr (oW hw 120 rfl)) (Or.inr (oW hw 116 rfl)) (by decide) (t := (.array .char)) (t' := .boolean) (by decide) (by decide)))).other Wn8 (Or.inr (slot_ne (Or.inr (oW hw 120 rfl)) (Or.inr (oW hw 118 rfl)) (by decide) (t := (.array .char)) (t' := (.array .int)) (by decide) (by decide))))
 have f10 := (f7.wr Wn8)
 refine Wk.putF X8 hx hZ hown (host := "") (Or.inl (oW hw 119 rfl)) Via.refl e8 f9 f10 (Or.inr ⟨(oW hw 120 rfl), rfl, hnm⟩) (oW hw 106 rfl) (ty := (.array .char)) (by decide) rfl rfl (hD d27_22) (n := 25) rfl fun T11 H11 X11 e11 Wn11 => ?_
 have sz11 := Wn11.size
 have Fn11 := f9.same Wn11
 have K11 := K8.wr Wn11 (Or.inl (List.mem_of_getElem? (i := 0) rfl))
 have N11 := Fr.snoc X11 N8 (by omega)
 have f12 := (f10.wr Wn11)
 have f13 := (((Fn2.other Wn5 (Or.inr (slot_ne (Or.inr (oW hw 114 rfl)) (Or.inr (oW hw 116 rfl)) (by decide) (t := (.object "java/lang/String")) (t' := .boolean) (by decide) (by decide)))).other Wn8 (Or.inr (slot_ne (Or.inr (oW hw 114 rfl)) (Or.inr (oW hw 118 rfl)) (by decide) (t := (.object "java/lang/String")) (t' := (.array .int)) (by decide) (by decide)))).other Wn11 (Or.inr (slot_ne (Or.inr (oW hw 114 rfl)) (Or.inr (oW hw 120 rfl)) (by decide) (t := (.object "java/lang/String")) (t' := (.array .char)) (by decide) (by decide))))
 exact Wk.leave X11 (v := none) (fun _ => rfl) hlk e11 ⟨rfl, N11, K11, f12, f13⟩ (by decide) (by decide) (fun fs hr => X11.returnOut hx Bd.returns (hD d27_25) hr)
def Q_rmTO (Z : State) (x1 : Addr) (wi : Addr) (wc : Addr) (h0 : Heap) (n0 : Nat) (v : Option Value) (h : Heap) (L : List Loc) : Prop := ∃ (r : Addr), v = some (.ref r) ∧ Fr n0 L ∧ Keep h0 h [] ∧ Exa Z h r "com/example/depeche/depeche/hl7/Text" ∧ Fld Z h r "com/example/depeche/depeche/hl7/Text" "string" "Ljava/lang/String;" (.ref x1) ∧ (h0.size ≤ r)
theorem ef_rmTO (m : MethodId) (x0 : Addr) : entryFrame m #[(.ref x0), (.int (0 : Int32))] 2 = mkF m 0 #[.val (.ref x0), .val (.int (0 : Int32))] [] := by first | (simp [entryFrame, mkF, argsToLocals, Value.category]; done) | rfl
theorem d28_0 : decode B28_ 0 = .ok (.new 8, 3) := by decide +kernel
theorem d28_3 : decode B28_ 3 = .ok (.dup, 1) := by decide +kernel
theorem d28_4 : decode B28_ 4 = .ok (.aload_n 0, 1) := by decide +kernel
theorem d28_5 : decode B28_ 5 = .ok (.iload_n 1, 1) := by decide +kernel
theorem d28_6 : decode B28_ 6 = .ok (.getstatic 25, 3) := by decide +kernel
theorem d28_9 : decode B28_ 9 = .ok (.getstatic 28, 3) := by decide +kernel
theorem d28_12 : decode B28_ 12 = .ok (.invokespecial 31, 3) := by decide +kernel
theorem pd_18 : parseMethodDescriptor "(Ljava/lang/String;Z[I[C)V" = some ⟨[(.object "java/lang/String"), .boolean, (.array .int), (.array .char)], none⟩ := by decide +kernel
theorem d28_15 : decode B28_ 15 = .ok (.areturn, 1) := by decide +kernel
theorem rmTO (hw : HW a0 Z) (ws : List Jvm.Cond) (x1 : Addr) (wi : Addr) (wc : Addr) (h0 : Heap) (n0 : Nat) (Z0 : n0 ≤ h0.size) (S1 : Sta Z Z.heap "com/example/depeche/depeche/hl7/Text" "NO_INDEXES" "[I" (.ref wi)) (S2 : Sta Z Z.heap "com/example/depeche/depeche/hl7/Text" "NO_CHARS" "[C" (.ref wc)) (O1 : Old Z n0 h0) : MetN l Z mn28 prog_26_method_2_code 2 (some (.object "com/example/depeche/depeche/hl7/Text")) ws (rM 2 1 4 29) #[(.ref x1), (.int (0 : Int32))] h0 (Q_rmTO Z x1 wi wc h0 n0) := by
 refine enterN (plainFor_of_name pn_com_example_depeche_depeche_hl7_Text) (fun m => ef_rmTO m _) fun p e s m below meth c s₁ Bd hZ hx hD hlk hml hown hnm X0 e0 => ?_
 have N0 := Fr.nil n0
 have K0 := Keep.refl h0 []
 refine Wk.newO X0 hx hZ hown (oW hw 105 rfl) (oW hw 106 rfl) (oW hw 12 rfl) e0 (hD d28_0) (n := 3) rfl (by decide) (by decide) fun T1 H1 b1 gn1 X1 e1 Ex1 An1 Dn1 Yn1 => ?_
 have gn1 := nx gn1
 have sz1 := Ex1.1
 have lt1 := ny An1.lt
 have K1 := K0.ext Ex1
 have Fn1_string : Fld Z H1 b1 "com/example/depeche/depeche/hl7/Text" "string" "Ljava/lang/String;" .null := Dn1 (Or.inr (oW hw 114 rfl)) (ty := (.object "java/lang/String")) (by decide)
 have Fn1_narrow : Fld Z H1 b1 "com/example/depeche/depeche/hl7/Text" "narrow" "Z" (.int (0 : Int32)) := Dn1 (Or.inr (oW hw 116 rfl)) (ty := .boolean) (by decide)
 have Fn1_asideAt : Fld Z H1 b1 "com/example/depeche/depeche/hl7/Text" "asideAt" "[I" .null := Dn1 (Or.inr (oW hw 118 rfl)) (ty := (.array .int)) (by decide)
 have Fn1_aside : Fld Z H1 b1 "com/example/depeche/depeche/hl7/Text" "aside" "[C" .null := Dn1 (Or.inr (oW hw 120 rfl)) (ty := (.array .char)) (by decide)
 refine Wk.dup X1 hx (hD d28_3) (n := 4) rfl rfl ?_
 refine Wk.aloadN X1 hx (hD d28_4) (n := 5) rfl rfl rfl ?_
 refine Wk.iloadN X1 hx (hD d28_5) (n := 6) rfl rfl ?_
 have f2 := (O1.ext Ex1)
 refine Wk.getS X1 hx hZ hown (host := "") (Or.inl (oW hw 107 rfl)) Via.refl e1 (Sta.ext f2.2 S1) (hD d28_6) (n := 9) rfl fun T3 X3 e3 => ?_
 refine Wk.getS X3 hx hZ hown (host := "") (Or.inl (oW hw 108 rfl)) Via.refl e3 (Sta.ext f2.2 S2) (hD d28_9) (n := 12) rfl fun T4 X4 e4 => ?_
 have cl5_ := fun Ls (hLs : LsOk c Ls) => X4.specialBack hx (y := mn27) rfl hown (mW hZ hw 109 rfl) (mW hZ hw 110 rfl) (mW hZ hw 111 rfl) (by decide) (backOf (W := 1) (rmTI l Z a0 hw [] b1 x1 (0 : Int32) wi wc .null (.int (0 : Int32)) .null .null H1 n0 (by omega) An1 Fn1_string Fn1_narrow Fn1_asideAt Fn1_aside (by omega) rfl) hZ (oW hw 111 rfl) (oW hw 12 rfl) (by decide) (by decide)) (g := mkF m 12 Ls [(.ref wc), (.ref wi), (.int (0 : Int32)), (.ref x1), (.ref b1), (.ref b1)]) rfl hLs (Steps.refl _) (a := b1) (argsL := [(.ref x1), (.int (0 : Int32)), (.ref wi), (.ref wc)]) (rest := [(.ref b1)]) (lenOf pd_18 rfl) rfl (leq0 rfl) (hD d28_12) (fun _ _ => ⟨rfl, e4, (by decide : 1 + 0 ≤ _), (by decide : 4 + 0 ≤ _)⟩)
 refine Wk.back (n := 15) (rc := 0) (rs := 0) (Q := Q_rmTI Z b1 x1 (0 : Int32) wi wc .null (.int (0 : Int32)) .null .null H1 n0) (cl5_ _ (lsok hml rfl)) fun vn5 T5 L5 X5 hQ5 => ?_
 clear cl5_
 obtain ⟨rfl, M5, J5, p5_0, p5_1⟩ := hQ5
 have N5 := Fr.app N0 M5
 have sz5 := J5.1
 have K5 := K1.trans J5 (allS (Or.inr (by omega)) all0)
 have lt_p5_0 := ny p5_0.lt
 show Wk p e below _ T5 (mkF m 15 _ [(.ref b1)])
 exact Wk.leave X5 (v := some (.ref b1)) (fun h => by rw [Bd.returns] at h; cases h) hlk rfl ⟨b1, rfl, N5, K5, p5_0, p5_1, (by omega)⟩ (by decide) (by decide) (fun fs hr => retA X5 hx rfl Bd.returns rfl (hD d28_15) hr)
def Q_rmSE (Z : State) (a1 : Addr) (x1 : Addr) (h0 : Heap) (n0 : Nat) (v : Option Value) (h : Heap) (L : List Loc) : Prop := v = some (.ref x1) ∧ Fr n0 L ∧ h = h0
theorem ef_rmSE (m : MethodId) (x0 : Addr) : entryFrame m #[(.ref x0)] 1 = mkF m 0 #[.val (.ref x0)] [] := by first | (simp [entryFrame, mkF, argsToLocals, Value.category]; done) | rfl
theorem d29_0 : decode B29_ 0 = .ok (.aload_n 0, 1) := by decide +kernel
theorem d29_1 : decode B29_ 1 = .ok (.getfield 7, 3) := by decide +kernel
theorem d29_4 : decode B29_ 4 = .ok (.areturn, 1) := by decide +kernel
theorem rmSE (hw : HW a0 Z) (ws : List Jvm.Cond) (a1 : Addr) (x1 : Addr) (h0 : Heap) (n0 : Nat) (Z0 : n0 ≤ h0.size) (F1 : Fld Z h0 a1 "com/example/depeche/depeche/hl7/Text" "string" "Ljava/lang/String;" (.ref x1)) : MetN l Z mn29 prog_26_method_3_code 1 (some (.object "java/lang/String")) ws (rM 0 0 0 0) #[(.ref a1)] h0 (Q_rmSE Z a1 x1 h0 n0) := by
 refine enterN (plainFor_of_name pn_com_example_depeche_depeche_hl7_Text) (fun m => ef_rmSE m _) fun p e s m below meth c s₁ Bd hZ hx hD hlk hml hown hnm X0 e0 => ?_
 have N0 := Fr.nil n0
 have K0 := Keep.refl h0 []
 have lt_F1 := ny F1.lt
 refine Wk.aloadN X0 hx (hD d29_0) (n := 1) rfl rfl rfl ?_
 refine Wk.getF X0 hx hZ hown (host := "") (Or.inl (oW hw 113 rfl)) Via.refl e0 F1 (hD d29_1) (n := 4) rfl fun T1 X1 e1 => ?_
 exact Wk.leave X1 (v := some (.ref x1)) (fun h => by rw [Bd.returns] at h; cases h) hlk e1 ⟨rfl, N0, rfl⟩ (by decide) (by decide) (fun fs hr => retA X1 hx rfl Bd.returns rfl (hD d29_4) hr)
def Q_rmBDB (Z : State) (a1 : Addr) (ta : Addr) (ka : ClassId) (cs : List Int32) (Nz : Nat) (ai : Addr) (kai : ClassId) (vi : List Value) (ac : Addr) (kac : ClassId) (vc : List Value) (i1 : Int32) (vlm : Value) (wso : Addr) (wu : Addr) (zc : Int32) (fm : Value) (h0 : Heap) (n0 : Nat) (v : Option Value) (h : Heap) (L : List Loc) : Prop := ∃ (r : Addr) (xs : Addr) (t : Addr) (kb : ClassId), v = some (.ref r) ∧ Fr n0 L ∧ Keep h0 h [] ∧ Exa Z h r "com/example/depeche/depeche/hl7/Text" ∧ Fld Z h r "com/example/depeche/depeche/hl7/Text" "string" "Ljava/lang/String;" (.ref xs) ∧ Exa Z h xs "java/lang/String" ∧ Fld Z h xs "java/lang/String" "value" "[B" (.ref t) ∧ Fld Z h xs "java/lang/String" "coder" "B" (.int (0 : Int32)) ∧ Arv Z h t kb .byte (Int32.ofNat cs.length) (bsV cs) (.int (0 : Int32)) ∧ (h0.size ≤ r) ∧ (h0.size ≤ xs) ∧ (h0.size ≤ t)
theorem ef_rmBDB (m : MethodId) (x0 : Addr) : entryFrame m #[(.ref x0)] 2 = mkF m 0 #[.val (.ref x0), .unset] [] := by first | (simp [entryFrame, mkF, argsToLocals, Value.category]; done) | rfl
theorem d30_0 : decode B30_ 0 = .ok (.aload_n 0, 1) := by decide +kernel
theorem d30_1 : decode B30_ 1 = .ok (.getfield 33, 3) := by decide +kernel
theorem d30_4 : decode B30_ 4 = .ok (.ifnonnull 56, 3) := by decide +kernel
theorem d30_7 : decode B30_ 7 = .ok (.new 1, 3) := by decide +kernel
theorem d30_10 : decode B30_ 10 = .ok (.dup, 1) := by decide +kernel
theorem d30_11 : decode B30_ 11 = .ok (.new 83, 3) := by decide +kernel
theorem d30_14 : decode B30_ 14 = .ok (.dup, 1) := by decide +kernel
theorem d30_15 : decode B30_ 15 = .ok (.aload_n 0, 1) := by decide +kernel
theorem d30_16 : decode B30_ 16 = .ok (.getfield 25, 3) := by decide +kernel
theorem d30_19 : decode B30_ 19 = .ok (.iconst 0, 1) := by decide +kernel
theorem d30_20 : decode B30_ 20 = .ok (.aload_n 0, 1) := by decide +kernel
theorem d30_21 : decode B30_ 21 = .ok (.getfield 36, 3) := by decide +kernel
theorem d30_24 : decode B30_ 24 = .ok (.getstatic 85, 3) := by decide +kernel
theorem d30_27 : decode B30_ 27 = .ok (.invokespecial 91, 3) := by decide +kernel
theorem pd_19 : parseMethodDescriptor "([BIILjava/nio/charset/Charset;)V" = some ⟨[(.array .byte), .int, .int, (.object "java/nio/charset/Charset")], none⟩ := by decide +kernel
theorem d30_30 : decode B30_ 30 = .ok (.iconst 1, 1) := by decide +kernel
theorem d30_31 : decode B30_ 31 = .ok (.aload_n 0, 1) := by decide +kernel
theorem d30_32 : decode B30_ 32 = .ok (.getfield 13, 3) := by decide +kernel
theorem d30_35 : decode B30_ 35 = .ok (.aload_n 0, 1) := by decide +kernel
theorem d30_36 : decode B30_ 36 = .ok (.getfield 62, 3) := by decide +kernel
theorem d30_39 : decode B30_ 39 = .ok (.invokestatic 74, 3) := by decide +kernel
theorem d30_42 : decode B30_ 42 = .ok (.aload_n 0, 1) := by decide +kernel
theorem d30_43 : decode B30_ 43 = .ok (.getfield 22, 3) := by decide +kernel
theorem d30_46 : decode B30_ 46 = .ok (.aload_n 0, 1) := by decide +kernel
theorem d30_47 : decode B30_ 47 = .ok (.getfield 62, 3) := by decide +kernel
theorem d30_50 : decode B30_ 50 = .ok (.invokestatic 80, 3) := by decide +kernel
theorem d30_53 : decode B30_ 53 = .ok (.invokespecial 94, 3) := by decide +kernel
theorem d30_56 : decode B30_ 56 = .ok (.astore_n 1, 1) := by decide +kernel
theorem d30_57 : decode B30_ 57 = .ok (.goto 24, 3) := by decide +kernel
theorem d30_81 : decode B30_ 81 = .ok (.aload_n 1, 1) := by decide +kernel
theorem d30_82 : decode B30_ 82 = .ok (.areturn, 1) := by decide +kernel
theorem rmBDB (hw : HW a0 Z) (ws : List Jvm.Cond) (a1 : Addr) (ta : Addr) (ka : ClassId) (cs : List Int32) (Nz : Nat) (ai : Addr) (kai : ClassId) (vi : List Value) (ac : Addr) (kac : ClassId) (vc : List Value) (i1 : Int32) (vlm : Value) (wso : Addr) (wu : Addr) (zc : Int32) (fm : Value) (h0 : Heap) (n0 : Nat) (Z0 : n0 ≤ h0.size) (EF : Exa Z h0 a1 "com/example/depeche/depeche/hl7/Text$Builder") (F_at : Fld Z h0 a1 "com/example/depeche/depeche/hl7/Text$Builder" "asideAt" "[I" (.ref ai)) (F_as : Fld Z h0 a1 "com/example/depeche/depeche/hl7/Text$Builder" "aside" "[C" (.ref ac)) (F_by : Fld Z h0 a1 "com/example/depeche/depeche/hl7/Text$Builder" "bytes" "[B" (.ref ta)) (F_lm : Fld Z h0 a1 "com/example/depeche/depeche/hl7/Text$Builder" "asideLimit" "I" vlm) (F_ch : Fld Z h0 a1 "com/example/depeche/depeche/hl7/Text$Builder" "chars" "[C" .null) (F_ct : Fld Z h0 a1 "com/example/depeche/depeche/hl7/Text$Builder" "asideCount" "I" (.int i1)) (F_ln : Fld Z h0 a1 "com/example/depeche/depeche/hl7/Text$Builder" "length" "I" (.int (Int32.ofNat cs.length))) (A1 : Arv Z h0 ta ka .byte (Int32.ofNat Nz) (bsV cs) (.int (0 : Int32))) (Aai : Arv Z h0 ai kai .int i1 vi (.int (0 : Int32))) (Eai : Exa Z h0 ai "[I") (Aac : Arv Z h0 ac kac .char i1 vc (.int (0 : Int32))) (Eac : Exa Z h0 ac "[C") (S4 : Sta Z Z.heap "java/lang/String" "COMPACT_STRINGS" "Z" (.int zc)) (S6 : Sta Z Z.heap "sun/nio/cs/UTF_8" "INSTANCE" "Lsun/nio/cs/UTF_8;" (.ref wu)) (S7 : Sta Z Z.heap "sun/nio/cs/ISO_8859_1" "INSTANCE" "Lsun/nio/cs/ISO_8859_1;" (.ref wso)) (S5 : Sta Z Z.heap "jdk/internal/util/Preconditions" "SIOOBE_FORMATTER" "Ljava/util/function/BiFunction;" fm) (Es : Exa Z Z.heap wso "sun/nio/cs/ISO_8859_1") (S8 : Sta Z Z.heap "java/nio/charset/StandardCharsets" "ISO_8859_1" "Ljava/nio/charset/Charset;" (.ref wso)) (O1 : Old Z n0 h0) (hCS : ¬ zc = 0) (hFM : fm.isRef = true) (h0_ : 0 < cs.length) (hN : cs.length < Nz) (hNz : Nz ≤ 8) (hnu : ¬ wso = wu) (h1 : i1.toNatClampNeg ≤ 1) : MetN l Z mn30 prog_27_method_6_code 2 (some (.object "com/example/depeche/depeche/hl7/Text")) ws (rM 5 5 18 103) #[(.ref a1)] h0 (Q_rmBDB Z a1 ta ka cs Nz ai kai vi ac kac vc i1 vlm wso wu zc fm h0 n0) := by
 refine enterN (plainFor_of_name pn_com_example_depeche_depeche_hl7_Text_Builder) (fun m => ef_rmBDB m _) fun p e s m below meth c s₁ Bd hZ hx hD hlk hml hown hnm X0 e0 => ?_
 have N0 := Fr.nil n0
 have K0 := Keep.refl h0 []
 have lt_EF := ny EF.lt
 have lt_F_at := ny F_at.lt
 have lt_F_as := ny F_as.lt
 have lt_F_by := ny F_by.lt
 have lt_F_lm := ny F_lm.lt
 have lt_F_ch := ny F_ch.lt
 have lt_F_ct := ny F_ct.lt
 have lt_F_ln := ny F_ln.lt
 have lt_A1 := ny A1.lt
 have lt_Aai := ny Aai.lt
 have lt_Eai := ny Eai.lt
 have lt_Aac := ny Aac.lt
 have lt_Eac := ny Eac.lt
 refine Wk.aloadN X0 hx (hD d30_0) (n := 1) rfl rfl rfl ?_
 refine Wk.getF X0 hx hZ hown (host := "") (Or.inl (oW hw 29 rfl)) Via.refl e0 F_ch (hD d30_1) (n := 4) rfl fun T1 X1 e1 => ?_
 refine Wk.ifnonnullNo X1 hx (hD d30_4) (n := 7) rfl ?_
 refine Wk.newO X1 hx hZ hown (oW hw 181 rfl) (oW hw 106 rfl) (oW hw 12 rfl) e1 (hD d30_7) (n := 10) rfl (by decide) (by decide) fun T2 H2 b2 gn2 X2 e2 Ex2 An2 Dn2 Yn2 => ?_
 have gn2 := nx gn2
 have sz2 := Ex2.1
 have lt2 := ny An2.lt
 have K2 := K0.ext Ex2
 have Fn2_string : Fld Z H2 b2 "com/example/depeche/depeche/hl7/Text" "string" "Ljava/lang/String;" .null := Dn2 (Or.inr (oW hw 114 rfl)) (ty := (.object "java/lang/String")) (by decide)
 have Fn2_narrow : Fld Z H2 b2 "com/example/depeche/depeche/hl7/Text" "narrow" "Z" (.int (0 : Int32)) := Dn2 (Or.inr (oW hw 116 rfl)) (ty := .boolean) (by decide)
 have Fn2_asideAt : Fld Z H2 b2 "com/example/depeche/depeche/hl7/Text" "asideAt" "[I" .null := Dn2 (Or.inr (oW hw 118 rfl)) (ty := (.array .int)) (by decide)
 have Fn2_aside : Fld Z H2 b2 "com/example/depeche/depeche/hl7/Text" "aside" "[C" .null := Dn2 (Or.inr (oW hw 120 rfl)) (ty := (.array .char)) (by decide)
 refine Wk.dup X2 hx (hD d30_10) (n := 11) rfl rfl ?_
 refine Wk.newO X2 hx hZ hown (oW hw 65 rfl) (oW hw 66 rfl) (oW hw 67 rfl) e2 (hD d30_11) (n := 14) rfl (by decide) (by decide) fun T3 H3 b3 gn3 X3 e3 Ex3 An3 Dn3 Yn3 => ?_
 have gn3 := nx gn3
 have sz3 := Ex3.1
 have lt3 := ny An3.lt
 have K3 := K2.ext Ex3
 have Fn3_coder : Fld Z H3 b3 "java/lang/String" "coder" "B" (.int (0 : Int32)) := Dn3 (Or.inr (oW hw 99 rfl)) (ty := .byte) (by decide)
 have Fn3_value : Fld Z H3 b3 "java/lang/String" "value" "[B" .null := Dn3 (Or.inr (oW hw 101 rfl)) (ty := (.array .byte)) (by decide)
 refine Wk.dup X3 hx (hD d30_14) (n := 15) rfl rfl ?_
 refine Wk.aloadN X3 hx (hD d30_15) (n := 16) rfl rfl rfl ?_
 have f4 := ((F_by.ext Ex2).ext Ex3)
 refine Wk.getF X3 hx hZ hown (host := "") (Or.inl (oW hw 20 rfl)) Via.refl e3 f4 (hD d30_16) (n := 19) rfl fun T5 X5 e5 => ?_
 refine Wk.iconst X5 hx (hD d30_19) (n := 20) rfl (z := (0 : Int32)) rfl ?_
 refine Wk.aloadN X5 hx (hD d30_20) (n := 21) rfl rfl rfl ?_
 have f6 := ((F_ln.ext Ex2).ext Ex3)
 refine Wk.getF X5 hx hZ hown (host := "") (Or.inl (oW hw 46 rfl)) Via.refl e5 f6 (hD d30_21) (n := 24) rfl fun T7 X7 e7 => ?_
 have f8 := ((O1.ext Ex2).ext Ex3)
 refine Wk.getS X7 hx hZ hown (host := "") (Or.inl (oW hw 182 rfl)) Via.refl e7 (Sta.ext f8.2 S8) (hD d30_24) (n := 27) rfl fun T9 X9 e9 => ?_
 have f10 := ((A1.ext Ex2).ext Ex3)
 have cl11_ := fun Ls (hLs : LsOk c Ls) => X9.specialBack hx (y := mn20) rfl hown (mW hZ hw 184 rfl) (mW hZ hw 185 rfl) (mW hZ hw 186 rfl) (by decide) (backOf (W := 3) (rmNI l Z a0 hw [] b3 ta (Int32.ofNat cs.length) wso wu ka cs Nz zc fm H3 n0 (by omega) An3 Fn3_value Fn3_coder f10 S4 S6 S7 S5 Es f8 hCS hFM rfl (by omega) (by omega) (by omega) (by omega) (by omega) hnu) hZ (oW hw 186 rfl) (oW hw 67 rfl) (by decide) (by decide)) (g := mkF m 27 Ls [(.ref wso), (.int (Int32.ofNat cs.length)), (.int (0 : Int32)), (.ref ta), (.ref b3), (.ref b3), (.ref b2), (.ref b2)]) rfl hLs (Steps.refl _) (a := b3) (argsL := [(.ref ta), (.int (0 : Int32)), (.int (Int32.ofNat cs.length)), (.ref wso)]) (rest := [(.ref b3), (.ref b2), (.ref b2)]) (lenOf pd_19 rfl) rfl (leq0 rfl) (hD d30_27) (fun _ _ => ⟨rfl, e9, (by decide : 2 + 1 ≤ _), (by decide : 8 + 8 ≤ _)⟩)
 refine Wk.back (n := 30) (rc := 1) (rs := 8) (Q := Q_rmNI Z b3 ta (Int32.ofNat cs.length) wso wu ka cs Nz zc fm H3 n0) (cl11_ _ (lsok hml rfl)) fun vn11 T11 L11 X11 hQ11 => ?_
 clear cl11_
 obtain ⟨t_11, kb_11, rfl, M11, J11, p11_0, p11_1, p11_2, p11_3, gt_11⟩ := hQ11
 have N11 := Fr.app N0 M11
 have sz11 := J11.1
 have K11 := K3.trans J11 (allS (Or.inr (by omega)) all0)
 have lt_p11_0 := ny p11_0.lt
 have lt_p11_3 := ny p11_3.lt
 show Wk p e below _ T11 (mkF m 30 _ [(.ref b3), (.ref b2), (.ref b2)])
 refine Wk.iconst X11 hx (hD d30_30) (n := 31) rfl (z := (1 : Int32)) rfl ?_
 refine Wk.aloadN X11 hx (hD d30_31) (n := 32) rfl rfl rfl ?_
 have f12 := (((F_at.ext Ex2).ext Ex3).keep J11 (ninS (nz (by omega)) nin0))
 refine Wk.getF X11 hx hZ hown (host := "") (Or.inl (oW hw 14 rfl)) Via.refl rfl f12 (hD d30_32) (n := 35) rfl fun T13 X13 e13 => ?_
 refine Wk.aloadN X13 hx (hD d30_35) (n := 36) rfl rfl rfl ?_
 have f14 := (((F_ct.ext Ex2).ext Ex3).keep J11 (ninS (nz (by omega)) nin0))
 refine Wk.getF X13 hx hZ hown (host := "") (Or.inl (oW hw 40 rfl)) Via.refl e13 f14 (hD d30_36) (n := 39) rfl fun T15 X15 e15 => ?_
 have f16 := (((Aai.ext Ex2).ext Ex3).keep J11 (ninS (nz (by omega)) nin0))
 have f17 := (((Eai.ext Ex2).ext Ex3).keep J11)
 have cl18_ := fun Ls (hLs : LsOk c Ls) => Jvm.LawKit.callS X15 hx (y := mn7) hown (mW hZ hw 167 rfl) (mW hZ hw 168 rfl) (mW hZ hw 169 rfl) (mW hZ hw 170 rfl) (by decide) (backOf (W := 4) (rmCCI l Z a0 hw [] ai kai i1 vi T11.heap n0 (by omega) f16 f17 h1) hZ (oW hw 170 rfl) (oW hw 169 rfl) (by decide) (by decide)) (g := mkF m 39 Ls [(.int i1), (.ref ai), (.int (1 : Int32)), (.ref b3), (.ref b2), (.ref b2)]) rfl hLs (argsL := [(.ref ai), (.int i1)]) (rest := [(.int (1 : Int32)), (.ref b3), (.ref b2), (.ref b2)]) (lenOf pd_3 rfl) rfl (leq0 rfl) (hD d30_39) (fun _ _ => ⟨rfl, e15, (by decide : 3 + 1 ≤ _), (by decide : 16 + 1 ≤ _)⟩)
 refine Wk.backS (n := 42) (rc := 1) (rs := 1) (Q := Q_rmCCI Z ai kai i1 vi T11.heap n0) (cl18_ _ (lsok hml rfl)) fun vn18 T18 L18 X18 hQ18 => ?_
 clear cl18_
 obtain ⟨r_18, rfl, M18, J18, p18_0⟩ := hQ18
 have N18 := Fr.app N11 M18
 have sz18 := J18.1
 have K18 := K11.trans J18 (fun x hx => nomatch hx)
 have lt_p18_0 := ny p18_0.lt
 show Wk p e below _ T18 (mkF m 42 _ [(.ref r_18), (.int (1 : Int32)), (.ref b3), (.ref b2), (.ref b2)])
 refine Wk.aloadN X18 hx (hD d30_42) (n := 43) rfl rfl rfl ?_
 have f19 := ((((F_as.ext Ex2).ext Ex3).keep J11 (ninS (nz (by omega)) nin0)).keep J18 nin0)
 refine Wk.getF X18 hx hZ hown (host := "") (Or.inl (oW hw 18 rfl)) Via.refl rfl f19 (hD d30_43) (n := 46) rfl fun T20 X20 e20 => ?_
 refine Wk.aloadN X20 hx (hD d30_46) (n := 47) rfl rfl rfl ?_
 have f21 := (f14.keep J18 nin0)
 refine Wk.getF X20 hx hZ hown (host := "") (Or.inl (oW hw 40 rfl)) Via.refl e20 f21 (hD d30_47) (n := 50) rfl fun T22 X22 e22 => ?_
 have f23 := ((((Aac.ext Ex2).ext Ex3).keep J11 (ninS (nz (by omega)) nin0)).keep J18 nin0)
 have f24 := ((((Eac.ext Ex2).ext Ex3).keep J11).keep J18)
 have cl25_ := fun Ls (hLs : LsOk c Ls) => Jvm.LawKit.callS X22 hx (y := mn8) hown (mW hZ hw 177 rfl) (mW hZ hw 178 rfl) (mW hZ hw 169 rfl) (mW hZ hw 179 rfl) (by decide) (backOf (W := 5) (rmCCC l Z a0 hw [] ac kac i1 vc T18.heap n0 (by omega) f23 f24 h1) hZ (oW hw 179 rfl) (oW hw 169 rfl) (by decide) (by decide)) (g := mkF m 50 Ls [(.int i1), (.ref ac), (.ref r_18), (.int (1 : Int32)), (.ref b3), (.ref b2), (.ref b2)]) rfl hLs (argsL := [(.ref ac), (.int i1)]) (rest := [(.ref r_18), (.int (1 : Int32)), (.ref b3), (.ref b2), (.ref b2)]) (lenOf pd_4 rfl) rfl (leq0 rfl) (hD d30_50) (fun _ _ => ⟨rfl, e22, (by decide : 4 + 1 ≤ _), (by decide : 17 + 1 ≤ _)⟩)
 refine Wk.backS (n := 53) (rc := 1) (rs := 1) (Q := Q_rmCCC Z ac kac i1 vc T18.heap n0) (cl25_ _ (lsok hml rfl)) fun vn25 T25 L25 X25 hQ25 => ?_
 clear cl25_
 obtain ⟨r_25, rfl, M25, J25, p25_0⟩ := hQ25
 have N25 := Fr.app N18 M25
 have sz25 := J25.1
 have K25 := K18.trans J25 (fun x hx => nomatch hx)
 have lt_p25_0 := ny p25_0.lt
 show Wk p e below _ T25 (mkF m 53 _ [(.ref r_25), (.ref r_18), (.int (1 : Int32)), (.ref b3), (.ref b2), (.ref b2)])
 have f26 := ((((An2.ext Ex3).keep J11).keep J18).keep J25)
 have f27 := ((((Fn2_string.ext Ex3).keep J11 (ninS (nz (by omega)) nin0)).keep J18 nin0).keep J25 nin0)
 have f28 := ((((Fn2_narrow.ext Ex3).keep J11 (ninS (nz (by omega)) nin0)).keep J18 nin0).keep J25 nin0)
 have f29 := ((((Fn2_asideAt.ext Ex3).keep J11 (ninS (nz (by omega)) nin0)).keep J18 nin0).keep J25 nin0)
 have f30 := ((((Fn2_aside.ext Ex3).keep J11 (ninS (nz (by omega)) nin0)).keep J18 nin0).keep J25 nin0)
 have cl31_ := fun Ls (hLs : LsOk c Ls) => X25.specialBackNest hx (y := mn27) rfl hown (own_mvn hZ (oW hw 224 rfl)) (mW hZ hw 110 rfl) (mW hZ hw 111 rfl) (by decide) (backOf (W := 1) (rmTI l Z a0 hw [] b2 b3 (1 : Int32) r_18 r_25 .null (.int (0 : Int32)) .null .null T25.heap n0 (by omega) f26 f27 f28 f29 f30 (by omega) rfl) hZ (oW hw 111 rfl) (oW hw 12 rfl) (by decide) (by decide)) (g := mkF m 53 Ls [(.ref r_25), (.ref r_18), (.int (1 : Int32)), (.ref b3), (.ref b2), (.ref b2)]) rfl hLs (Steps.refl _) (a := b2) (argsL := [(.ref b3), (.int (1 : Int32)), (.ref r_18), (.ref r_25)]) (rest := [(.ref b2)]) (lenOf pd_18 rfl) rfl (leq0 rfl) (hD d30_53) (fun _ _ => ⟨rfl, rfl, (by decide : 5 + 0 ≤ _), (by decide : 18 + 0 ≤ _)⟩)
 refine Wk.back (n := 56) (rc := 0) (rs := 0) (Q := Q_rmTI Z b2 b3 (1 : Int32) r_18 r_25 .null (.int (0 : Int32)) .null .null T25.heap n0) (cl31_ _ (lsok hml rfl)) fun vn31 T31 L31 X31 hQ31 => ?_
 clear cl31_
 obtain ⟨rfl, M31, J31, p31_0, p31_1⟩ := hQ31
 have N31 := Fr.app N25 M31
 have sz31 := J31.1
 have K31 := K25.trans J31 (allS (Or.inr (by omega)) all0)
 have lt_p31_0 := ny p31_0.lt
 show Wk p e below _ T31 (mkF m 56 _ [(.ref b2)])
 refine Wk.astoreN X31 hx (hD d30_56) (n := 57) rfl rfl (L' := #[.val (.ref a1), .val (.ref b2)]) rfl ?_
 refine Wk.goto X31 hx (hD d30_57) (by decide) (n := 81) (by decide) ?_
 refine Wk.aloadN X31 hx (hD d30_81) (n := 82) rfl rfl rfl ?_
 have f32 := (((p11_0.keep J18).keep J25).keep J31)
 have f33 := (((p11_1.keep J18 nin0).keep J25 nin0).keep J31 (ninS (nz (by omega)) nin0))
 have f34 := (((p11_2.keep J18 nin0).keep J25 nin0).keep J31 (ninS (nz (by omega)) nin0))
 have f35 := (((p11_3.keep J18 nin0).keep J25 nin0).keep J31 (ninS (nz (by omega)) nin0))
 exact Wk.leave X31 (v := some (.ref b2)) (fun h => by rw [Bd.returns] at h; cases h) hlk rfl ⟨b2, b3, t_11, kb_11, rfl, N31, K31, p31_0, p31_1, f32, f33, f34, f35, (by omega), (by omega), (by omega)⟩ (by decide) (by decide) (fun fs hr => retA X31 hx rfl Bd.returns rfl (hD d30_82) hr)
def Q_rmBDC (Z : State) (a1 : Addr) (ta : Addr) (ka : ClassId) (cs : List Int32) (Nz : Nat) (zc : Int32) (fm : Value) (wi : Addr) (wc : Addr) (h0 : Heap) (n0 : Nat) (v : Option Value) (h : Heap) (L : List Loc) : Prop := ∃ (r : Addr) (xs : Addr) (t : Addr) (kb : ClassId), v = some (.ref r) ∧ Fr n0 L ∧ Keep h0 h [] ∧ Exa Z h r "com/example/depeche/depeche/hl7/Text" ∧ Fld Z h r "com/example/depeche/depeche/hl7/Text" "string" "Ljava/lang/String;" (.ref xs) ∧ Exa Z h xs "java/lang/String" ∧ Fld Z h xs "java/lang/String" "value" "[B" (.ref t) ∧ Fld Z h xs "java/lang/String" "coder" "B" (.int (0 : Int32)) ∧ Arv Z h t kb .byte (Int32.ofNat cs.length) (bsV cs) (.int (0 : Int32)) ∧ (h0.size ≤ r) ∧ (h0.size ≤ xs) ∧ (h0.size ≤ t)
theorem ef_rmBDC (m : MethodId) (x0 : Addr) : entryFrame m #[(.ref x0)] 2 = mkF m 0 #[.val (.ref x0), .unset] [] := by first | (simp [entryFrame, mkF, argsToLocals, Value.category]; done) | rfl
theorem d30_60 : decode B30_ 60 = .ok (.new 83, 3) := by decide +kernel
theorem d30_63 : decode B30_ 63 = .ok (.dup, 1) := by decide +kernel
theorem d30_64 : decode B30_ 64 = .ok (.aload_n 0, 1) := by decide +kernel
theorem d30_65 : decode B30_ 65 = .ok (.getfield 33, 3) := by decide +kernel
theorem d30_68 : decode B30_ 68 = .ok (.iconst 0, 1) := by decide +kernel
theorem d30_69 : decode B30_ 69 = .ok (.aload_n 0, 1) := by decide +kernel
theorem d30_70 : decode B30_ 70 = .ok (.getfield 36, 3) := by decide +kernel
theorem d30_73 : decode B30_ 73 = .ok (.invokespecial 97, 3) := by decide +kernel
theorem pd_20 : parseMethodDescriptor "([CII)V" = some ⟨[(.array .char), .int, .int], none⟩ := by decide +kernel
theorem d30_76 : decode B30_ 76 = .ok (.iconst 0, 1) := by decide +kernel
theorem d30_77 : decode B30_ 77 = .ok (.invokestatic 100, 3) := by decide +kernel
theorem pd_21 : parseMethodDescriptor "(Ljava/lang/String;Z)Lcom/example/depeche/depeche/hl7/Text;" = some ⟨[(.object "java/lang/String"), .boolean], some (.object "com/example/depeche/depeche/hl7/Text")⟩ := by decide +kernel
theorem d30_80 : decode B30_ 80 = .ok (.astore_n 1, 1) := by decide +kernel
theorem rmBDC (hw : HW a0 Z) (ws : List Jvm.Cond) (a1 : Addr) (ta : Addr) (ka : ClassId) (cs : List Int32) (Nz : Nat) (zc : Int32) (fm : Value) (wi : Addr) (wc : Addr) (h0 : Heap) (n0 : Nat) (Z0 : n0 ≤ h0.size) (F_ch : Fld Z h0 a1 "com/example/depeche/depeche/hl7/Text$Builder" "chars" "[C" (.ref ta)) (F_ln : Fld Z h0 a1 "com/example/depeche/depeche/hl7/Text$Builder" "length" "I" (.int (Int32.ofNat cs.length))) (A1 : Arv Z h0 ta ka .char (Int32.ofNat Nz) (chV cs) (.int (0 : Int32))) (S4 : Sta Z Z.heap "java/lang/String" "COMPACT_STRINGS" "Z" (.int zc)) (S5 : Sta Z Z.heap "jdk/internal/util/Preconditions" "SIOOBE_FORMATTER" "Ljava/util/function/BiFunction;" fm) (S1 : Sta Z Z.heap "com/example/depeche/depeche/hl7/Text" "NO_INDEXES" "[I" (.ref wi)) (S2 : Sta Z Z.heap "com/example/depeche/depeche/hl7/Text" "NO_CHARS" "[C" (.ref wc)) (O1 : Old Z n0 h0) (hCS : ¬ zc = 0) (hFM : fm.isRef = true) (h0_ : 0 < cs.length) (hp : ∀ c ∈ cs, ¬ c < 0 ∧ ¬ (255 : Int32) < c) (hN : cs.length ≤ Nz) (hNz : Nz ≤ 8) : MetN l Z mn30 prog_27_method_6_code 2 (some (.object "com/example/depeche/depeche/hl7/Text")) ws (rM 4 3 16 68) #[(.ref a1)] h0 (Q_rmBDC Z a1 ta ka cs Nz zc fm wi wc h0 n0) := by
 refine enterN (plainFor_of_name pn_com_example_depeche_depeche_hl7_Text_Builder) (fun m => ef_rmBDC m _) fun p e s m below meth c s₁ Bd hZ hx hD hlk hml hown hnm X0 e0 => ?_
 have N0 := Fr.nil n0
 have K0 := Keep.refl h0 []
 have lt_F_ch := ny F_ch.lt
 have lt_F_ln := ny F_ln.lt
 have lt_A1 := ny A1.lt
 refine Wk.aloadN X0 hx (hD d30_0) (n := 1) rfl rfl rfl ?_
 refine Wk.getF X0 hx hZ hown (host := "") (Or.inl (oW hw 29 rfl)) Via.refl e0 F_ch (hD d30_1) (n := 4) rfl fun T1 X1 e1 => ?_
 refine Wk.ifnonnullYes X1 hx (hD d30_4) (by decide) (n := 60) (by decide) ?_
 refine Wk.newO X1 hx hZ hown (oW hw 65 rfl) (oW hw 66 rfl) (oW hw 67 rfl) e1 (hD d30_60) (n := 63) rfl (by decide) (by decide) fun T2 H2 b2 gn2 X2 e2 Ex2 An2 Dn2 Yn2 => ?_
 have gn2 := nx gn2
 have sz2 := Ex2.1
 have lt2 := ny An2.lt
 have K2 := K0.ext Ex2
 have Fn2_coder : Fld Z H2 b2 "java/lang/String" "coder" "B" (.int (0 : Int32)) := Dn2 (Or.inr (oW hw 99 rfl)) (ty := .byte) (by decide)
 have Fn2_value : Fld Z H2 b2 "java/lang/String" "value" "[B" .null := Dn2 (Or.inr (oW hw 101 rfl)) (ty := (.array .byte)) (by decide)
 refine Wk.dup X2 hx (hD d30_63) (n := 64) rfl rfl ?_
 refine Wk.aloadN X2 hx (hD d30_64) (n := 65) rfl rfl rfl ?_
 have f3 := (F_ch.ext Ex2)
 refine Wk.getF X2 hx hZ hown (host := "") (Or.inl (oW hw 29 rfl)) Via.refl e2 f3 (hD d30_65) (n := 68) rfl fun T4 X4 e4 => ?_
 refine Wk.iconst X4 hx (hD d30_68) (n := 69) rfl (z := (0 : Int32)) rfl ?_
 refine Wk.aloadN X4 hx (hD d30_69) (n := 70) rfl rfl rfl ?_
 have f5 := (F_ln.ext Ex2)
 refine Wk.getF X4 hx hZ hown (host := "") (Or.inl (oW hw 46 rfl)) Via.refl e4 f5 (hD d30_70) (n := 73) rfl fun T6 X6 e6 => ?_
 have f7 := (A1.ext Ex2)
 have f8 := (O1.ext Ex2)
 have cl9_ := fun Ls (hLs : LsOk c Ls) => X6.specialBack hx (y := mn26) rfl hown (mW hZ hw 68 rfl) (mW hZ hw 69 rfl) (mW hZ hw 70 rfl) (by decide) (backOf (W := 1) (rmNC l Z a0 hw [] b2 ta (Int32.ofNat cs.length) ka cs Nz zc fm H2 n0 (by omega) An2 Fn2_value Fn2_coder f7 S4 S5 f8 hCS hFM rfl (by omega) hp (by omega) (by omega) (by omega) (by omega)) hZ (oW hw 70 rfl) (oW hw 67 rfl) (by decide) (by decide)) (g := mkF m 73 Ls [(.int (Int32.ofNat cs.length)), (.int (0 : Int32)), (.ref ta), (.ref b2), (.ref b2)]) rfl hLs (Steps.refl _) (a := b2) (argsL := [(.ref ta), (.int (0 : Int32)), (.int (Int32.ofNat cs.length))]) (rest := [(.ref b2)]) (lenOf pd_20 rfl) rfl (leq0 rfl) (hD d30_73) (fun _ _ => ⟨rfl, e6, (by decide : 1 + 1 ≤ _), (by decide : 4 + 8 ≤ _)⟩)
 refine Wk.back (n := 76) (rc := 1) (rs := 8) (Q := Q_rmNC Z b2 ta (Int32.ofNat cs.length) ka cs Nz zc fm H2 n0) (cl9_ _ (lsok hml rfl)) fun vn9 T9 L9 X9 hQ9 => ?_
 clear cl9_
 obtain ⟨t_9, kb_9, rfl, M9, J9, p9_0, p9_1, p9_2, p9_3, gt_9⟩ := hQ9
 have N9 := Fr.app N0 M9
 have sz9 := J9.1
 have K9 := K2.trans J9 (allS (Or.inr (by omega)) all0)
 have lt_p9_0 := ny p9_0.lt
 have lt_p9_3 := ny p9_3.lt
 show Wk p e below _ T9 (mkF m 76 _ [(.ref b2)])
 refine Wk.iconst X9 hx (hD d30_76) (n := 77) rfl (z := (0 : Int32)) rfl ?_
 have f10 := (f8.keep J9 (allS (by omega) all0))
 have cl11_ := fun Ls (hLs : LsOk c Ls) => Jvm.LawKit.callS X9 hx (y := mn28) hown (mW hZ hw 102 rfl) (mW hZ hw 103 rfl) (mW hZ hw 12 rfl) (mW hZ hw 104 rfl) (by decide) (backOf (W := 0) (rmTO l Z a0 hw [] b2 wi wc T9.heap n0 (by omega) S1 S2 f10) hZ (oW hw 104 rfl) (oW hw 12 rfl) (by decide) (by decide)) (g := mkF m 77 Ls [(.int (0 : Int32)), (.ref b2)]) rfl hLs (argsL := [(.ref b2), (.int (0 : Int32))]) (rest := []) (lenOf pd_21 rfl) rfl (leq0 rfl) (hD d30_77) (fun _ _ => ⟨rfl, rfl, (by decide : 2 + 1 ≤ _), (by decide : 12 + 4 ≤ _)⟩)
 refine Wk.backS (n := 80) (rc := 1) (rs := 4) (Q := Q_rmTO Z b2 wi wc T9.heap n0) (cl11_ _ (lsok hml rfl)) fun vn11 T11 L11 X11 hQ11 => ?_
 clear cl11_
 obtain ⟨r_11, rfl, M11, J11, p11_0, p11_1, gr_11⟩ := hQ11
 have N11 := Fr.app N9 M11
 have sz11 := J11.1
 have K11 := K9.trans J11 (fun x hx => nomatch hx)
 have lt_p11_0 := ny p11_0.lt
 show Wk p e below _ T11 (mkF m 80 _ [(.ref r_11)])
 refine Wk.astoreN X11 hx (hD d30_80) (n := 81) rfl rfl (L' := #[.val (.ref a1), .val (.ref r_11)]) rfl ?_
 refine Wk.aloadN X11 hx (hD d30_81) (n := 82) rfl rfl rfl ?_
 have f12 := (p9_0.keep J11)
 have f13 := (p9_1.keep J11 nin0)
 have f14 := (p9_2.keep J11 nin0)
 have f15 := (p9_3.keep J11 nin0)
 exact Wk.leave X11 (v := some (.ref r_11)) (fun h => by rw [Bd.returns] at h; cases h) hlk rfl ⟨r_11, b2, t_9, kb_9, rfl, N11, K11, p11_0, p11_1, f12, f13, f14, f15, (by omega), (by omega), (by omega)⟩ (by decide) (by decide) (fun fs hr => retA X11 hx rfl Bd.returns rfl (hD d30_82) hr)
def Q_rmCo (Z : State) (a1 : Addr) (zc : Int32) (h0 : Heap) (n0 : Nat) (v : Option Value) (h : Heap) (L : List Loc) : Prop := v = some (.int (0 : Int32)) ∧ Fr n0 L ∧ h = h0
theorem ef_rmCo (m : MethodId) (x0 : Addr) : entryFrame m #[(.ref x0)] 1 = mkF m 0 #[.val (.ref x0)] [] := by first | (simp [entryFrame, mkF, argsToLocals, Value.category]; done) | rfl
theorem d31_0 : decode B31_ 0 = .ok (.getstatic 38, 3) := by decide +kernel
theorem d31_3 : decode B31_ 3 = .ok (.ifCond .eq 10, 3) := by decide +kernel
theorem d31_6 : decode B31_ 6 = .ok (.aload_n 0, 1) := by decide +kernel
theorem d31_7 : decode B31_ 7 = .ok (.getfield 15, 3) := by decide +kernel
theorem d31_10 : decode B31_ 10 = .ok (.goto 4, 3) := by decide +kernel
theorem d31_14 : decode B31_ 14 = .ok (.ireturn, 1) := by decide +kernel
theorem rmCo (hw : HW a0 Z) (ws : List Jvm.Cond) (a1 : Addr) (zc : Int32) (h0 : Heap) (n0 : Nat) (Z0 : n0 ≤ h0.size) (F1 : Fld Z h0 a1 "java/lang/String" "coder" "B" (.int (0 : Int32))) (S4 : Sta Z Z.heap "java/lang/String" "COMPACT_STRINGS" "Z" (.int zc)) (O1 : Old Z n0 h0) (hCS : ¬ zc = 0) : MetN l Z mn31 jdk_42_method_152_code 1 (some .byte) ws (rM 0 0 0 0) #[(.ref a1)] h0 (Q_rmCo Z a1 zc h0 n0) := by
 refine enterN (plainFor_of_name pn_java_lang_String) (fun m => ef_rmCo m _) fun p e s m below meth c s₁ Bd hZ hx hD hlk hml hown hnm X0 e0 => ?_
 have N0 := Fr.nil n0
 have K0 := Keep.refl h0 []
 have lt_F1 := ny F1.lt
 refine Wk.getS X0 hx hZ hown (host := "") (Or.inl (oW hw 87 rfl)) Via.refl e0 (Sta.ext O1.2 S4) (hD d31_0) (n := 3) rfl fun T1 X1 e1 => ?_
 have hc3_2 : ¬ (zc = (0 : Int32)) := hCS
 refine Wk.ifNo X1 hx (hD d31_3) (n := 6) rfl ((if0 _ _).trans (feq hc3_2).1) ?_
 refine Wk.aloadN X1 hx (hD d31_6) (n := 7) rfl rfl rfl ?_
 refine Wk.getF X1 hx hZ hown (host := "") (Or.inl (oW hw 98 rfl)) Via.refl e1 F1 (hD d31_7) (n := 10) rfl fun T3 X3 e3 => ?_
 refine Wk.goto X3 hx (hD d31_10) (by decide) (n := 14) (by decide) ?_
 exact Wk.leave X3 (v := some (.int (0 : Int32))) (fun h => by rw [Bd.returns] at h; cases h) hlk e3 ⟨rfl, N0, rfl⟩ (by decide) (by decide) (fun fs hr => retNz X3 hx (t := .byte) rfl Bd.returns (by simp) (hD d31_14) hr)
def Q_rmLe (Z : State) (x1 : Addr) (t1 : Addr) (kx : ClassId) (cw : List Int32) (zc : Int32) (h0 : Heap) (n0 : Nat) (v : Option Value) (h : Heap) (L : List Loc) : Prop := v = some (.int (Int32.ofNat cw.length)) ∧ Fr n0 L ∧ h = h0
theorem ef_rmLe (m : MethodId) (x0 : Addr) : entryFrame m #[(.ref x0)] 1 = mkF m 0 #[.val (.ref x0)] [] := by first | (simp [entryFrame, mkF, argsToLocals, Value.category]; done) | rfl
theorem d32_0 : decode B32_ 0 = .ok (.aload_n 0, 1) := by decide +kernel
theorem d32_1 : decode B32_ 1 = .ok (.getfield 9, 3) := by decide +kernel
theorem d32_4 : decode B32_ 4 = .ok (.arraylength, 1) := by decide +kernel
theorem d32_5 : decode B32_ 5 = .ok (.aload_n 0, 1) := by decide +kernel
theorem d32_6 : decode B32_ 6 = .ok (.invokevirtual 335, 3) := by decide +kernel
theorem pd_22 : parseMethodDescriptor "()B" = some ⟨[], some .byte⟩ := by decide +kernel
theorem d32_9 : decode B32_ 9 = .ok (.ishr, 1) := by decide +kernel
theorem d32_10 : decode B32_ 10 = .ok (.ireturn, 1) := by decide +kernel
theorem rmLe (hw : HW a0 Z) (ws : List Jvm.Cond) (x1 : Addr) (t1 : Addr) (kx : ClassId) (cw : List Int32) (zc : Int32) (h0 : Heap) (n0 : Nat) (Z0 : n0 ≤ h0.size) (Es1 : Exa Z h0 x1 "java/lang/String") (Fv1 : Fld Z h0 x1 "java/lang/String" "value" "[B" (.ref t1)) (Fc1 : Fld Z h0 x1 "java/lang/String" "coder" "B" (.int (0 : Int32))) (As1 : Arv Z h0 t1 kx .byte (Int32.ofNat cw.length) (bsV cw) (.int (0 : Int32))) (S4 : Sta Z Z.heap "java/lang/String" "COMPACT_STRINGS" "Z" (.int zc)) (O1 : Old Z n0 h0) (hCS : ¬ zc = 0) : MetN l Z mn32 jdk_42_method_54_code 1 (some .int) ws (rM 1 0 0 13) #[(.ref x1)] h0 (Q_rmLe Z x1 t1 kx cw zc h0 n0) := by
 refine enterN (plainFor_of_name pn_java_lang_String) (fun m => ef_rmLe m _) fun p e s m below meth c s₁ Bd hZ hx hD hlk hml hown hnm X0 e0 => ?_
 have N0 := Fr.nil n0
 have K0 := Keep.refl h0 []
 have lt_Es1 := ny Es1.lt
 have lt_Fv1 := ny Fv1.lt
 have lt_Fc1 := ny Fc1.lt
 have lt_As1 := ny As1.lt
 refine Wk.aloadN X0 hx (hD d32_0) (n := 1) rfl rfl rfl ?_
 refine Wk.getF X0 hx hZ hown (host := "") (Or.inl (oW hw 100 rfl)) Via.refl e0 Fv1 (hD d32_1) (n := 4) rfl fun T1 X1 e1 => ?_
 obtain ⟨cl2, Ar2, qn2, Sz2, N_2, H_2, Gn2⟩ := id As1
 refine Wk.arrlen X1 hx hZ e1 Ar2 Sz2 N_2 (hD d32_4) (n := 5) rfl ?_
 refine Wk.aloadN X1 hx (hD d32_5) (n := 6) rfl rfl rfl ?_
 obtain ⟨cq3, kq3, qn3a, qn3b, qn3c⟩ := isOf hZ e1 Es1
 have cl3_ := fun Ls (hLs : LsOk c Ls) => X1.virtualBack hx (y := mn31) (z := mn31) hown (mW hZ hw 131 rfl) (mW hZ hw 132 rfl) (notFace_of_selects (args := #[]) (mW hZ hw 134 rfl)) (mW hZ hw 134 rfl) (mW hZ hw 133 rfl) (by decide) (backOf (W := 1) (rmCo l Z a0 hw [] x1 zc h0 n0 (by omega) Fc1 S4 O1 hCS) hZ (oW hw 135 rfl) (oW hw 67 rfl) (by decide) (by decide)) qn3a qn3c (g := mkF m 6 Ls [(.ref x1), (.int (Int32.ofNat cw.length))]) rfl hLs (Steps.refl _) (argsL := []) (rest := [(.int (Int32.ofNat cw.length))]) (lenOf pd_22 rfl) rfl (leq0 rfl) (hD d32_6) (fun _ _ => ⟨rfl, e1, (by decide : 0 + 0 ≤ _), (by decide : 0 + 0 ≤ _)⟩)
 refine Wk.back (n := 9) (rc := 0) (rs := 0) (Q := Q_rmCo Z x1 zc h0 n0) (cl3_ _ (lsok hml rfl)) fun vn3 T3 L3 X3 hQ3 => ?_
 clear cl3_
 obtain ⟨rfl, M3, e3⟩ := hQ3
 have N3 := Fr.app N0 M3
 show Wk p e below _ T3 (mkF m 9 _ [(.int (0 : Int32)), (.int (Int32.ofNat cw.length))])
 refine Wk.ishr X3 hx (hD d32_9) (n := 10) rfl ?_
 exact Wk.leave X3 (v := some (.int ((Int32.ofNat cw.length) >>> ((0 : Int32) &&& 31)))) (fun h => by rw [Bd.returns] at h; cases h) hlk e3 ⟨(congrArg (fun z => some (Value.int z)) (own_shr0 _)), N3, rfl⟩ (by decide) (by decide) (fun fs hr => retI X3 hx Bd.returns (hD d32_10) hr)
def Q_rmIL (Z : State) (a1 : Addr) (zc : Int32) (h0 : Heap) (n0 : Nat) (v : Option Value) (h : Heap) (L : List Loc) : Prop := v = some (.int (1 : Int32)) ∧ Fr n0 L ∧ h = h0
theorem ef_rmIL (m : MethodId) (x0 : Addr) : entryFrame m #[(.ref x0)] 1 = mkF m 0 #[.val (.ref x0)] [] := by first | (simp [entryFrame, mkF, argsToLocals, Value.category]; done) | rfl
theorem d33_0 : decode B33_ 0 = .ok (.getstatic 38, 3) := by decide +kernel
theorem d33_3 : decode B33_ 3 = .ok (.ifCond .eq 14, 3) := by decide +kernel
theorem d33_6 : decode B33_ 6 = .ok (.aload_n 0, 1) := by decide +kernel
theorem d33_7 : decode B33_ 7 = .ok (.getfield 15, 3) := by decide +kernel
theorem d33_10 : decode B33_ 10 = .ok (.ifCond .ne 7, 3) := by decide +kernel
theorem d33_13 : decode B33_ 13 = .ok (.iconst 1, 1) := by decide +kernel
theorem d33_14 : decode B33_ 14 = .ok (.goto 4, 3) := by decide +kernel
theorem d33_18 : decode B33_ 18 = .ok (.ireturn, 1) := by decide +kernel
theorem rmIL (hw : HW a0 Z) (ws : List Jvm.Cond) (a1 : Addr) (zc : Int32) (h0 : Heap) (n0 : Nat) (Z0 : n0 ≤ h0.size) (F1 : Fld Z h0 a1 "java/lang/String" "coder" "B" (.int (0 : Int32))) (S4 : Sta Z Z.heap "java/lang/String" "COMPACT_STRINGS" "Z" (.int zc)) (O1 : Old Z n0 h0) (hCS : ¬ zc = 0) : MetN l Z mn33 jdk_42_method_154_code 1 (some .boolean) ws (rM 0 0 0 0) #[(.ref a1)] h0 (Q_rmIL Z a1 zc h0 n0) := by
 refine enterN (plainFor_of_name pn_java_lang_String) (fun m => ef_rmIL m _) fun p e s m below meth c s₁ Bd hZ hx hD hlk hml hown hnm X0 e0 => ?_
 have N0 := Fr.nil n0
 have K0 := Keep.refl h0 []
 have lt_F1 := ny F1.lt
 refine Wk.getS X0 hx hZ hown (host := "") (Or.inl (oW hw 87 rfl)) Via.refl e0 (Sta.ext O1.2 S4) (hD d33_0) (n := 3) rfl fun T1 X1 e1 => ?_
 have hc3_2 : ¬ (zc = (0 : Int32)) := hCS
 refine Wk.ifNo X1 hx (hD d33_3) (n := 6) rfl ((if0 _ _).trans (feq hc3_2).1) ?_
 refine Wk.aloadN X1 hx (hD d33_6) (n := 7) rfl rfl rfl ?_
 refine Wk.getF X1 hx hZ hown (host := "") (Or.inl (oW hw 98 rfl)) Via.refl e1 F1 (hD d33_7) (n := 10) rfl fun T3 X3 e3 => ?_
 have hc10_4 : (0 : Int32) = (0 : Int32) := rfl
 refine Wk.ifNo X3 hx (hD d33_10) (n := 13) rfl ((if0 _ _).trans (teq hc10_4).2) ?_
 refine Wk.iconst X3 hx (hD d33_13) (n := 14) rfl (z := (1 : Int32)) rfl ?_
 refine Wk.goto X3 hx (hD d33_14) (by decide) (n := 18) (by decide) ?_
 exact Wk.leave X3 (v := some (.int (1 : Int32))) (fun h => by rw [Bd.returns] at h; cases h) hlk e3 ⟨rfl, N0, rfl⟩ (by decide) (by decide) (fun fs hr => retNz X3 hx (t := .boolean) rfl Bd.returns (by simp) (hD d33_18) hr)
def Q_rmPX (Z : State) (i1 : Int32) (i2 : Int32) (fm : Value) (h0 : Heap) (n0 : Nat) (v : Option Value) (h : Heap) (L : List Loc) : Prop := v = some (.int i1) ∧ Fr n0 L ∧ h = h0
theorem ef_rmPX (m : MethodId) (x0 : Int32) (x1 : Int32) (x2 : Value) (hq2 : x2.isRef = true) : entryFrame m #[(.int x0), (.int x1), x2] 3 = mkF m 0 #[.val (.int x0), .val (.int x1), .val x2] [] := by rcases ref_cases hq2 with rfl | ⟨z2, rfl⟩ <;> first | (simp [entryFrame, mkF, argsToLocals, Value.category]; done) | rfl
theorem d34_0 : decode B34_ 0 = .ok (.iload_n 0, 1) := by decide +kernel
theorem d34_1 : decode B34_ 1 = .ok (.ifCond .lt 8, 3) := by decide +kernel
theorem d34_4 : decode B34_ 4 = .ok (.iload_n 0, 1) := by decide +kernel
theorem d34_5 : decode B34_ 5 = .ok (.iload_n 1, 1) := by decide +kernel
theorem d34_6 : decode B34_ 6 = .ok (.if_icmp .lt 10, 3) := by decide +kernel
theorem d34_16 : decode B34_ 16 = .ok (.iload_n 0, 1) := by decide +kernel
theorem d34_17 : decode B34_ 17 = .ok (.ireturn, 1) := by decide +kernel
theorem rmPX (hw : HW a0 Z) (ws : List Jvm.Cond) (i1 : Int32) (i2 : Int32) (fm : Value) (h0 : Heap) (n0 : Nat) (Z0 : n0 ≤ h0.size) (hFM : fm.isRef = true) (h1 : ¬ i1 < 0) (h2 : i1 < i2) : MetN l Z mn34 jdk_41_method_11_code 3 (some .int) ws (rM 0 0 0 0) #[(.int i1), (.int i2), fm] h0 (Q_rmPX Z i1 i2 fm h0 n0) := by
 refine enterN (plainFor_of_name pn_jdk_internal_util_Preconditions) (fun m => ef_rmPX m _ _ _ hFM) fun p e s m below meth c s₁ Bd hZ hx hD hlk hml hown hnm X0 e0 => ?_
 have N0 := Fr.nil n0
 have K0 := Keep.refl h0 []
 refine Wk.iloadN X0 hx (hD d34_0) (n := 1) rfl rfl ?_
 have hc1_1 : ¬ (i1 < (0 : Int32)) := h1
 refine Wk.ifNo X0 hx (hD d34_1) (n := 4) rfl ((if0 _ _).trans (flt hc1_1).1) ?_
 refine Wk.iloadN X0 hx (hD d34_4) (n := 5) rfl rfl ?_
 refine Wk.iloadN X0 hx (hD d34_5) (n := 6) rfl rfl ?_
 have hc6_2 : i1 < i2 := h2
 refine Wk.icmpYes X0 hx (hD d34_6) (tlt hc6_2).1 (by decide) (n := 16) (by decide) ?_
 refine Wk.iloadN X0 hx (hD d34_16) (n := 17) rfl rfl ?_
 exact Wk.leave X0 (v := some (.int i1)) (fun h => by rw [Bd.returns] at h; cases h) hlk e0 ⟨rfl, N0, rfl⟩ (by decide) (by decide) (fun fs hr => retI X0 hx Bd.returns (hD d34_17) hr)
def Q_rmCX (Z : State) (i1 : Int32) (i2 : Int32) (fm : Value) (h0 : Heap) (n0 : Nat) (v : Option Value) (h : Heap) (L : List Loc) : Prop := v = none ∧ Fr n0 L ∧ h = h0
theorem ef_rmCX (m : MethodId) (x0 : Int32) (x1 : Int32) : entryFrame m #[(.int x0), (.int x1)] 2 = mkF m 0 #[.val (.int x0), .val (.int x1)] [] := by first | (simp [entryFrame, mkF, argsToLocals, Value.category]; done) | rfl
theorem d35_0 : decode B35_ 0 = .ok (.iload_n 0, 1) := by decide +kernel
theorem d35_1 : decode B35_ 1 = .ok (.iload_n 1, 1) := by decide +kernel
theorem d35_2 : decode B35_ 2 = .ok (.getstatic 1053, 3) := by decide +kernel
theorem d35_5 : decode B35_ 5 = .ok (.invokestatic 1059, 3) := by decide +kernel
theorem pd_23 : parseMethodDescriptor "(IILjava/util/function/BiFunction;)I" = some ⟨[.int, .int, (.object "java/util/function/BiFunction")], some .int⟩ := by decide +kernel
theorem d35_8 : decode B35_ 8 = .ok (.pop, 1) := by decide +kernel
theorem d35_9 : decode B35_ 9 = .ok (.return_, 1) := by decide +kernel
theorem rmCX (hw : HW a0 Z) (ws : List Jvm.Cond) (i1 : Int32) (i2 : Int32) (fm : Value) (h0 : Heap) (n0 : Nat) (Z0 : n0 ≤ h0.size) (S5 : Sta Z Z.heap "jdk/internal/util/Preconditions" "SIOOBE_FORMATTER" "Ljava/util/function/BiFunction;" fm) (O1 : Old Z n0 h0) (hFM : fm.isRef = true) (h1 : ¬ i1 < 0) (h2 : i1 < i2) : MetN l Z mn35 jdk_42_method_155_code 2 none ws (rM 1 0 0 14) #[(.int i1), (.int i2)] h0 (Q_rmCX Z i1 i2 fm h0 n0) := by
 refine enterN (plainFor_of_name pn_java_lang_String) (fun m => ef_rmCX m _ _) fun p e s m below meth c s₁ Bd hZ hx hD hlk hml hown hnm X0 e0 => ?_
 have N0 := Fr.nil n0
 have K0 := Keep.refl h0 []
 refine Wk.iloadN X0 hx (hD d35_0) (n := 1) rfl rfl ?_
 refine Wk.iloadN X0 hx (hD d35_1) (n := 2) rfl rfl ?_
 refine Wk.getS X0 hx hZ hown (host := "") (Or.inl (oW hw 77 rfl)) Via.refl e0 (Sta.ext O1.2 S5) (hD d35_2) (n := 5) rfl fun T1 X1 e1 => ?_
 have cl2_ := fun Ls (hLs : LsOk c Ls) => Jvm.LawKit.callS X1 hx (y := mn34) hown (mW hZ hw 157 rfl) (mW hZ hw 158 rfl) (mW hZ hw 78 rfl) (mW hZ hw 159 rfl) (by decide) (backOf (W := 0) (rmPX l Z a0 hw [] i1 i2 fm h0 n0 (by omega) hFM h1 h2) hZ (oW hw 159 rfl) (oW hw 78 rfl) (by decide) (by decide)) (g := mkF m 5 Ls [fm, (.int i2), (.int i1)]) rfl hLs (argsL := [(.int i1), (.int i2), fm]) (rest := []) (lenOf pd_23 rfl) rfl (leq0 rfl) (hD d35_5) (fun _ _ => ⟨rfl, e1, (by decide : 0 + 0 ≤ _), (by decide : 0 + 0 ≤ _)⟩)
 refine Wk.backS (n := 8) (rc := 0) (rs := 0) (Q := Q_rmPX Z i1 i2 fm h0 n0) (cl2_ _ (lsok hml rfl)) fun vn2 T2 L2 X2 hQ2 => ?_
 clear cl2_
 obtain ⟨rfl, M2, e2⟩ := hQ2
 have N2 := Fr.app N0 M2
 show Wk p e below _ T2 (mkF m 8 _ [(.int i1)])
 refine Wk.pop X2 hx (hD d35_8) (n := 9) rfl rfl ?_
 exact Wk.leave X2 (v := none) (fun _ => rfl) hlk e2 ⟨rfl, N2, rfl⟩ (by decide) (by decide) (fun fs hr => X2.returnOut hx Bd.returns (hD d35_9) hr)
def Q_rmLA (Z : State) (t1 : Addr) (i1 : Int32) (kx : ClassId) (cw : List Int32) (iz : Nat) (fm : Value) (h0 : Heap) (n0 : Nat) (v : Option Value) (h : Heap) (L : List Loc) : Prop := v = some (.int (cw.getD iz 0)) ∧ Fr n0 L ∧ h = h0
theorem ef_rmLA (m : MethodId) (x0 : Addr) (x1 : Int32) : entryFrame m #[(.ref x0), (.int x1)] 2 = mkF m 0 #[.val (.ref x0), .val (.int x1)] [] := by first | (simp [entryFrame, mkF, argsToLocals, Value.category]; done) | rfl
theorem pn_java_lang_StringLatin1 : plainName "java/lang/StringLatin1" = true := by first | (simp [plainName, overriddenIn]; done) | decide +kernel
theorem d36_0 : decode B36_ 0 = .ok (.iload_n 1, 1) := by decide +kernel
theorem d36_1 : decode B36_ 1 = .ok (.aload_n 0, 1) := by decide +kernel
theorem d36_2 : decode B36_ 2 = .ok (.arraylength, 1) := by decide +kernel
theorem d36_3 : decode B36_ 3 = .ok (.invokestatic 9, 3) := by decide +kernel
theorem d36_6 : decode B36_ 6 = .ok (.aload_n 0, 1) := by decide +kernel
theorem d36_7 : decode B36_ 7 = .ok (.iload_n 1, 1) := by decide +kernel
theorem d36_8 : decode B36_ 8 = .ok (.baload, 1) := by decide +kernel
theorem d36_9 : decode B36_ 9 = .ok (.sipush 255, 3) := by decide +kernel
theorem d36_12 : decode B36_ 12 = .ok (.iand, 1) := by decide +kernel
theorem d36_13 : decode B36_ 13 = .ok (.i2c, 1) := by decide +kernel
theorem d36_14 : decode B36_ 14 = .ok (.ireturn, 1) := by decide +kernel
theorem rmLA (hw : HW a0 Z) (ws : List Jvm.Cond) (t1 : Addr) (i1 : Int32) (kx : ClassId) (cw : List Int32) (iz : Nat) (fm : Value) (h0 : Heap) (n0 : Nat) (Z0 : n0 ≤ h0.size) (A1 : Arv Z h0 t1 kx .byte (Int32.ofNat cw.length) (bsV cw) (.int (0 : Int32))) (S5 : Sta Z Z.heap "jdk/internal/util/Preconditions" "SIOOBE_FORMATTER" "Ljava/util/function/BiFunction;" fm) (O1 : Old Z n0 h0) (hFM : fm.isRef = true) (hp : ∀ c ∈ cw, ¬ c < 0 ∧ ¬ (255 : Int32) < c) (hi : i1 = Int32.ofNat iz) (hl : iz < cw.length) (hle : cw.length ≤ 8) : MetN l Z mn36 jdk_43_method_2_code 2 (some .char) ws (rM 2 0 0 27) #[(.ref t1), (.int i1)] h0 (Q_rmLA Z t1 i1 kx cw iz fm h0 n0) := by
 refine enterN (plainFor_of_name pn_java_lang_StringLatin1) (fun m => ef_rmLA m _ _) fun p e s m below meth c s₁ Bd hZ hx hD hlk hml hown hnm X0 e0 => ?_
 have N0 := Fr.nil n0
 have K0 := Keep.refl h0 []
 have lt_A1 := ny A1.lt
 refine Wk.iloadN X0 hx (hD d36_0) (n := 1) rfl rfl ?_
 refine Wk.aloadN X0 hx (hD d36_1) (n := 2) rfl rfl rfl ?_
 obtain ⟨cl1, Ar1, qn1, Sz1, N_1, H_1, Gn1⟩ := id A1
 refine Wk.arrlen X0 hx hZ e0 Ar1 Sz1 N_1 (hD d36_2) (n := 3) rfl ?_
 have cl2_ := fun Ls (hLs : LsOk c Ls) => Jvm.LawKit.callS X0 hx (y := mn35) hown (mW hZ hw 154 rfl) (mW hZ hw 155 rfl) (mW hZ hw 67 rfl) (mW hZ hw 156 rfl) (by decide) (backOf (W := 0) (rmCX l Z a0 hw [] i1 (Int32.ofNat cw.length) fm h0 n0 (by omega) S5 O1 hFM (by rw [hi]; exact own_nonneg (by omega)) (by rw [hi]; exact (own_lt (by omega) (by omega)).mpr hl)) hZ (oW hw 156 rfl) (oW hw 67 rfl) (by decide) (by decide)) (g := mkF m 3 Ls [(.int (Int32.ofNat cw.length)), (.int i1)]) rfl hLs (argsL := [(.int i1), (.int (Int32.ofNat cw.length))]) (rest := []) (lenOf pd_8 rfl) rfl (leq0 rfl) (hD d36_3) (fun _ _ => ⟨rfl, e0, (by decide : 0 + 0 ≤ _), (by decide : 0 + 0 ≤ _)⟩)
 refine Wk.backS (n := 6) (rc := 0) (rs := 0) (Q := Q_rmCX Z i1 (Int32.ofNat cw.length) fm h0 n0) (cl2_ _ (lsok hml rfl)) fun vn2 T2 L2 X2 hQ2 => ?_
 clear cl2_
 obtain ⟨rfl, M2, e2⟩ := hQ2
 have N2 := Fr.app N0 M2
 show Wk p e below _ T2 (mkF m 6 _ [])
 refine Wk.aloadN X2 hx (hD d36_6) (n := 7) rfl rfl rfl ?_
 refine Wk.iloadN X2 hx (hD d36_7) (n := 8) rfl rfl ?_
 obtain ⟨cl3, Ar3, qn3, Sz3, N_3, H_3, Gn3⟩ := id A1
 have hin3 : ¬ (i1 < 0 ∨ cl3.slots.size ≤ (i1).toNatClampNeg) := inb_of Sz3 (by rw [hi]; exact ⟨own_nonneg (by omega), (own_lt (by omega) (by omega)).mpr hl⟩)
 refine Wk.baloadBytes X2 hx hZ e2 Ar3 (v := (.int ((cw.getD iz 0).toInt8.toInt32))) hin3 (H_3.at hin3 (by rw [hi, own_cl (by omega)]; exact own_bsg hl)) (hD d36_8) (n := 9) rfl ?_
 refine Wk.sipush X2 hx (hD d36_9) (n := 12) rfl (z := (255 : Int32)) rfl ?_
 refine Wk.iand X2 hx (hD d36_12) (n := 13) rfl ?_
 refine Wk.i2c X2 hx (hD d36_13) (n := 14) rfl rfl ?_
 exact Wk.leave X2 (v := some (.int (cw.getD iz 0))) (fun h => by rw [Bd.returns] at h; cases h) hlk e2 ⟨rfl, N2, rfl⟩ (by decide) (by decide) (fun fs hr => retNz X2 hx (t := .char) (own_lat (hp _ (own_mem hl))) Bd.returns (by simp) (hD d36_14) hr)
def Q_rmCA (Z : State) (x1 : Addr) (i1 : Int32) (t1 : Addr) (kx : ClassId) (cw : List Int32) (iz : Nat) (zc : Int32) (fm : Value) (h0 : Heap) (n0 : Nat) (v : Option Value) (h : Heap) (L : List Loc) : Prop := v = some (.int (cw.getD iz 0)) ∧ Fr n0 L ∧ h = h0
theorem ef_rmCA (m : MethodId) (x0 : Addr) (x1 : Int32) : entryFrame m #[(.ref x0), (.int x1)] 2 = mkF m 0 #[.val (.ref x0), .val (.int x1)] [] := by first | (simp [entryFrame, mkF, argsToLocals, Value.category]; done) | rfl
theorem d37_0 : decode B37_ 0 = .ok (.aload_n 0, 1) := by decide +kernel
theorem d37_1 : decode B37_ 1 = .ok (.invokevirtual 492, 3) := by decide +kernel
theorem pd_24 : parseMethodDescriptor "()Z" = some ⟨[], some .boolean⟩ := by decide +kernel
theorem d37_4 : decode B37_ 4 = .ok (.ifCond .eq 12, 3) := by decide +kernel
theorem d37_7 : decode B37_ 7 = .ok (.aload_n 0, 1) := by decide +kernel
theorem d37_8 : decode B37_ 8 = .ok (.getfield 9, 3) := by decide +kernel
theorem d37_11 : decode B37_ 11 = .ok (.iload_n 1, 1) := by decide +kernel
theorem d37_12 : decode B37_ 12 = .ok (.invokestatic 495, 3) := by decide +kernel
theorem pd_25 : parseMethodDescriptor "([BI)C" = some ⟨[(.array .byte), .int], some .char⟩ := by decide +kernel
theorem d37_15 : decode B37_ 15 = .ok (.ireturn, 1) := by decide +kernel
theorem rmCA (hw : HW a0 Z) (ws : List Jvm.Cond) (x1 : Addr) (i1 : Int32) (t1 : Addr) (kx : ClassId) (cw : List Int32) (iz : Nat) (zc : Int32) (fm : Value) (h0 : Heap) (n0 : Nat) (Z0 : n0 ≤ h0.size) (Es1 : Exa Z h0 x1 "java/lang/String") (Fv1 : Fld Z h0 x1 "java/lang/String" "value" "[B" (.ref t1)) (Fc1 : Fld Z h0 x1 "java/lang/String" "coder" "B" (.int (0 : Int32))) (As1 : Arv Z h0 t1 kx .byte (Int32.ofNat cw.length) (bsV cw) (.int (0 : Int32))) (S4 : Sta Z Z.heap "java/lang/String" "COMPACT_STRINGS" "Z" (.int zc)) (S5 : Sta Z Z.heap "jdk/internal/util/Preconditions" "SIOOBE_FORMATTER" "Ljava/util/function/BiFunction;" fm) (O1 : Old Z n0 h0) (hCS : ¬ zc = 0) (hFM : fm.isRef = true) (hp : ∀ c ∈ cw, ¬ c < 0 ∧ ¬ (255 : Int32) < c) (hi : i1 = Int32.ofNat iz) (hl : iz < cw.length) (hle : cw.length ≤ 8) : MetN l Z mn37 jdk_42_method_56_code 2 (some .char) ws (rM 3 0 0 40) #[(.ref x1), (.int i1)] h0 (Q_rmCA Z x1 i1 t1 kx cw iz zc fm h0 n0) := by
 refine enterN (plainFor_of_name pn_java_lang_String) (fun m => ef_rmCA m _ _) fun p e s m below meth c s₁ Bd hZ hx hD hlk hml hown hnm X0 e0 => ?_
 have N0 := Fr.nil n0
 have K0 := Keep.refl h0 []
 have lt_Es1 := ny Es1.lt
 have lt_Fv1 := ny Fv1.lt
 have lt_Fc1 := ny Fc1.lt
 have lt_As1 := ny As1.lt
 refine Wk.aloadN X0 hx (hD d37_0) (n := 1) rfl rfl rfl ?_
 obtain ⟨cq1, kq1, qn1a, qn1b, qn1c⟩ := isOf hZ e0 Es1
 have cl1_ := fun Ls (hLs : LsOk c Ls) => X0.virtualBack hx (y := mn33) (z := mn33) hown (mW hZ hw 145 rfl) (mW hZ hw 146 rfl) (notFace_of_selects (args := #[]) (mW hZ hw 148 rfl)) (mW hZ hw 148 rfl) (mW hZ hw 147 rfl) (by decide) (backOf (W := 0) (rmIL l Z a0 hw [] x1 zc h0 n0 (by omega) Fc1 S4 O1 hCS) hZ (oW hw 149 rfl) (oW hw 67 rfl) (by decide) (by decide)) qn1a qn1c (g := mkF m 1 Ls [(.ref x1)]) rfl hLs (Steps.refl _) (argsL := []) (rest := []) (lenOf pd_24 rfl) rfl (leq0 rfl) (hD d37_1) (fun _ _ => ⟨rfl, e0, (by decide : 0 + 0 ≤ _), (by decide : 0 + 0 ≤ _)⟩)
 refine Wk.back (n := 4) (rc := 0) (rs := 0) (Q := Q_rmIL Z x1 zc h0 n0) (cl1_ _ (lsok hml rfl)) fun vn1 T1 L1 X1 hQ1 => ?_
 clear cl1_
 obtain ⟨rfl, M1, e1⟩ := hQ1
 have N1 := Fr.app N0 M1
 show Wk p e below _ T1 (mkF m 4 _ [(.int (1 : Int32))])
 have hc4_2 : ¬ ((1 : Int32) = (0 : Int32)) := by decide
 refine Wk.ifNo X1 hx (hD d37_4) (n := 7) rfl ((if0 _ _).trans (feq hc4_2).1) ?_
 refine Wk.aloadN X1 hx (hD d37_7) (n := 8) rfl rfl rfl ?_
 refine Wk.getF X1 hx hZ hown (host := "") (Or.inl (oW hw 100 rfl)) Via.refl e1 Fv1 (hD d37_8) (n := 11) rfl fun T3 X3 e3 => ?_
 refine Wk.iloadN X3 hx (hD d37_11) (n := 12) rfl rfl ?_
 have cl4_ := fun Ls (hLs : LsOk c Ls) => Jvm.LawKit.callS X3 hx (y := mn36) hown (mW hZ hw 150 rfl) (mW hZ hw 151 rfl) (mW hZ hw 152 rfl) (mW hZ hw 153 rfl) (by decide) (backOf (W := 0) (rmLA l Z a0 hw [] t1 i1 kx cw iz fm h0 n0 (by omega) As1 S5 O1 hFM hp hi (by omega) (by omega)) hZ (oW hw 153 rfl) (oW hw 152 rfl) (by decide) (by decide)) (g := mkF m 12 Ls [(.int i1), (.ref t1)]) rfl hLs (argsL := [(.ref t1), (.int i1)]) (rest := []) (lenOf pd_25 rfl) rfl (leq0 rfl) (hD d37_12) (fun _ _ => ⟨rfl, e3, (by decide : 0 + 0 ≤ _), (by decide : 0 + 0 ≤ _)⟩)
 refine Wk.backS (n := 15) (rc := 0) (rs := 0) (Q := Q_rmLA Z t1 i1 kx cw iz fm h0 n0) (cl4_ _ (lsok hml rfl)) fun vn4 T4 L4 X4 hQ4 => ?_
 clear cl4_
 obtain ⟨rfl, M4, e4⟩ := hQ4
 have N4 := Fr.app N1 M4
 show Wk p e below _ T4 (mkF m 15 _ [(.int (cw.getD iz 0))])
 exact Wk.leave X4 (v := some (.int (cw.getD iz 0))) (fun h => by rw [Bd.returns] at h; cases h) hlk e4 ⟨rfl, N4, rfl⟩ (by decide) (by decide) (fun fs hr => retNz X4 hx (t := .char) (own_ncr hp hl) Bd.returns (by simp) (hD d37_15) hr)
def Q_rmAT (Z : State) (x1 : Addr) (t1 : Addr) (kx : ClassId) (cw : List Int32) (i1 : Int32) (i2 : Int32) (i3 : Int32) (p1 : Int32) (i5 : Int32) (bz : Nat) (iz : Nat) (nz : Nat) (sn : Nat) (zc : Int32) (fm : Value) (h0 : Heap) (n0 : Nat) (v : Option Value) (h : Heap) (L : List Loc) : Prop := v = some (.int (1 : Int32)) ∧ Fr n0 L ∧ h = h0
theorem ef_rmAT (m : MethodId) (x0 : Addr) (x1 : Int32) (x2 : Int32) (x3 : Int32) (x4 : Int32) (x5 : Int32) : entryFrame m #[(.ref x0), (.int x1), (.int x2), (.int x3), (.int x4), (.int x5)] 7 = mkF m 0 #[.val (.ref x0), .val (.int x1), .val (.int x2), .val (.int x3), .val (.int x4), .val (.int x5), .unset] [] := by first | (simp [entryFrame, mkF, argsToLocals, Value.category]; done) | rfl
theorem pn_com_example_depeche_depeche_hl7_BuilderAppendPinLaw : plainName "com/example/depeche/depeche/hl7/BuilderAppendPinLaw" = true := by first | (simp [plainName, overriddenIn]; done) | decide +kernel
theorem d38_0 : decode B38_ 0 = .ok (.iload_n 2, 1) := by decide +kernel
theorem d38_1 : decode B38_ 1 = .ok (.iload_n 3, 1) := by decide +kernel
theorem d38_2 : decode B38_ 2 = .ok (.if_icmp .lt 5, 3) := by decide +kernel
theorem d38_7 : decode B38_ 7 = .ok (.iload 4, 2) := by decide +kernel
theorem d38_9 : decode B38_ 9 = .ok (.bipush 8, 2) := by decide +kernel
theorem d38_11 : decode B38_ 11 = .ok (.iload 5, 2) := by decide +kernel
theorem d38_13 : decode B38_ 13 = .ok (.iload_n 2, 1) := by decide +kernel
theorem d38_14 : decode B38_ 14 = .ok (.iadd, 1) := by decide +kernel
theorem d38_15 : decode B38_ 15 = .ok (.imul, 1) := by decide +kernel
theorem d38_16 : decode B38_ 16 = .ok (.iushr, 1) := by decide +kernel
theorem d38_17 : decode B38_ 17 = .ok (.sipush 255, 3) := by decide +kernel
theorem d38_20 : decode B38_ 20 = .ok (.iand, 1) := by decide +kernel
theorem d38_21 : decode B38_ 21 = .ok (.istore 6, 2) := by decide +kernel
theorem d38_23 : decode B38_ 23 = .ok (.aload_n 0, 1) := by decide +kernel
theorem d38_24 : decode B38_ 24 = .ok (.iload_n 1, 1) := by decide +kernel
theorem d38_25 : decode B38_ 25 = .ok (.iload_n 2, 1) := by decide +kernel
theorem d38_26 : decode B38_ 26 = .ok (.iadd, 1) := by decide +kernel
theorem d38_27 : decode B38_ 27 = .ok (.invokevirtual 36, 3) := by decide +kernel
theorem pd_26 : parseMethodDescriptor "(I)C" = some ⟨[.int], some .char⟩ := by decide +kernel
theorem d38_30 : decode B38_ 30 = .ok (.iload 6, 2) := by decide +kernel
theorem d38_32 : decode B38_ 32 = .ok (.i2c, 1) := by decide +kernel
theorem d38_33 : decode B38_ 33 = .ok (.if_icmp .ne 7, 3) := by decide +kernel
theorem d38_36 : decode B38_ 36 = .ok (.iconst 1, 1) := by decide +kernel
theorem d38_37 : decode B38_ 37 = .ok (.goto 4, 3) := by decide +kernel
theorem d38_41 : decode B38_ 41 = .ok (.ireturn, 1) := by decide +kernel
theorem d38_5 : decode B38_ 5 = .ok (.iconst 1, 1) := by decide +kernel
theorem d38_6 : decode B38_ 6 = .ok (.ireturn, 1) := by decide +kernel
theorem rmAT (hw : HW a0 Z) (ws : List Jvm.Cond) (x1 : Addr) (t1 : Addr) (kx : ClassId) (cw : List Int32) (i1 : Int32) (i2 : Int32) (i3 : Int32) (p1 : Int32) (i5 : Int32) (bz : Nat) (iz : Nat) (nz : Nat) (sn : Nat) (zc : Int32) (fm : Value) (h0 : Heap) (n0 : Nat) (Z0 : n0 ≤ h0.size) (Es1 : Exa Z h0 x1 "java/lang/String") (Fv1 : Fld Z h0 x1 "java/lang/String" "value" "[B" (.ref t1)) (Fc1 : Fld Z h0 x1 "java/lang/String" "coder" "B" (.int (0 : Int32))) (As1 : Arv Z h0 t1 kx .byte (Int32.ofNat cw.length) (bsV cw) (.int (0 : Int32))) (S4 : Sta Z Z.heap "java/lang/String" "COMPACT_STRINGS" "Z" (.int zc)) (S5 : Sta Z Z.heap "jdk/internal/util/Preconditions" "SIOOBE_FORMATTER" "Ljava/util/function/BiFunction;" fm) (O1 : Old Z n0 h0) (hCS : ¬ zc = 0) (hFM : fm.isRef = true) (hp : ∀ c ∈ cw, ¬ c < 0 ∧ ¬ (255 : Int32) < c) (q1 : i1 = Int32.ofNat bz) (q2 : i2 = Int32.ofNat iz) (q3 : i3 = Int32.ofNat nz) (q5 : i5 = Int32.ofNat sn) (hsn : sn + nz ≤ 4) (hiz : iz ≤ 3) (hbz : bz ≤ 2) (hcw : cw.length = bz + nz + 1) (hg : ∀ i, i < nz → cw.getD (bz + i) 0 = fb p1 (sn + i)) : MetN l Z mn38 method_3_code 7 (some .boolean) ws (rM 4 0 0 53) #[(.ref x1), (.int i1), (.int i2), (.int i3), (.int p1), (.int i5)] h0 (Q_rmAT Z x1 t1 kx cw i1 i2 i3 p1 i5 bz iz nz sn zc fm h0 n0) := by
 refine enterN (plainFor_of_name pn_com_example_depeche_depeche_hl7_BuilderAppendPinLaw) (fun m => ef_rmAT m _ _ _ _ _ _) fun p e s m below meth c s₁ Bd hZ hx hD hlk hml hown hnm X0 e0 => ?_
 have N0 := Fr.nil n0
 have K0 := Keep.refl h0 []
 have lt_Es1 := ny Es1.lt
 have lt_Fv1 := ny Fv1.lt
 have lt_Fc1 := ny Fc1.lt
 have lt_As1 := ny As1.lt
 refine Wk.iloadN X0 hx (hD d38_0) (n := 1) rfl rfl ?_
 refine Wk.iloadN X0 hx (hD d38_1) (n := 2) rfl rfl ?_
 by_cases hc2 : i2 < i3
 ·
  refine Wk.icmpYes X0 hx (hD d38_2) (tlt hc2).1 (by decide) (n := 7) (by decide) ?_
  have hin : iz < nz := by rw [q2, q3] at hc2; exact (own_lt (by omega) (by omega)).mp hc2
  refine Wk.iload X0 hx (hD d38_7) (n := 9) rfl rfl ?_
  refine Wk.bipush X0 hx (hD d38_9) (n := 11) rfl (z := (8 : Int32)) rfl ?_
  refine Wk.iload X0 hx (hD d38_11) (n := 13) rfl rfl ?_
  refine Wk.iloadN X0 hx (hD d38_13) (n := 14) rfl rfl ?_
  refine Wk.iadd X0 hx (hD d38_14) (n := 15) rfl ?_
  refine Wk.imul X0 hx (hD d38_15) (n := 16) rfl ?_
  refine Wk.iushr X0 hx (hD d38_16) (n := 17) rfl ?_
  refine Wk.sipush X0 hx (hD d38_17) (n := 20) rfl (z := (255 : Int32)) rfl ?_
  refine Wk.iand X0 hx (hD d38_20) (n := 21) rfl ?_
  refine Wk.istore X0 hx (hD d38_21) (n := 23) rfl (L' := #[.val (.ref x1), .val (.int i1), .val (.int i2), .val (.int i3), .val (.int p1), .val (.int i5), .val (.int (((p1.toUInt32 >>> (((8 : Int32) * (i5 + i2)) &&& 31).toUInt32).toInt32) &&& (255 : Int32)))]) rfl ?_
  refine Wk.aloadN X0 hx (hD d38_23) (n := 24) rfl rfl rfl ?_
  refine Wk.iloadN X0 hx (hD d38_24) (n := 25) rfl rfl ?_
  refine Wk.iloadN X0 hx (hD d38_25) (n := 26) rfl rfl ?_
  refine Wk.iadd X0 hx (hD d38_26) (n := 27) rfl ?_
  obtain ⟨cq1, kq1, qn1a, qn1b, qn1c⟩ := isOf hZ e0 Es1
  have cl1_ := fun Ls (hLs : LsOk c Ls) => X0.virtualBack hx (y := mn37) (z := mn37) hown (mW hZ hw 140 rfl) (mW hZ hw 141 rfl) (notFace_of_selects (args := #[]) (mW hZ hw 143 rfl)) (mW hZ hw 143 rfl) (mW hZ hw 142 rfl) (by decide) (backOf (W := 0) (rmCA l Z a0 hw [] x1 (i1 + i2) t1 kx cw (bz + iz) zc fm h0 n0 (by omega) Es1 Fv1 Fc1 As1 S4 S5 O1 hCS hFM hp (by rw [q1, q2]; exact own_ofadd _ _) (by omega) (by omega)) hZ (oW hw 144 rfl) (oW hw 67 rfl) (by decide) (by decide)) qn1a qn1c (g := mkF m 27 Ls [(.int (i1 + i2)), (.ref x1)]) rfl hLs (Steps.refl _) (argsL := [(.int (i1 + i2))]) (rest := []) (lenOf pd_26 rfl) rfl (leq0 rfl) (hD d38_27) (fun _ _ => ⟨rfl, e0, (by decide : 0 + 0 ≤ _), (by decide : 0 + 0 ≤ _)⟩)
  refine Wk.back (n := 30) (rc := 0) (rs := 0) (Q := Q_rmCA Z x1 (i1 + i2) t1 kx cw (bz + iz) zc fm h0 n0) (cl1_ _ (lsok hml rfl)) fun vn1 T1 L1 X1 hQ1 => ?_
  clear cl1_
  obtain ⟨rfl, M1, e1⟩ := hQ1
  have N1 := Fr.app N0 M1
  show Wk p e below _ T1 (mkF m 30 _ [(.int (cw.getD (bz + iz) 0))])
  refine Wk.iload X1 hx (hD d38_30) (n := 32) rfl rfl ?_
  refine Wk.i2c X1 hx (hD d38_32) (n := 33) rfl rfl ?_
  have hc33_2 : (cw.getD (bz + iz) 0) = ((((p1.toUInt32 >>> (((8 : Int32) * (i5 + i2)) &&& 31).toUInt32).toInt32) &&& (255 : Int32)).toUInt32.toUInt16.toUInt32.toInt32) := by rw [hg _ hin, q2, q5]; exact own_atx p1 sn iz
  refine Wk.icmpNo X1 hx (hD d38_33) (n := 36) rfl (teq hc33_2).2 ?_
  refine Wk.iconst X1 hx (hD d38_36) (n := 37) rfl (z := (1 : Int32)) rfl ?_
  refine Wk.goto X1 hx (hD d38_37) (by decide) (n := 41) (by decide) ?_
  exact Wk.leave X1 (v := some (.int (1 : Int32))) (fun h => by rw [Bd.returns] at h; cases h) hlk e1 ⟨rfl, N1, rfl⟩ (by decide) (by decide) (fun fs hr => retNz X1 hx (t := .boolean) rfl Bd.returns (by simp) (hD d38_41) hr)
 ·
  refine Wk.icmpNo X0 hx (hD d38_2) (n := 5) rfl (flt hc2).1 ?_
  refine Wk.iconst X0 hx (hD d38_5) (n := 6) rfl (z := (1 : Int32)) rfl ?_
  exact Wk.leave X0 (v := some (.int (1 : Int32))) (fun h => by rw [Bd.returns] at h; cases h) hlk e0 ⟨rfl, N0, rfl⟩ (by decide) (by decide) (fun fs hr => retNz X0 hx (t := .boolean) rfl Bd.returns (by simp) (hD d38_6) hr)
def Q_rm0 (Z : State) (p1 : Int32) (p2 : Int32) (p3 : Int32) (p4 : Int32) (p5 : Int32) (p6 : Int32) (wi : Addr) (wc : Addr) (ki : ClassId) (kc : ClassId) (wso : Addr) (wu : Addr) (zc : Int32) (fm : Value) (h0 : Heap) (n0 : Nat) (v : Option Value) (h : Heap) (L : List Loc) : Prop := v = some (.int (1 : Int32)) ∧ Fr n0 L ∧ Keep h0 h []
theorem ef_rm0 (m : MethodId) (x0 : Int32) (x1 : Int32) (x2 : Int32) (x3 : Int32) (x4 : Int32) (x5 : Int32) : entryFrame m #[(.int x0), (.int x1), (.int x2), (.int x3), (.int x4), (.int x5)] maxLocals = mkF m 0 #[.val (.int x0), .val (.int x1), .val (.int x2), .val (.int x3), .val (.int x4), .val (.int x5), .unset, .unset, .unset, .unset, .unset, .unset, .unset, .unset, .unset, .unset, .unset, .unset, .unset, .unset] [] := by first | (simp [entryFrame, mkF, argsToLocals, Value.category, maxLocals]; done) | rfl
theorem pd_27 : parseMethodDescriptor "()I" = some ⟨[], some .int⟩ := by decide +kernel
theorem pd_28 : parseMethodDescriptor "(Ljava/lang/String;IIIII)Z" = some ⟨[(.object "java/lang/String"), .int, .int, .int, .int, .int], some .boolean⟩ := by decide +kernel
theorem pd_29 : parseMethodDescriptor "(I)V" = some ⟨[.int], none⟩ := by decide +kernel
theorem pd_30 : parseMethodDescriptor "([BII)V" = some ⟨[(.array .byte), .int, .int], none⟩ := by decide +kernel
theorem pd_31 : parseMethodDescriptor "()Lcom/example/depeche/depeche/hl7/Text;" = some ⟨[], some (.object "com/example/depeche/depeche/hl7/Text")⟩ := by decide +kernel
theorem pd_32 : parseMethodDescriptor "()Ljava/lang/String;" = some ⟨[], some (.object "java/lang/String")⟩ := by decide +kernel
theorem rm0 (hw : HW a0 Z) (ws : List Jvm.Cond) (p1 : Int32) (p2 : Int32) (p3 : Int32) (p4 : Int32) (p5 : Int32) (p6 : Int32) (wi : Addr) (wc : Addr) (ki : ClassId) (kc : ClassId) (wso : Addr) (wu : Addr) (zc : Int32) (fm : Value) (h0 : Heap) (n0 : Nat) (Z0 : n0 ≤ h0.size) (S1 : Sta Z Z.heap "com/example/depeche/depeche/hl7/Text" "NO_INDEXES" "[I" (.ref wi)) (S2 : Sta Z Z.heap "com/example/depeche/depeche/hl7/Text" "NO_CHARS" "[C" (.ref wc)) (O1 : Old Z n0 h0) (Ai : Arv Z Z.heap wi ki .int (0 : Int32) [] (.int (0 : Int32))) (Ei : Exa Z Z.heap wi "[I") (Ac : Arv Z Z.heap wc kc .char (0 : Int32) [] (.int (0 : Int32))) (Ec : Exa Z Z.heap wc "[C") (S4 : Sta Z Z.heap "java/lang/String" "COMPACT_STRINGS" "Z" (.int zc)) (S6 : Sta Z Z.heap "sun/nio/cs/UTF_8" "INSTANCE" "Lsun/nio/cs/UTF_8;" (.ref wu)) (S7 : Sta Z Z.heap "sun/nio/cs/ISO_8859_1" "INSTANCE" "Lsun/nio/cs/ISO_8859_1;" (.ref wso)) (S5 : Sta Z Z.heap "jdk/internal/util/Preconditions" "SIOOBE_FORMATTER" "Ljava/util/function/BiFunction;" fm) (Es : Exa Z Z.heap wso "sun/nio/cs/ISO_8859_1") (S8 : Sta Z Z.heap "java/nio/charset/StandardCharsets" "ISO_8859_1" "Ljava/nio/charset/Charset;" (.ref wso)) (hCS : ¬ zc = 0) (hFM : fm.isRef = true) (hnu : ¬ wso = wu) (hm1 : wi < n0) (hm2 : wc < n0) : MetN l Z x code maxLocals ret ws room_1 #[(.int p1), (.int p2), (.int p3), (.int p4), (.int p5), (.int p6)] h0 (Q_rm0 Z p1 p2 p3 p4 p5 p6 wi wc ki kc wso wu zc fm h0 n0) := by
 refine enterN (plainFor_of_name pn_com_example_depeche_depeche_hl7_BuilderAppendPinLaw) (fun m => ef_rm0 m _ _ _ _ _ _) fun p e s m below meth c s₁ Bd hZ hx hD hlk hml hown hnm X0 e0 => ?_
 have N0 := Fr.nil n0
 have K0 := Keep.refl h0 []
 have J39 : ∀ (z6 z7 z8 : Int32) (h6 : z6 = 0 ∨ z6 = 1) (h7 : z7 = 0 ∨ z7 = 1) (h8 : z8 = 0 ∨ z8 = 1), Wk p e below (EndN s (Q_rm0 Z p1 p2 p3 p4 p5 p6 wi wc ki kc wso wu zc fm h0 n0) room_1.cells room_1.slots) s₁ (mkF m 39 #[.val (.int p1), .val (.int p2), .val (.int p3), .val (.int p4), .val (.int p5), .val (.int p6), .val (.int z6), .val (.int z7), .val (.int z8), .unset, .unset, .unset, .unset, .unset, .unset, .unset, .unset, .unset, .unset, .unset] []) := by
  intro z6 z7 z8 h6 h7 h8
  refine Wk.iconst X0 hx (hD at_39) (n := 40) rfl (z := (4 : Int32)) rfl ?_
  refine Wk.newP X0 hx hZ (oW hw 0 rfl) e0 (hD at_40) (n := 42) rfl (by decide) (cap := 4) (by decide) (by decide) (by decide) (by decide) fun T1 H1 b1 k1 gn1 X1 e1 Ex1 An1 => ?_
  have gn1 := nx gn1
  have sz1 := Ex1.1
  have K1 := K0.ext Ex1
  have Vn1 : Arv Z H1 b1 k1 .byte (4 : Int32) [(.int (0 : Int32)), (.int (0 : Int32)), (.int (0 : Int32)), (.int (0 : Int32))] (.int (0 : Int32)) := (Arv.new An1 (by decide)).pad (pad_rep [] (.int (0 : Int32)) 4)
  have lt1 := ny Vn1.lt
  refine Wk.astore X1 hx (hD at_42) (n := 44) rfl rfl (L' := #[.val (.int p1), .val (.int p2), .val (.int p3), .val (.int p4), .val (.int p5), .val (.int p6), .val (.int z6), .val (.int z7), .val (.int z8), .val (.ref b1), .unset, .unset, .unset, .unset, .unset, .unset, .unset, .unset, .unset, .unset]) rfl ?_
  refine Wk.aload X1 hx (hD at_44) (n := 46) rfl rfl rfl ?_
  refine Wk.iconst X1 hx (hD at_46) (n := 47) rfl (z := (0 : Int32)) rfl ?_
  refine Wk.iloadN X1 hx (hD at_47) (n := 48) rfl rfl ?_
  refine Wk.i2b X1 hx (hD at_48) (n := 49) rfl ?_
  obtain ⟨cl2, Ar2, qn2, Sz2, N_2, H_2, Gn2⟩ := id Vn1
  have hin2 : ¬ ((0 : Int32) < 0 ∨ cl2.slots.size ≤ ((0 : Int32)).toNatClampNeg) := inb_of Sz2 ⟨by decide, by decide⟩
  refine Wk.stB X1 hx hZ e1 Ar2 hin2 (hD at_49) (n := 50) rfl fun T2 H2 X2 e2 Wn2 => ?_
  have Vn2 := Arv.set Ar2 qn2 Sz2 N_2 H_2 Gn2 (fits_nar_byte _) Wn2 0 rfl (Nat.le_of_ble_eq_true rfl)
  have Un2 : Arv Z H2 b1 k1 .byte (4 : Int32) [(.int ((fb p1 0).toInt8.toInt32)), (.int (0 : Int32)), (.int (0 : Int32)), (.int (0 : Int32))] (.int (0 : Int32)) := by have q := Vn2; rw [own_fb0 p1] at q; exact q
  have sz2 := Wn2.size
  have K2 := K1.wr Wn2 (Or.inr (by omega))
  have N2 := Fr.snoc X2 N0 (by omega)
  refine Wk.aload X2 hx (hD at_50) (n := 52) rfl rfl rfl ?_
  refine Wk.iconst X2 hx (hD at_52) (n := 53) rfl (z := (1 : Int32)) rfl ?_
  refine Wk.iloadN X2 hx (hD at_53) (n := 54) rfl rfl ?_
  refine Wk.bipush X2 hx (hD at_54) (n := 56) rfl (z := (8 : Int32)) rfl ?_
  refine Wk.iushr X2 hx (hD at_56) (n := 57) rfl ?_
  refine Wk.i2b X2 hx (hD at_57) (n := 58) rfl ?_
  obtain ⟨cl3, Ar3, qn3, Sz3, N_3, H_3, Gn3⟩ := id Un2
  have hin3 : ¬ ((1 : Int32) < 0 ∨ cl3.slots.size ≤ ((1 : Int32)).toNatClampNeg) := inb_of Sz3 ⟨by decide, by decide⟩
  refine Wk.stB X2 hx hZ e2 Ar3 hin3 (hD at_58) (n := 59) rfl fun T3 H3 X3 e3 Wn3 => ?_
  have Vn3 := Arv.set Ar3 qn3 Sz3 N_3 H_3 Gn3 (fits_nar_byte _) Wn3 1 rfl (Nat.le_of_ble_eq_true rfl)
  have Un3 : Arv Z H3 b1 k1 .byte (4 : Int32) [(.int ((fb p1 0).toInt8.toInt32)), (.int ((fb p1 1).toInt8.toInt32)), (.int (0 : Int32)), (.int (0 : Int32))] (.int (0 : Int32)) := by have q := Vn3; rw [own_f1 p1] at q; exact q
  have sz3 := Wn3.size
  have K3 := K2.wr Wn3 (Or.inr (by omega))
  have N3 := Fr.snoc X3 N2 (by omega)
  refine Wk.aload X3 hx (hD at_59) (n := 61) rfl rfl rfl ?_
  refine Wk.iconst X3 hx (hD at_61) (n := 62) rfl (z := (2 : Int32)) rfl ?_
  refine Wk.iloadN X3 hx (hD at_62) (n := 63) rfl rfl ?_
  refine Wk.bipush X3 hx (hD at_63) (n := 65) rfl (z := (16 : Int32)) rfl ?_
  refine Wk.iushr X3 hx (hD at_65) (n := 66) rfl ?_
  refine Wk.i2b X3 hx (hD at_66) (n := 67) rfl ?_
  obtain ⟨cl4, Ar4, qn4, Sz4, N_4, H_4, Gn4⟩ := id Un3
  have hin4 : ¬ ((2 : Int32) < 0 ∨ cl4.slots.size ≤ ((2 : Int32)).toNatClampNeg) := inb_of Sz4 ⟨by decide, by decide⟩
  refine Wk.stB X3 hx hZ e3 Ar4 hin4 (hD at_67) (n := 68) rfl fun T4 H4 X4 e4 Wn4 => ?_
  have Vn4 := Arv.set Ar4 qn4 Sz4 N_4 H_4 Gn4 (fits_nar_byte _) Wn4 2 rfl (Nat.le_of_ble_eq_true rfl)
  have Un4 : Arv Z H4 b1 k1 .byte (4 : Int32) [(.int ((fb p1 0).toInt8.toInt32)), (.int ((fb p1 1).toInt8.toInt32)), (.int ((fb p1 2).toInt8.toInt32)), (.int (0 : Int32))] (.int (0 : Int32)) := by have q := Vn4; rw [own_f2 p1] at q; exact q
  have sz4 := Wn4.size
  have K4 := K3.wr Wn4 (Or.inr (by omega))
  have N4 := Fr.snoc X4 N3 (by omega)
  refine Wk.aload X4 hx (hD at_68) (n := 70) rfl rfl rfl ?_
  refine Wk.iconst X4 hx (hD at_70) (n := 71) rfl (z := (3 : Int32)) rfl ?_
  refine Wk.iloadN X4 hx (hD at_71) (n := 72) rfl rfl ?_
  refine Wk.bipush X4 hx (hD at_72) (n := 74) rfl (z := (24 : Int32)) rfl ?_
  refine Wk.iushr X4 hx (hD at_74) (n := 75) rfl ?_
  refine Wk.i2b X4 hx (hD at_75) (n := 76) rfl ?_
  obtain ⟨cl5, Ar5, qn5, Sz5, N_5, H_5, Gn5⟩ := id Un4
  have hin5 : ¬ ((3 : Int32) < 0 ∨ cl5.slots.size ≤ ((3 : Int32)).toNatClampNeg) := inb_of Sz5 ⟨by decide, by decide⟩
  refine Wk.stB X4 hx hZ e4 Ar5 hin5 (hD at_76) (n := 77) rfl fun T5 H5 X5 e5 Wn5 => ?_
  have Vn5 := Arv.set Ar5 qn5 Sz5 N_5 H_5 Gn5 (fits_nar_byte _) Wn5 3 rfl (Nat.le_of_ble_eq_true rfl)
  have Un5 : Arv Z H5 b1 k1 .byte (4 : Int32) [(.int ((fb p1 0).toInt8.toInt32)), (.int ((fb p1 1).toInt8.toInt32)), (.int ((fb p1 2).toInt8.toInt32)), (.int ((fb p1 3).toInt8.toInt32))] (.int (0 : Int32)) := by have q := Vn5; rw [own_f3 p1] at q; exact q
  have sz5 := Wn5.size
  have K5 := K4.wr Wn5 (Or.inr (by omega))
  have N5 := Fr.snoc X5 N4 (by omega)
  refine Wk.iloadN X5 hx (hD at_77) (n := 78) rfl rfl ?_
  refine Wk.ldcInt X5 hx hown (mW hZ hw 1 rfl) (hD at_78) (n := 80) rfl ?_
  refine Wk.iand X5 hx (hD at_80) (n := 81) rfl ?_
  refine Wk.iconst X5 hx (hD at_81) (n := 82) rfl (z := (5 : Int32)) rfl ?_
  refine Wk.irem X5 hx (hD at_82) (n := 83) rfl (by decide) ?_
  generalize q10 : ((p2 &&& (2147483647 : Int32)) % (5 : Int32)) = i10
  obtain ⟨sn, hsn, rfl⟩ := own_st q10
  refine Wk.istore X5 hx (hD at_83) (n := 85) rfl (L' := #[.val (.int p1), .val (.int p2), .val (.int p3), .val (.int p4), .val (.int p5), .val (.int p6), .val (.int z6), .val (.int z7), .val (.int z8), .val (.ref b1), .val (.int (Int32.ofNat sn)), .unset, .unset, .unset, .unset, .unset, .unset, .unset, .unset, .unset]) rfl ?_
  refine Wk.iload X5 hx (hD at_85) (n := 87) rfl rfl ?_
  refine Wk.iloadN X5 hx (hD at_87) (n := 88) rfl rfl ?_
  refine Wk.ldcInt X5 hx hown (mW hZ hw 1 rfl) (hD at_88) (n := 90) rfl ?_
  refine Wk.iand X5 hx (hD at_90) (n := 91) rfl ?_
  refine Wk.iconst X5 hx (hD at_91) (n := 92) rfl (z := (5 : Int32)) rfl ?_
  refine Wk.iload X5 hx (hD at_92) (n := 94) rfl rfl ?_
  refine Wk.isub X5 hx (hD at_94) (n := 95) rfl ?_
  refine Wk.irem X5 hx (hD at_95) (n := 96) rfl (own_dv0 hsn) ?_
  refine Wk.iadd X5 hx (hD at_96) (n := 97) rfl ?_
  generalize q11 : ((Int32.ofNat sn) + ((p3 &&& (2147483647 : Int32)) % ((5 : Int32) - (Int32.ofNat sn)))) = i11
  obtain ⟨en, hse, hen, rfl⟩ := own_en hsn q11
  refine Wk.istore X5 hx (hD at_97) (n := 99) rfl (L' := #[.val (.int p1), .val (.int p2), .val (.int p3), .val (.int p4), .val (.int p5), .val (.int p6), .val (.int z6), .val (.int z7), .val (.int z8), .val (.ref b1), .val (.int (Int32.ofNat sn)), .val (.int (Int32.ofNat en)), .unset, .unset, .unset, .unset, .unset, .unset, .unset, .unset]) rfl ?_
  refine Wk.iload X5 hx (hD at_99) (n := 101) rfl rfl ?_
  refine Wk.sipush X5 hx (hD at_101) (n := 104) rfl (z := (255 : Int32)) rfl ?_
  refine Wk.iand X5 hx (hD at_104) (n := 105) rfl ?_
  obtain ⟨c1, q_c1⟩ : ∃ z : Int32, z = ((p5 &&& (255 : Int32)).toUInt32.toUInt16.toUInt32.toInt32) := ⟨_, rfl⟩
  have n_c1 : nar .char c1 = c1 := by rw [q_c1]; exact own_c255 _
  have r_c1 : ¬ c1 < 0 ∧ ¬ (255 : Int32) < c1 := by rw [q_c1]; exact own_r255 _
  refine Wk.i2c X5 hx (hD at_105) (n := 106) rfl q_c1.symm ?_
  refine Wk.istore X5 hx (hD at_106) (n := 108) rfl (L' := #[.val (.int p1), .val (.int p2), .val (.int p3), .val (.int p4), .val (.int p5), .val (.int p6), .val (.int z6), .val (.int z7), .val (.int z8), .val (.ref b1), .val (.int (Int32.ofNat sn)), .val (.int (Int32.ofNat en)), .val (.int c1), .unset, .unset, .unset, .unset, .unset, .unset, .unset]) rfl ?_
  refine Wk.iload X5 hx (hD at_108) (n := 110) rfl rfl ?_
  refine Wk.sipush X5 hx (hD at_110) (n := 113) rfl (z := (255 : Int32)) rfl ?_
  refine Wk.iand X5 hx (hD at_113) (n := 114) rfl ?_
  obtain ⟨c2, q_c2⟩ : ∃ z : Int32, z = ((p6 &&& (255 : Int32)).toUInt32.toUInt16.toUInt32.toInt32) := ⟨_, rfl⟩
  have n_c2 : nar .char c2 = c2 := by rw [q_c2]; exact own_c255 _
  have r_c2 : ¬ c2 < 0 ∧ ¬ (255 : Int32) < c2 := by rw [q_c2]; exact own_r255 _
  refine Wk.i2c X5 hx (hD at_114) (n := 115) rfl q_c2.symm ?_
  refine Wk.istore X5 hx (hD at_115) (n := 117) rfl (L' := #[.val (.int p1), .val (.int p2), .val (.int p3), .val (.int p4), .val (.int p5), .val (.int p6), .val (.int z6), .val (.int z7), .val (.int z8), .val (.ref b1), .val (.int (Int32.ofNat sn)), .val (.int (Int32.ofNat en)), .val (.int c1), .val (.int c2), .unset, .unset, .unset, .unset, .unset, .unset]) rfl ?_
  have J194 : ∀ (Tj6 : State) (Hj6 : Heap) (Lcj6 : List Loc) (ab : Addr) (xw : Addr) (tw : Addr) (kw : ClassId) (cw : List Int32), (Stand p l e room_1 s m #[(.int p1), (.int p2), (.int p3), (.int p4), (.int p5), (.int p6)] below meth c Tj6 Lcj6 32 192) → (Tj6.heap = Hj6) → (Keep h0 Hj6 []) → (Fr n0 Lcj6) → (Exa Z Hj6 xw "java/lang/String") → (Fld Z Hj6 xw "java/lang/String" "value" "[B" (.ref tw)) → (Fld Z Hj6 xw "java/lang/String" "coder" "B" (.int (0 : Int32))) → (Arv Z Hj6 tw kw .byte (Int32.ofNat cw.length) (bsV cw) (.int (0 : Int32))) → (Old Z n0 Hj6) → (cw = (if z6 = 1 ∧ z8 = 1 then [26] else [] : List Int32) ++ (if z7 = 1 then [c1] else [] : List Int32) ++ (((flp p1).drop sn).take (en - sn)) ++ [c2]) → Wk p e below (EndN s (Q_rm0 Z p1 p2 p3 p4 p5 p6 wi wc ki kc wso wu zc fm h0 n0) room_1.cells room_1.slots) Tj6 (mkF m 194 #[.val (.int p1), .val (.int p2), .val (.int p3), .val (.int p4), .val (.int p5), .val (.int p6), .val (.int z6), .val (.int z7), .val (.int z8), .val (.ref b1), .val (.int (Int32.ofNat sn)), .val (.int (Int32.ofNat en)), .val (.int c1), .val (.int c2), .val (.ref ab), .val (.ref xw), .unset, .unset, .unset, .unset] []) := by
   intro Tj6 Hj6 Lcj6 ab xw tw kw cw Xj6 ej6 Kj6 Nj6 Es8 Fv8 Fc8 As8 Olj6 hcw
   have szj6 := Kj6.1
   have lt_Es8 := ny Es8.lt
   have lt_Fv8 := ny Fv8.lt
   have lt_Fc8 := ny Fc8.lt
   have lt_As8 := ny As8.lt
   have hpw : ∀ c ∈ cw, ¬ c < 0 ∧ ¬ (255 : Int32) < c := own_pw r_c1 r_c2 hcw
   have hlc : cw.length ≤ 7 := own_lw hcw (by omega)
   have J223 : ∀ (z16 z17 : Int32) (qs ps : List Int32) (hqs : (z16 = 0 ∧ qs = []) ∨ (z16 = 1 ∧ qs = [26])) (hps : (z17 = 0 ∧ z7 = 0 ∧ ps = []) ∨ (z17 = 1 ∧ z7 = 1 ∧ ps = [c1])) (hcx : cw = qs ++ ps ++ (((flp p1).drop sn).take (en - sn)) ++ [c2]), Wk p e below (EndN s (Q_rm0 Z p1 p2 p3 p4 p5 p6 wi wc ki kc wso wu zc fm h0 n0) room_1.cells room_1.slots) Tj6 (mkF m 223 #[.val (.int p1), .val (.int p2), .val (.int p3), .val (.int p4), .val (.int p5), .val (.int p6), .val (.int z6), .val (.int z7), .val (.int z8), .val (.ref b1), .val (.int (Int32.ofNat sn)), .val (.int (Int32.ofNat en)), .val (.int c1), .val (.int c2), .val (.ref ab), .val (.ref xw), .val (.int z16), .val (.int z17), .unset, .unset] []) := by
    intro z16 z17 qs ps hqs hps hcx
    refine Wk.iload Xj6 hx (hD at_223) (n := 225) rfl rfl ?_
    refine Wk.iload Xj6 hx (hD at_225) (n := 227) rfl rfl ?_
    refine Wk.isub Xj6 hx (hD at_227) (n := 228) rfl ?_
    refine Wk.istore Xj6 hx (hD at_228) (n := 230) rfl (L' := #[.val (.int p1), .val (.int p2), .val (.int p3), .val (.int p4), .val (.int p5), .val (.int p6), .val (.int z6), .val (.int z7), .val (.int z8), .val (.ref b1), .val (.int (Int32.ofNat sn)), .val (.int (Int32.ofNat en)), .val (.int c1), .val (.int c2), .val (.ref ab), .val (.ref xw), .val (.int z16), .val (.int z17), .val (.int ((Int32.ofNat en) - (Int32.ofNat sn))), .unset]) rfl ?_
    rcases hqs with ⟨rfl, rfl⟩ | ⟨rfl, rfl⟩ <;> rcases hps with ⟨rfl, rfl, rfl⟩ | ⟨rfl, rfl, rfl⟩
    ·
     have hlw : cw.length = 0 + (en - sn) + 1 := by rw [hcx]; simp only [List.length_append, List.length_cons, List.length_nil, List.length_take, List.length_drop, own_l4]; omega
     refine Wk.aload Xj6 hx (hD at_230) (n := 232) rfl rfl rfl ?_
     obtain ⟨cq7, kq7, qn7a, qn7b, qn7c⟩ := isOf hZ ej6 Es8
     have cl7_ := fun Ls (hLs : LsOk c Ls) => Xj6.virtualBack hx (y := mn32) (z := mn32) hown (mW hZ hw 126 rfl) (mW hZ hw 127 rfl) (notFace_of_selects (args := #[]) (mW hZ hw 129 rfl)) (mW hZ hw 129 rfl) (mW hZ hw 128 rfl) (by decide) (backOf (W := 0) (rmLe l Z a0 hw [] xw tw kw cw zc Hj6 n0 (by omega) Es8 Fv8 Fc8 As8 S4 Olj6 hCS) hZ (oW hw 130 rfl) (oW hw 67 rfl) (by decide) (by decide)) qn7a qn7c (g := mkF m 232 Ls [(.ref xw)]) rfl hLs (Steps.refl _) (argsL := []) (rest := []) (lenOf pd_27 rfl) rfl (leq0 rfl) (hD at_232) (fun _ _ => ⟨rfl, ej6, (by decide : 32 + 0 ≤ _), (by decide : 192 + 0 ≤ _)⟩)
     refine Wk.back (n := 235) (rc := 0) (rs := 0) (Q := Q_rmLe Z xw tw kw cw zc Hj6 n0) (cl7_ _ (lsok hml rfl)) fun vn7 T7 L7 X7 hQ7 => ?_
     clear cl7_
     obtain ⟨rfl, M7, e7⟩ := hQ7
     have N7 := Fr.app Nj6 M7
     show Wk p e below _ T7 (mkF m 235 _ [(.int (Int32.ofNat cw.length))])
     refine Wk.iload X7 hx (hD at_235) (n := 237) rfl rfl ?_
     refine Wk.iload X7 hx (hD at_237) (n := 239) rfl rfl ?_
     refine Wk.iadd X7 hx (hD at_239) (n := 240) rfl ?_
     refine Wk.iload X7 hx (hD at_240) (n := 242) rfl rfl ?_
     refine Wk.iadd X7 hx (hD at_242) (n := 243) rfl ?_
     refine Wk.iconst X7 hx (hD at_243) (n := 244) rfl (z := (1 : Int32)) rfl ?_
     refine Wk.iadd X7 hx (hD at_244) (n := 245) rfl ?_
     have hc245_8 : (Int32.ofNat cw.length) = (((0 : Int32) + ((Int32.ofNat en) - (Int32.ofNat sn))) + (1 : Int32)) := by rw [hlw, own_ofsub hse]; exact own_sum 0 (en - sn)
     refine Wk.icmpYes X7 hx (hD at_245) (teq hc245_8).1 (by decide) (n := 250) (by decide) ?_
     refine Wk.iload X7 hx (hD at_250) (n := 252) rfl rfl ?_
     refine Wk.iconst X7 hx (hD at_252) (n := 253) rfl (z := (1 : Int32)) rfl ?_
     have hc253_9 : ¬ ((0 : Int32) = (1 : Int32)) := by decide
     refine Wk.icmpYes X7 hx (hD at_253) (feq hc253_9).2 (by decide) (n := 269) (by decide) ?_
     refine Wk.iload X7 hx (hD at_269) (n := 271) rfl rfl ?_
     have hc271_10 : (0 : Int32) = (0 : Int32) := rfl
     refine Wk.ifYes X7 hx (hD at_271) ((if0 _ _).trans (teq hc271_10).1) (by decide) (n := 288) (by decide) ?_
     refine Wk.iload X7 hx (hD at_288) (n := 290) rfl rfl ?_
     refine Wk.iload X7 hx (hD at_290) (n := 292) rfl rfl ?_
     refine Wk.iadd X7 hx (hD at_292) (n := 293) rfl ?_
     refine Wk.istore X7 hx (hD at_293) (n := 295) rfl (L' := #[.val (.int p1), .val (.int p2), .val (.int p3), .val (.int p4), .val (.int p5), .val (.int p6), .val (.int z6), .val (.int (0 : Int32)), .val (.int z8), .val (.ref b1), .val (.int (Int32.ofNat sn)), .val (.int (Int32.ofNat en)), .val (.int c1), .val (.int c2), .val (.ref ab), .val (.ref xw), .val (.int (0 : Int32)), .val (.int (0 : Int32)), .val (.int ((Int32.ofNat en) - (Int32.ofNat sn))), .val (.int (0 : Int32))]) rfl ?_
     refine Wk.aload X7 hx (hD at_295) (n := 297) rfl rfl rfl ?_
     refine Wk.iload X7 hx (hD at_297) (n := 299) rfl rfl ?_
     refine Wk.iconst X7 hx (hD at_299) (n := 300) rfl (z := (0 : Int32)) rfl ?_
     refine Wk.iload X7 hx (hD at_300) (n := 302) rfl rfl ?_
     refine Wk.iloadN X7 hx (hD at_302) (n := 303) rfl rfl ?_
     refine Wk.iload X7 hx (hD at_303) (n := 305) rfl rfl ?_
     have cl11_ := fun Ls (hLs : LsOk c Ls) => Jvm.LawKit.callS X7 hx (y := mn38) hown (mW hZ hw 136 rfl) (mW hZ hw 137 rfl) (mW hZ hw 138 rfl) (mW hZ hw 139 rfl) (by decide) (backOf (W := 0) (rmAT l Z a0 hw [] xw tw kw cw (0 : Int32) (0 : Int32) ((Int32.ofNat en) - (Int32.ofNat sn)) p1 (Int32.ofNat sn) 0 0 (en - sn) sn zc fm Hj6 n0 (by omega) Es8 Fv8 Fc8 As8 S4 S5 Olj6 hCS hFM hpw rfl rfl (own_ofsub hse) rfl (by omega) (by omega) (by omega) hlw (fun i hi => by rw [hcx]; exact own_gw (pre := []) hen hi)) hZ (oW hw 139 rfl) (oW hw 138 rfl) (by decide) (by decide)) (g := mkF m 305 Ls [(.int (Int32.ofNat sn)), (.int p1), (.int ((Int32.ofNat en) - (Int32.ofNat sn))), (.int (0 : Int32)), (.int (0 : Int32)), (.ref xw)]) rfl hLs (argsL := [(.ref xw), (.int (0 : Int32)), (.int (0 : Int32)), (.int ((Int32.ofNat en) - (Int32.ofNat sn))), (.int p1), (.int (Int32.ofNat sn))]) (rest := []) (lenOf pd_28 rfl) rfl (leq0 rfl) (hD at_305) (fun _ _ => ⟨rfl, e7, (by decide : 32 + 0 ≤ _), (by decide : 192 + 0 ≤ _)⟩)
     refine Wk.backS (n := 308) (rc := 0) (rs := 0) (Q := Q_rmAT Z xw tw kw cw (0 : Int32) (0 : Int32) ((Int32.ofNat en) - (Int32.ofNat sn)) p1 (Int32.ofNat sn) 0 0 (en - sn) sn zc fm Hj6 n0) (cl11_ _ (lsok hml rfl)) fun vn11 T11 L11 X11 hQ11 => ?_
     clear cl11_
     obtain ⟨rfl, M11, e11⟩ := hQ11
     have N11 := Fr.app N7 M11
     show Wk p e below _ T11 (mkF m 308 _ [(.int (1 : Int32))])
     have hc308_12 : ¬ ((1 : Int32) = (0 : Int32)) := by decide
     refine Wk.ifYes X11 hx (hD at_308) ((if0 _ _).trans (feq hc308_12).2) (by decide) (n := 313) (by decide) ?_
     refine Wk.aload X11 hx (hD at_313) (n := 315) rfl rfl rfl ?_
     refine Wk.iload X11 hx (hD at_315) (n := 317) rfl rfl ?_
     refine Wk.iconst X11 hx (hD at_317) (n := 318) rfl (z := (1 : Int32)) rfl ?_
     refine Wk.iload X11 hx (hD at_318) (n := 320) rfl rfl ?_
     refine Wk.iloadN X11 hx (hD at_320) (n := 321) rfl rfl ?_
     refine Wk.iload X11 hx (hD at_321) (n := 323) rfl rfl ?_
     have cl13_ := fun Ls (hLs : LsOk c Ls) => Jvm.LawKit.callS X11 hx (y := mn38) hown (mW hZ hw 136 rfl) (mW hZ hw 137 rfl) (mW hZ hw 138 rfl) (mW hZ hw 139 rfl) (by decide) (backOf (W := 0) (rmAT l Z a0 hw [] xw tw kw cw (0 : Int32) (1 : Int32) ((Int32.ofNat en) - (Int32.ofNat sn)) p1 (Int32.ofNat sn) 0 1 (en - sn) sn zc fm Hj6 n0 (by omega) Es8 Fv8 Fc8 As8 S4 S5 Olj6 hCS hFM hpw rfl rfl (own_ofsub hse) rfl (by omega) (by omega) (by omega) hlw (fun i hi => by rw [hcx]; exact own_gw (pre := []) hen hi)) hZ (oW hw 139 rfl) (oW hw 138 rfl) (by decide) (by decide)) (g := mkF m 323 Ls [(.int (Int32.ofNat sn)), (.int p1), (.int ((Int32.ofNat en) - (Int32.ofNat sn))), (.int (1 : Int32)), (.int (0 : Int32)), (.ref xw)]) rfl hLs (argsL := [(.ref xw), (.int (0 : Int32)), (.int (1 : Int32)), (.int ((Int32.ofNat en) - (Int32.ofNat sn))), (.int p1), (.int (Int32.ofNat sn))]) (rest := []) (lenOf pd_28 rfl) rfl (leq0 rfl) (hD at_323) (fun _ _ => ⟨rfl, e11, (by decide : 32 + 0 ≤ _), (by decide : 192 + 0 ≤ _)⟩)
     refine Wk.backS (n := 326) (rc := 0) (rs := 0) (Q := Q_rmAT Z xw tw kw cw (0 : Int32) (1 : Int32) ((Int32.ofNat en) - (Int32.ofNat sn)) p1 (Int32.ofNat sn) 0 1 (en - sn) sn zc fm Hj6 n0) (cl13_ _ (lsok hml rfl)) fun vn13 T13 L13 X13 hQ13 => ?_
     clear cl13_
     obtain ⟨rfl, M13, e13⟩ := hQ13
     have N13 := Fr.app N11 M13
     show Wk p e below _ T13 (mkF m 326 _ [(.int (1 : Int32))])
     have hc326_14 : ¬ ((1 : Int32) = (0 : Int32)) := by decide
     refine Wk.ifYes X13 hx (hD at_326) ((if0 _ _).trans (feq hc326_14).2) (by decide) (n := 331) (by decide) ?_
     refine Wk.aload X13 hx (hD at_331) (n := 333) rfl rfl rfl ?_
     refine Wk.iload X13 hx (hD at_333) (n := 335) rfl rfl ?_
     refine Wk.iconst X13 hx (hD at_335) (n := 336) rfl (z := (2 : Int32)) rfl ?_
     refine Wk.iload X13 hx (hD at_336) (n := 338) rfl rfl ?_
     refine Wk.iloadN X13 hx (hD at_338) (n := 339) rfl rfl ?_
     refine Wk.iload X13 hx (hD at_339) (n := 341) rfl rfl ?_
     have cl15_ := fun Ls (hLs : LsOk c Ls) => Jvm.LawKit.callS X13 hx (y := mn38) hown (mW hZ hw 136 rfl) (mW hZ hw 137 rfl) (mW hZ hw 138 rfl) (mW hZ hw 139 rfl) (by decide) (backOf (W := 0) (rmAT l Z a0 hw [] xw tw kw cw (0 : Int32) (2 : Int32) ((Int32.ofNat en) - (Int32.ofNat sn)) p1 (Int32.ofNat sn) 0 2 (en - sn) sn zc fm Hj6 n0 (by omega) Es8 Fv8 Fc8 As8 S4 S5 Olj6 hCS hFM hpw rfl rfl (own_ofsub hse) rfl (by omega) (by omega) (by omega) hlw (fun i hi => by rw [hcx]; exact own_gw (pre := []) hen hi)) hZ (oW hw 139 rfl) (oW hw 138 rfl) (by decide) (by decide)) (g := mkF m 341 Ls [(.int (Int32.ofNat sn)), (.int p1), (.int ((Int32.ofNat en) - (Int32.ofNat sn))), (.int (2 : Int32)), (.int (0 : Int32)), (.ref xw)]) rfl hLs (argsL := [(.ref xw), (.int (0 : Int32)), (.int (2 : Int32)), (.int ((Int32.ofNat en) - (Int32.ofNat sn))), (.int p1), (.int (Int32.ofNat sn))]) (rest := []) (lenOf pd_28 rfl) rfl (leq0 rfl) (hD at_341) (fun _ _ => ⟨rfl, e13, (by decide : 32 + 0 ≤ _), (by decide : 192 + 0 ≤ _)⟩)
     refine Wk.backS (n := 344) (rc := 0) (rs := 0) (Q := Q_rmAT Z xw tw kw cw (0 : Int32) (2 : Int32) ((Int32.ofNat en) - (Int32.ofNat sn)) p1 (Int32.ofNat sn) 0 2 (en - sn) sn zc fm Hj6 n0) (cl15_ _ (lsok hml rfl)) fun vn15 T15 L15 X15 hQ15 => ?_
     clear cl15_
     obtain ⟨rfl, M15, e15⟩ := hQ15
     have N15 := Fr.app N13 M15
     show Wk p e below _ T15 (mkF m 344 _ [(.int (1 : Int32))])
     have hc344_16 : ¬ ((1 : Int32) = (0 : Int32)) := by decide
     refine Wk.ifYes X15 hx (hD at_344) ((if0 _ _).trans (feq hc344_16).2) (by decide) (n := 349) (by decide) ?_
     refine Wk.aload X15 hx (hD at_349) (n := 351) rfl rfl rfl ?_
     refine Wk.iload X15 hx (hD at_351) (n := 353) rfl rfl ?_
     refine Wk.iconst X15 hx (hD at_353) (n := 354) rfl (z := (3 : Int32)) rfl ?_
     refine Wk.iload X15 hx (hD at_354) (n := 356) rfl rfl ?_
     refine Wk.iloadN X15 hx (hD at_356) (n := 357) rfl rfl ?_
     refine Wk.iload X15 hx (hD at_357) (n := 359) rfl rfl ?_
     have cl17_ := fun Ls (hLs : LsOk c Ls) => Jvm.LawKit.callS X15 hx (y := mn38) hown (mW hZ hw 136 rfl) (mW hZ hw 137 rfl) (mW hZ hw 138 rfl) (mW hZ hw 139 rfl) (by decide) (backOf (W := 0) (rmAT l Z a0 hw [] xw tw kw cw (0 : Int32) (3 : Int32) ((Int32.ofNat en) - (Int32.ofNat sn)) p1 (Int32.ofNat sn) 0 3 (en - sn) sn zc fm Hj6 n0 (by omega) Es8 Fv8 Fc8 As8 S4 S5 Olj6 hCS hFM hpw rfl rfl (own_ofsub hse) rfl (by omega) (by omega) (by omega) hlw (fun i hi => by rw [hcx]; exact own_gw (pre := []) hen hi)) hZ (oW hw 139 rfl) (oW hw 138 rfl) (by decide) (by decide)) (g := mkF m 359 Ls [(.int (Int32.ofNat sn)), (.int p1), (.int ((Int32.ofNat en) - (Int32.ofNat sn))), (.int (3 : Int32)), (.int (0 : Int32)), (.ref xw)]) rfl hLs (argsL := [(.ref xw), (.int (0 : Int32)), (.int (3 : Int32)), (.int ((Int32.ofNat en) - (Int32.ofNat sn))), (.int p1), (.int (Int32.ofNat sn))]) (rest := []) (lenOf pd_28 rfl) rfl (leq0 rfl) (hD at_359) (fun _ _ => ⟨rfl, e15, (by decide : 32 + 0 ≤ _), (by decide : 192 + 0 ≤ _)⟩)
     refine Wk.backS (n := 362) (rc := 0) (rs := 0) (Q := Q_rmAT Z xw tw kw cw (0 : Int32) (3 : Int32) ((Int32.ofNat en) - (Int32.ofNat sn)) p1 (Int32.ofNat sn) 0 3 (en - sn) sn zc fm Hj6 n0) (cl17_ _ (lsok hml rfl)) fun vn17 T17 L17 X17 hQ17 => ?_
     clear cl17_
     obtain ⟨rfl, M17, e17⟩ := hQ17
     have N17 := Fr.app N15 M17
     show Wk p e below _ T17 (mkF m 362 _ [(.int (1 : Int32))])
     have hc362_18 : ¬ ((1 : Int32) = (0 : Int32)) := by decide
     refine Wk.ifYes X17 hx (hD at_362) ((if0 _ _).trans (feq hc362_18).2) (by decide) (n := 367) (by decide) ?_
     refine Wk.aload X17 hx (hD at_367) (n := 369) rfl rfl rfl ?_
     refine Wk.iload X17 hx (hD at_369) (n := 371) rfl rfl ?_
     refine Wk.iload X17 hx (hD at_371) (n := 373) rfl rfl ?_
     refine Wk.iadd X17 hx (hD at_373) (n := 374) rfl ?_
     obtain ⟨cq19, kq19, qn19a, qn19b, qn19c⟩ := isOf hZ e17 Es8
     have cl19_ := fun Ls (hLs : LsOk c Ls) => X17.virtualBack hx (y := mn37) (z := mn37) hown (mW hZ hw 140 rfl) (mW hZ hw 141 rfl) (notFace_of_selects (args := #[]) (mW hZ hw 143 rfl)) (mW hZ hw 143 rfl) (mW hZ hw 142 rfl) (by decide) (backOf (W := 0) (rmCA l Z a0 hw [] xw ((0 : Int32) + ((Int32.ofNat en) - (Int32.ofNat sn))) tw kw cw (0 + (en - sn)) zc fm Hj6 n0 (by omega) Es8 Fv8 Fc8 As8 S4 S5 Olj6 hCS hFM hpw (by rw [own_ofsub hse]; exact own_ofadd 0 _) (by omega) (by omega)) hZ (oW hw 144 rfl) (oW hw 67 rfl) (by decide) (by decide)) qn19a qn19c (g := mkF m 374 Ls [(.int ((0 : Int32) + ((Int32.ofNat en) - (Int32.ofNat sn)))), (.ref xw)]) rfl hLs (Steps.refl _) (argsL := [(.int ((0 : Int32) + ((Int32.ofNat en) - (Int32.ofNat sn))))]) (rest := []) (lenOf pd_26 rfl) rfl (leq0 rfl) (hD at_374) (fun _ _ => ⟨rfl, e17, (by decide : 32 + 0 ≤ _), (by decide : 192 + 0 ≤ _)⟩)
     refine Wk.back (n := 377) (rc := 0) (rs := 0) (Q := Q_rmCA Z xw ((0 : Int32) + ((Int32.ofNat en) - (Int32.ofNat sn))) tw kw cw (0 + (en - sn)) zc fm Hj6 n0) (cl19_ _ (lsok hml rfl)) fun vn19 T19 L19 X19 hQ19 => ?_
     clear cl19_
     obtain ⟨rfl, M19, e19⟩ := hQ19
     have N19 := Fr.app N17 M19
     show Wk p e below _ T19 (mkF m 377 _ [(.int (cw.getD (0 + (en - sn)) 0))])
     refine Wk.iload X19 hx (hD at_377) (n := 379) rfl rfl ?_
     have hc379_20 : (cw.getD (0 + (en - sn)) 0) = c2 := by rw [hcx]; exact own_gl (pre := []) hse hen
     refine Wk.icmpNo X19 hx (hD at_379) (n := 382) rfl (teq hc379_20).2 ?_
     refine Wk.iconst X19 hx (hD at_382) (n := 383) rfl (z := (1 : Int32)) rfl ?_
     refine Wk.goto X19 hx (hD at_383) (by decide) (n := 387) (by decide) ?_
     exact Wk.leave X19 (v := some (.int (1 : Int32))) (fun h => by rw [Bd.returns] at h; cases h) hlk e19 ⟨rfl, N19, Kj6⟩ (by decide) (by decide) (fun fs hr => retNz X19 hx (t := .boolean) rfl Bd.returns (by simp) (hD at_387) hr)
    ·
     have hlw : cw.length = 1 + (en - sn) + 1 := by rw [hcx]; simp only [List.length_append, List.length_cons, List.length_nil, List.length_take, List.length_drop, own_l4]; omega
     refine Wk.aload Xj6 hx (hD at_230) (n := 232) rfl rfl rfl ?_
     obtain ⟨cq21, kq21, qn21a, qn21b, qn21c⟩ := isOf hZ ej6 Es8
     have cl21_ := fun Ls (hLs : LsOk c Ls) => Xj6.virtualBack hx (y := mn32) (z := mn32) hown (mW hZ hw 126 rfl) (mW hZ hw 127 rfl) (notFace_of_selects (args := #[]) (mW hZ hw 129 rfl)) (mW hZ hw 129 rfl) (mW hZ hw 128 rfl) (by decide) (backOf (W := 0) (rmLe l Z a0 hw [] xw tw kw cw zc Hj6 n0 (by omega) Es8 Fv8 Fc8 As8 S4 Olj6 hCS) hZ (oW hw 130 rfl) (oW hw 67 rfl) (by decide) (by decide)) qn21a qn21c (g := mkF m 232 Ls [(.ref xw)]) rfl hLs (Steps.refl _) (argsL := []) (rest := []) (lenOf pd_27 rfl) rfl (leq0 rfl) (hD at_232) (fun _ _ => ⟨rfl, ej6, (by decide : 32 + 0 ≤ _), (by decide : 192 + 0 ≤ _)⟩)
     refine Wk.back (n := 235) (rc := 0) (rs := 0) (Q := Q_rmLe Z xw tw kw cw zc Hj6 n0) (cl21_ _ (lsok hml rfl)) fun vn21 T21 L21 X21 hQ21 => ?_
     clear cl21_
     obtain ⟨rfl, M21, e21⟩ := hQ21
     have N21 := Fr.app Nj6 M21
     show Wk p e below _ T21 (mkF m 235 _ [(.int (Int32.ofNat cw.length))])
     refine Wk.iload X21 hx (hD at_235) (n := 237) rfl rfl ?_
     refine Wk.iload X21 hx (hD at_237) (n := 239) rfl rfl ?_
     refine Wk.iadd X21 hx (hD at_239) (n := 240) rfl ?_
     refine Wk.iload X21 hx (hD at_240) (n := 242) rfl rfl ?_
     refine Wk.iadd X21 hx (hD at_242) (n := 243) rfl ?_
     refine Wk.iconst X21 hx (hD at_243) (n := 244) rfl (z := (1 : Int32)) rfl ?_
     refine Wk.iadd X21 hx (hD at_244) (n := 245) rfl ?_
     have hc245_22 : (Int32.ofNat cw.length) = (((1 : Int32) + ((Int32.ofNat en) - (Int32.ofNat sn))) + (1 : Int32)) := by rw [hlw, own_ofsub hse]; exact own_sum 1 (en - sn)
     refine Wk.icmpYes X21 hx (hD at_245) (teq hc245_22).1 (by decide) (n := 250) (by decide) ?_
     refine Wk.iload X21 hx (hD at_250) (n := 252) rfl rfl ?_
     refine Wk.iconst X21 hx (hD at_252) (n := 253) rfl (z := (1 : Int32)) rfl ?_
     have hc253_23 : ¬ ((0 : Int32) = (1 : Int32)) := by decide
     refine Wk.icmpYes X21 hx (hD at_253) (feq hc253_23).2 (by decide) (n := 269) (by decide) ?_
     refine Wk.iload X21 hx (hD at_269) (n := 271) rfl rfl ?_
     have hc271_24 : ¬ ((1 : Int32) = (0 : Int32)) := by decide
     refine Wk.ifNo X21 hx (hD at_271) (n := 274) rfl ((if0 _ _).trans (feq hc271_24).1) ?_
     refine Wk.aload X21 hx (hD at_274) (n := 276) rfl rfl rfl ?_
     refine Wk.iload X21 hx (hD at_276) (n := 278) rfl rfl ?_
     obtain ⟨cq25, kq25, qn25a, qn25b, qn25c⟩ := isOf hZ e21 Es8
     have cl25_ := fun Ls (hLs : LsOk c Ls) => X21.virtualBack hx (y := mn37) (z := mn37) hown (mW hZ hw 140 rfl) (mW hZ hw 141 rfl) (notFace_of_selects (args := #[]) (mW hZ hw 143 rfl)) (mW hZ hw 143 rfl) (mW hZ hw 142 rfl) (by decide) (backOf (W := 0) (rmCA l Z a0 hw [] xw (0 : Int32) tw kw cw 0 zc fm Hj6 n0 (by omega) Es8 Fv8 Fc8 As8 S4 S5 Olj6 hCS hFM hpw rfl (by omega) (by omega)) hZ (oW hw 144 rfl) (oW hw 67 rfl) (by decide) (by decide)) qn25a qn25c (g := mkF m 278 Ls [(.int (0 : Int32)), (.ref xw)]) rfl hLs (Steps.refl _) (argsL := [(.int (0 : Int32))]) (rest := []) (lenOf pd_26 rfl) rfl (leq0 rfl) (hD at_278) (fun _ _ => ⟨rfl, e21, (by decide : 32 + 0 ≤ _), (by decide : 192 + 0 ≤ _)⟩)
     refine Wk.back (n := 281) (rc := 0) (rs := 0) (Q := Q_rmCA Z xw (0 : Int32) tw kw cw 0 zc fm Hj6 n0) (cl25_ _ (lsok hml rfl)) fun vn25 T25 L25 X25 hQ25 => ?_
     clear cl25_
     obtain ⟨rfl, M25, e25⟩ := hQ25
     have N25 := Fr.app N21 M25
     show Wk p e below _ T25 (mkF m 281 _ [(.int (cw.getD 0 0))])
     refine Wk.iload X25 hx (hD at_281) (n := 283) rfl rfl ?_
     have hc283_26 : (cw.getD 0 0) = c1 := by rw [hcx]; rfl
     refine Wk.icmpYes X25 hx (hD at_283) (teq hc283_26).1 (by decide) (n := 288) (by decide) ?_
     refine Wk.iload X25 hx (hD at_288) (n := 290) rfl rfl ?_
     refine Wk.iload X25 hx (hD at_290) (n := 292) rfl rfl ?_
     refine Wk.iadd X25 hx (hD at_292) (n := 293) rfl ?_
     refine Wk.istore X25 hx (hD at_293) (n := 295) rfl (L' := #[.val (.int p1), .val (.int p2), .val (.int p3), .val (.int p4), .val (.int p5), .val (.int p6), .val (.int z6), .val (.int (1 : Int32)), .val (.int z8), .val (.ref b1), .val (.int (Int32.ofNat sn)), .val (.int (Int32.ofNat en)), .val (.int c1), .val (.int c2), .val (.ref ab), .val (.ref xw), .val (.int (0 : Int32)), .val (.int (1 : Int32)), .val (.int ((Int32.ofNat en) - (Int32.ofNat sn))), .val (.int (1 : Int32))]) rfl ?_
     refine Wk.aload X25 hx (hD at_295) (n := 297) rfl rfl rfl ?_
     refine Wk.iload X25 hx (hD at_297) (n := 299) rfl rfl ?_
     refine Wk.iconst X25 hx (hD at_299) (n := 300) rfl (z := (0 : Int32)) rfl ?_
     refine Wk.iload X25 hx (hD at_300) (n := 302) rfl rfl ?_
     refine Wk.iloadN X25 hx (hD at_302) (n := 303) rfl rfl ?_
     refine Wk.iload X25 hx (hD at_303) (n := 305) rfl rfl ?_
     have cl27_ := fun Ls (hLs : LsOk c Ls) => Jvm.LawKit.callS X25 hx (y := mn38) hown (mW hZ hw 136 rfl) (mW hZ hw 137 rfl) (mW hZ hw 138 rfl) (mW hZ hw 139 rfl) (by decide) (backOf (W := 0) (rmAT l Z a0 hw [] xw tw kw cw (1 : Int32) (0 : Int32) ((Int32.ofNat en) - (Int32.ofNat sn)) p1 (Int32.ofNat sn) 1 0 (en - sn) sn zc fm Hj6 n0 (by omega) Es8 Fv8 Fc8 As8 S4 S5 Olj6 hCS hFM hpw rfl rfl (own_ofsub hse) rfl (by omega) (by omega) (by omega) hlw (fun i hi => by rw [hcx]; exact own_gw (pre := [c1]) hen hi)) hZ (oW hw 139 rfl) (oW hw 138 rfl) (by decide) (by decide)) (g := mkF m 305 Ls [(.int (Int32.ofNat sn)), (.int p1), (.int ((Int32.ofNat en) - (Int32.ofNat sn))), (.int (0 : Int32)), (.int (1 : Int32)), (.ref xw)]) rfl hLs (argsL := [(.ref xw), (.int (1 : Int32)), (.int (0 : Int32)), (.int ((Int32.ofNat en) - (Int32.ofNat sn))), (.int p1), (.int (Int32.ofNat sn))]) (rest := []) (lenOf pd_28 rfl) rfl (leq0 rfl) (hD at_305) (fun _ _ => ⟨rfl, e25, (by decide : 32 + 0 ≤ _), (by decide : 192 + 0 ≤ _)⟩)
     refine Wk.backS (n := 308) (rc := 0) (rs := 0) (Q := Q_rmAT Z xw tw kw cw (1 : Int32) (0 : Int32) ((Int32.ofNat en) - (Int32.ofNat sn)) p1 (Int32.ofNat sn) 1 0 (en - sn) sn zc fm Hj6 n0) (cl27_ _ (lsok hml rfl)) fun vn27 T27 L27 X27 hQ27 => ?_
     clear cl27_
     obtain ⟨rfl, M27, e27⟩ := hQ27
     have N27 := Fr.app N25 M27
     show Wk p e below _ T27 (mkF m 308 _ [(.int (1 : Int32))])
     have hc308_28 : ¬ ((1 : Int32) = (0 : Int32)) := by decide
     refine Wk.ifYes X27 hx (hD at_308) ((if0 _ _).trans (feq hc308_28).2) (by decide) (n := 313) (by decide) ?_
     refine Wk.aload X27 hx (hD at_313) (n := 315) rfl rfl rfl ?_
     refine Wk.iload X27 hx (hD at_315) (n := 317) rfl rfl ?_
     refine Wk.iconst X27 hx (hD at_317) (n := 318) rfl (z := (1 : Int32)) rfl ?_
     refine Wk.iload X27 hx (hD at_318) (n := 320) rfl rfl ?_
     refine Wk.iloadN X27 hx (hD at_320) (n := 321) rfl rfl ?_
     refine Wk.iload X27 hx (hD at_321) (n := 323) rfl rfl ?_
     have cl29_ := fun Ls (hLs : LsOk c Ls) => Jvm.LawKit.callS X27 hx (y := mn38) hown (mW hZ hw 136 rfl) (mW hZ hw 137 rfl) (mW hZ hw 138 rfl) (mW hZ hw 139 rfl) (by decide) (backOf (W := 0) (rmAT l Z a0 hw [] xw tw kw cw (1 : Int32) (1 : Int32) ((Int32.ofNat en) - (Int32.ofNat sn)) p1 (Int32.ofNat sn) 1 1 (en - sn) sn zc fm Hj6 n0 (by omega) Es8 Fv8 Fc8 As8 S4 S5 Olj6 hCS hFM hpw rfl rfl (own_ofsub hse) rfl (by omega) (by omega) (by omega) hlw (fun i hi => by rw [hcx]; exact own_gw (pre := [c1]) hen hi)) hZ (oW hw 139 rfl) (oW hw 138 rfl) (by decide) (by decide)) (g := mkF m 323 Ls [(.int (Int32.ofNat sn)), (.int p1), (.int ((Int32.ofNat en) - (Int32.ofNat sn))), (.int (1 : Int32)), (.int (1 : Int32)), (.ref xw)]) rfl hLs (argsL := [(.ref xw), (.int (1 : Int32)), (.int (1 : Int32)), (.int ((Int32.ofNat en) - (Int32.ofNat sn))), (.int p1), (.int (Int32.ofNat sn))]) (rest := []) (lenOf pd_28 rfl) rfl (leq0 rfl) (hD at_323) (fun _ _ => ⟨rfl, e27, (by decide : 32 + 0 ≤ _), (by decide : 192 + 0 ≤ _)⟩)
     refine Wk.backS (n := 326) (rc := 0) (rs := 0) (Q := Q_rmAT Z xw tw kw cw (1 : Int32) (1 : Int32) ((Int32.ofNat en) - (Int32.ofNat sn)) p1 (Int32.ofNat sn) 1 1 (en - sn) sn zc fm Hj6 n0) (cl29_ _ (lsok hml rfl)) fun vn29 T29 L29 X29 hQ29 => ?_
     clear cl29_
     obtain ⟨rfl, M29, e29⟩ := hQ29
     have N29 := Fr.app N27 M29
     show Wk p e below _ T29 (mkF m 326 _ [(.int (1 : Int32))])
     have hc326_30 : ¬ ((1 : Int32) = (0 : Int32)) := by decide
     refine Wk.ifYes X29 hx (hD at_326) ((if0 _ _).trans (feq hc326_30).2) (by decide) (n := 331) (by decide) ?_
     refine Wk.aload X29 hx (hD at_331) (n := 333) rfl rfl rfl ?_
     refine Wk.iload X29 hx (hD at_333) (n := 335) rfl rfl ?_
     refine Wk.iconst X29 hx (hD at_335) (n := 336) rfl (z := (2 : Int32)) rfl ?_
     refine Wk.iload X29 hx (hD at_336) (n := 338) rfl rfl ?_
     refine Wk.iloadN X29 hx (hD at_338) (n := 339) rfl rfl ?_
     refine Wk.iload X29 hx (hD at_339) (n := 341) rfl rfl ?_
     have cl31_ := fun Ls (hLs : LsOk c Ls) => Jvm.LawKit.callS X29 hx (y := mn38) hown (mW hZ hw 136 rfl) (mW hZ hw 137 rfl) (mW hZ hw 138 rfl) (mW hZ hw 139 rfl) (by decide) (backOf (W := 0) (rmAT l Z a0 hw [] xw tw kw cw (1 : Int32) (2 : Int32) ((Int32.ofNat en) - (Int32.ofNat sn)) p1 (Int32.ofNat sn) 1 2 (en - sn) sn zc fm Hj6 n0 (by omega) Es8 Fv8 Fc8 As8 S4 S5 Olj6 hCS hFM hpw rfl rfl (own_ofsub hse) rfl (by omega) (by omega) (by omega) hlw (fun i hi => by rw [hcx]; exact own_gw (pre := [c1]) hen hi)) hZ (oW hw 139 rfl) (oW hw 138 rfl) (by decide) (by decide)) (g := mkF m 341 Ls [(.int (Int32.ofNat sn)), (.int p1), (.int ((Int32.ofNat en) - (Int32.ofNat sn))), (.int (2 : Int32)), (.int (1 : Int32)), (.ref xw)]) rfl hLs (argsL := [(.ref xw), (.int (1 : Int32)), (.int (2 : Int32)), (.int ((Int32.ofNat en) - (Int32.ofNat sn))), (.int p1), (.int (Int32.ofNat sn))]) (rest := []) (lenOf pd_28 rfl) rfl (leq0 rfl) (hD at_341) (fun _ _ => ⟨rfl, e29, (by decide : 32 + 0 ≤ _), (by decide : 192 + 0 ≤ _)⟩)
     refine Wk.backS (n := 344) (rc := 0) (rs := 0) (Q := Q_rmAT Z xw tw kw cw (1 : Int32) (2 : Int32) ((Int32.ofNat en) - (Int32.ofNat sn)) p1 (Int32.ofNat sn) 1 2 (en - sn) sn zc fm Hj6 n0) (cl31_ _ (lsok hml rfl)) fun vn31 T31 L31 X31 hQ31 => ?_
     clear cl31_
     obtain ⟨rfl, M31, e31⟩ := hQ31
     have N31 := Fr.app N29 M31
     show Wk p e below _ T31 (mkF m 344 _ [(.int (1 : Int32))])
     have hc344_32 : ¬ ((1 : Int32) = (0 : Int32)) := by decide
     refine Wk.ifYes X31 hx (hD at_344) ((if0 _ _).trans (feq hc344_32).2) (by decide) (n := 349) (by decide) ?_
     refine Wk.aload X31 hx (hD at_349) (n := 351) rfl rfl rfl ?_
     refine Wk.iload X31 hx (hD at_351) (n := 353) rfl rfl ?_
     refine Wk.iconst X31 hx (hD at_353) (n := 354) rfl (z := (3 : Int32)) rfl ?_
     refine Wk.iload X31 hx (hD at_354) (n := 356) rfl rfl ?_
     refine Wk.iloadN X31 hx (hD at_356) (n := 357) rfl rfl ?_
     refine Wk.iload X31 hx (hD at_357) (n := 359) rfl rfl ?_
     have cl33_ := fun Ls (hLs : LsOk c Ls) => Jvm.LawKit.callS X31 hx (y := mn38) hown (mW hZ hw 136 rfl) (mW hZ hw 137 rfl) (mW hZ hw 138 rfl) (mW hZ hw 139 rfl) (by decide) (backOf (W := 0) (rmAT l Z a0 hw [] xw tw kw cw (1 : Int32) (3 : Int32) ((Int32.ofNat en) - (Int32.ofNat sn)) p1 (Int32.ofNat sn) 1 3 (en - sn) sn zc fm Hj6 n0 (by omega) Es8 Fv8 Fc8 As8 S4 S5 Olj6 hCS hFM hpw rfl rfl (own_ofsub hse) rfl (by omega) (by omega) (by omega) hlw (fun i hi => by rw [hcx]; exact own_gw (pre := [c1]) hen hi)) hZ (oW hw 139 rfl) (oW hw 138 rfl) (by decide) (by decide)) (g := mkF m 359 Ls [(.int (Int32.ofNat sn)), (.int p1), (.int ((Int32.ofNat en) - (Int32.ofNat sn))), (.int (3 : Int32)), (.int (1 : Int32)), (.ref xw)]) rfl hLs (argsL := [(.ref xw), (.int (1 : Int32)), (.int (3 : Int32)), (.int ((Int32.ofNat en) - (Int32.ofNat sn))), (.int p1), (.int (Int32.ofNat sn))]) (rest := []) (lenOf pd_28 rfl) rfl (leq0 rfl) (hD at_359) (fun _ _ => ⟨rfl, e31, (by decide : 32 + 0 ≤ _), (by decide : 192 + 0 ≤ _)⟩)
     refine Wk.backS (n := 362) (rc := 0) (rs := 0) (Q := Q_rmAT Z xw tw kw cw (1 : Int32) (3 : Int32) ((Int32.ofNat en) - (Int32.ofNat sn)) p1 (Int32.ofNat sn) 1 3 (en - sn) sn zc fm Hj6 n0) (cl33_ _ (lsok hml rfl)) fun vn33 T33 L33 X33 hQ33 => ?_
     clear cl33_
     obtain ⟨rfl, M33, e33⟩ := hQ33
     have N33 := Fr.app N31 M33
     show Wk p e below _ T33 (mkF m 362 _ [(.int (1 : Int32))])
     have hc362_34 : ¬ ((1 : Int32) = (0 : Int32)) := by decide
     refine Wk.ifYes X33 hx (hD at_362) ((if0 _ _).trans (feq hc362_34).2) (by decide) (n := 367) (by decide) ?_
     refine Wk.aload X33 hx (hD at_367) (n := 369) rfl rfl rfl ?_
     refine Wk.iload X33 hx (hD at_369) (n := 371) rfl rfl ?_
     refine Wk.iload X33 hx (hD at_371) (n := 373) rfl rfl ?_
     refine Wk.iadd X33 hx (hD at_373) (n := 374) rfl ?_
     obtain ⟨cq35, kq35, qn35a, qn35b, qn35c⟩ := isOf hZ e33 Es8
     have cl35_ := fun Ls (hLs : LsOk c Ls) => X33.virtualBack hx (y := mn37) (z := mn37) hown (mW hZ hw 140 rfl) (mW hZ hw 141 rfl) (notFace_of_selects (args := #[]) (mW hZ hw 143 rfl)) (mW hZ hw 143 rfl) (mW hZ hw 142 rfl) (by decide) (backOf (W := 0) (rmCA l Z a0 hw [] xw ((1 : Int32) + ((Int32.ofNat en) - (Int32.ofNat sn))) tw kw cw (1 + (en - sn)) zc fm Hj6 n0 (by omega) Es8 Fv8 Fc8 As8 S4 S5 Olj6 hCS hFM hpw (by rw [own_ofsub hse]; exact own_ofadd 1 _) (by omega) (by omega)) hZ (oW hw 144 rfl) (oW hw 67 rfl) (by decide) (by decide)) qn35a qn35c (g := mkF m 374 Ls [(.int ((1 : Int32) + ((Int32.ofNat en) - (Int32.ofNat sn)))), (.ref xw)]) rfl hLs (Steps.refl _) (argsL := [(.int ((1 : Int32) + ((Int32.ofNat en) - (Int32.ofNat sn))))]) (rest := []) (lenOf pd_26 rfl) rfl (leq0 rfl) (hD at_374) (fun _ _ => ⟨rfl, e33, (by decide : 32 + 0 ≤ _), (by decide : 192 + 0 ≤ _)⟩)
     refine Wk.back (n := 377) (rc := 0) (rs := 0) (Q := Q_rmCA Z xw ((1 : Int32) + ((Int32.ofNat en) - (Int32.ofNat sn))) tw kw cw (1 + (en - sn)) zc fm Hj6 n0) (cl35_ _ (lsok hml rfl)) fun vn35 T35 L35 X35 hQ35 => ?_
     clear cl35_
     obtain ⟨rfl, M35, e35⟩ := hQ35
     have N35 := Fr.app N33 M35
     show Wk p e below _ T35 (mkF m 377 _ [(.int (cw.getD (1 + (en - sn)) 0))])
     refine Wk.iload X35 hx (hD at_377) (n := 379) rfl rfl ?_
     have hc379_36 : (cw.getD (1 + (en - sn)) 0) = c2 := by rw [hcx]; exact own_gl (pre := [c1]) hse hen
     refine Wk.icmpNo X35 hx (hD at_379) (n := 382) rfl (teq hc379_36).2 ?_
     refine Wk.iconst X35 hx (hD at_382) (n := 383) rfl (z := (1 : Int32)) rfl ?_
     refine Wk.goto X35 hx (hD at_383) (by decide) (n := 387) (by decide) ?_
     exact Wk.leave X35 (v := some (.int (1 : Int32))) (fun h => by rw [Bd.returns] at h; cases h) hlk e35 ⟨rfl, N35, Kj6⟩ (by decide) (by decide) (fun fs hr => retNz X35 hx (t := .boolean) rfl Bd.returns (by simp) (hD at_387) hr)
    ·
     have hlw : cw.length = 1 + (en - sn) + 1 := by rw [hcx]; simp only [List.length_append, List.length_cons, List.length_nil, List.length_take, List.length_drop, own_l4]; omega
     refine Wk.aload Xj6 hx (hD at_230) (n := 232) rfl rfl rfl ?_
     obtain ⟨cq37, kq37, qn37a, qn37b, qn37c⟩ := isOf hZ ej6 Es8
     have cl37_ := fun Ls (hLs : LsOk c Ls) => Xj6.virtualBack hx (y := mn32) (z := mn32) hown (mW hZ hw 126 rfl) (mW hZ hw 127 rfl) (notFace_of_selects (args := #[]) (mW hZ hw 129 rfl)) (mW hZ hw 129 rfl) (mW hZ hw 128 rfl) (by decide) (backOf (W := 0) (rmLe l Z a0 hw [] xw tw kw cw zc Hj6 n0 (by omega) Es8 Fv8 Fc8 As8 S4 Olj6 hCS) hZ (oW hw 130 rfl) (oW hw 67 rfl) (by decide) (by decide)) qn37a qn37c (g := mkF m 232 Ls [(.ref xw)]) rfl hLs (Steps.refl _) (argsL := []) (rest := []) (lenOf pd_27 rfl) rfl (leq0 rfl) (hD at_232) (fun _ _ => ⟨rfl, ej6, (by decide : 32 + 0 ≤ _), (by decide : 192 + 0 ≤ _)⟩)
     refine Wk.back (n := 235) (rc := 0) (rs := 0) (Q := Q_rmLe Z xw tw kw cw zc Hj6 n0) (cl37_ _ (lsok hml rfl)) fun vn37 T37 L37 X37 hQ37 => ?_
     clear cl37_
     obtain ⟨rfl, M37, e37⟩ := hQ37
     have N37 := Fr.app Nj6 M37
     show Wk p e below _ T37 (mkF m 235 _ [(.int (Int32.ofNat cw.length))])
     refine Wk.iload X37 hx (hD at_235) (n := 237) rfl rfl ?_
     refine Wk.iload X37 hx (hD at_237) (n := 239) rfl rfl ?_
     refine Wk.iadd X37 hx (hD at_239) (n := 240) rfl ?_
     refine Wk.iload X37 hx (hD at_240) (n := 242) rfl rfl ?_
     refine Wk.iadd X37 hx (hD at_242) (n := 243) rfl ?_
     refine Wk.iconst X37 hx (hD at_243) (n := 244) rfl (z := (1 : Int32)) rfl ?_
     refine Wk.iadd X37 hx (hD at_244) (n := 245) rfl ?_
     have hc245_38 : (Int32.ofNat cw.length) = (((1 : Int32) + ((Int32.ofNat en) - (Int32.ofNat sn))) + (1 : Int32)) := by rw [hlw, own_ofsub hse]; exact own_sum 1 (en - sn)
     refine Wk.icmpYes X37 hx (hD at_245) (teq hc245_38).1 (by decide) (n := 250) (by decide) ?_
     refine Wk.iload X37 hx (hD at_250) (n := 252) rfl rfl ?_
     refine Wk.iconst X37 hx (hD at_252) (n := 253) rfl (z := (1 : Int32)) rfl ?_
     have hc253_39 : (1 : Int32) = (1 : Int32) := rfl
     refine Wk.icmpNo X37 hx (hD at_253) (n := 256) rfl (teq hc253_39).2 ?_
     refine Wk.aload X37 hx (hD at_256) (n := 258) rfl rfl rfl ?_
     refine Wk.iconst X37 hx (hD at_258) (n := 259) rfl (z := (0 : Int32)) rfl ?_
     obtain ⟨cq40, kq40, qn40a, qn40b, qn40c⟩ := isOf hZ e37 Es8
     have cl40_ := fun Ls (hLs : LsOk c Ls) => X37.virtualBack hx (y := mn37) (z := mn37) hown (mW hZ hw 140 rfl) (mW hZ hw 141 rfl) (notFace_of_selects (args := #[]) (mW hZ hw 143 rfl)) (mW hZ hw 143 rfl) (mW hZ hw 142 rfl) (by decide) (backOf (W := 0) (rmCA l Z a0 hw [] xw (0 : Int32) tw kw cw 0 zc fm Hj6 n0 (by omega) Es8 Fv8 Fc8 As8 S4 S5 Olj6 hCS hFM hpw rfl (by omega) (by omega)) hZ (oW hw 144 rfl) (oW hw 67 rfl) (by decide) (by decide)) qn40a qn40c (g := mkF m 259 Ls [(.int (0 : Int32)), (.ref xw)]) rfl hLs (Steps.refl _) (argsL := [(.int (0 : Int32))]) (rest := []) (lenOf pd_26 rfl) rfl (leq0 rfl) (hD at_259) (fun _ _ => ⟨rfl, e37, (by decide : 32 + 0 ≤ _), (by decide : 192 + 0 ≤ _)⟩)
     refine Wk.back (n := 262) (rc := 0) (rs := 0) (Q := Q_rmCA Z xw (0 : Int32) tw kw cw 0 zc fm Hj6 n0) (cl40_ _ (lsok hml rfl)) fun vn40 T40 L40 X40 hQ40 => ?_
     clear cl40_
     obtain ⟨rfl, M40, e40⟩ := hQ40
     have N40 := Fr.app N37 M40
     show Wk p e below _ T40 (mkF m 262 _ [(.int (cw.getD 0 0))])
     refine Wk.bipush X40 hx (hD at_262) (n := 264) rfl (z := (26 : Int32)) rfl ?_
     have hc264_41 : (cw.getD 0 0) = (26 : Int32) := by rw [hcx]; rfl
     refine Wk.icmpYes X40 hx (hD at_264) (teq hc264_41).1 (by decide) (n := 269) (by decide) ?_
     refine Wk.iload X40 hx (hD at_269) (n := 271) rfl rfl ?_
     have hc271_42 : (0 : Int32) = (0 : Int32) := rfl
     refine Wk.ifYes X40 hx (hD at_271) ((if0 _ _).trans (teq hc271_42).1) (by decide) (n := 288) (by decide) ?_
     refine Wk.iload X40 hx (hD at_288) (n := 290) rfl rfl ?_
     refine Wk.iload X40 hx (hD at_290) (n := 292) rfl rfl ?_
     refine Wk.iadd X40 hx (hD at_292) (n := 293) rfl ?_
     refine Wk.istore X40 hx (hD at_293) (n := 295) rfl (L' := #[.val (.int p1), .val (.int p2), .val (.int p3), .val (.int p4), .val (.int p5), .val (.int p6), .val (.int z6), .val (.int (0 : Int32)), .val (.int z8), .val (.ref b1), .val (.int (Int32.ofNat sn)), .val (.int (Int32.ofNat en)), .val (.int c1), .val (.int c2), .val (.ref ab), .val (.ref xw), .val (.int (1 : Int32)), .val (.int (0 : Int32)), .val (.int ((Int32.ofNat en) - (Int32.ofNat sn))), .val (.int (1 : Int32))]) rfl ?_
     refine Wk.aload X40 hx (hD at_295) (n := 297) rfl rfl rfl ?_
     refine Wk.iload X40 hx (hD at_297) (n := 299) rfl rfl ?_
     refine Wk.iconst X40 hx (hD at_299) (n := 300) rfl (z := (0 : Int32)) rfl ?_
     refine Wk.iload X40 hx (hD at_300) (n := 302) rfl rfl ?_
     refine Wk.iloadN X40 hx (hD at_302) (n := 303) rfl rfl ?_
     refine Wk.iload X40 hx (hD at_303) (n := 305) rfl rfl ?_
     have cl43_ := fun Ls (hLs : LsOk c Ls) => Jvm.LawKit.callS X40 hx (y := mn38) hown (mW hZ hw 136 rfl) (mW hZ hw 137 rfl) (mW hZ hw 138 rfl) (mW hZ hw 139 rfl) (by decide) (backOf (W := 0) (rmAT l Z a0 hw [] xw tw kw cw (1 : Int32) (0 : Int32) ((Int32.ofNat en) - (Int32.ofNat sn)) p1 (Int32.ofNat sn) 1 0 (en - sn) sn zc fm Hj6 n0 (by omega) Es8 Fv8 Fc8 As8 S4 S5 Olj6 hCS hFM hpw rfl rfl (own_ofsub hse) rfl (by omega) (by omega) (by omega) hlw (fun i hi => by rw [hcx]; exact own_gw (pre := [26]) hen hi)) hZ (oW hw 139 rfl) (oW hw 138 rfl) (by decide) (by decide)) (g := mkF m 305 Ls [(.int (Int32.ofNat sn)), (.int p1), (.int ((Int32.ofNat en) - (Int32.ofNat sn))), (.int (0 : Int32)), (.int (1 : Int32)), (.ref xw)]) rfl hLs (argsL := [(.ref xw), (.int (1 : Int32)), (.int (0 : Int32)), (.int ((Int32.ofNat en) - (Int32.ofNat sn))), (.int p1), (.int (Int32.ofNat sn))]) (rest := []) (lenOf pd_28 rfl) rfl (leq0 rfl) (hD at_305) (fun _ _ => ⟨rfl, e40, (by decide : 32 + 0 ≤ _), (by decide : 192 + 0 ≤ _)⟩)
     refine Wk.backS (n := 308) (rc := 0) (rs := 0) (Q := Q_rmAT Z xw tw kw cw (1 : Int32) (0 : Int32) ((Int32.ofNat en) - (Int32.ofNat sn)) p1 (Int32.ofNat sn) 1 0 (en - sn) sn zc fm Hj6 n0) (cl43_ _ (lsok hml rfl)) fun vn43 T43 L43 X43 hQ43 => ?_
     clear cl43_
     obtain ⟨rfl, M43, e43⟩ := hQ43
     have N43 := Fr.app N40 M43
     show Wk p e below _ T43 (mkF m 308 _ [(.int (1 : Int32))])
     have hc308_44 : ¬ ((1 : Int32) = (0 : Int32)) := by decide
     refine Wk.ifYes X43 hx (hD at_308) ((if0 _ _).trans (feq hc308_44).2) (by decide) (n := 313) (by decide) ?_
     refine Wk.aload X43 hx (hD at_313) (n := 315) rfl rfl rfl ?_
     refine Wk.iload X43 hx (hD at_315) (n := 317) rfl rfl ?_
     refine Wk.iconst X43 hx (hD at_317) (n := 318) rfl (z := (1 : Int32)) rfl ?_
     refine Wk.iload X43 hx (hD at_318) (n := 320) rfl rfl ?_
     refine Wk.iloadN X43 hx (hD at_320) (n := 321) rfl rfl ?_
     refine Wk.iload X43 hx (hD at_321) (n := 323) rfl rfl ?_
     have cl45_ := fun Ls (hLs : LsOk c Ls) => Jvm.LawKit.callS X43 hx (y := mn38) hown (mW hZ hw 136 rfl) (mW hZ hw 137 rfl) (mW hZ hw 138 rfl) (mW hZ hw 139 rfl) (by decide) (backOf (W := 0) (rmAT l Z a0 hw [] xw tw kw cw (1 : Int32) (1 : Int32) ((Int32.ofNat en) - (Int32.ofNat sn)) p1 (Int32.ofNat sn) 1 1 (en - sn) sn zc fm Hj6 n0 (by omega) Es8 Fv8 Fc8 As8 S4 S5 Olj6 hCS hFM hpw rfl rfl (own_ofsub hse) rfl (by omega) (by omega) (by omega) hlw (fun i hi => by rw [hcx]; exact own_gw (pre := [26]) hen hi)) hZ (oW hw 139 rfl) (oW hw 138 rfl) (by decide) (by decide)) (g := mkF m 323 Ls [(.int (Int32.ofNat sn)), (.int p1), (.int ((Int32.ofNat en) - (Int32.ofNat sn))), (.int (1 : Int32)), (.int (1 : Int32)), (.ref xw)]) rfl hLs (argsL := [(.ref xw), (.int (1 : Int32)), (.int (1 : Int32)), (.int ((Int32.ofNat en) - (Int32.ofNat sn))), (.int p1), (.int (Int32.ofNat sn))]) (rest := []) (lenOf pd_28 rfl) rfl (leq0 rfl) (hD at_323) (fun _ _ => ⟨rfl, e43, (by decide : 32 + 0 ≤ _), (by decide : 192 + 0 ≤ _)⟩)
     refine Wk.backS (n := 326) (rc := 0) (rs := 0) (Q := Q_rmAT Z xw tw kw cw (1 : Int32) (1 : Int32) ((Int32.ofNat en) - (Int32.ofNat sn)) p1 (Int32.ofNat sn) 1 1 (en - sn) sn zc fm Hj6 n0) (cl45_ _ (lsok hml rfl)) fun vn45 T45 L45 X45 hQ45 => ?_
     clear cl45_
     obtain ⟨rfl, M45, e45⟩ := hQ45
     have N45 := Fr.app N43 M45
     show Wk p e below _ T45 (mkF m 326 _ [(.int (1 : Int32))])
     have hc326_46 : ¬ ((1 : Int32) = (0 : Int32)) := by decide
     refine Wk.ifYes X45 hx (hD at_326) ((if0 _ _).trans (feq hc326_46).2) (by decide) (n := 331) (by decide) ?_
     refine Wk.aload X45 hx (hD at_331) (n := 333) rfl rfl rfl ?_
     refine Wk.iload X45 hx (hD at_333) (n := 335) rfl rfl ?_
     refine Wk.iconst X45 hx (hD at_335) (n := 336) rfl (z := (2 : Int32)) rfl ?_
     refine Wk.iload X45 hx (hD at_336) (n := 338) rfl rfl ?_
     refine Wk.iloadN X45 hx (hD at_338) (n := 339) rfl rfl ?_
     refine Wk.iload X45 hx (hD at_339) (n := 341) rfl rfl ?_
     have cl47_ := fun Ls (hLs : LsOk c Ls) => Jvm.LawKit.callS X45 hx (y := mn38) hown (mW hZ hw 136 rfl) (mW hZ hw 137 rfl) (mW hZ hw 138 rfl) (mW hZ hw 139 rfl) (by decide) (backOf (W := 0) (rmAT l Z a0 hw [] xw tw kw cw (1 : Int32) (2 : Int32) ((Int32.ofNat en) - (Int32.ofNat sn)) p1 (Int32.ofNat sn) 1 2 (en - sn) sn zc fm Hj6 n0 (by omega) Es8 Fv8 Fc8 As8 S4 S5 Olj6 hCS hFM hpw rfl rfl (own_ofsub hse) rfl (by omega) (by omega) (by omega) hlw (fun i hi => by rw [hcx]; exact own_gw (pre := [26]) hen hi)) hZ (oW hw 139 rfl) (oW hw 138 rfl) (by decide) (by decide)) (g := mkF m 341 Ls [(.int (Int32.ofNat sn)), (.int p1), (.int ((Int32.ofNat en) - (Int32.ofNat sn))), (.int (2 : Int32)), (.int (1 : Int32)), (.ref xw)]) rfl hLs (argsL := [(.ref xw), (.int (1 : Int32)), (.int (2 : Int32)), (.int ((Int32.ofNat en) - (Int32.ofNat sn))), (.int p1), (.int (Int32.ofNat sn))]) (rest := []) (lenOf pd_28 rfl) rfl (leq0 rfl) (hD at_341) (fun _ _ => ⟨rfl, e45, (by decide : 32 + 0 ≤ _), (by decide : 192 + 0 ≤ _)⟩)
     refine Wk.backS (n := 344) (rc := 0) (rs := 0) (Q := Q_rmAT Z xw tw kw cw (1 : Int32) (2 : Int32) ((Int32.ofNat en) - (Int32.ofNat sn)) p1 (Int32.ofNat sn) 1 2 (en - sn) sn zc fm Hj6 n0) (cl47_ _ (lsok hml rfl)) fun vn47 T47 L47 X47 hQ47 => ?_
     clear cl47_
     obtain ⟨rfl, M47, e47⟩ := hQ47
     have N47 := Fr.app N45 M47
     show Wk p e below _ T47 (mkF m 344 _ [(.int (1 : Int32))])
     have hc344_48 : ¬ ((1 : Int32) = (0 : Int32)) := by decide
     refine Wk.ifYes X47 hx (hD at_344) ((if0 _ _).trans (feq hc344_48).2) (by decide) (n := 349) (by decide) ?_
     refine Wk.aload X47 hx (hD at_349) (n := 351) rfl rfl rfl ?_
     refine Wk.iload X47 hx (hD at_351) (n := 353) rfl rfl ?_
     refine Wk.iconst X47 hx (hD at_353) (n := 354) rfl (z := (3 : Int32)) rfl ?_
     refine Wk.iload X47 hx (hD at_354) (n := 356) rfl rfl ?_
     refine Wk.iloadN X47 hx (hD at_356) (n := 357) rfl rfl ?_
     refine Wk.iload X47 hx (hD at_357) (n := 359) rfl rfl ?_
     have cl49_ := fun Ls (hLs : LsOk c Ls) => Jvm.LawKit.callS X47 hx (y := mn38) hown (mW hZ hw 136 rfl) (mW hZ hw 137 rfl) (mW hZ hw 138 rfl) (mW hZ hw 139 rfl) (by decide) (backOf (W := 0) (rmAT l Z a0 hw [] xw tw kw cw (1 : Int32) (3 : Int32) ((Int32.ofNat en) - (Int32.ofNat sn)) p1 (Int32.ofNat sn) 1 3 (en - sn) sn zc fm Hj6 n0 (by omega) Es8 Fv8 Fc8 As8 S4 S5 Olj6 hCS hFM hpw rfl rfl (own_ofsub hse) rfl (by omega) (by omega) (by omega) hlw (fun i hi => by rw [hcx]; exact own_gw (pre := [26]) hen hi)) hZ (oW hw 139 rfl) (oW hw 138 rfl) (by decide) (by decide)) (g := mkF m 359 Ls [(.int (Int32.ofNat sn)), (.int p1), (.int ((Int32.ofNat en) - (Int32.ofNat sn))), (.int (3 : Int32)), (.int (1 : Int32)), (.ref xw)]) rfl hLs (argsL := [(.ref xw), (.int (1 : Int32)), (.int (3 : Int32)), (.int ((Int32.ofNat en) - (Int32.ofNat sn))), (.int p1), (.int (Int32.ofNat sn))]) (rest := []) (lenOf pd_28 rfl) rfl (leq0 rfl) (hD at_359) (fun _ _ => ⟨rfl, e47, (by decide : 32 + 0 ≤ _), (by decide : 192 + 0 ≤ _)⟩)
     refine Wk.backS (n := 362) (rc := 0) (rs := 0) (Q := Q_rmAT Z xw tw kw cw (1 : Int32) (3 : Int32) ((Int32.ofNat en) - (Int32.ofNat sn)) p1 (Int32.ofNat sn) 1 3 (en - sn) sn zc fm Hj6 n0) (cl49_ _ (lsok hml rfl)) fun vn49 T49 L49 X49 hQ49 => ?_
     clear cl49_
     obtain ⟨rfl, M49, e49⟩ := hQ49
     have N49 := Fr.app N47 M49
     show Wk p e below _ T49 (mkF m 362 _ [(.int (1 : Int32))])
     have hc362_50 : ¬ ((1 : Int32) = (0 : Int32)) := by decide
     refine Wk.ifYes X49 hx (hD at_362) ((if0 _ _).trans (feq hc362_50).2) (by decide) (n := 367) (by decide) ?_
     refine Wk.aload X49 hx (hD at_367) (n := 369) rfl rfl rfl ?_
     refine Wk.iload X49 hx (hD at_369) (n := 371) rfl rfl ?_
     refine Wk.iload X49 hx (hD at_371) (n := 373) rfl rfl ?_
     refine Wk.iadd X49 hx (hD at_373) (n := 374) rfl ?_
     obtain ⟨cq51, kq51, qn51a, qn51b, qn51c⟩ := isOf hZ e49 Es8
     have cl51_ := fun Ls (hLs : LsOk c Ls) => X49.virtualBack hx (y := mn37) (z := mn37) hown (mW hZ hw 140 rfl) (mW hZ hw 141 rfl) (notFace_of_selects (args := #[]) (mW hZ hw 143 rfl)) (mW hZ hw 143 rfl) (mW hZ hw 142 rfl) (by decide) (backOf (W := 0) (rmCA l Z a0 hw [] xw ((1 : Int32) + ((Int32.ofNat en) - (Int32.ofNat sn))) tw kw cw (1 + (en - sn)) zc fm Hj6 n0 (by omega) Es8 Fv8 Fc8 As8 S4 S5 Olj6 hCS hFM hpw (by rw [own_ofsub hse]; exact own_ofadd 1 _) (by omega) (by omega)) hZ (oW hw 144 rfl) (oW hw 67 rfl) (by decide) (by decide)) qn51a qn51c (g := mkF m 374 Ls [(.int ((1 : Int32) + ((Int32.ofNat en) - (Int32.ofNat sn)))), (.ref xw)]) rfl hLs (Steps.refl _) (argsL := [(.int ((1 : Int32) + ((Int32.ofNat en) - (Int32.ofNat sn))))]) (rest := []) (lenOf pd_26 rfl) rfl (leq0 rfl) (hD at_374) (fun _ _ => ⟨rfl, e49, (by decide : 32 + 0 ≤ _), (by decide : 192 + 0 ≤ _)⟩)
     refine Wk.back (n := 377) (rc := 0) (rs := 0) (Q := Q_rmCA Z xw ((1 : Int32) + ((Int32.ofNat en) - (Int32.ofNat sn))) tw kw cw (1 + (en - sn)) zc fm Hj6 n0) (cl51_ _ (lsok hml rfl)) fun vn51 T51 L51 X51 hQ51 => ?_
     clear cl51_
     obtain ⟨rfl, M51, e51⟩ := hQ51
     have N51 := Fr.app N49 M51
     show Wk p e below _ T51 (mkF m 377 _ [(.int (cw.getD (1 + (en - sn)) 0))])
     refine Wk.iload X51 hx (hD at_377) (n := 379) rfl rfl ?_
     have hc379_52 : (cw.getD (1 + (en - sn)) 0) = c2 := by rw [hcx]; exact own_gl (pre := [26]) hse hen
     refine Wk.icmpNo X51 hx (hD at_379) (n := 382) rfl (teq hc379_52).2 ?_
     refine Wk.iconst X51 hx (hD at_382) (n := 383) rfl (z := (1 : Int32)) rfl ?_
     refine Wk.goto X51 hx (hD at_383) (by decide) (n := 387) (by decide) ?_
     exact Wk.leave X51 (v := some (.int (1 : Int32))) (fun h => by rw [Bd.returns] at h; cases h) hlk e51 ⟨rfl, N51, Kj6⟩ (by decide) (by decide) (fun fs hr => retNz X51 hx (t := .boolean) rfl Bd.returns (by simp) (hD at_387) hr)
    ·
     have hlw : cw.length = 2 + (en - sn) + 1 := by rw [hcx]; simp only [List.length_append, List.length_cons, List.length_nil, List.length_take, List.length_drop, own_l4]; omega
     refine Wk.aload Xj6 hx (hD at_230) (n := 232) rfl rfl rfl ?_
     obtain ⟨cq53, kq53, qn53a, qn53b, qn53c⟩ := isOf hZ ej6 Es8
     have cl53_ := fun Ls (hLs : LsOk c Ls) => Xj6.virtualBack hx (y := mn32) (z := mn32) hown (mW hZ hw 126 rfl) (mW hZ hw 127 rfl) (notFace_of_selects (args := #[]) (mW hZ hw 129 rfl)) (mW hZ hw 129 rfl) (mW hZ hw 128 rfl) (by decide) (backOf (W := 0) (rmLe l Z a0 hw [] xw tw kw cw zc Hj6 n0 (by omega) Es8 Fv8 Fc8 As8 S4 Olj6 hCS) hZ (oW hw 130 rfl) (oW hw 67 rfl) (by decide) (by decide)) qn53a qn53c (g := mkF m 232 Ls [(.ref xw)]) rfl hLs (Steps.refl _) (argsL := []) (rest := []) (lenOf pd_27 rfl) rfl (leq0 rfl) (hD at_232) (fun _ _ => ⟨rfl, ej6, (by decide : 32 + 0 ≤ _), (by decide : 192 + 0 ≤ _)⟩)
     refine Wk.back (n := 235) (rc := 0) (rs := 0) (Q := Q_rmLe Z xw tw kw cw zc Hj6 n0) (cl53_ _ (lsok hml rfl)) fun vn53 T53 L53 X53 hQ53 => ?_
     clear cl53_
     obtain ⟨rfl, M53, e53⟩ := hQ53
     have N53 := Fr.app Nj6 M53
     show Wk p e below _ T53 (mkF m 235 _ [(.int (Int32.ofNat cw.length))])
     refine Wk.iload X53 hx (hD at_235) (n := 237) rfl rfl ?_
     refine Wk.iload X53 hx (hD at_237) (n := 239) rfl rfl ?_
     refine Wk.iadd X53 hx (hD at_239) (n := 240) rfl ?_
     refine Wk.iload X53 hx (hD at_240) (n := 242) rfl rfl ?_
     refine Wk.iadd X53 hx (hD at_242) (n := 243) rfl ?_
     refine Wk.iconst X53 hx (hD at_243) (n := 244) rfl (z := (1 : Int32)) rfl ?_
     refine Wk.iadd X53 hx (hD at_244) (n := 245) rfl ?_
     have hc245_54 : (Int32.ofNat cw.length) = (((2 : Int32) + ((Int32.ofNat en) - (Int32.ofNat sn))) + (1 : Int32)) := by rw [hlw, own_ofsub hse]; exact own_sum 2 (en - sn)
     refine Wk.icmpYes X53 hx (hD at_245) (teq hc245_54).1 (by decide) (n := 250) (by decide) ?_
     refine Wk.iload X53 hx (hD at_250) (n := 252) rfl rfl ?_
     refine Wk.iconst X53 hx (hD at_252) (n := 253) rfl (z := (1 : Int32)) rfl ?_
     have hc253_55 : (1 : Int32) = (1 : Int32) := rfl
     refine Wk.icmpNo X53 hx (hD at_253) (n := 256) rfl (teq hc253_55).2 ?_
     refine Wk.aload X53 hx (hD at_256) (n := 258) rfl rfl rfl ?_
     refine Wk.iconst X53 hx (hD at_258) (n := 259) rfl (z := (0 : Int32)) rfl ?_
     obtain ⟨cq56, kq56, qn56a, qn56b, qn56c⟩ := isOf hZ e53 Es8
     have cl56_ := fun Ls (hLs : LsOk c Ls) => X53.virtualBack hx (y := mn37) (z := mn37) hown (mW hZ hw 140 rfl) (mW hZ hw 141 rfl) (notFace_of_selects (args := #[]) (mW hZ hw 143 rfl)) (mW hZ hw 143 rfl) (mW hZ hw 142 rfl) (by decide) (backOf (W := 0) (rmCA l Z a0 hw [] xw (0 : Int32) tw kw cw 0 zc fm Hj6 n0 (by omega) Es8 Fv8 Fc8 As8 S4 S5 Olj6 hCS hFM hpw rfl (by omega) (by omega)) hZ (oW hw 144 rfl) (oW hw 67 rfl) (by decide) (by decide)) qn56a qn56c (g := mkF m 259 Ls [(.int (0 : Int32)), (.ref xw)]) rfl hLs (Steps.refl _) (argsL := [(.int (0 : Int32))]) (rest := []) (lenOf pd_26 rfl) rfl (leq0 rfl) (hD at_259) (fun _ _ => ⟨rfl, e53, (by decide : 32 + 0 ≤ _), (by decide : 192 + 0 ≤ _)⟩)
     refine Wk.back (n := 262) (rc := 0) (rs := 0) (Q := Q_rmCA Z xw (0 : Int32) tw kw cw 0 zc fm Hj6 n0) (cl56_ _ (lsok hml rfl)) fun vn56 T56 L56 X56 hQ56 => ?_
     clear cl56_
     obtain ⟨rfl, M56, e56⟩ := hQ56
     have N56 := Fr.app N53 M56
     show Wk p e below _ T56 (mkF m 262 _ [(.int (cw.getD 0 0))])
     refine Wk.bipush X56 hx (hD at_262) (n := 264) rfl (z := (26 : Int32)) rfl ?_
     have hc264_57 : (cw.getD 0 0) = (26 : Int32) := by rw [hcx]; rfl
     refine Wk.icmpYes X56 hx (hD at_264) (teq hc264_57).1 (by decide) (n := 269) (by decide) ?_
     refine Wk.iload X56 hx (hD at_269) (n := 271) rfl rfl ?_
     have hc271_58 : ¬ ((1 : Int32) = (0 : Int32)) := by decide
     refine Wk.ifNo X56 hx (hD at_271) (n := 274) rfl ((if0 _ _).trans (feq hc271_58).1) ?_
     refine Wk.aload X56 hx (hD at_274) (n := 276) rfl rfl rfl ?_
     refine Wk.iload X56 hx (hD at_276) (n := 278) rfl rfl ?_
     obtain ⟨cq59, kq59, qn59a, qn59b, qn59c⟩ := isOf hZ e56 Es8
     have cl59_ := fun Ls (hLs : LsOk c Ls) => X56.virtualBack hx (y := mn37) (z := mn37) hown (mW hZ hw 140 rfl) (mW hZ hw 141 rfl) (notFace_of_selects (args := #[]) (mW hZ hw 143 rfl)) (mW hZ hw 143 rfl) (mW hZ hw 142 rfl) (by decide) (backOf (W := 0) (rmCA l Z a0 hw [] xw (1 : Int32) tw kw cw 1 zc fm Hj6 n0 (by omega) Es8 Fv8 Fc8 As8 S4 S5 Olj6 hCS hFM hpw rfl (by omega) (by omega)) hZ (oW hw 144 rfl) (oW hw 67 rfl) (by decide) (by decide)) qn59a qn59c (g := mkF m 278 Ls [(.int (1 : Int32)), (.ref xw)]) rfl hLs (Steps.refl _) (argsL := [(.int (1 : Int32))]) (rest := []) (lenOf pd_26 rfl) rfl (leq0 rfl) (hD at_278) (fun _ _ => ⟨rfl, e56, (by decide : 32 + 0 ≤ _), (by decide : 192 + 0 ≤ _)⟩)
     refine Wk.back (n := 281) (rc := 0) (rs := 0) (Q := Q_rmCA Z xw (1 : Int32) tw kw cw 1 zc fm Hj6 n0) (cl59_ _ (lsok hml rfl)) fun vn59 T59 L59 X59 hQ59 => ?_
     clear cl59_
     obtain ⟨rfl, M59, e59⟩ := hQ59
     have N59 := Fr.app N56 M59
     show Wk p e below _ T59 (mkF m 281 _ [(.int (cw.getD 1 0))])
     refine Wk.iload X59 hx (hD at_281) (n := 283) rfl rfl ?_
     have hc283_60 : (cw.getD 1 0) = c1 := by rw [hcx]; rfl
     refine Wk.icmpYes X59 hx (hD at_283) (teq hc283_60).1 (by decide) (n := 288) (by decide) ?_
     refine Wk.iload X59 hx (hD at_288) (n := 290) rfl rfl ?_
     refine Wk.iload X59 hx (hD at_290) (n := 292) rfl rfl ?_
     refine Wk.iadd X59 hx (hD at_292) (n := 293) rfl ?_
     refine Wk.istore X59 hx (hD at_293) (n := 295) rfl (L' := #[.val (.int p1), .val (.int p2), .val (.int p3), .val (.int p4), .val (.int p5), .val (.int p6), .val (.int z6), .val (.int (1 : Int32)), .val (.int z8), .val (.ref b1), .val (.int (Int32.ofNat sn)), .val (.int (Int32.ofNat en)), .val (.int c1), .val (.int c2), .val (.ref ab), .val (.ref xw), .val (.int (1 : Int32)), .val (.int (1 : Int32)), .val (.int ((Int32.ofNat en) - (Int32.ofNat sn))), .val (.int (2 : Int32))]) rfl ?_
     refine Wk.aload X59 hx (hD at_295) (n := 297) rfl rfl rfl ?_
     refine Wk.iload X59 hx (hD at_297) (n := 299) rfl rfl ?_
     refine Wk.iconst X59 hx (hD at_299) (n := 300) rfl (z := (0 : Int32)) rfl ?_
     refine Wk.iload X59 hx (hD at_300) (n := 302) rfl rfl ?_
     refine Wk.iloadN X59 hx (hD at_302) (n := 303) rfl rfl ?_
     refine Wk.iload X59 hx (hD at_303) (n := 305) rfl rfl ?_
     have cl61_ := fun Ls (hLs : LsOk c Ls) => Jvm.LawKit.callS X59 hx (y := mn38) hown (mW hZ hw 136 rfl) (mW hZ hw 137 rfl) (mW hZ hw 138 rfl) (mW hZ hw 139 rfl) (by decide) (backOf (W := 0) (rmAT l Z a0 hw [] xw tw kw cw (2 : Int32) (0 : Int32) ((Int32.ofNat en) - (Int32.ofNat sn)) p1 (Int32.ofNat sn) 2 0 (en - sn) sn zc fm Hj6 n0 (by omega) Es8 Fv8 Fc8 As8 S4 S5 Olj6 hCS hFM hpw rfl rfl (own_ofsub hse) rfl (by omega) (by omega) (by omega) hlw (fun i hi => by rw [hcx]; exact own_gw (pre := [26, c1]) hen hi)) hZ (oW hw 139 rfl) (oW hw 138 rfl) (by decide) (by decide)) (g := mkF m 305 Ls [(.int (Int32.ofNat sn)), (.int p1), (.int ((Int32.ofNat en) - (Int32.ofNat sn))), (.int (0 : Int32)), (.int (2 : Int32)), (.ref xw)]) rfl hLs (argsL := [(.ref xw), (.int (2 : Int32)), (.int (0 : Int32)), (.int ((Int32.ofNat en) - (Int32.ofNat sn))), (.int p1), (.int (Int32.ofNat sn))]) (rest := []) (lenOf pd_28 rfl) rfl (leq0 rfl) (hD at_305) (fun _ _ => ⟨rfl, e59, (by decide : 32 + 0 ≤ _), (by decide : 192 + 0 ≤ _)⟩)
     refine Wk.backS (n := 308) (rc := 0) (rs := 0) (Q := Q_rmAT Z xw tw kw cw (2 : Int32) (0 : Int32) ((Int32.ofNat en) - (Int32.ofNat sn)) p1 (Int32.ofNat sn) 2 0 (en - sn) sn zc fm Hj6 n0) (cl61_ _ (lsok hml rfl)) fun vn61 T61 L61 X61 hQ61 => ?_
     clear cl61_
     obtain ⟨rfl, M61, e61⟩ := hQ61
     have N61 := Fr.app N59 M61
     show Wk p e below _ T61 (mkF m 308 _ [(.int (1 : Int32))])
     have hc308_62 : ¬ ((1 : Int32) = (0 : Int32)) := by decide
     refine Wk.ifYes X61 hx (hD at_308) ((if0 _ _).trans (feq hc308_62).2) (by decide) (n := 313) (by decide) ?_
     refine Wk.aload X61 hx (hD at_313) (n := 315) rfl rfl rfl ?_
     refine Wk.iload X61 hx (hD at_315) (n := 317) rfl rfl ?_
     refine Wk.iconst X61 hx (hD at_317) (n := 318) rfl (z := (1 : Int32)) rfl ?_
     refine Wk.iload X61 hx (hD at_318) (n := 320) rfl rfl ?_
     refine Wk.iloadN X61 hx (hD at_320) (n := 321) rfl rfl ?_
     refine Wk.iload X61 hx (hD at_321) (n := 323) rfl rfl ?_
     have cl63_ := fun Ls (hLs : LsOk c Ls) => Jvm.LawKit.callS X61 hx (y := mn38) hown (mW hZ hw 136 rfl) (mW hZ hw 137 rfl) (mW hZ hw 138 rfl) (mW hZ hw 139 rfl) (by decide) (backOf (W := 0) (rmAT l Z a0 hw [] xw tw kw cw (2 : Int32) (1 : Int32) ((Int32.ofNat en) - (Int32.ofNat sn)) p1 (Int32.ofNat sn) 2 1 (en - sn) sn zc fm Hj6 n0 (by omega) Es8 Fv8 Fc8 As8 S4 S5 Olj6 hCS hFM hpw rfl rfl (own_ofsub hse) rfl (by omega) (by omega) (by omega) hlw (fun i hi => by rw [hcx]; exact own_gw (pre := [26, c1]) hen hi)) hZ (oW hw 139 rfl) (oW hw 138 rfl) (by decide) (by decide)) (g := mkF m 323 Ls [(.int (Int32.ofNat sn)), (.int p1), (.int ((Int32.ofNat en) - (Int32.ofNat sn))), (.int (1 : Int32)), (.int (2 : Int32)), (.ref xw)]) rfl hLs (argsL := [(.ref xw), (.int (2 : Int32)), (.int (1 : Int32)), (.int ((Int32.ofNat en) - (Int32.ofNat sn))), (.int p1), (.int (Int32.ofNat sn))]) (rest := []) (lenOf pd_28 rfl) rfl (leq0 rfl) (hD at_323) (fun _ _ => ⟨rfl, e61, (by decide : 32 + 0 ≤ _), (by decide : 192 + 0 ≤ _)⟩)
     refine Wk.backS (n := 326) (rc := 0) (rs := 0) (Q := Q_rmAT Z xw tw kw cw (2 : Int32) (1 : Int32) ((Int32.ofNat en) - (Int32.ofNat sn)) p1 (Int32.ofNat sn) 2 1 (en - sn) sn zc fm Hj6 n0) (cl63_ _ (lsok hml rfl)) fun vn63 T63 L63 X63 hQ63 => ?_
     clear cl63_
     obtain ⟨rfl, M63, e63⟩ := hQ63
     have N63 := Fr.app N61 M63
     show Wk p e below _ T63 (mkF m 326 _ [(.int (1 : Int32))])
     have hc326_64 : ¬ ((1 : Int32) = (0 : Int32)) := by decide
     refine Wk.ifYes X63 hx (hD at_326) ((if0 _ _).trans (feq hc326_64).2) (by decide) (n := 331) (by decide) ?_
     refine Wk.aload X63 hx (hD at_331) (n := 333) rfl rfl rfl ?_
     refine Wk.iload X63 hx (hD at_333) (n := 335) rfl rfl ?_
     refine Wk.iconst X63 hx (hD at_335) (n := 336) rfl (z := (2 : Int32)) rfl ?_
     refine Wk.iload X63 hx (hD at_336) (n := 338) rfl rfl ?_
     refine Wk.iloadN X63 hx (hD at_338) (n := 339) rfl rfl ?_
     refine Wk.iload X63 hx (hD at_339) (n := 341) rfl rfl ?_
     have cl65_ := fun Ls (hLs : LsOk c Ls) => Jvm.LawKit.callS X63 hx (y := mn38) hown (mW hZ hw 136 rfl) (mW hZ hw 137 rfl) (mW hZ hw 138 rfl) (mW hZ hw 139 rfl) (by decide) (backOf (W := 0) (rmAT l Z a0 hw [] xw tw kw cw (2 : Int32) (2 : Int32) ((Int32.ofNat en) - (Int32.ofNat sn)) p1 (Int32.ofNat sn) 2 2 (en - sn) sn zc fm Hj6 n0 (by omega) Es8 Fv8 Fc8 As8 S4 S5 Olj6 hCS hFM hpw rfl rfl (own_ofsub hse) rfl (by omega) (by omega) (by omega) hlw (fun i hi => by rw [hcx]; exact own_gw (pre := [26, c1]) hen hi)) hZ (oW hw 139 rfl) (oW hw 138 rfl) (by decide) (by decide)) (g := mkF m 341 Ls [(.int (Int32.ofNat sn)), (.int p1), (.int ((Int32.ofNat en) - (Int32.ofNat sn))), (.int (2 : Int32)), (.int (2 : Int32)), (.ref xw)]) rfl hLs (argsL := [(.ref xw), (.int (2 : Int32)), (.int (2 : Int32)), (.int ((Int32.ofNat en) - (Int32.ofNat sn))), (.int p1), (.int (Int32.ofNat sn))]) (rest := []) (lenOf pd_28 rfl) rfl (leq0 rfl) (hD at_341) (fun _ _ => ⟨rfl, e63, (by decide : 32 + 0 ≤ _), (by decide : 192 + 0 ≤ _)⟩)
     refine Wk.backS (n := 344) (rc := 0) (rs := 0) (Q := Q_rmAT Z xw tw kw cw (2 : Int32) (2 : Int32) ((Int32.ofNat en) - (Int32.ofNat sn)) p1 (Int32.ofNat sn) 2 2 (en - sn) sn zc fm Hj6 n0) (cl65_ _ (lsok hml rfl)) fun vn65 T65 L65 X65 hQ65 => ?_
     clear cl65_
     obtain ⟨rfl, M65, e65⟩ := hQ65
     have N65 := Fr.app N63 M65
     show Wk p e below _ T65 (mkF m 344 _ [(.int (1 : Int32))])
     have hc344_66 : ¬ ((1 : Int32) = (0 : Int32)) := by decide
     refine Wk.ifYes X65 hx (hD at_344) ((if0 _ _).trans (feq hc344_66).2) (by decide) (n := 349) (by decide) ?_
     refine Wk.aload X65 hx (hD at_349) (n := 351) rfl rfl rfl ?_
     refine Wk.iload X65 hx (hD at_351) (n := 353) rfl rfl ?_
     refine Wk.iconst X65 hx (hD at_353) (n := 354) rfl (z := (3 : Int32)) rfl ?_
     refine Wk.iload X65 hx (hD at_354) (n := 356) rfl rfl ?_
     refine Wk.iloadN X65 hx (hD at_356) (n := 357) rfl rfl ?_
     refine Wk.iload X65 hx (hD at_357) (n := 359) rfl rfl ?_
     have cl67_ := fun Ls (hLs : LsOk c Ls) => Jvm.LawKit.callS X65 hx (y := mn38) hown (mW hZ hw 136 rfl) (mW hZ hw 137 rfl) (mW hZ hw 138 rfl) (mW hZ hw 139 rfl) (by decide) (backOf (W := 0) (rmAT l Z a0 hw [] xw tw kw cw (2 : Int32) (3 : Int32) ((Int32.ofNat en) - (Int32.ofNat sn)) p1 (Int32.ofNat sn) 2 3 (en - sn) sn zc fm Hj6 n0 (by omega) Es8 Fv8 Fc8 As8 S4 S5 Olj6 hCS hFM hpw rfl rfl (own_ofsub hse) rfl (by omega) (by omega) (by omega) hlw (fun i hi => by rw [hcx]; exact own_gw (pre := [26, c1]) hen hi)) hZ (oW hw 139 rfl) (oW hw 138 rfl) (by decide) (by decide)) (g := mkF m 359 Ls [(.int (Int32.ofNat sn)), (.int p1), (.int ((Int32.ofNat en) - (Int32.ofNat sn))), (.int (3 : Int32)), (.int (2 : Int32)), (.ref xw)]) rfl hLs (argsL := [(.ref xw), (.int (2 : Int32)), (.int (3 : Int32)), (.int ((Int32.ofNat en) - (Int32.ofNat sn))), (.int p1), (.int (Int32.ofNat sn))]) (rest := []) (lenOf pd_28 rfl) rfl (leq0 rfl) (hD at_359) (fun _ _ => ⟨rfl, e65, (by decide : 32 + 0 ≤ _), (by decide : 192 + 0 ≤ _)⟩)
     refine Wk.backS (n := 362) (rc := 0) (rs := 0) (Q := Q_rmAT Z xw tw kw cw (2 : Int32) (3 : Int32) ((Int32.ofNat en) - (Int32.ofNat sn)) p1 (Int32.ofNat sn) 2 3 (en - sn) sn zc fm Hj6 n0) (cl67_ _ (lsok hml rfl)) fun vn67 T67 L67 X67 hQ67 => ?_
     clear cl67_
     obtain ⟨rfl, M67, e67⟩ := hQ67
     have N67 := Fr.app N65 M67
     show Wk p e below _ T67 (mkF m 362 _ [(.int (1 : Int32))])
     have hc362_68 : ¬ ((1 : Int32) = (0 : Int32)) := by decide
     refine Wk.ifYes X67 hx (hD at_362) ((if0 _ _).trans (feq hc362_68).2) (by decide) (n := 367) (by decide) ?_
     refine Wk.aload X67 hx (hD at_367) (n := 369) rfl rfl rfl ?_
     refine Wk.iload X67 hx (hD at_369) (n := 371) rfl rfl ?_
     refine Wk.iload X67 hx (hD at_371) (n := 373) rfl rfl ?_
     refine Wk.iadd X67 hx (hD at_373) (n := 374) rfl ?_
     obtain ⟨cq69, kq69, qn69a, qn69b, qn69c⟩ := isOf hZ e67 Es8
     have cl69_ := fun Ls (hLs : LsOk c Ls) => X67.virtualBack hx (y := mn37) (z := mn37) hown (mW hZ hw 140 rfl) (mW hZ hw 141 rfl) (notFace_of_selects (args := #[]) (mW hZ hw 143 rfl)) (mW hZ hw 143 rfl) (mW hZ hw 142 rfl) (by decide) (backOf (W := 0) (rmCA l Z a0 hw [] xw ((2 : Int32) + ((Int32.ofNat en) - (Int32.ofNat sn))) tw kw cw (2 + (en - sn)) zc fm Hj6 n0 (by omega) Es8 Fv8 Fc8 As8 S4 S5 Olj6 hCS hFM hpw (by rw [own_ofsub hse]; exact own_ofadd 2 _) (by omega) (by omega)) hZ (oW hw 144 rfl) (oW hw 67 rfl) (by decide) (by decide)) qn69a qn69c (g := mkF m 374 Ls [(.int ((2 : Int32) + ((Int32.ofNat en) - (Int32.ofNat sn)))), (.ref xw)]) rfl hLs (Steps.refl _) (argsL := [(.int ((2 : Int32) + ((Int32.ofNat en) - (Int32.ofNat sn))))]) (rest := []) (lenOf pd_26 rfl) rfl (leq0 rfl) (hD at_374) (fun _ _ => ⟨rfl, e67, (by decide : 32 + 0 ≤ _), (by decide : 192 + 0 ≤ _)⟩)
     refine Wk.back (n := 377) (rc := 0) (rs := 0) (Q := Q_rmCA Z xw ((2 : Int32) + ((Int32.ofNat en) - (Int32.ofNat sn))) tw kw cw (2 + (en - sn)) zc fm Hj6 n0) (cl69_ _ (lsok hml rfl)) fun vn69 T69 L69 X69 hQ69 => ?_
     clear cl69_
     obtain ⟨rfl, M69, e69⟩ := hQ69
     have N69 := Fr.app N67 M69
     show Wk p e below _ T69 (mkF m 377 _ [(.int (cw.getD (2 + (en - sn)) 0))])
     refine Wk.iload X69 hx (hD at_377) (n := 379) rfl rfl ?_
     have hc379_70 : (cw.getD (2 + (en - sn)) 0) = c2 := by rw [hcx]; exact own_gl (pre := [26, c1]) hse hen
     refine Wk.icmpNo X69 hx (hD at_379) (n := 382) rfl (teq hc379_70).2 ?_
     refine Wk.iconst X69 hx (hD at_382) (n := 383) rfl (z := (1 : Int32)) rfl ?_
     refine Wk.goto X69 hx (hD at_383) (by decide) (n := 387) (by decide) ?_
     exact Wk.leave X69 (v := some (.int (1 : Int32))) (fun h => by rw [Bd.returns] at h; cases h) hlk e69 ⟨rfl, N69, Kj6⟩ (by decide) (by decide) (fun fs hr => retNz X69 hx (t := .boolean) rfl Bd.returns (by simp) (hD at_387) hr)
   refine Wk.iload Xj6 hx (hD at_194) (n := 196) rfl rfl ?_
   rcases h6 with rfl | rfl
   ·
    have hc196_71 : (0 : Int32) = (0 : Int32) := rfl
    refine Wk.ifYes Xj6 hx (hD at_196) ((if0 _ _).trans (teq hc196_71).1) (by decide) (n := 208) (by decide) ?_
    refine Wk.iconst Xj6 hx (hD at_208) (n := 209) rfl (z := (0 : Int32)) rfl ?_
    refine Wk.istore Xj6 hx (hD at_209) (n := 211) rfl (L' := #[.val (.int p1), .val (.int p2), .val (.int p3), .val (.int p4), .val (.int p5), .val (.int p6), .val (.int (0 : Int32)), .val (.int z7), .val (.int z8), .val (.ref b1), .val (.int (Int32.ofNat sn)), .val (.int (Int32.ofNat en)), .val (.int c1), .val (.int c2), .val (.ref ab), .val (.ref xw), .val (.int (0 : Int32)), .unset, .unset, .unset]) rfl ?_
    refine Wk.iload Xj6 hx (hD at_211) (n := 213) rfl rfl ?_
    rcases h7 with rfl | rfl
    ·
     have hc213_72 : (0 : Int32) = (0 : Int32) := rfl
     refine Wk.ifYes Xj6 hx (hD at_213) ((if0 _ _).trans (teq hc213_72).1) (by decide) (n := 220) (by decide) ?_
     refine Wk.iconst Xj6 hx (hD at_220) (n := 221) rfl (z := (0 : Int32)) rfl ?_
     refine Wk.istore Xj6 hx (hD at_221) (n := 223) rfl (L' := #[.val (.int p1), .val (.int p2), .val (.int p3), .val (.int p4), .val (.int p5), .val (.int p6), .val (.int (0 : Int32)), .val (.int (0 : Int32)), .val (.int z8), .val (.ref b1), .val (.int (Int32.ofNat sn)), .val (.int (Int32.ofNat en)), .val (.int c1), .val (.int c2), .val (.ref ab), .val (.ref xw), .val (.int (0 : Int32)), .val (.int (0 : Int32)), .unset, .unset]) rfl ?_
     exact J223 _ _ _ _ (Or.inl ⟨rfl, rfl⟩) (Or.inl ⟨rfl, rfl, rfl⟩) (by first | exact hcw | simpa using hcw)
    ·
     have hc213_73 : ¬ ((1 : Int32) = (0 : Int32)) := by decide
     refine Wk.ifNo Xj6 hx (hD at_213) (n := 216) rfl ((if0 _ _).trans (feq hc213_73).1) ?_
     refine Wk.iconst Xj6 hx (hD at_216) (n := 217) rfl (z := (1 : Int32)) rfl ?_
     refine Wk.goto Xj6 hx (hD at_217) (by decide) (n := 221) (by decide) ?_
     refine Wk.istore Xj6 hx (hD at_221) (n := 223) rfl (L' := #[.val (.int p1), .val (.int p2), .val (.int p3), .val (.int p4), .val (.int p5), .val (.int p6), .val (.int (0 : Int32)), .val (.int (1 : Int32)), .val (.int z8), .val (.ref b1), .val (.int (Int32.ofNat sn)), .val (.int (Int32.ofNat en)), .val (.int c1), .val (.int c2), .val (.ref ab), .val (.ref xw), .val (.int (0 : Int32)), .val (.int (1 : Int32)), .unset, .unset]) rfl ?_
     exact J223 _ _ _ _ (Or.inl ⟨rfl, rfl⟩) (Or.inr ⟨rfl, rfl, rfl⟩) (by first | exact hcw | simpa using hcw)
   ·
    have hc196_74 : ¬ ((1 : Int32) = (0 : Int32)) := by decide
    refine Wk.ifNo Xj6 hx (hD at_196) (n := 199) rfl ((if0 _ _).trans (feq hc196_74).1) ?_
    refine Wk.iload Xj6 hx (hD at_199) (n := 201) rfl rfl ?_
    rcases h8 with rfl | rfl
    ·
     have hc201_75 : (0 : Int32) = (0 : Int32) := rfl
     refine Wk.ifYes Xj6 hx (hD at_201) ((if0 _ _).trans (teq hc201_75).1) (by decide) (n := 208) (by decide) ?_
     refine Wk.iconst Xj6 hx (hD at_208) (n := 209) rfl (z := (0 : Int32)) rfl ?_
     refine Wk.istore Xj6 hx (hD at_209) (n := 211) rfl (L' := #[.val (.int p1), .val (.int p2), .val (.int p3), .val (.int p4), .val (.int p5), .val (.int p6), .val (.int (1 : Int32)), .val (.int z7), .val (.int (0 : Int32)), .val (.ref b1), .val (.int (Int32.ofNat sn)), .val (.int (Int32.ofNat en)), .val (.int c1), .val (.int c2), .val (.ref ab), .val (.ref xw), .val (.int (0 : Int32)), .unset, .unset, .unset]) rfl ?_
     refine Wk.iload Xj6 hx (hD at_211) (n := 213) rfl rfl ?_
     rcases h7 with rfl | rfl
     ·
      have hc213_76 : (0 : Int32) = (0 : Int32) := rfl
      refine Wk.ifYes Xj6 hx (hD at_213) ((if0 _ _).trans (teq hc213_76).1) (by decide) (n := 220) (by decide) ?_
      refine Wk.iconst Xj6 hx (hD at_220) (n := 221) rfl (z := (0 : Int32)) rfl ?_
      refine Wk.istore Xj6 hx (hD at_221) (n := 223) rfl (L' := #[.val (.int p1), .val (.int p2), .val (.int p3), .val (.int p4), .val (.int p5), .val (.int p6), .val (.int (1 : Int32)), .val (.int (0 : Int32)), .val (.int (0 : Int32)), .val (.ref b1), .val (.int (Int32.ofNat sn)), .val (.int (Int32.ofNat en)), .val (.int c1), .val (.int c2), .val (.ref ab), .val (.ref xw), .val (.int (0 : Int32)), .val (.int (0 : Int32)), .unset, .unset]) rfl ?_
      exact J223 _ _ _ _ (Or.inl ⟨rfl, rfl⟩) (Or.inl ⟨rfl, rfl, rfl⟩) (by first | exact hcw | simpa using hcw)
     ·
      have hc213_77 : ¬ ((1 : Int32) = (0 : Int32)) := by decide
      refine Wk.ifNo Xj6 hx (hD at_213) (n := 216) rfl ((if0 _ _).trans (feq hc213_77).1) ?_
      refine Wk.iconst Xj6 hx (hD at_216) (n := 217) rfl (z := (1 : Int32)) rfl ?_
      refine Wk.goto Xj6 hx (hD at_217) (by decide) (n := 221) (by decide) ?_
      refine Wk.istore Xj6 hx (hD at_221) (n := 223) rfl (L' := #[.val (.int p1), .val (.int p2), .val (.int p3), .val (.int p4), .val (.int p5), .val (.int p6), .val (.int (1 : Int32)), .val (.int (1 : Int32)), .val (.int (0 : Int32)), .val (.ref b1), .val (.int (Int32.ofNat sn)), .val (.int (Int32.ofNat en)), .val (.int c1), .val (.int c2), .val (.ref ab), .val (.ref xw), .val (.int (0 : Int32)), .val (.int (1 : Int32)), .unset, .unset]) rfl ?_
      exact J223 _ _ _ _ (Or.inl ⟨rfl, rfl⟩) (Or.inr ⟨rfl, rfl, rfl⟩) (by first | exact hcw | simpa using hcw)
    ·
     have hc201_78 : ¬ ((1 : Int32) = (0 : Int32)) := by decide
     refine Wk.ifNo Xj6 hx (hD at_201) (n := 204) rfl ((if0 _ _).trans (feq hc201_78).1) ?_
     refine Wk.iconst Xj6 hx (hD at_204) (n := 205) rfl (z := (1 : Int32)) rfl ?_
     refine Wk.goto Xj6 hx (hD at_205) (by decide) (n := 209) (by decide) ?_
     refine Wk.istore Xj6 hx (hD at_209) (n := 211) rfl (L' := #[.val (.int p1), .val (.int p2), .val (.int p3), .val (.int p4), .val (.int p5), .val (.int p6), .val (.int (1 : Int32)), .val (.int z7), .val (.int (1 : Int32)), .val (.ref b1), .val (.int (Int32.ofNat sn)), .val (.int (Int32.ofNat en)), .val (.int c1), .val (.int c2), .val (.ref ab), .val (.ref xw), .val (.int (1 : Int32)), .unset, .unset, .unset]) rfl ?_
     refine Wk.iload Xj6 hx (hD at_211) (n := 213) rfl rfl ?_
     rcases h7 with rfl | rfl
     ·
      have hc213_79 : (0 : Int32) = (0 : Int32) := rfl
      refine Wk.ifYes Xj6 hx (hD at_213) ((if0 _ _).trans (teq hc213_79).1) (by decide) (n := 220) (by decide) ?_
      refine Wk.iconst Xj6 hx (hD at_220) (n := 221) rfl (z := (0 : Int32)) rfl ?_
      refine Wk.istore Xj6 hx (hD at_221) (n := 223) rfl (L' := #[.val (.int p1), .val (.int p2), .val (.int p3), .val (.int p4), .val (.int p5), .val (.int p6), .val (.int (1 : Int32)), .val (.int (0 : Int32)), .val (.int (1 : Int32)), .val (.ref b1), .val (.int (Int32.ofNat sn)), .val (.int (Int32.ofNat en)), .val (.int c1), .val (.int c2), .val (.ref ab), .val (.ref xw), .val (.int (1 : Int32)), .val (.int (0 : Int32)), .unset, .unset]) rfl ?_
      exact J223 _ _ _ _ (Or.inr ⟨rfl, rfl⟩) (Or.inl ⟨rfl, rfl, rfl⟩) (by first | exact hcw | simpa using hcw)
     ·
      have hc213_80 : ¬ ((1 : Int32) = (0 : Int32)) := by decide
      refine Wk.ifNo Xj6 hx (hD at_213) (n := 216) rfl ((if0 _ _).trans (feq hc213_80).1) ?_
      refine Wk.iconst Xj6 hx (hD at_216) (n := 217) rfl (z := (1 : Int32)) rfl ?_
      refine Wk.goto Xj6 hx (hD at_217) (by decide) (n := 221) (by decide) ?_
      refine Wk.istore Xj6 hx (hD at_221) (n := 223) rfl (L' := #[.val (.int p1), .val (.int p2), .val (.int p3), .val (.int p4), .val (.int p5), .val (.int p6), .val (.int (1 : Int32)), .val (.int (1 : Int32)), .val (.int (1 : Int32)), .val (.ref b1), .val (.int (Int32.ofNat sn)), .val (.int (Int32.ofNat en)), .val (.int c1), .val (.int c2), .val (.ref ab), .val (.ref xw), .val (.int (1 : Int32)), .val (.int (1 : Int32)), .unset, .unset]) rfl ?_
      exact J223 _ _ _ _ (Or.inr ⟨rfl, rfl⟩) (Or.inr ⟨rfl, rfl, rfl⟩) (by first | exact hcw | simpa using hcw)
  refine Wk.newO X5 hx hZ hown (oW hw 2 rfl) (oW hw 3 rfl) (oW hw 4 rfl) e5 (hD at_117) (n := 120) rfl (by decide) (by decide) fun T81 H81 b81 gn81 X81 e81 Ex81 An81 Dn81 Yn81 => ?_
  have gn81 := nx gn81
  have sz81 := Ex81.1
  have lt81 := ny An81.lt
  have K81 := K5.ext Ex81
  have Fn81_asideAt : Fld Z H81 b81 "com/example/depeche/depeche/hl7/Text$Builder" "asideAt" "[I" .null := Dn81 (Or.inl (oW hw 15 rfl)) (ty := (.array .int)) (by decide)
  have Fn81_aside : Fld Z H81 b81 "com/example/depeche/depeche/hl7/Text$Builder" "aside" "[C" .null := Dn81 (Or.inl (oW hw 19 rfl)) (ty := (.array .char)) (by decide)
  have Fn81_bytes : Fld Z H81 b81 "com/example/depeche/depeche/hl7/Text$Builder" "bytes" "[B" .null := Dn81 (Or.inl (oW hw 21 rfl)) (ty := (.array .byte)) (by decide)
  have Fn81_asideLimit : Fld Z H81 b81 "com/example/depeche/depeche/hl7/Text$Builder" "asideLimit" "I" (.int (0 : Int32)) := Dn81 (Or.inr (oW hw 23 rfl)) (ty := .int) (by decide)
  have Fn81_chars : Fld Z H81 b81 "com/example/depeche/depeche/hl7/Text$Builder" "chars" "[C" .null := Dn81 (Or.inl (oW hw 30 rfl)) (ty := (.array .char)) (by decide)
  have Fn81_asideCount : Fld Z H81 b81 "com/example/depeche/depeche/hl7/Text$Builder" "asideCount" "I" (.int (0 : Int32)) := Dn81 (Or.inl (oW hw 41 rfl)) (ty := .int) (by decide)
  have Fn81_length : Fld Z H81 b81 "com/example/depeche/depeche/hl7/Text$Builder" "length" "I" (.int (0 : Int32)) := Dn81 (Or.inl (oW hw 47 rfl)) (ty := .int) (by decide)
  refine Wk.dup X81 hx (hD at_120) (n := 121) rfl rfl ?_
  refine Wk.iload X81 hx (hD at_121) (n := 123) rfl rfl ?_
  rcases h8 with rfl | rfl
  ·
   have hc123_82 : (0 : Int32) = (0 : Int32) := rfl
   refine Wk.ifYes X81 hx (hD at_123) ((if0 _ _).trans (teq hc123_82).1) (by decide) (n := 131) (by decide) ?_
   refine Wk.bipush X81 hx (hD at_131) (n := 133) rfl (z := (7 : Int32)) rfl ?_
   have f83 := ((((((O1.ext Ex1).wr Wn2 (by omega)).wr Wn3 (by omega)).wr Wn4 (by omega)).wr Wn5 (by omega)).ext Ex81)
   have cl84_ := fun Ls (hLs : LsOk c Ls) => X81.specialBack hx (y := mn1) rfl hown (mW hZ hw 5 rfl) (mW hZ hw 6 rfl) (mW hZ hw 7 rfl) (by decide) (backOf (W := 1) (rmBI7 l Z a0 hw [] b81 wi wc H81 n0 (by omega) An81 Fn81_asideAt Fn81_aside Fn81_bytes Fn81_asideLimit Fn81_chars Fn81_asideCount Fn81_length S1 S2 f83 (by omega)) hZ (oW hw 7 rfl) (oW hw 4 rfl) (by decide) (by decide)) (g := mkF m 133 Ls [(.int (7 : Int32)), (.ref b81), (.ref b81)]) rfl hLs (Steps.refl _) (a := b81) (argsL := [(.int (7 : Int32))]) (rest := [(.ref b81)]) (lenOf pd_29 rfl) rfl (leq0 rfl) (hD at_133) (fun _ _ => ⟨rfl, e81, (by decide : 2 + 1 ≤ _), (by decide : 11 + 7 ≤ _)⟩)
   refine Wk.back (n := 136) (rc := 1) (rs := 7) (Q := Q_rmBI7 Z b81 wi wc H81 n0) (cl84_ _ (lsok hml rfl)) fun vn84 T84 L84 X84 hQ84 => ?_
   clear cl84_
   obtain ⟨t_84, kb_84, rfl, M84, J84, p84_0, p84_1, p84_2, p84_3, p84_4, p84_5, p84_6, p84_7, p84_8, gt_84⟩ := hQ84
   have N84 := Fr.app N5 M84
   have sz84 := J84.1
   have K84 := K81.trans J84 (allS (Or.inr (by omega)) all0)
   have lt_p84_0 := ny p84_0.lt
   have lt_p84_8 := ny p84_8.lt
   show Wk p e below _ T84 (mkF m 136 _ [(.ref b81)])
   refine Wk.astore X84 hx (hD at_136) (n := 138) rfl rfl (L' := #[.val (.int p1), .val (.int p2), .val (.int p3), .val (.int p4), .val (.int p5), .val (.int p6), .val (.int z6), .val (.int z7), .val (.int (0 : Int32)), .val (.ref b1), .val (.int (Int32.ofNat sn)), .val (.int (Int32.ofNat en)), .val (.int c1), .val (.int c2), .val (.ref b81), .unset, .unset, .unset, .unset, .unset]) rfl ?_
   refine Wk.iload X84 hx (hD at_138) (n := 140) rfl rfl ?_
   rcases h6 with rfl | rfl
   ·
    have hc140_85 : (0 : Int32) = (0 : Int32) := rfl
    refine Wk.ifYes X84 hx (hD at_140) ((if0 _ _).trans (teq hc140_85).1) (by decide) (n := 152) (by decide) ?_
    refine Wk.iload X84 hx (hD at_152) (n := 154) rfl rfl ?_
    rcases h7 with rfl | rfl
    ·
     have hc154_86 : (0 : Int32) = (0 : Int32) := rfl
     refine Wk.ifYes X84 hx (hD at_154) ((if0 _ _).trans (teq hc154_86).1) (by decide) (n := 165) (by decide) ?_
     refine Wk.aload X84 hx (hD at_165) (n := 167) rfl rfl rfl ?_
     refine Wk.aload X84 hx (hD at_167) (n := 169) rfl rfl rfl ?_
     refine Wk.iload X84 hx (hD at_169) (n := 171) rfl rfl ?_
     refine Wk.iload X84 hx (hD at_171) (n := 173) rfl rfl ?_
     have f87 := ((Un5.ext Ex81).keep J84 (ninS (nz (by omega)) nin0))
     obtain ⟨cq88, kq88, qn88a, qn88b, qn88c⟩ := isOf hZ rfl p84_0
     have cl88_ := fun Ls (hLs : LsOk c Ls) => X84.virtualBack hx (y := mn12) (z := mn12) hown (mW hZ hw 49 rfl) (mW hZ hw 50 rfl) (notFace_of_selects (args := #[]) (mW hZ hw 52 rfl)) (mW hZ hw 52 rfl) (mW hZ hw 51 rfl) (by decide) (backOf (W := 0) (rmBB l Z a0 hw [] b81 b1 (Int32.ofNat sn) (Int32.ofNat en) k1 (flp p1) sn en t_84 kb_84 ([] : List Int32) 7 (.ref wi) (.ref wc) (.int (0 : Int32)) (.int (0 : Int32)) T84.heap n0 (by omega) p84_0 p84_1 p84_2 p84_3 p84_4 p84_5 p84_6 p84_7 p84_8 f87 rfl rfl hse hen rfl (by simp only [List.length_append, List.length_cons, List.length_nil, List.length_take, List.length_drop, own_l4]; omega) (by decide) (by omega) (by omega) (by omega) (by omega) (by omega)) hZ (oW hw 53 rfl) (oW hw 4 rfl) (by decide) (by decide)) qn88a qn88c (g := mkF m 173 Ls [(.int (Int32.ofNat en)), (.int (Int32.ofNat sn)), (.ref b1), (.ref b81)]) rfl hLs (Steps.refl _) (argsL := [(.ref b1), (.int (Int32.ofNat sn)), (.int (Int32.ofNat en))]) (rest := []) (lenOf pd_30 rfl) rfl (leq0 rfl) (hD at_173) (fun _ _ => ⟨rfl, rfl, (by decide : 3 + 0 ≤ _), (by decide : 18 + 0 ≤ _)⟩)
     refine Wk.back (n := 176) (rc := 0) (rs := 0) (Q := Q_rmBB Z b81 b1 (Int32.ofNat sn) (Int32.ofNat en) k1 (flp p1) sn en t_84 kb_84 ([] : List Int32) 7 (.ref wi) (.ref wc) (.int (0 : Int32)) (.int (0 : Int32)) T84.heap n0) (cl88_ _ (lsok hml rfl)) fun vn88 T88 L88 X88 hQ88 => ?_
     clear cl88_
     obtain ⟨rfl, M88, J88, p88_0, p88_1, p88_2, p88_3, p88_4, p88_5, p88_6, p88_7, p88_8⟩ := hQ88
     have N88 := Fr.app N84 M88
     have sz88 := J88.1
     have K88 := K84.trans J88 (allS (Or.inr (by omega)) (allS (Or.inr (by omega)) all0))
     have lt_p88_0 := ny p88_0.lt
     have lt_p88_8 := ny p88_8.lt
     show Wk p e below _ T88 (mkF m 176 _ [])
     refine Wk.aload X88 hx (hD at_176) (n := 178) rfl rfl rfl ?_
     refine Wk.iload X88 hx (hD at_178) (n := 180) rfl rfl ?_
     obtain ⟨cq89, kq89, qn89a, qn89b, qn89c⟩ := isOf hZ rfl p88_0
     have cl89_ := fun Ls (hLs : LsOk c Ls) => X88.virtualBack hx (y := mn11) (z := mn11) hown (mW hZ hw 24 rfl) (mW hZ hw 25 rfl) (notFace_of_selects (args := #[]) (mW hZ hw 27 rfl)) (mW hZ hw 27 rfl) (mW hZ hw 26 rfl) (by decide) (backOf (W := 0) (rmAB l Z a0 hw [] b81 c2 t_84 kb_84 (([] : List Int32) ++ (((flp p1).drop sn).take (en - sn))) 7 (.ref wi) (.ref wc) (.int (0 : Int32)) (.int (0 : Int32)) T88.heap n0 (by omega) p88_0 p88_1 p88_2 p88_3 p88_4 p88_5 p88_6 p88_7 p88_8 r_c2.2 (by simp only [List.length_append, List.length_cons, List.length_nil, List.length_take, List.length_drop, own_l4]; omega) (by decide) (by omega) (by omega) (by omega)) hZ (oW hw 28 rfl) (oW hw 4 rfl) (by decide) (by decide)) qn89a qn89c (g := mkF m 180 Ls [(.int c2), (.ref b81)]) rfl hLs (Steps.refl _) (argsL := [(.int c2)]) (rest := []) (lenOf pd_0 rfl) rfl (leq0 rfl) (hD at_180) (fun _ _ => ⟨rfl, rfl, (by decide : 3 + 0 ≤ _), (by decide : 18 + 0 ≤ _)⟩)
     refine Wk.back (n := 183) (rc := 0) (rs := 0) (Q := Q_rmAB Z b81 c2 t_84 kb_84 (([] : List Int32) ++ (((flp p1).drop sn).take (en - sn))) 7 (.ref wi) (.ref wc) (.int (0 : Int32)) (.int (0 : Int32)) T88.heap n0) (cl89_ _ (lsok hml rfl)) fun vn89 T89 L89 X89 hQ89 => ?_
     clear cl89_
     obtain ⟨rfl, M89, J89, p89_0, p89_1, p89_2, p89_3, p89_4, p89_5, p89_6, p89_7, p89_8⟩ := hQ89
     have N89 := Fr.app N88 M89
     have sz89 := J89.1
     have K89 := K88.trans J89 (allS (Or.inr (by omega)) (allS (Or.inr (by omega)) all0))
     have lt_p89_0 := ny p89_0.lt
     have lt_p89_8 := ny p89_8.lt
     show Wk p e below _ T89 (mkF m 183 _ [(.int (1 : Int32))])
     refine Wk.pop X89 hx (hD at_183) (n := 184) rfl rfl ?_
     refine Wk.aload X89 hx (hD at_184) (n := 186) rfl rfl rfl ?_
     have f90 := (((f83.keep J84 (allS (by omega) all0)).keep J88 (allS (by omega) (allS (by omega) all0))).keep J89 (allS (by omega) (allS (by omega) all0)))
     have f91 := Ai.ext f90.2
     have f92 := Ei.ext f90.2
     have f93 := Ac.ext f90.2
     have f94 := Ec.ext f90.2
     obtain ⟨cq95, kq95, qn95a, qn95b, qn95c⟩ := isOf hZ rfl p89_0
     have cl95_ := fun Ls (hLs : LsOk c Ls) => X89.virtualBack hx (y := mn30) (z := mn30) hown (mW hZ hw 60 rfl) (mW hZ hw 61 rfl) (notFace_of_selects (args := #[]) (mW hZ hw 63 rfl)) (mW hZ hw 63 rfl) (mW hZ hw 62 rfl) (by decide) (backOf (W := 0) (rmBDB l Z a0 hw [] b81 t_84 kb_84 ((([] : List Int32) ++ (((flp p1).drop sn).take (en - sn))) ++ [c2]) 7 wi ki ([]) wc kc ([]) (0 : Int32) (.int (0 : Int32)) wso wu zc fm T89.heap n0 (by omega) p89_0 p89_1 p89_2 p89_3 p89_4 p89_5 p89_6 p89_7 p89_8 f91 f92 f93 f94 S4 S6 S7 S5 Es S8 f90 hCS hFM (by simp only [List.length_append, List.length_cons, List.length_nil, List.length_take, List.length_drop, own_l4]; omega) (by simp only [List.length_append, List.length_cons, List.length_nil, List.length_take, List.length_drop, own_l4]; omega) (by decide) hnu (by decide)) hZ (oW hw 64 rfl) (oW hw 4 rfl) (by decide) (by decide)) qn95a qn95c (g := mkF m 186 Ls [(.ref b81)]) rfl hLs (Steps.refl _) (argsL := []) (rest := []) (lenOf pd_31 rfl) rfl (leq0 rfl) (hD at_186) (fun _ _ => ⟨rfl, rfl, (by decide : 3 + 5 ≤ _), (by decide : 18 + 18 ≤ _)⟩)
     refine Wk.back (n := 189) (rc := 5) (rs := 18) (Q := Q_rmBDB Z b81 t_84 kb_84 ((([] : List Int32) ++ (((flp p1).drop sn).take (en - sn))) ++ [c2]) 7 wi ki ([]) wc kc ([]) (0 : Int32) (.int (0 : Int32)) wso wu zc fm T89.heap n0) (cl95_ _ (lsok hml rfl)) fun vn95 T95 L95 X95 hQ95 => ?_
     clear cl95_
     obtain ⟨r_95, xs_95, t_95, kb_95, rfl, M95, J95, p95_0, p95_1, p95_2, p95_3, p95_4, p95_5, gr_95, gx_95, gt_95⟩ := hQ95
     have N95 := Fr.app N89 M95
     have sz95 := J95.1
     have K95 := K89.trans J95 (fun x hx => nomatch hx)
     have lt_p95_0 := ny p95_0.lt
     have lt_p95_2 := ny p95_2.lt
     have lt_p95_5 := ny p95_5.lt
     show Wk p e below _ T95 (mkF m 189 _ [(.ref r_95)])
     obtain ⟨cq96, kq96, qn96a, qn96b, qn96c⟩ := isOf hZ rfl p95_0
     have cl96_ := fun Ls (hLs : LsOk c Ls) => X95.virtualBack hx (y := mn29) (z := mn29) hown (mW hZ hw 121 rfl) (mW hZ hw 122 rfl) (notFace_of_selects (args := #[]) (mW hZ hw 124 rfl)) (mW hZ hw 124 rfl) (mW hZ hw 123 rfl) (by decide) (backOf (W := 0) (rmSE l Z a0 hw [] r_95 xs_95 T95.heap n0 (by omega) p95_1) hZ (oW hw 125 rfl) (oW hw 12 rfl) (by decide) (by decide)) qn96a qn96c (g := mkF m 189 Ls [(.ref r_95)]) rfl hLs (Steps.refl _) (argsL := []) (rest := []) (lenOf pd_32 rfl) rfl (leq0 rfl) (hD at_189) (fun _ _ => ⟨rfl, rfl, (by decide : 8 + 0 ≤ _), (by decide : 36 + 0 ≤ _)⟩)
     refine Wk.back (n := 192) (rc := 0) (rs := 0) (Q := Q_rmSE Z r_95 xs_95 T95.heap n0) (cl96_ _ (lsok hml rfl)) fun vn96 T96 L96 X96 hQ96 => ?_
     clear cl96_
     obtain ⟨rfl, M96, e96⟩ := hQ96
     have N96 := Fr.app N95 M96
     show Wk p e below _ T96 (mkF m 192 _ [(.ref xs_95)])
     refine Wk.astore X96 hx (hD at_192) (n := 194) rfl rfl (L' := #[.val (.int p1), .val (.int p2), .val (.int p3), .val (.int p4), .val (.int p5), .val (.int p6), .val (.int (0 : Int32)), .val (.int (0 : Int32)), .val (.int (0 : Int32)), .val (.ref b1), .val (.int (Int32.ofNat sn)), .val (.int (Int32.ofNat en)), .val (.int c1), .val (.int c2), .val (.ref b81), .val (.ref xs_95), .unset, .unset, .unset, .unset]) rfl ?_
     have f97 := (f90.keep J95 all0)
     exact J194 T96 T95.heap _ b81 xs_95 t_95 kb_95 ((([] : List Int32) ++ (((flp p1).drop sn).take (en - sn))) ++ [c2]) (X96.mono (by decide) (by decide)) e96 K95 N96 p95_2 p95_3 p95_4 p95_5 f97 (by first | rfl | simp)
    ·
     have hc154_98 : ¬ ((1 : Int32) = (0 : Int32)) := by decide
     refine Wk.ifNo X84 hx (hD at_154) (n := 157) rfl ((if0 _ _).trans (feq hc154_98).1) ?_
     refine Wk.aload X84 hx (hD at_157) (n := 159) rfl rfl rfl ?_
     refine Wk.iload X84 hx (hD at_159) (n := 161) rfl rfl ?_
     obtain ⟨cq99, kq99, qn99a, qn99b, qn99c⟩ := isOf hZ rfl p84_0
     have cl99_ := fun Ls (hLs : LsOk c Ls) => X84.virtualBack hx (y := mn11) (z := mn11) hown (mW hZ hw 24 rfl) (mW hZ hw 25 rfl) (notFace_of_selects (args := #[]) (mW hZ hw 27 rfl)) (mW hZ hw 27 rfl) (mW hZ hw 26 rfl) (by decide) (backOf (W := 0) (rmAB l Z a0 hw [] b81 c1 t_84 kb_84 ([] : List Int32) 7 (.ref wi) (.ref wc) (.int (0 : Int32)) (.int (0 : Int32)) T84.heap n0 (by omega) p84_0 p84_1 p84_2 p84_3 p84_4 p84_5 p84_6 p84_7 p84_8 r_c1.2 (by simp only [List.length_append, List.length_cons, List.length_nil, List.length_take, List.length_drop, own_l4]; omega) (by decide) (by omega) (by omega) (by omega)) hZ (oW hw 28 rfl) (oW hw 4 rfl) (by decide) (by decide)) qn99a qn99c (g := mkF m 161 Ls [(.int c1), (.ref b81)]) rfl hLs (Steps.refl _) (argsL := [(.int c1)]) (rest := []) (lenOf pd_0 rfl) rfl (leq0 rfl) (hD at_161) (fun _ _ => ⟨rfl, rfl, (by decide : 3 + 0 ≤ _), (by decide : 18 + 0 ≤ _)⟩)
     refine Wk.back (n := 164) (rc := 0) (rs := 0) (Q := Q_rmAB Z b81 c1 t_84 kb_84 ([] : List Int32) 7 (.ref wi) (.ref wc) (.int (0 : Int32)) (.int (0 : Int32)) T84.heap n0) (cl99_ _ (lsok hml rfl)) fun vn99 T99 L99 X99 hQ99 => ?_
     clear cl99_
     obtain ⟨rfl, M99, J99, p99_0, p99_1, p99_2, p99_3, p99_4, p99_5, p99_6, p99_7, p99_8⟩ := hQ99
     have N99 := Fr.app N84 M99
     have sz99 := J99.1
     have K99 := K84.trans J99 (allS (Or.inr (by omega)) (allS (Or.inr (by omega)) all0))
     have lt_p99_0 := ny p99_0.lt
     have lt_p99_8 := ny p99_8.lt
     show Wk p e below _ T99 (mkF m 164 _ [(.int (1 : Int32))])
     refine Wk.pop X99 hx (hD at_164) (n := 165) rfl rfl ?_
     refine Wk.aload X99 hx (hD at_165) (n := 167) rfl rfl rfl ?_
     refine Wk.aload X99 hx (hD at_167) (n := 169) rfl rfl rfl ?_
     refine Wk.iload X99 hx (hD at_169) (n := 171) rfl rfl ?_
     refine Wk.iload X99 hx (hD at_171) (n := 173) rfl rfl ?_
     have f100 := (((Un5.ext Ex81).keep J84 (ninS (nz (by omega)) nin0)).keep J99 (ninS (nz (by omega)) (ninS (nz (by omega)) nin0)))
     obtain ⟨cq101, kq101, qn101a, qn101b, qn101c⟩ := isOf hZ rfl p99_0
     have cl101_ := fun Ls (hLs : LsOk c Ls) => X99.virtualBack hx (y := mn12) (z := mn12) hown (mW hZ hw 49 rfl) (mW hZ hw 50 rfl) (notFace_of_selects (args := #[]) (mW hZ hw 52 rfl)) (mW hZ hw 52 rfl) (mW hZ hw 51 rfl) (by decide) (backOf (W := 0) (rmBB l Z a0 hw [] b81 b1 (Int32.ofNat sn) (Int32.ofNat en) k1 (flp p1) sn en t_84 kb_84 (([] : List Int32) ++ [c1]) 7 (.ref wi) (.ref wc) (.int (0 : Int32)) (.int (0 : Int32)) T99.heap n0 (by omega) p99_0 p99_1 p99_2 p99_3 p99_4 p99_5 p99_6 p99_7 p99_8 f100 rfl rfl hse hen rfl (by simp only [List.length_append, List.length_cons, List.length_nil, List.length_take, List.length_drop, own_l4]; omega) (by decide) (by omega) (by omega) (by omega) (by omega) (by omega)) hZ (oW hw 53 rfl) (oW hw 4 rfl) (by decide) (by decide)) qn101a qn101c (g := mkF m 173 Ls [(.int (Int32.ofNat en)), (.int (Int32.ofNat sn)), (.ref b1), (.ref b81)]) rfl hLs (Steps.refl _) (argsL := [(.ref b1), (.int (Int32.ofNat sn)), (.int (Int32.ofNat en))]) (rest := []) (lenOf pd_30 rfl) rfl (leq0 rfl) (hD at_173) (fun _ _ => ⟨rfl, rfl, (by decide : 3 + 0 ≤ _), (by decide : 18 + 0 ≤ _)⟩)
     refine Wk.back (n := 176) (rc := 0) (rs := 0) (Q := Q_rmBB Z b81 b1 (Int32.ofNat sn) (Int32.ofNat en) k1 (flp p1) sn en t_84 kb_84 (([] : List Int32) ++ [c1]) 7 (.ref wi) (.ref wc) (.int (0 : Int32)) (.int (0 : Int32)) T99.heap n0) (cl101_ _ (lsok hml rfl)) fun vn101 T101 L101 X101 hQ101 => ?_
     clear cl101_
     obtain ⟨rfl, M101, J101, p101_0, p101_1, p101_2, p101_3, p101_4, p101_5, p101_6, p101_7, p101_8⟩ := hQ101
     have N101 := Fr.app N99 M101
     have sz101 := J101.1
     have K101 := K99.trans J101 (allS (Or.inr (by omega)) (allS (Or.inr (by omega)) all0))
     have lt_p101_0 := ny p101_0.lt
     have lt_p101_8 := ny p101_8.lt
     show Wk p e below _ T101 (mkF m 176 _ [])
     refine Wk.aload X101 hx (hD at_176) (n := 178) rfl rfl rfl ?_
     refine Wk.iload X101 hx (hD at_178) (n := 180) rfl rfl ?_
     obtain ⟨cq102, kq102, qn102a, qn102b, qn102c⟩ := isOf hZ rfl p101_0
     have cl102_ := fun Ls (hLs : LsOk c Ls) => X101.virtualBack hx (y := mn11) (z := mn11) hown (mW hZ hw 24 rfl) (mW hZ hw 25 rfl) (notFace_of_selects (args := #[]) (mW hZ hw 27 rfl)) (mW hZ hw 27 rfl) (mW hZ hw 26 rfl) (by decide) (backOf (W := 0) (rmAB l Z a0 hw [] b81 c2 t_84 kb_84 ((([] : List Int32) ++ [c1]) ++ (((flp p1).drop sn).take (en - sn))) 7 (.ref wi) (.ref wc) (.int (0 : Int32)) (.int (0 : Int32)) T101.heap n0 (by omega) p101_0 p101_1 p101_2 p101_3 p101_4 p101_5 p101_6 p101_7 p101_8 r_c2.2 (by simp only [List.length_append, List.length_cons, List.length_nil, List.length_take, List.length_drop, own_l4]; omega) (by decide) (by omega) (by omega) (by omega)) hZ (oW hw 28 rfl) (oW hw 4 rfl) (by decide) (by decide)) qn102a qn102c (g := mkF m 180 Ls [(.int c2), (.ref b81)]) rfl hLs (Steps.refl _) (argsL := [(.int c2)]) (rest := []) (lenOf pd_0 rfl) rfl (leq0 rfl) (hD at_180) (fun _ _ => ⟨rfl, rfl, (by decide : 3 + 0 ≤ _), (by decide : 18 + 0 ≤ _)⟩)
     refine Wk.back (n := 183) (rc := 0) (rs := 0) (Q := Q_rmAB Z b81 c2 t_84 kb_84 ((([] : List Int32) ++ [c1]) ++ (((flp p1).drop sn).take (en - sn))) 7 (.ref wi) (.ref wc) (.int (0 : Int32)) (.int (0 : Int32)) T101.heap n0) (cl102_ _ (lsok hml rfl)) fun vn102 T102 L102 X102 hQ102 => ?_
     clear cl102_
     obtain ⟨rfl, M102, J102, p102_0, p102_1, p102_2, p102_3, p102_4, p102_5, p102_6, p102_7, p102_8⟩ := hQ102
     have N102 := Fr.app N101 M102
     have sz102 := J102.1
     have K102 := K101.trans J102 (allS (Or.inr (by omega)) (allS (Or.inr (by omega)) all0))
     have lt_p102_0 := ny p102_0.lt
     have lt_p102_8 := ny p102_8.lt
     show Wk p e below _ T102 (mkF m 183 _ [(.int (1 : Int32))])
     refine Wk.pop X102 hx (hD at_183) (n := 184) rfl rfl ?_
     refine Wk.aload X102 hx (hD at_184) (n := 186) rfl rfl rfl ?_
     have f103 := ((((f83.keep J84 (allS (by omega) all0)).keep J99 (allS (by omega) (allS (by omega) all0))).keep J101 (allS (by omega) (allS (by omega) all0))).keep J102 (allS (by omega) (allS (by omega) all0)))
     have f104 := Ai.ext f103.2
     have f105 := Ei.ext f103.2
     have f106 := Ac.ext f103.2
     have f107 := Ec.ext f103.2
     obtain ⟨cq108, kq108, qn108a, qn108b, qn108c⟩ := isOf hZ rfl p102_0
     have cl108_ := fun Ls (hLs : LsOk c Ls) => X102.virtualBack hx (y := mn30) (z := mn30) hown (mW hZ hw 60 rfl) (mW hZ hw 61 rfl) (notFace_of_selects (args := #[]) (mW hZ hw 63 rfl)) (mW hZ hw 63 rfl) (mW hZ hw 62 rfl) (by decide) (backOf (W := 0) (rmBDB l Z a0 hw [] b81 t_84 kb_84 (((([] : List Int32) ++ [c1]) ++ (((flp p1).drop sn).take (en - sn))) ++ [c2]) 7 wi ki ([]) wc kc ([]) (0 : Int32) (.int (0 : Int32)) wso wu zc fm T102.heap n0 (by omega) p102_0 p102_1 p102_2 p102_3 p102_4 p102_5 p102_6 p102_7 p102_8 f104 f105 f106 f107 S4 S6 S7 S5 Es S8 f103 hCS hFM (by simp only [List.length_append, List.length_cons, List.length_nil, List.length_take, List.length_drop, own_l4]; omega) (by simp only [List.length_append, List.length_cons, List.length_nil, List.length_take, List.length_drop, own_l4]; omega) (by decide) hnu (by decide)) hZ (oW hw 64 rfl) (oW hw 4 rfl) (by decide) (by decide)) qn108a qn108c (g := mkF m 186 Ls [(.ref b81)]) rfl hLs (Steps.refl _) (argsL := []) (rest := []) (lenOf pd_31 rfl) rfl (leq0 rfl) (hD at_186) (fun _ _ => ⟨rfl, rfl, (by decide : 3 + 5 ≤ _), (by decide : 18 + 18 ≤ _)⟩)
     refine Wk.back (n := 189) (rc := 5) (rs := 18) (Q := Q_rmBDB Z b81 t_84 kb_84 (((([] : List Int32) ++ [c1]) ++ (((flp p1).drop sn).take (en - sn))) ++ [c2]) 7 wi ki ([]) wc kc ([]) (0 : Int32) (.int (0 : Int32)) wso wu zc fm T102.heap n0) (cl108_ _ (lsok hml rfl)) fun vn108 T108 L108 X108 hQ108 => ?_
     clear cl108_
     obtain ⟨r_108, xs_108, t_108, kb_108, rfl, M108, J108, p108_0, p108_1, p108_2, p108_3, p108_4, p108_5, gr_108, gx_108, gt_108⟩ := hQ108
     have N108 := Fr.app N102 M108
     have sz108 := J108.1
     have K108 := K102.trans J108 (fun x hx => nomatch hx)
     have lt_p108_0 := ny p108_0.lt
     have lt_p108_2 := ny p108_2.lt
     have lt_p108_5 := ny p108_5.lt
     show Wk p e below _ T108 (mkF m 189 _ [(.ref r_108)])
     obtain ⟨cq109, kq109, qn109a, qn109b, qn109c⟩ := isOf hZ rfl p108_0
     have cl109_ := fun Ls (hLs : LsOk c Ls) => X108.virtualBack hx (y := mn29) (z := mn29) hown (mW hZ hw 121 rfl) (mW hZ hw 122 rfl) (notFace_of_selects (args := #[]) (mW hZ hw 124 rfl)) (mW hZ hw 124 rfl) (mW hZ hw 123 rfl) (by decide) (backOf (W := 0) (rmSE l Z a0 hw [] r_108 xs_108 T108.heap n0 (by omega) p108_1) hZ (oW hw 125 rfl) (oW hw 12 rfl) (by decide) (by decide)) qn109a qn109c (g := mkF m 189 Ls [(.ref r_108)]) rfl hLs (Steps.refl _) (argsL := []) (rest := []) (lenOf pd_32 rfl) rfl (leq0 rfl) (hD at_189) (fun _ _ => ⟨rfl, rfl, (by decide : 8 + 0 ≤ _), (by decide : 36 + 0 ≤ _)⟩)
     refine Wk.back (n := 192) (rc := 0) (rs := 0) (Q := Q_rmSE Z r_108 xs_108 T108.heap n0) (cl109_ _ (lsok hml rfl)) fun vn109 T109 L109 X109 hQ109 => ?_
     clear cl109_
     obtain ⟨rfl, M109, e109⟩ := hQ109
     have N109 := Fr.app N108 M109
     show Wk p e below _ T109 (mkF m 192 _ [(.ref xs_108)])
     refine Wk.astore X109 hx (hD at_192) (n := 194) rfl rfl (L' := #[.val (.int p1), .val (.int p2), .val (.int p3), .val (.int p4), .val (.int p5), .val (.int p6), .val (.int (0 : Int32)), .val (.int (1 : Int32)), .val (.int (0 : Int32)), .val (.ref b1), .val (.int (Int32.ofNat sn)), .val (.int (Int32.ofNat en)), .val (.int c1), .val (.int c2), .val (.ref b81), .val (.ref xs_108), .unset, .unset, .unset, .unset]) rfl ?_
     have f110 := (f103.keep J108 all0)
     exact J194 T109 T108.heap _ b81 xs_108 t_108 kb_108 (((([] : List Int32) ++ [c1]) ++ (((flp p1).drop sn).take (en - sn))) ++ [c2]) (X109.mono (by decide) (by decide)) e109 K108 N109 p108_2 p108_3 p108_4 p108_5 f110 (by first | rfl | simp)
   ·
    have hc140_111 : ¬ ((1 : Int32) = (0 : Int32)) := by decide
    refine Wk.ifNo X84 hx (hD at_140) (n := 143) rfl ((if0 _ _).trans (feq hc140_111).1) ?_
    refine Wk.aload X84 hx (hD at_143) (n := 145) rfl rfl rfl ?_
    refine Wk.sipush X84 hx (hD at_145) (n := 148) rfl (z := (256 : Int32)) rfl ?_
    have f112 := (f83.keep J84 (allS (by omega) all0))
    obtain ⟨cq113, kq113, qn113a, qn113b, qn113c⟩ := isOf hZ rfl p84_0
    have cl113_ := fun Ls (hLs : LsOk c Ls) => X84.virtualBack hx (y := mn11) (z := mn11) hown (mW hZ hw 24 rfl) (mW hZ hw 25 rfl) (notFace_of_selects (args := #[]) (mW hZ hw 27 rfl)) (mW hZ hw 27 rfl) (mW hZ hw 26 rfl) (by decide) (backOf (W := 0) (rmAW l Z a0 hw [] b81 t_84 kb_84 wi wc T84.heap n0 (by omega) p84_0 p84_1 p84_2 p84_3 p84_4 p84_5 p84_6 p84_7 p84_8 S1 S2 f112 (by omega)) hZ (oW hw 28 rfl) (oW hw 4 rfl) (by decide) (by decide)) qn113a qn113c (g := mkF m 148 Ls [(.int (256 : Int32)), (.ref b81)]) rfl hLs (Steps.refl _) (argsL := [(.int (256 : Int32))]) (rest := []) (lenOf pd_0 rfl) rfl (leq0 rfl) (hD at_148) (fun _ _ => ⟨rfl, rfl, (by decide : 3 + 1 ≤ _), (by decide : 18 + 7 ≤ _)⟩)
    refine Wk.back (n := 151) (rc := 1) (rs := 7) (Q := Q_rmAW Z b81 t_84 kb_84 wi wc T84.heap n0) (cl113_ _ (lsok hml rfl)) fun vn113 T113 L113 X113 hQ113 => ?_
    clear cl113_
    obtain ⟨t_113, kb_113, rfl, M113, J113, p113_0, p113_1, p113_2, p113_3, p113_4, p113_5, p113_6, p113_7, p113_8, gt_113⟩ := hQ113
    have N113 := Fr.app N84 M113
    have sz113 := J113.1
    have K113 := K84.trans J113 (allS (Or.inr (by omega)) all0)
    have lt_p113_0 := ny p113_0.lt
    have lt_p113_8 := ny p113_8.lt
    show Wk p e below _ T113 (mkF m 151 _ [(.int (0 : Int32))])
    refine Wk.pop X113 hx (hD at_151) (n := 152) rfl rfl ?_
    refine Wk.iload X113 hx (hD at_152) (n := 154) rfl rfl ?_
    rcases h7 with rfl | rfl
    ·
     have hc154_114 : (0 : Int32) = (0 : Int32) := rfl
     refine Wk.ifYes X113 hx (hD at_154) ((if0 _ _).trans (teq hc154_114).1) (by decide) (n := 165) (by decide) ?_
     refine Wk.aload X113 hx (hD at_165) (n := 167) rfl rfl rfl ?_
     refine Wk.aload X113 hx (hD at_167) (n := 169) rfl rfl rfl ?_
     refine Wk.iload X113 hx (hD at_169) (n := 171) rfl rfl ?_
     refine Wk.iload X113 hx (hD at_171) (n := 173) rfl rfl ?_
     have f115 := (((Un5.ext Ex81).keep J84 (ninS (nz (by omega)) nin0)).keep J113 (ninS (nz (by omega)) nin0))
     obtain ⟨cq116, kq116, qn116a, qn116b, qn116c⟩ := isOf hZ rfl p113_0
     have cl116_ := fun Ls (hLs : LsOk c Ls) => X113.virtualBack hx (y := mn12) (z := mn12) hown (mW hZ hw 49 rfl) (mW hZ hw 50 rfl) (notFace_of_selects (args := #[]) (mW hZ hw 52 rfl)) (mW hZ hw 52 rfl) (mW hZ hw 51 rfl) (by decide) (backOf (W := 0) (rmBC l Z a0 hw [] b81 b1 (Int32.ofNat sn) (Int32.ofNat en) k1 (flp p1) sn en t_113 kb_113 ([] : List Int32) 7 (.ref wi) (.ref wc) (.int (0 : Int32)) (.int (0 : Int32)) .null T113.heap n0 (by omega) p113_0 p113_1 p113_2 p113_3 p113_4 p113_5 p113_6 p113_7 p113_8 f115 (own_flr p1) rfl rfl hse hen rfl (by simp only [List.length_append, List.length_cons, List.length_nil, List.length_take, List.length_drop, own_l4]; omega) (by decide) (by omega) (by omega) (by omega) (by omega) (by omega)) hZ (oW hw 53 rfl) (oW hw 4 rfl) (by decide) (by decide)) qn116a qn116c (g := mkF m 173 Ls [(.int (Int32.ofNat en)), (.int (Int32.ofNat sn)), (.ref b1), (.ref b81)]) rfl hLs (Steps.refl _) (argsL := [(.ref b1), (.int (Int32.ofNat sn)), (.int (Int32.ofNat en))]) (rest := []) (lenOf pd_30 rfl) rfl (leq0 rfl) (hD at_173) (fun _ _ => ⟨rfl, rfl, (by decide : 4 + 0 ≤ _), (by decide : 25 + 0 ≤ _)⟩)
     refine Wk.back (n := 176) (rc := 0) (rs := 0) (Q := Q_rmBC Z b81 b1 (Int32.ofNat sn) (Int32.ofNat en) k1 (flp p1) sn en t_113 kb_113 ([] : List Int32) 7 (.ref wi) (.ref wc) (.int (0 : Int32)) (.int (0 : Int32)) .null T113.heap n0) (cl116_ _ (lsok hml rfl)) fun vn116 T116 L116 X116 hQ116 => ?_
     clear cl116_
     obtain ⟨rfl, M116, J116, p116_0, p116_1, p116_2, p116_3, p116_4, p116_5, p116_6, p116_7, p116_8⟩ := hQ116
     have N116 := Fr.app N113 M116
     have sz116 := J116.1
     have K116 := K113.trans J116 (allS (Or.inr (by omega)) (allS (Or.inr (by omega)) all0))
     have lt_p116_0 := ny p116_0.lt
     have lt_p116_8 := ny p116_8.lt
     show Wk p e below _ T116 (mkF m 176 _ [])
     refine Wk.aload X116 hx (hD at_176) (n := 178) rfl rfl rfl ?_
     refine Wk.iload X116 hx (hD at_178) (n := 180) rfl rfl ?_
     obtain ⟨cq117, kq117, qn117a, qn117b, qn117c⟩ := isOf hZ rfl p116_0
     have cl117_ := fun Ls (hLs : LsOk c Ls) => X116.virtualBack hx (y := mn11) (z := mn11) hown (mW hZ hw 24 rfl) (mW hZ hw 25 rfl) (notFace_of_selects (args := #[]) (mW hZ hw 27 rfl)) (mW hZ hw 27 rfl) (mW hZ hw 26 rfl) (by decide) (backOf (W := 0) (rmAC l Z a0 hw [] b81 c2 t_113 kb_113 (([] : List Int32) ++ (((flp p1).drop sn).take (en - sn))) 7 (.ref wi) (.ref wc) (.int (0 : Int32)) (.int (0 : Int32)) .null T116.heap n0 (by omega) p116_0 p116_1 p116_2 p116_3 p116_4 p116_5 p116_6 p116_7 p116_8 (own_256 r_c2) (by simp only [List.length_append, List.length_cons, List.length_nil, List.length_take, List.length_drop, own_l4]; omega) (by decide) (by omega) (by omega) (by omega)) hZ (oW hw 28 rfl) (oW hw 4 rfl) (by decide) (by decide)) qn117a qn117c (g := mkF m 180 Ls [(.int c2), (.ref b81)]) rfl hLs (Steps.refl _) (argsL := [(.int c2)]) (rest := []) (lenOf pd_0 rfl) rfl (leq0 rfl) (hD at_180) (fun _ _ => ⟨rfl, rfl, (by decide : 4 + 0 ≤ _), (by decide : 25 + 0 ≤ _)⟩)
     refine Wk.back (n := 183) (rc := 0) (rs := 0) (Q := Q_rmAC Z b81 c2 t_113 kb_113 (([] : List Int32) ++ (((flp p1).drop sn).take (en - sn))) 7 (.ref wi) (.ref wc) (.int (0 : Int32)) (.int (0 : Int32)) .null T116.heap n0) (cl117_ _ (lsok hml rfl)) fun vn117 T117 L117 X117 hQ117 => ?_
     clear cl117_
     obtain ⟨rfl, M117, J117, p117_0, p117_1, p117_2, p117_3, p117_4, p117_5, p117_6, p117_7, p117_8⟩ := hQ117
     have N117 := Fr.app N116 M117
     have sz117 := J117.1
     have K117 := K116.trans J117 (allS (Or.inr (by omega)) (allS (Or.inr (by omega)) all0))
     have lt_p117_0 := ny p117_0.lt
     have lt_p117_8 := ny p117_8.lt
     show Wk p e below _ T117 (mkF m 183 _ [(.int (1 : Int32))])
     refine Wk.pop X117 hx (hD at_183) (n := 184) rfl rfl ?_
     refine Wk.aload X117 hx (hD at_184) (n := 186) rfl rfl rfl ?_
     have hpw : ∀ c ∈ ((([] : List Int32) ++ (((flp p1).drop sn).take (en - sn))) ++ [c2]), ¬ c < 0 ∧ ¬ (255 : Int32) < c := by simp only [List.mem_append, List.mem_singleton, List.not_mem_nil, false_or]; rintro c (h | rfl) <;> first | exact own_flr p1 _ (List.mem_of_mem_drop (List.mem_of_mem_take h)) | exact r_c1 | exact r_c2
     have f118 := (((f112.keep J113 (allS (by omega) all0)).keep J116 (allS (by omega) (allS (by omega) all0))).keep J117 (allS (by omega) (allS (by omega) all0)))
     obtain ⟨cq119, kq119, qn119a, qn119b, qn119c⟩ := isOf hZ rfl p117_0
     have cl119_ := fun Ls (hLs : LsOk c Ls) => X117.virtualBack hx (y := mn30) (z := mn30) hown (mW hZ hw 60 rfl) (mW hZ hw 61 rfl) (notFace_of_selects (args := #[]) (mW hZ hw 63 rfl)) (mW hZ hw 63 rfl) (mW hZ hw 62 rfl) (by decide) (backOf (W := 0) (rmBDC l Z a0 hw [] b81 t_113 kb_113 ((([] : List Int32) ++ (((flp p1).drop sn).take (en - sn))) ++ [c2]) 7 zc fm wi wc T117.heap n0 (by omega) p117_5 p117_7 p117_8 S4 S5 S1 S2 f118 hCS hFM (by simp only [List.length_append, List.length_cons, List.length_nil, List.length_take, List.length_drop, own_l4]; omega) hpw (by simp only [List.length_append, List.length_cons, List.length_nil, List.length_take, List.length_drop, own_l4]; omega) (by decide)) hZ (oW hw 64 rfl) (oW hw 4 rfl) (by decide) (by decide)) qn119a qn119c (g := mkF m 186 Ls [(.ref b81)]) rfl hLs (Steps.refl _) (argsL := []) (rest := []) (lenOf pd_31 rfl) rfl (leq0 rfl) (hD at_186) (fun _ _ => ⟨rfl, rfl, (by decide : 4 + 3 ≤ _), (by decide : 25 + 16 ≤ _)⟩)
     refine Wk.back (n := 189) (rc := 3) (rs := 16) (Q := Q_rmBDC Z b81 t_113 kb_113 ((([] : List Int32) ++ (((flp p1).drop sn).take (en - sn))) ++ [c2]) 7 zc fm wi wc T117.heap n0) (cl119_ _ (lsok hml rfl)) fun vn119 T119 L119 X119 hQ119 => ?_
     clear cl119_
     obtain ⟨r_119, xs_119, t_119, kb_119, rfl, M119, J119, p119_0, p119_1, p119_2, p119_3, p119_4, p119_5, gr_119, gx_119, gt_119⟩ := hQ119
     have N119 := Fr.app N117 M119
     have sz119 := J119.1
     have K119 := K117.trans J119 (fun x hx => nomatch hx)
     have lt_p119_0 := ny p119_0.lt
     have lt_p119_2 := ny p119_2.lt
     have lt_p119_5 := ny p119_5.lt
     show Wk p e below _ T119 (mkF m 189 _ [(.ref r_119)])
     obtain ⟨cq120, kq120, qn120a, qn120b, qn120c⟩ := isOf hZ rfl p119_0
     have cl120_ := fun Ls (hLs : LsOk c Ls) => X119.virtualBack hx (y := mn29) (z := mn29) hown (mW hZ hw 121 rfl) (mW hZ hw 122 rfl) (notFace_of_selects (args := #[]) (mW hZ hw 124 rfl)) (mW hZ hw 124 rfl) (mW hZ hw 123 rfl) (by decide) (backOf (W := 0) (rmSE l Z a0 hw [] r_119 xs_119 T119.heap n0 (by omega) p119_1) hZ (oW hw 125 rfl) (oW hw 12 rfl) (by decide) (by decide)) qn120a qn120c (g := mkF m 189 Ls [(.ref r_119)]) rfl hLs (Steps.refl _) (argsL := []) (rest := []) (lenOf pd_32 rfl) rfl (leq0 rfl) (hD at_189) (fun _ _ => ⟨rfl, rfl, (by decide : 7 + 0 ≤ _), (by decide : 41 + 0 ≤ _)⟩)
     refine Wk.back (n := 192) (rc := 0) (rs := 0) (Q := Q_rmSE Z r_119 xs_119 T119.heap n0) (cl120_ _ (lsok hml rfl)) fun vn120 T120 L120 X120 hQ120 => ?_
     clear cl120_
     obtain ⟨rfl, M120, e120⟩ := hQ120
     have N120 := Fr.app N119 M120
     show Wk p e below _ T120 (mkF m 192 _ [(.ref xs_119)])
     refine Wk.astore X120 hx (hD at_192) (n := 194) rfl rfl (L' := #[.val (.int p1), .val (.int p2), .val (.int p3), .val (.int p4), .val (.int p5), .val (.int p6), .val (.int (1 : Int32)), .val (.int (0 : Int32)), .val (.int (0 : Int32)), .val (.ref b1), .val (.int (Int32.ofNat sn)), .val (.int (Int32.ofNat en)), .val (.int c1), .val (.int c2), .val (.ref b81), .val (.ref xs_119), .unset, .unset, .unset, .unset]) rfl ?_
     have f121 := (f118.keep J119 all0)
     exact J194 T120 T119.heap _ b81 xs_119 t_119 kb_119 ((([] : List Int32) ++ (((flp p1).drop sn).take (en - sn))) ++ [c2]) (X120.mono (by decide) (by decide)) e120 K119 N120 p119_2 p119_3 p119_4 p119_5 f121 (by first | rfl | simp)
    ·
     have hc154_122 : ¬ ((1 : Int32) = (0 : Int32)) := by decide
     refine Wk.ifNo X113 hx (hD at_154) (n := 157) rfl ((if0 _ _).trans (feq hc154_122).1) ?_
     refine Wk.aload X113 hx (hD at_157) (n := 159) rfl rfl rfl ?_
     refine Wk.iload X113 hx (hD at_159) (n := 161) rfl rfl ?_
     obtain ⟨cq123, kq123, qn123a, qn123b, qn123c⟩ := isOf hZ rfl p113_0
     have cl123_ := fun Ls (hLs : LsOk c Ls) => X113.virtualBack hx (y := mn11) (z := mn11) hown (mW hZ hw 24 rfl) (mW hZ hw 25 rfl) (notFace_of_selects (args := #[]) (mW hZ hw 27 rfl)) (mW hZ hw 27 rfl) (mW hZ hw 26 rfl) (by decide) (backOf (W := 0) (rmAC l Z a0 hw [] b81 c1 t_113 kb_113 ([] : List Int32) 7 (.ref wi) (.ref wc) (.int (0 : Int32)) (.int (0 : Int32)) .null T113.heap n0 (by omega) p113_0 p113_1 p113_2 p113_3 p113_4 p113_5 p113_6 p113_7 p113_8 (own_256 r_c1) (by simp only [List.length_append, List.length_cons, List.length_nil, List.length_take, List.length_drop, own_l4]; omega) (by decide) (by omega) (by omega) (by omega)) hZ (oW hw 28 rfl) (oW hw 4 rfl) (by decide) (by decide)) qn123a qn123c (g := mkF m 161 Ls [(.int c1), (.ref b81)]) rfl hLs (Steps.refl _) (argsL := [(.int c1)]) (rest := []) (lenOf pd_0 rfl) rfl (leq0 rfl) (hD at_161) (fun _ _ => ⟨rfl, rfl, (by decide : 4 + 0 ≤ _), (by decide : 25 + 0 ≤ _)⟩)
     refine Wk.back (n := 164) (rc := 0) (rs := 0) (Q := Q_rmAC Z b81 c1 t_113 kb_113 ([] : List Int32) 7 (.ref wi) (.ref wc) (.int (0 : Int32)) (.int (0 : Int32)) .null T113.heap n0) (cl123_ _ (lsok hml rfl)) fun vn123 T123 L123 X123 hQ123 => ?_
     clear cl123_
     obtain ⟨rfl, M123, J123, p123_0, p123_1, p123_2, p123_3, p123_4, p123_5, p123_6, p123_7, p123_8⟩ := hQ123
     have N123 := Fr.app N113 M123
     have sz123 := J123.1
     have K123 := K113.trans J123 (allS (Or.inr (by omega)) (allS (Or.inr (by omega)) all0))
     have lt_p123_0 := ny p123_0.lt
     have lt_p123_8 := ny p123_8.lt
     show Wk p e below _ T123 (mkF m 164 _ [(.int (1 : Int32))])
     refine Wk.pop X123 hx (hD at_164) (n := 165) rfl rfl ?_
     refine Wk.aload X123 hx (hD at_165) (n := 167) rfl rfl rfl ?_
     refine Wk.aload X123 hx (hD at_167) (n := 169) rfl rfl rfl ?_
     refine Wk.iload X123 hx (hD at_169) (n := 171) rfl rfl ?_
     refine Wk.iload X123 hx (hD at_171) (n := 173) rfl rfl ?_
     have f124 := ((((Un5.ext Ex81).keep J84 (ninS (nz (by omega)) nin0)).keep J113 (ninS (nz (by omega)) nin0)).keep J123 (ninS (nz (by omega)) (ninS (nz (by omega)) nin0)))
     obtain ⟨cq125, kq125, qn125a, qn125b, qn125c⟩ := isOf hZ rfl p123_0
     have cl125_ := fun Ls (hLs : LsOk c Ls) => X123.virtualBack hx (y := mn12) (z := mn12) hown (mW hZ hw 49 rfl) (mW hZ hw 50 rfl) (notFace_of_selects (args := #[]) (mW hZ hw 52 rfl)) (mW hZ hw 52 rfl) (mW hZ hw 51 rfl) (by decide) (backOf (W := 0) (rmBC l Z a0 hw [] b81 b1 (Int32.ofNat sn) (Int32.ofNat en) k1 (flp p1) sn en t_113 kb_113 (([] : List Int32) ++ [c1]) 7 (.ref wi) (.ref wc) (.int (0 : Int32)) (.int (0 : Int32)) .null T123.heap n0 (by omega) p123_0 p123_1 p123_2 p123_3 p123_4 p123_5 p123_6 p123_7 p123_8 f124 (own_flr p1) rfl rfl hse hen rfl (by simp only [List.length_append, List.length_cons, List.length_nil, List.length_take, List.length_drop, own_l4]; omega) (by decide) (by omega) (by omega) (by omega) (by omega) (by omega)) hZ (oW hw 53 rfl) (oW hw 4 rfl) (by decide) (by decide)) qn125a qn125c (g := mkF m 173 Ls [(.int (Int32.ofNat en)), (.int (Int32.ofNat sn)), (.ref b1), (.ref b81)]) rfl hLs (Steps.refl _) (argsL := [(.ref b1), (.int (Int32.ofNat sn)), (.int (Int32.ofNat en))]) (rest := []) (lenOf pd_30 rfl) rfl (leq0 rfl) (hD at_173) (fun _ _ => ⟨rfl, rfl, (by decide : 4 + 0 ≤ _), (by decide : 25 + 0 ≤ _)⟩)
     refine Wk.back (n := 176) (rc := 0) (rs := 0) (Q := Q_rmBC Z b81 b1 (Int32.ofNat sn) (Int32.ofNat en) k1 (flp p1) sn en t_113 kb_113 (([] : List Int32) ++ [c1]) 7 (.ref wi) (.ref wc) (.int (0 : Int32)) (.int (0 : Int32)) .null T123.heap n0) (cl125_ _ (lsok hml rfl)) fun vn125 T125 L125 X125 hQ125 => ?_
     clear cl125_
     obtain ⟨rfl, M125, J125, p125_0, p125_1, p125_2, p125_3, p125_4, p125_5, p125_6, p125_7, p125_8⟩ := hQ125
     have N125 := Fr.app N123 M125
     have sz125 := J125.1
     have K125 := K123.trans J125 (allS (Or.inr (by omega)) (allS (Or.inr (by omega)) all0))
     have lt_p125_0 := ny p125_0.lt
     have lt_p125_8 := ny p125_8.lt
     show Wk p e below _ T125 (mkF m 176 _ [])
     refine Wk.aload X125 hx (hD at_176) (n := 178) rfl rfl rfl ?_
     refine Wk.iload X125 hx (hD at_178) (n := 180) rfl rfl ?_
     obtain ⟨cq126, kq126, qn126a, qn126b, qn126c⟩ := isOf hZ rfl p125_0
     have cl126_ := fun Ls (hLs : LsOk c Ls) => X125.virtualBack hx (y := mn11) (z := mn11) hown (mW hZ hw 24 rfl) (mW hZ hw 25 rfl) (notFace_of_selects (args := #[]) (mW hZ hw 27 rfl)) (mW hZ hw 27 rfl) (mW hZ hw 26 rfl) (by decide) (backOf (W := 0) (rmAC l Z a0 hw [] b81 c2 t_113 kb_113 ((([] : List Int32) ++ [c1]) ++ (((flp p1).drop sn).take (en - sn))) 7 (.ref wi) (.ref wc) (.int (0 : Int32)) (.int (0 : Int32)) .null T125.heap n0 (by omega) p125_0 p125_1 p125_2 p125_3 p125_4 p125_5 p125_6 p125_7 p125_8 (own_256 r_c2) (by simp only [List.length_append, List.length_cons, List.length_nil, List.length_take, List.length_drop, own_l4]; omega) (by decide) (by omega) (by omega) (by omega)) hZ (oW hw 28 rfl) (oW hw 4 rfl) (by decide) (by decide)) qn126a qn126c (g := mkF m 180 Ls [(.int c2), (.ref b81)]) rfl hLs (Steps.refl _) (argsL := [(.int c2)]) (rest := []) (lenOf pd_0 rfl) rfl (leq0 rfl) (hD at_180) (fun _ _ => ⟨rfl, rfl, (by decide : 4 + 0 ≤ _), (by decide : 25 + 0 ≤ _)⟩)
     refine Wk.back (n := 183) (rc := 0) (rs := 0) (Q := Q_rmAC Z b81 c2 t_113 kb_113 ((([] : List Int32) ++ [c1]) ++ (((flp p1).drop sn).take (en - sn))) 7 (.ref wi) (.ref wc) (.int (0 : Int32)) (.int (0 : Int32)) .null T125.heap n0) (cl126_ _ (lsok hml rfl)) fun vn126 T126 L126 X126 hQ126 => ?_
     clear cl126_
     obtain ⟨rfl, M126, J126, p126_0, p126_1, p126_2, p126_3, p126_4, p126_5, p126_6, p126_7, p126_8⟩ := hQ126
     have N126 := Fr.app N125 M126
     have sz126 := J126.1
     have K126 := K125.trans J126 (allS (Or.inr (by omega)) (allS (Or.inr (by omega)) all0))
     have lt_p126_0 := ny p126_0.lt
     have lt_p126_8 := ny p126_8.lt
     show Wk p e below _ T126 (mkF m 183 _ [(.int (1 : Int32))])
     refine Wk.pop X126 hx (hD at_183) (n := 184) rfl rfl ?_
     refine Wk.aload X126 hx (hD at_184) (n := 186) rfl rfl rfl ?_
     have hpw : ∀ c ∈ (((([] : List Int32) ++ [c1]) ++ (((flp p1).drop sn).take (en - sn))) ++ [c2]), ¬ c < 0 ∧ ¬ (255 : Int32) < c := by simp only [List.mem_append, List.mem_singleton, List.not_mem_nil, false_or]; rintro c ((rfl | h) | rfl) <;> first | exact own_flr p1 _ (List.mem_of_mem_drop (List.mem_of_mem_take h)) | exact r_c1 | exact r_c2
     have f127 := ((((f112.keep J113 (allS (by omega) all0)).keep J123 (allS (by omega) (allS (by omega) all0))).keep J125 (allS (by omega) (allS (by omega) all0))).keep J126 (allS (by omega) (allS (by omega) all0)))
     obtain ⟨cq128, kq128, qn128a, qn128b, qn128c⟩ := isOf hZ rfl p126_0
     have cl128_ := fun Ls (hLs : LsOk c Ls) => X126.virtualBack hx (y := mn30) (z := mn30) hown (mW hZ hw 60 rfl) (mW hZ hw 61 rfl) (notFace_of_selects (args := #[]) (mW hZ hw 63 rfl)) (mW hZ hw 63 rfl) (mW hZ hw 62 rfl) (by decide) (backOf (W := 0) (rmBDC l Z a0 hw [] b81 t_113 kb_113 (((([] : List Int32) ++ [c1]) ++ (((flp p1).drop sn).take (en - sn))) ++ [c2]) 7 zc fm wi wc T126.heap n0 (by omega) p126_5 p126_7 p126_8 S4 S5 S1 S2 f127 hCS hFM (by simp only [List.length_append, List.length_cons, List.length_nil, List.length_take, List.length_drop, own_l4]; omega) hpw (by simp only [List.length_append, List.length_cons, List.length_nil, List.length_take, List.length_drop, own_l4]; omega) (by decide)) hZ (oW hw 64 rfl) (oW hw 4 rfl) (by decide) (by decide)) qn128a qn128c (g := mkF m 186 Ls [(.ref b81)]) rfl hLs (Steps.refl _) (argsL := []) (rest := []) (lenOf pd_31 rfl) rfl (leq0 rfl) (hD at_186) (fun _ _ => ⟨rfl, rfl, (by decide : 4 + 3 ≤ _), (by decide : 25 + 16 ≤ _)⟩)
     refine Wk.back (n := 189) (rc := 3) (rs := 16) (Q := Q_rmBDC Z b81 t_113 kb_113 (((([] : List Int32) ++ [c1]) ++ (((flp p1).drop sn).take (en - sn))) ++ [c2]) 7 zc fm wi wc T126.heap n0) (cl128_ _ (lsok hml rfl)) fun vn128 T128 L128 X128 hQ128 => ?_
     clear cl128_
     obtain ⟨r_128, xs_128, t_128, kb_128, rfl, M128, J128, p128_0, p128_1, p128_2, p128_3, p128_4, p128_5, gr_128, gx_128, gt_128⟩ := hQ128
     have N128 := Fr.app N126 M128
     have sz128 := J128.1
     have K128 := K126.trans J128 (fun x hx => nomatch hx)
     have lt_p128_0 := ny p128_0.lt
     have lt_p128_2 := ny p128_2.lt
     have lt_p128_5 := ny p128_5.lt
     show Wk p e below _ T128 (mkF m 189 _ [(.ref r_128)])
     obtain ⟨cq129, kq129, qn129a, qn129b, qn129c⟩ := isOf hZ rfl p128_0
     have cl129_ := fun Ls (hLs : LsOk c Ls) => X128.virtualBack hx (y := mn29) (z := mn29) hown (mW hZ hw 121 rfl) (mW hZ hw 122 rfl) (notFace_of_selects (args := #[]) (mW hZ hw 124 rfl)) (mW hZ hw 124 rfl) (mW hZ hw 123 rfl) (by decide) (backOf (W := 0) (rmSE l Z a0 hw [] r_128 xs_128 T128.heap n0 (by omega) p128_1) hZ (oW hw 125 rfl) (oW hw 12 rfl) (by decide) (by decide)) qn129a qn129c (g := mkF m 189 Ls [(.ref r_128)]) rfl hLs (Steps.refl _) (argsL := []) (rest := []) (lenOf pd_32 rfl) rfl (leq0 rfl) (hD at_189) (fun _ _ => ⟨rfl, rfl, (by decide : 7 + 0 ≤ _), (by decide : 41 + 0 ≤ _)⟩)
     refine Wk.back (n := 192) (rc := 0) (rs := 0) (Q := Q_rmSE Z r_128 xs_128 T128.heap n0) (cl129_ _ (lsok hml rfl)) fun vn129 T129 L129 X129 hQ129 => ?_
     clear cl129_
     obtain ⟨rfl, M129, e129⟩ := hQ129
     have N129 := Fr.app N128 M129
     show Wk p e below _ T129 (mkF m 192 _ [(.ref xs_128)])
     refine Wk.astore X129 hx (hD at_192) (n := 194) rfl rfl (L' := #[.val (.int p1), .val (.int p2), .val (.int p3), .val (.int p4), .val (.int p5), .val (.int p6), .val (.int (1 : Int32)), .val (.int (1 : Int32)), .val (.int (0 : Int32)), .val (.ref b1), .val (.int (Int32.ofNat sn)), .val (.int (Int32.ofNat en)), .val (.int c1), .val (.int c2), .val (.ref b81), .val (.ref xs_128), .unset, .unset, .unset, .unset]) rfl ?_
     have f130 := (f127.keep J128 all0)
     exact J194 T129 T128.heap _ b81 xs_128 t_128 kb_128 (((([] : List Int32) ++ [c1]) ++ (((flp p1).drop sn).take (en - sn))) ++ [c2]) (X129.mono (by decide) (by decide)) e129 K128 N129 p128_2 p128_3 p128_4 p128_5 f130 (by first | rfl | simp)
  ·
   have hc123_131 : ¬ ((1 : Int32) = (0 : Int32)) := by decide
   refine Wk.ifNo X81 hx (hD at_123) (n := 126) rfl ((if0 _ _).trans (feq hc123_131).1) ?_
   refine Wk.bipush X81 hx (hD at_126) (n := 128) rfl (z := (8 : Int32)) rfl ?_
   refine Wk.goto X81 hx (hD at_128) (by decide) (n := 133) (by decide) ?_
   have f132 := ((((((O1.ext Ex1).wr Wn2 (by omega)).wr Wn3 (by omega)).wr Wn4 (by omega)).wr Wn5 (by omega)).ext Ex81)
   have cl133_ := fun Ls (hLs : LsOk c Ls) => X81.specialBack hx (y := mn1) rfl hown (mW hZ hw 5 rfl) (mW hZ hw 6 rfl) (mW hZ hw 7 rfl) (by decide) (backOf (W := 1) (rmBI8 l Z a0 hw [] b81 wi wc H81 n0 (by omega) An81 Fn81_asideAt Fn81_aside Fn81_bytes Fn81_asideLimit Fn81_chars Fn81_asideCount Fn81_length S1 S2 f132 (by omega)) hZ (oW hw 7 rfl) (oW hw 4 rfl) (by decide) (by decide)) (g := mkF m 133 Ls [(.int (8 : Int32)), (.ref b81), (.ref b81)]) rfl hLs (Steps.refl _) (a := b81) (argsL := [(.int (8 : Int32))]) (rest := [(.ref b81)]) (lenOf pd_29 rfl) rfl (leq0 rfl) (hD at_133) (fun _ _ => ⟨rfl, e81, (by decide : 2 + 1 ≤ _), (by decide : 11 + 8 ≤ _)⟩)
   refine Wk.back (n := 136) (rc := 1) (rs := 8) (Q := Q_rmBI8 Z b81 wi wc H81 n0) (cl133_ _ (lsok hml rfl)) fun vn133 T133 L133 X133 hQ133 => ?_
   clear cl133_
   obtain ⟨t_133, kb_133, rfl, M133, J133, p133_0, p133_1, p133_2, p133_3, p133_4, p133_5, p133_6, p133_7, p133_8, gt_133⟩ := hQ133
   have N133 := Fr.app N5 M133
   have sz133 := J133.1
   have K133 := K81.trans J133 (allS (Or.inr (by omega)) all0)
   have lt_p133_0 := ny p133_0.lt
   have lt_p133_8 := ny p133_8.lt
   show Wk p e below _ T133 (mkF m 136 _ [(.ref b81)])
   refine Wk.astore X133 hx (hD at_136) (n := 138) rfl rfl (L' := #[.val (.int p1), .val (.int p2), .val (.int p3), .val (.int p4), .val (.int p5), .val (.int p6), .val (.int z6), .val (.int z7), .val (.int (1 : Int32)), .val (.ref b1), .val (.int (Int32.ofNat sn)), .val (.int (Int32.ofNat en)), .val (.int c1), .val (.int c2), .val (.ref b81), .unset, .unset, .unset, .unset, .unset]) rfl ?_
   refine Wk.iload X133 hx (hD at_138) (n := 140) rfl rfl ?_
   rcases h6 with rfl | rfl
   ·
    have hc140_134 : (0 : Int32) = (0 : Int32) := rfl
    refine Wk.ifYes X133 hx (hD at_140) ((if0 _ _).trans (teq hc140_134).1) (by decide) (n := 152) (by decide) ?_
    refine Wk.iload X133 hx (hD at_152) (n := 154) rfl rfl ?_
    rcases h7 with rfl | rfl
    ·
     have hc154_135 : (0 : Int32) = (0 : Int32) := rfl
     refine Wk.ifYes X133 hx (hD at_154) ((if0 _ _).trans (teq hc154_135).1) (by decide) (n := 165) (by decide) ?_
     refine Wk.aload X133 hx (hD at_165) (n := 167) rfl rfl rfl ?_
     refine Wk.aload X133 hx (hD at_167) (n := 169) rfl rfl rfl ?_
     refine Wk.iload X133 hx (hD at_169) (n := 171) rfl rfl ?_
     refine Wk.iload X133 hx (hD at_171) (n := 173) rfl rfl ?_
     have f136 := ((Un5.ext Ex81).keep J133 (ninS (nz (by omega)) nin0))
     obtain ⟨cq137, kq137, qn137a, qn137b, qn137c⟩ := isOf hZ rfl p133_0
     have cl137_ := fun Ls (hLs : LsOk c Ls) => X133.virtualBack hx (y := mn12) (z := mn12) hown (mW hZ hw 49 rfl) (mW hZ hw 50 rfl) (notFace_of_selects (args := #[]) (mW hZ hw 52 rfl)) (mW hZ hw 52 rfl) (mW hZ hw 51 rfl) (by decide) (backOf (W := 0) (rmBB l Z a0 hw [] b81 b1 (Int32.ofNat sn) (Int32.ofNat en) k1 (flp p1) sn en t_133 kb_133 ([] : List Int32) 8 (.ref wi) (.ref wc) (.int (1 : Int32)) (.int (0 : Int32)) T133.heap n0 (by omega) p133_0 p133_1 p133_2 p133_3 p133_4 p133_5 p133_6 p133_7 p133_8 f136 rfl rfl hse hen rfl (by simp only [List.length_append, List.length_cons, List.length_nil, List.length_take, List.length_drop, own_l4]; omega) (by decide) (by omega) (by omega) (by omega) (by omega) (by omega)) hZ (oW hw 53 rfl) (oW hw 4 rfl) (by decide) (by decide)) qn137a qn137c (g := mkF m 173 Ls [(.int (Int32.ofNat en)), (.int (Int32.ofNat sn)), (.ref b1), (.ref b81)]) rfl hLs (Steps.refl _) (argsL := [(.ref b1), (.int (Int32.ofNat sn)), (.int (Int32.ofNat en))]) (rest := []) (lenOf pd_30 rfl) rfl (leq0 rfl) (hD at_173) (fun _ _ => ⟨rfl, rfl, (by decide : 3 + 0 ≤ _), (by decide : 19 + 0 ≤ _)⟩)
     refine Wk.back (n := 176) (rc := 0) (rs := 0) (Q := Q_rmBB Z b81 b1 (Int32.ofNat sn) (Int32.ofNat en) k1 (flp p1) sn en t_133 kb_133 ([] : List Int32) 8 (.ref wi) (.ref wc) (.int (1 : Int32)) (.int (0 : Int32)) T133.heap n0) (cl137_ _ (lsok hml rfl)) fun vn137 T137 L137 X137 hQ137 => ?_
     clear cl137_
     obtain ⟨rfl, M137, J137, p137_0, p137_1, p137_2, p137_3, p137_4, p137_5, p137_6, p137_7, p137_8⟩ := hQ137
     have N137 := Fr.app N133 M137
     have sz137 := J137.1
     have K137 := K133.trans J137 (allS (Or.inr (by omega)) (allS (Or.inr (by omega)) all0))
     have lt_p137_0 := ny p137_0.lt
     have lt_p137_8 := ny p137_8.lt
     show Wk p e below _ T137 (mkF m 176 _ [])
     refine Wk.aload X137 hx (hD at_176) (n := 178) rfl rfl rfl ?_
     refine Wk.iload X137 hx (hD at_178) (n := 180) rfl rfl ?_
     obtain ⟨cq138, kq138, qn138a, qn138b, qn138c⟩ := isOf hZ rfl p137_0
     have cl138_ := fun Ls (hLs : LsOk c Ls) => X137.virtualBack hx (y := mn11) (z := mn11) hown (mW hZ hw 24 rfl) (mW hZ hw 25 rfl) (notFace_of_selects (args := #[]) (mW hZ hw 27 rfl)) (mW hZ hw 27 rfl) (mW hZ hw 26 rfl) (by decide) (backOf (W := 0) (rmAB l Z a0 hw [] b81 c2 t_133 kb_133 (([] : List Int32) ++ (((flp p1).drop sn).take (en - sn))) 8 (.ref wi) (.ref wc) (.int (1 : Int32)) (.int (0 : Int32)) T137.heap n0 (by omega) p137_0 p137_1 p137_2 p137_3 p137_4 p137_5 p137_6 p137_7 p137_8 r_c2.2 (by simp only [List.length_append, List.length_cons, List.length_nil, List.length_take, List.length_drop, own_l4]; omega) (by decide) (by omega) (by omega) (by omega)) hZ (oW hw 28 rfl) (oW hw 4 rfl) (by decide) (by decide)) qn138a qn138c (g := mkF m 180 Ls [(.int c2), (.ref b81)]) rfl hLs (Steps.refl _) (argsL := [(.int c2)]) (rest := []) (lenOf pd_0 rfl) rfl (leq0 rfl) (hD at_180) (fun _ _ => ⟨rfl, rfl, (by decide : 3 + 0 ≤ _), (by decide : 19 + 0 ≤ _)⟩)
     refine Wk.back (n := 183) (rc := 0) (rs := 0) (Q := Q_rmAB Z b81 c2 t_133 kb_133 (([] : List Int32) ++ (((flp p1).drop sn).take (en - sn))) 8 (.ref wi) (.ref wc) (.int (1 : Int32)) (.int (0 : Int32)) T137.heap n0) (cl138_ _ (lsok hml rfl)) fun vn138 T138 L138 X138 hQ138 => ?_
     clear cl138_
     obtain ⟨rfl, M138, J138, p138_0, p138_1, p138_2, p138_3, p138_4, p138_5, p138_6, p138_7, p138_8⟩ := hQ138
     have N138 := Fr.app N137 M138
     have sz138 := J138.1
     have K138 := K137.trans J138 (allS (Or.inr (by omega)) (allS (Or.inr (by omega)) all0))
     have lt_p138_0 := ny p138_0.lt
     have lt_p138_8 := ny p138_8.lt
     show Wk p e below _ T138 (mkF m 183 _ [(.int (1 : Int32))])
     refine Wk.pop X138 hx (hD at_183) (n := 184) rfl rfl ?_
     refine Wk.aload X138 hx (hD at_184) (n := 186) rfl rfl rfl ?_
     have f139 := (((f132.keep J133 (allS (by omega) all0)).keep J137 (allS (by omega) (allS (by omega) all0))).keep J138 (allS (by omega) (allS (by omega) all0)))
     have f140 := Ai.ext f139.2
     have f141 := Ei.ext f139.2
     have f142 := Ac.ext f139.2
     have f143 := Ec.ext f139.2
     obtain ⟨cq144, kq144, qn144a, qn144b, qn144c⟩ := isOf hZ rfl p138_0
     have cl144_ := fun Ls (hLs : LsOk c Ls) => X138.virtualBack hx (y := mn30) (z := mn30) hown (mW hZ hw 60 rfl) (mW hZ hw 61 rfl) (notFace_of_selects (args := #[]) (mW hZ hw 63 rfl)) (mW hZ hw 63 rfl) (mW hZ hw 62 rfl) (by decide) (backOf (W := 0) (rmBDB l Z a0 hw [] b81 t_133 kb_133 ((([] : List Int32) ++ (((flp p1).drop sn).take (en - sn))) ++ [c2]) 8 wi ki ([]) wc kc ([]) (0 : Int32) (.int (1 : Int32)) wso wu zc fm T138.heap n0 (by omega) p138_0 p138_1 p138_2 p138_3 p138_4 p138_5 p138_6 p138_7 p138_8 f140 f141 f142 f143 S4 S6 S7 S5 Es S8 f139 hCS hFM (by simp only [List.length_append, List.length_cons, List.length_nil, List.length_take, List.length_drop, own_l4]; omega) (by simp only [List.length_append, List.length_cons, List.length_nil, List.length_take, List.length_drop, own_l4]; omega) (by decide) hnu (by decide)) hZ (oW hw 64 rfl) (oW hw 4 rfl) (by decide) (by decide)) qn144a qn144c (g := mkF m 186 Ls [(.ref b81)]) rfl hLs (Steps.refl _) (argsL := []) (rest := []) (lenOf pd_31 rfl) rfl (leq0 rfl) (hD at_186) (fun _ _ => ⟨rfl, rfl, (by decide : 3 + 5 ≤ _), (by decide : 19 + 18 ≤ _)⟩)
     refine Wk.back (n := 189) (rc := 5) (rs := 18) (Q := Q_rmBDB Z b81 t_133 kb_133 ((([] : List Int32) ++ (((flp p1).drop sn).take (en - sn))) ++ [c2]) 8 wi ki ([]) wc kc ([]) (0 : Int32) (.int (1 : Int32)) wso wu zc fm T138.heap n0) (cl144_ _ (lsok hml rfl)) fun vn144 T144 L144 X144 hQ144 => ?_
     clear cl144_
     obtain ⟨r_144, xs_144, t_144, kb_144, rfl, M144, J144, p144_0, p144_1, p144_2, p144_3, p144_4, p144_5, gr_144, gx_144, gt_144⟩ := hQ144
     have N144 := Fr.app N138 M144
     have sz144 := J144.1
     have K144 := K138.trans J144 (fun x hx => nomatch hx)
     have lt_p144_0 := ny p144_0.lt
     have lt_p144_2 := ny p144_2.lt
     have lt_p144_5 := ny p144_5.lt
     show Wk p e below _ T144 (mkF m 189 _ [(.ref r_144)])
     obtain ⟨cq145, kq145, qn145a, qn145b, qn145c⟩ := isOf hZ rfl p144_0
     have cl145_ := fun Ls (hLs : LsOk c Ls) => X144.virtualBack hx (y := mn29) (z := mn29) hown (mW hZ hw 121 rfl) (mW hZ hw 122 rfl) (notFace_of_selects (args := #[]) (mW hZ hw 124 rfl)) (mW hZ hw 124 rfl) (mW hZ hw 123 rfl) (by decide) (backOf (W := 0) (rmSE l Z a0 hw [] r_144 xs_144 T144.heap n0 (by omega) p144_1) hZ (oW hw 125 rfl) (oW hw 12 rfl) (by decide) (by decide)) qn145a qn145c (g := mkF m 189 Ls [(.ref r_144)]) rfl hLs (Steps.refl _) (argsL := []) (rest := []) (lenOf pd_32 rfl) rfl (leq0 rfl) (hD at_189) (fun _ _ => ⟨rfl, rfl, (by decide : 8 + 0 ≤ _), (by decide : 37 + 0 ≤ _)⟩)
     refine Wk.back (n := 192) (rc := 0) (rs := 0) (Q := Q_rmSE Z r_144 xs_144 T144.heap n0) (cl145_ _ (lsok hml rfl)) fun vn145 T145 L145 X145 hQ145 => ?_
     clear cl145_
     obtain ⟨rfl, M145, e145⟩ := hQ145
     have N145 := Fr.app N144 M145
     show Wk p e below _ T145 (mkF m 192 _ [(.ref xs_144)])
     refine Wk.astore X145 hx (hD at_192) (n := 194) rfl rfl (L' := #[.val (.int p1), .val (.int p2), .val (.int p3), .val (.int p4), .val (.int p5), .val (.int p6), .val (.int (0 : Int32)), .val (.int (0 : Int32)), .val (.int (1 : Int32)), .val (.ref b1), .val (.int (Int32.ofNat sn)), .val (.int (Int32.ofNat en)), .val (.int c1), .val (.int c2), .val (.ref b81), .val (.ref xs_144), .unset, .unset, .unset, .unset]) rfl ?_
     have f146 := (f139.keep J144 all0)
     exact J194 T145 T144.heap _ b81 xs_144 t_144 kb_144 ((([] : List Int32) ++ (((flp p1).drop sn).take (en - sn))) ++ [c2]) (X145.mono (by decide) (by decide)) e145 K144 N145 p144_2 p144_3 p144_4 p144_5 f146 (by first | rfl | simp)
    ·
     have hc154_147 : ¬ ((1 : Int32) = (0 : Int32)) := by decide
     refine Wk.ifNo X133 hx (hD at_154) (n := 157) rfl ((if0 _ _).trans (feq hc154_147).1) ?_
     refine Wk.aload X133 hx (hD at_157) (n := 159) rfl rfl rfl ?_
     refine Wk.iload X133 hx (hD at_159) (n := 161) rfl rfl ?_
     obtain ⟨cq148, kq148, qn148a, qn148b, qn148c⟩ := isOf hZ rfl p133_0
     have cl148_ := fun Ls (hLs : LsOk c Ls) => X133.virtualBack hx (y := mn11) (z := mn11) hown (mW hZ hw 24 rfl) (mW hZ hw 25 rfl) (notFace_of_selects (args := #[]) (mW hZ hw 27 rfl)) (mW hZ hw 27 rfl) (mW hZ hw 26 rfl) (by decide) (backOf (W := 0) (rmAB l Z a0 hw [] b81 c1 t_133 kb_133 ([] : List Int32) 8 (.ref wi) (.ref wc) (.int (1 : Int32)) (.int (0 : Int32)) T133.heap n0 (by omega) p133_0 p133_1 p133_2 p133_3 p133_4 p133_5 p133_6 p133_7 p133_8 r_c1.2 (by simp only [List.length_append, List.length_cons, List.length_nil, List.length_take, List.length_drop, own_l4]; omega) (by decide) (by omega) (by omega) (by omega)) hZ (oW hw 28 rfl) (oW hw 4 rfl) (by decide) (by decide)) qn148a qn148c (g := mkF m 161 Ls [(.int c1), (.ref b81)]) rfl hLs (Steps.refl _) (argsL := [(.int c1)]) (rest := []) (lenOf pd_0 rfl) rfl (leq0 rfl) (hD at_161) (fun _ _ => ⟨rfl, rfl, (by decide : 3 + 0 ≤ _), (by decide : 19 + 0 ≤ _)⟩)
     refine Wk.back (n := 164) (rc := 0) (rs := 0) (Q := Q_rmAB Z b81 c1 t_133 kb_133 ([] : List Int32) 8 (.ref wi) (.ref wc) (.int (1 : Int32)) (.int (0 : Int32)) T133.heap n0) (cl148_ _ (lsok hml rfl)) fun vn148 T148 L148 X148 hQ148 => ?_
     clear cl148_
     obtain ⟨rfl, M148, J148, p148_0, p148_1, p148_2, p148_3, p148_4, p148_5, p148_6, p148_7, p148_8⟩ := hQ148
     have N148 := Fr.app N133 M148
     have sz148 := J148.1
     have K148 := K133.trans J148 (allS (Or.inr (by omega)) (allS (Or.inr (by omega)) all0))
     have lt_p148_0 := ny p148_0.lt
     have lt_p148_8 := ny p148_8.lt
     show Wk p e below _ T148 (mkF m 164 _ [(.int (1 : Int32))])
     refine Wk.pop X148 hx (hD at_164) (n := 165) rfl rfl ?_
     refine Wk.aload X148 hx (hD at_165) (n := 167) rfl rfl rfl ?_
     refine Wk.aload X148 hx (hD at_167) (n := 169) rfl rfl rfl ?_
     refine Wk.iload X148 hx (hD at_169) (n := 171) rfl rfl ?_
     refine Wk.iload X148 hx (hD at_171) (n := 173) rfl rfl ?_
     have f149 := (((Un5.ext Ex81).keep J133 (ninS (nz (by omega)) nin0)).keep J148 (ninS (nz (by omega)) (ninS (nz (by omega)) nin0)))
     obtain ⟨cq150, kq150, qn150a, qn150b, qn150c⟩ := isOf hZ rfl p148_0
     have cl150_ := fun Ls (hLs : LsOk c Ls) => X148.virtualBack hx (y := mn12) (z := mn12) hown (mW hZ hw 49 rfl) (mW hZ hw 50 rfl) (notFace_of_selects (args := #[]) (mW hZ hw 52 rfl)) (mW hZ hw 52 rfl) (mW hZ hw 51 rfl) (by decide) (backOf (W := 0) (rmBB l Z a0 hw [] b81 b1 (Int32.ofNat sn) (Int32.ofNat en) k1 (flp p1) sn en t_133 kb_133 (([] : List Int32) ++ [c1]) 8 (.ref wi) (.ref wc) (.int (1 : Int32)) (.int (0 : Int32)) T148.heap n0 (by omega) p148_0 p148_1 p148_2 p148_3 p148_4 p148_5 p148_6 p148_7 p148_8 f149 rfl rfl hse hen rfl (by simp only [List.length_append, List.length_cons, List.length_nil, List.length_take, List.length_drop, own_l4]; omega) (by decide) (by omega) (by omega) (by omega) (by omega) (by omega)) hZ (oW hw 53 rfl) (oW hw 4 rfl) (by decide) (by decide)) qn150a qn150c (g := mkF m 173 Ls [(.int (Int32.ofNat en)), (.int (Int32.ofNat sn)), (.ref b1), (.ref b81)]) rfl hLs (Steps.refl _) (argsL := [(.ref b1), (.int (Int32.ofNat sn)), (.int (Int32.ofNat en))]) (rest := []) (lenOf pd_30 rfl) rfl (leq0 rfl) (hD at_173) (fun _ _ => ⟨rfl, rfl, (by decide : 3 + 0 ≤ _), (by decide : 19 + 0 ≤ _)⟩)
     refine Wk.back (n := 176) (rc := 0) (rs := 0) (Q := Q_rmBB Z b81 b1 (Int32.ofNat sn) (Int32.ofNat en) k1 (flp p1) sn en t_133 kb_133 (([] : List Int32) ++ [c1]) 8 (.ref wi) (.ref wc) (.int (1 : Int32)) (.int (0 : Int32)) T148.heap n0) (cl150_ _ (lsok hml rfl)) fun vn150 T150 L150 X150 hQ150 => ?_
     clear cl150_
     obtain ⟨rfl, M150, J150, p150_0, p150_1, p150_2, p150_3, p150_4, p150_5, p150_6, p150_7, p150_8⟩ := hQ150
     have N150 := Fr.app N148 M150
     have sz150 := J150.1
     have K150 := K148.trans J150 (allS (Or.inr (by omega)) (allS (Or.inr (by omega)) all0))
     have lt_p150_0 := ny p150_0.lt
     have lt_p150_8 := ny p150_8.lt
     show Wk p e below _ T150 (mkF m 176 _ [])
     refine Wk.aload X150 hx (hD at_176) (n := 178) rfl rfl rfl ?_
     refine Wk.iload X150 hx (hD at_178) (n := 180) rfl rfl ?_
     obtain ⟨cq151, kq151, qn151a, qn151b, qn151c⟩ := isOf hZ rfl p150_0
     have cl151_ := fun Ls (hLs : LsOk c Ls) => X150.virtualBack hx (y := mn11) (z := mn11) hown (mW hZ hw 24 rfl) (mW hZ hw 25 rfl) (notFace_of_selects (args := #[]) (mW hZ hw 27 rfl)) (mW hZ hw 27 rfl) (mW hZ hw 26 rfl) (by decide) (backOf (W := 0) (rmAB l Z a0 hw [] b81 c2 t_133 kb_133 ((([] : List Int32) ++ [c1]) ++ (((flp p1).drop sn).take (en - sn))) 8 (.ref wi) (.ref wc) (.int (1 : Int32)) (.int (0 : Int32)) T150.heap n0 (by omega) p150_0 p150_1 p150_2 p150_3 p150_4 p150_5 p150_6 p150_7 p150_8 r_c2.2 (by simp only [List.length_append, List.length_cons, List.length_nil, List.length_take, List.length_drop, own_l4]; omega) (by decide) (by omega) (by omega) (by omega)) hZ (oW hw 28 rfl) (oW hw 4 rfl) (by decide) (by decide)) qn151a qn151c (g := mkF m 180 Ls [(.int c2), (.ref b81)]) rfl hLs (Steps.refl _) (argsL := [(.int c2)]) (rest := []) (lenOf pd_0 rfl) rfl (leq0 rfl) (hD at_180) (fun _ _ => ⟨rfl, rfl, (by decide : 3 + 0 ≤ _), (by decide : 19 + 0 ≤ _)⟩)
     refine Wk.back (n := 183) (rc := 0) (rs := 0) (Q := Q_rmAB Z b81 c2 t_133 kb_133 ((([] : List Int32) ++ [c1]) ++ (((flp p1).drop sn).take (en - sn))) 8 (.ref wi) (.ref wc) (.int (1 : Int32)) (.int (0 : Int32)) T150.heap n0) (cl151_ _ (lsok hml rfl)) fun vn151 T151 L151 X151 hQ151 => ?_
     clear cl151_
     obtain ⟨rfl, M151, J151, p151_0, p151_1, p151_2, p151_3, p151_4, p151_5, p151_6, p151_7, p151_8⟩ := hQ151
     have N151 := Fr.app N150 M151
     have sz151 := J151.1
     have K151 := K150.trans J151 (allS (Or.inr (by omega)) (allS (Or.inr (by omega)) all0))
     have lt_p151_0 := ny p151_0.lt
     have lt_p151_8 := ny p151_8.lt
     show Wk p e below _ T151 (mkF m 183 _ [(.int (1 : Int32))])
     refine Wk.pop X151 hx (hD at_183) (n := 184) rfl rfl ?_
     refine Wk.aload X151 hx (hD at_184) (n := 186) rfl rfl rfl ?_
     have f152 := ((((f132.keep J133 (allS (by omega) all0)).keep J148 (allS (by omega) (allS (by omega) all0))).keep J150 (allS (by omega) (allS (by omega) all0))).keep J151 (allS (by omega) (allS (by omega) all0)))
     have f153 := Ai.ext f152.2
     have f154 := Ei.ext f152.2
     have f155 := Ac.ext f152.2
     have f156 := Ec.ext f152.2
     obtain ⟨cq157, kq157, qn157a, qn157b, qn157c⟩ := isOf hZ rfl p151_0
     have cl157_ := fun Ls (hLs : LsOk c Ls) => X151.virtualBack hx (y := mn30) (z := mn30) hown (mW hZ hw 60 rfl) (mW hZ hw 61 rfl) (notFace_of_selects (args := #[]) (mW hZ hw 63 rfl)) (mW hZ hw 63 rfl) (mW hZ hw 62 rfl) (by decide) (backOf (W := 0) (rmBDB l Z a0 hw [] b81 t_133 kb_133 (((([] : List Int32) ++ [c1]) ++ (((flp p1).drop sn).take (en - sn))) ++ [c2]) 8 wi ki ([]) wc kc ([]) (0 : Int32) (.int (1 : Int32)) wso wu zc fm T151.heap n0 (by omega) p151_0 p151_1 p151_2 p151_3 p151_4 p151_5 p151_6 p151_7 p151_8 f153 f154 f155 f156 S4 S6 S7 S5 Es S8 f152 hCS hFM (by simp only [List.length_append, List.length_cons, List.length_nil, List.length_take, List.length_drop, own_l4]; omega) (by simp only [List.length_append, List.length_cons, List.length_nil, List.length_take, List.length_drop, own_l4]; omega) (by decide) hnu (by decide)) hZ (oW hw 64 rfl) (oW hw 4 rfl) (by decide) (by decide)) qn157a qn157c (g := mkF m 186 Ls [(.ref b81)]) rfl hLs (Steps.refl _) (argsL := []) (rest := []) (lenOf pd_31 rfl) rfl (leq0 rfl) (hD at_186) (fun _ _ => ⟨rfl, rfl, (by decide : 3 + 5 ≤ _), (by decide : 19 + 18 ≤ _)⟩)
     refine Wk.back (n := 189) (rc := 5) (rs := 18) (Q := Q_rmBDB Z b81 t_133 kb_133 (((([] : List Int32) ++ [c1]) ++ (((flp p1).drop sn).take (en - sn))) ++ [c2]) 8 wi ki ([]) wc kc ([]) (0 : Int32) (.int (1 : Int32)) wso wu zc fm T151.heap n0) (cl157_ _ (lsok hml rfl)) fun vn157 T157 L157 X157 hQ157 => ?_
     clear cl157_
     obtain ⟨r_157, xs_157, t_157, kb_157, rfl, M157, J157, p157_0, p157_1, p157_2, p157_3, p157_4, p157_5, gr_157, gx_157, gt_157⟩ := hQ157
     have N157 := Fr.app N151 M157
     have sz157 := J157.1
     have K157 := K151.trans J157 (fun x hx => nomatch hx)
     have lt_p157_0 := ny p157_0.lt
     have lt_p157_2 := ny p157_2.lt
     have lt_p157_5 := ny p157_5.lt
     show Wk p e below _ T157 (mkF m 189 _ [(.ref r_157)])
     obtain ⟨cq158, kq158, qn158a, qn158b, qn158c⟩ := isOf hZ rfl p157_0
     have cl158_ := fun Ls (hLs : LsOk c Ls) => X157.virtualBack hx (y := mn29) (z := mn29) hown (mW hZ hw 121 rfl) (mW hZ hw 122 rfl) (notFace_of_selects (args := #[]) (mW hZ hw 124 rfl)) (mW hZ hw 124 rfl) (mW hZ hw 123 rfl) (by decide) (backOf (W := 0) (rmSE l Z a0 hw [] r_157 xs_157 T157.heap n0 (by omega) p157_1) hZ (oW hw 125 rfl) (oW hw 12 rfl) (by decide) (by decide)) qn158a qn158c (g := mkF m 189 Ls [(.ref r_157)]) rfl hLs (Steps.refl _) (argsL := []) (rest := []) (lenOf pd_32 rfl) rfl (leq0 rfl) (hD at_189) (fun _ _ => ⟨rfl, rfl, (by decide : 8 + 0 ≤ _), (by decide : 37 + 0 ≤ _)⟩)
     refine Wk.back (n := 192) (rc := 0) (rs := 0) (Q := Q_rmSE Z r_157 xs_157 T157.heap n0) (cl158_ _ (lsok hml rfl)) fun vn158 T158 L158 X158 hQ158 => ?_
     clear cl158_
     obtain ⟨rfl, M158, e158⟩ := hQ158
     have N158 := Fr.app N157 M158
     show Wk p e below _ T158 (mkF m 192 _ [(.ref xs_157)])
     refine Wk.astore X158 hx (hD at_192) (n := 194) rfl rfl (L' := #[.val (.int p1), .val (.int p2), .val (.int p3), .val (.int p4), .val (.int p5), .val (.int p6), .val (.int (0 : Int32)), .val (.int (1 : Int32)), .val (.int (1 : Int32)), .val (.ref b1), .val (.int (Int32.ofNat sn)), .val (.int (Int32.ofNat en)), .val (.int c1), .val (.int c2), .val (.ref b81), .val (.ref xs_157), .unset, .unset, .unset, .unset]) rfl ?_
     have f159 := (f152.keep J157 all0)
     exact J194 T158 T157.heap _ b81 xs_157 t_157 kb_157 (((([] : List Int32) ++ [c1]) ++ (((flp p1).drop sn).take (en - sn))) ++ [c2]) (X158.mono (by decide) (by decide)) e158 K157 N158 p157_2 p157_3 p157_4 p157_5 f159 (by first | rfl | simp)
   ·
    have hc140_160 : ¬ ((1 : Int32) = (0 : Int32)) := by decide
    refine Wk.ifNo X133 hx (hD at_140) (n := 143) rfl ((if0 _ _).trans (feq hc140_160).1) ?_
    refine Wk.aload X133 hx (hD at_143) (n := 145) rfl rfl rfl ?_
    refine Wk.sipush X133 hx (hD at_145) (n := 148) rfl (z := (256 : Int32)) rfl ?_
    have f161 := (f132.keep J133 (allS (by omega) all0))
    obtain ⟨cq162, kq162, qn162a, qn162b, qn162c⟩ := isOf hZ rfl p133_0
    have cl162_ := fun Ls (hLs : LsOk c Ls) => X133.virtualBack hx (y := mn11) (z := mn11) hown (mW hZ hw 24 rfl) (mW hZ hw 25 rfl) (notFace_of_selects (args := #[]) (mW hZ hw 27 rfl)) (mW hZ hw 27 rfl) (mW hZ hw 26 rfl) (by decide) (backOf (W := 0) (rmAA l Z a0 hw [] b81 t_133 kb_133 wi wc ki kc T133.heap n0 (by omega) p133_0 p133_1 p133_2 p133_3 p133_4 p133_5 p133_6 p133_7 p133_8 S1 S2 f161 Ai Ei Ac Ec (by omega) (by omega) (by omega) (by omega) (by omega)) hZ (oW hw 28 rfl) (oW hw 4 rfl) (by decide) (by decide)) qn162a qn162c (g := mkF m 148 Ls [(.int (256 : Int32)), (.ref b81)]) rfl hLs (Steps.refl _) (argsL := [(.int (256 : Int32))]) (rest := []) (lenOf pd_0 rfl) rfl (leq0 rfl) (hD at_148) (fun _ _ => ⟨rfl, rfl, (by decide : 3 + 2 ≤ _), (by decide : 19 + 2 ≤ _)⟩)
    refine Wk.back (n := 151) (rc := 2) (rs := 2) (Q := Q_rmAA Z b81 t_133 kb_133 wi wc ki kc T133.heap n0) (cl162_ _ (lsok hml rfl)) fun vn162 T162 L162 X162 hQ162 => ?_
    clear cl162_
    obtain ⟨ai_162, ac_162, kai_162, kac_162, rfl, M162, J162, p162_0, p162_1, p162_2, p162_3, p162_4, p162_5, p162_6, p162_7, p162_8, p162_9, p162_10, p162_11, p162_12, gai_162, gac_162⟩ := hQ162
    have N162 := Fr.app N133 M162
    have sz162 := J162.1
    have K162 := K133.trans J162 (allS (Or.inr (by omega)) (allS (Or.inr (by omega)) all0))
    have lt_p162_0 := ny p162_0.lt
    have lt_p162_8 := ny p162_8.lt
    have lt_p162_9 := ny p162_9.lt
    have lt_p162_11 := ny p162_11.lt
    show Wk p e below _ T162 (mkF m 151 _ [(.int (1 : Int32))])
    refine Wk.pop X162 hx (hD at_151) (n := 152) rfl rfl ?_
    refine Wk.iload X162 hx (hD at_152) (n := 154) rfl rfl ?_
    rcases h7 with rfl | rfl
    ·
     have hc154_163 : (0 : Int32) = (0 : Int32) := rfl
     refine Wk.ifYes X162 hx (hD at_154) ((if0 _ _).trans (teq hc154_163).1) (by decide) (n := 165) (by decide) ?_
     refine Wk.aload X162 hx (hD at_165) (n := 167) rfl rfl rfl ?_
     refine Wk.aload X162 hx (hD at_167) (n := 169) rfl rfl rfl ?_
     refine Wk.iload X162 hx (hD at_169) (n := 171) rfl rfl ?_
     refine Wk.iload X162 hx (hD at_171) (n := 173) rfl rfl ?_
     have f164 := (((Un5.ext Ex81).keep J133 (ninS (nz (by omega)) nin0)).keep J162 (ninS (nz (by omega)) (ninS (nz (by omega)) nin0)))
     obtain ⟨cq165, kq165, qn165a, qn165b, qn165c⟩ := isOf hZ rfl p162_0
     have cl165_ := fun Ls (hLs : LsOk c Ls) => X162.virtualBack hx (y := mn12) (z := mn12) hown (mW hZ hw 49 rfl) (mW hZ hw 50 rfl) (notFace_of_selects (args := #[]) (mW hZ hw 52 rfl)) (mW hZ hw 52 rfl) (mW hZ hw 51 rfl) (by decide) (backOf (W := 0) (rmBB l Z a0 hw [] b81 b1 (Int32.ofNat sn) (Int32.ofNat en) k1 (flp p1) sn en t_133 kb_133 ([26] : List Int32) 8 (.ref ai_162) (.ref ac_162) (.int (1 : Int32)) (.int (1 : Int32)) T162.heap n0 (by omega) p162_0 p162_1 p162_2 p162_3 p162_4 p162_5 p162_6 p162_7 p162_8 f164 rfl rfl hse hen rfl (by simp only [List.length_append, List.length_cons, List.length_nil, List.length_take, List.length_drop, own_l4]; omega) (by decide) (by omega) (by omega) (by omega) (by omega) (by omega)) hZ (oW hw 53 rfl) (oW hw 4 rfl) (by decide) (by decide)) qn165a qn165c (g := mkF m 173 Ls [(.int (Int32.ofNat en)), (.int (Int32.ofNat sn)), (.ref b1), (.ref b81)]) rfl hLs (Steps.refl _) (argsL := [(.ref b1), (.int (Int32.ofNat sn)), (.int (Int32.ofNat en))]) (rest := []) (lenOf pd_30 rfl) rfl (leq0 rfl) (hD at_173) (fun _ _ => ⟨rfl, rfl, (by decide : 5 + 0 ≤ _), (by decide : 21 + 0 ≤ _)⟩)
     refine Wk.back (n := 176) (rc := 0) (rs := 0) (Q := Q_rmBB Z b81 b1 (Int32.ofNat sn) (Int32.ofNat en) k1 (flp p1) sn en t_133 kb_133 ([26] : List Int32) 8 (.ref ai_162) (.ref ac_162) (.int (1 : Int32)) (.int (1 : Int32)) T162.heap n0) (cl165_ _ (lsok hml rfl)) fun vn165 T165 L165 X165 hQ165 => ?_
     clear cl165_
     obtain ⟨rfl, M165, J165, p165_0, p165_1, p165_2, p165_3, p165_4, p165_5, p165_6, p165_7, p165_8⟩ := hQ165
     have N165 := Fr.app N162 M165
     have sz165 := J165.1
     have K165 := K162.trans J165 (allS (Or.inr (by omega)) (allS (Or.inr (by omega)) all0))
     have lt_p165_0 := ny p165_0.lt
     have lt_p165_8 := ny p165_8.lt
     show Wk p e below _ T165 (mkF m 176 _ [])
     refine Wk.aload X165 hx (hD at_176) (n := 178) rfl rfl rfl ?_
     refine Wk.iload X165 hx (hD at_178) (n := 180) rfl rfl ?_
     obtain ⟨cq166, kq166, qn166a, qn166b, qn166c⟩ := isOf hZ rfl p165_0
     have cl166_ := fun Ls (hLs : LsOk c Ls) => X165.virtualBack hx (y := mn11) (z := mn11) hown (mW hZ hw 24 rfl) (mW hZ hw 25 rfl) (notFace_of_selects (args := #[]) (mW hZ hw 27 rfl)) (mW hZ hw 27 rfl) (mW hZ hw 26 rfl) (by decide) (backOf (W := 0) (rmAB l Z a0 hw [] b81 c2 t_133 kb_133 (([26] : List Int32) ++ (((flp p1).drop sn).take (en - sn))) 8 (.ref ai_162) (.ref ac_162) (.int (1 : Int32)) (.int (1 : Int32)) T165.heap n0 (by omega) p165_0 p165_1 p165_2 p165_3 p165_4 p165_5 p165_6 p165_7 p165_8 r_c2.2 (by simp only [List.length_append, List.length_cons, List.length_nil, List.length_take, List.length_drop, own_l4]; omega) (by decide) (by omega) (by omega) (by omega)) hZ (oW hw 28 rfl) (oW hw 4 rfl) (by decide) (by decide)) qn166a qn166c (g := mkF m 180 Ls [(.int c2), (.ref b81)]) rfl hLs (Steps.refl _) (argsL := [(.int c2)]) (rest := []) (lenOf pd_0 rfl) rfl (leq0 rfl) (hD at_180) (fun _ _ => ⟨rfl, rfl, (by decide : 5 + 0 ≤ _), (by decide : 21 + 0 ≤ _)⟩)
     refine Wk.back (n := 183) (rc := 0) (rs := 0) (Q := Q_rmAB Z b81 c2 t_133 kb_133 (([26] : List Int32) ++ (((flp p1).drop sn).take (en - sn))) 8 (.ref ai_162) (.ref ac_162) (.int (1 : Int32)) (.int (1 : Int32)) T165.heap n0) (cl166_ _ (lsok hml rfl)) fun vn166 T166 L166 X166 hQ166 => ?_
     clear cl166_
     obtain ⟨rfl, M166, J166, p166_0, p166_1, p166_2, p166_3, p166_4, p166_5, p166_6, p166_7, p166_8⟩ := hQ166
     have N166 := Fr.app N165 M166
     have sz166 := J166.1
     have K166 := K165.trans J166 (allS (Or.inr (by omega)) (allS (Or.inr (by omega)) all0))
     have lt_p166_0 := ny p166_0.lt
     have lt_p166_8 := ny p166_8.lt
     show Wk p e below _ T166 (mkF m 183 _ [(.int (1 : Int32))])
     refine Wk.pop X166 hx (hD at_183) (n := 184) rfl rfl ?_
     refine Wk.aload X166 hx (hD at_184) (n := 186) rfl rfl rfl ?_
     have f167 := ((p162_9.keep J165 (ninS (nz (by omega)) (ninS (nz (by omega)) nin0))).keep J166 (ninS (nz (by omega)) (ninS (nz (by omega)) nin0)))
     have f168 := ((p162_10.keep J165).keep J166)
     have f169 := ((p162_11.keep J165 (ninS (nz (by omega)) (ninS (nz (by omega)) nin0))).keep J166 (ninS (nz (by omega)) (ninS (nz (by omega)) nin0)))
     have f170 := ((p162_12.keep J165).keep J166)
     have f171 := (((f161.keep J162 (allS (by omega) (allS (by omega) all0))).keep J165 (allS (by omega) (allS (by omega) all0))).keep J166 (allS (by omega) (allS (by omega) all0)))
     obtain ⟨cq172, kq172, qn172a, qn172b, qn172c⟩ := isOf hZ rfl p166_0
     have cl172_ := fun Ls (hLs : LsOk c Ls) => X166.virtualBack hx (y := mn30) (z := mn30) hown (mW hZ hw 60 rfl) (mW hZ hw 61 rfl) (notFace_of_selects (args := #[]) (mW hZ hw 63 rfl)) (mW hZ hw 63 rfl) (mW hZ hw 62 rfl) (by decide) (backOf (W := 0) (rmBDB l Z a0 hw [] b81 t_133 kb_133 ((([26] : List Int32) ++ (((flp p1).drop sn).take (en - sn))) ++ [c2]) 8 ai_162 kai_162 ([(.int (0 : Int32))]) ac_162 kac_162 ([(.int (256 : Int32))]) (1 : Int32) (.int (1 : Int32)) wso wu zc fm T166.heap n0 (by omega) p166_0 p166_1 p166_2 p166_3 p166_4 p166_5 p166_6 p166_7 p166_8 f167 f168 f169 f170 S4 S6 S7 S5 Es S8 f171 hCS hFM (by simp only [List.length_append, List.length_cons, List.length_nil, List.length_take, List.length_drop, own_l4]; omega) (by simp only [List.length_append, List.length_cons, List.length_nil, List.length_take, List.length_drop, own_l4]; omega) (by decide) hnu (by decide)) hZ (oW hw 64 rfl) (oW hw 4 rfl) (by decide) (by decide)) qn172a qn172c (g := mkF m 186 Ls [(.ref b81)]) rfl hLs (Steps.refl _) (argsL := []) (rest := []) (lenOf pd_31 rfl) rfl (leq0 rfl) (hD at_186) (fun _ _ => ⟨rfl, rfl, (by decide : 5 + 5 ≤ _), (by decide : 21 + 18 ≤ _)⟩)
     refine Wk.back (n := 189) (rc := 5) (rs := 18) (Q := Q_rmBDB Z b81 t_133 kb_133 ((([26] : List Int32) ++ (((flp p1).drop sn).take (en - sn))) ++ [c2]) 8 ai_162 kai_162 ([(.int (0 : Int32))]) ac_162 kac_162 ([(.int (256 : Int32))]) (1 : Int32) (.int (1 : Int32)) wso wu zc fm T166.heap n0) (cl172_ _ (lsok hml rfl)) fun vn172 T172 L172 X172 hQ172 => ?_
     clear cl172_
     obtain ⟨r_172, xs_172, t_172, kb_172, rfl, M172, J172, p172_0, p172_1, p172_2, p172_3, p172_4, p172_5, gr_172, gx_172, gt_172⟩ := hQ172
     have N172 := Fr.app N166 M172
     have sz172 := J172.1
     have K172 := K166.trans J172 (fun x hx => nomatch hx)
     have lt_p172_0 := ny p172_0.lt
     have lt_p172_2 := ny p172_2.lt
     have lt_p172_5 := ny p172_5.lt
     show Wk p e below _ T172 (mkF m 189 _ [(.ref r_172)])
     obtain ⟨cq173, kq173, qn173a, qn173b, qn173c⟩ := isOf hZ rfl p172_0
     have cl173_ := fun Ls (hLs : LsOk c Ls) => X172.virtualBack hx (y := mn29) (z := mn29) hown (mW hZ hw 121 rfl) (mW hZ hw 122 rfl) (notFace_of_selects (args := #[]) (mW hZ hw 124 rfl)) (mW hZ hw 124 rfl) (mW hZ hw 123 rfl) (by decide) (backOf (W := 0) (rmSE l Z a0 hw [] r_172 xs_172 T172.heap n0 (by omega) p172_1) hZ (oW hw 125 rfl) (oW hw 12 rfl) (by decide) (by decide)) qn173a qn173c (g := mkF m 189 Ls [(.ref r_172)]) rfl hLs (Steps.refl _) (argsL := []) (rest := []) (lenOf pd_32 rfl) rfl (leq0 rfl) (hD at_189) (fun _ _ => ⟨rfl, rfl, (by decide : 10 + 0 ≤ _), (by decide : 39 + 0 ≤ _)⟩)
     refine Wk.back (n := 192) (rc := 0) (rs := 0) (Q := Q_rmSE Z r_172 xs_172 T172.heap n0) (cl173_ _ (lsok hml rfl)) fun vn173 T173 L173 X173 hQ173 => ?_
     clear cl173_
     obtain ⟨rfl, M173, e173⟩ := hQ173
     have N173 := Fr.app N172 M173
     show Wk p e below _ T173 (mkF m 192 _ [(.ref xs_172)])
     refine Wk.astore X173 hx (hD at_192) (n := 194) rfl rfl (L' := #[.val (.int p1), .val (.int p2), .val (.int p3), .val (.int p4), .val (.int p5), .val (.int p6), .val (.int (1 : Int32)), .val (.int (0 : Int32)), .val (.int (1 : Int32)), .val (.ref b1), .val (.int (Int32.ofNat sn)), .val (.int (Int32.ofNat en)), .val (.int c1), .val (.int c2), .val (.ref b81), .val (.ref xs_172), .unset, .unset, .unset, .unset]) rfl ?_
     have f174 := (f171.keep J172 all0)
     exact J194 T173 T172.heap _ b81 xs_172 t_172 kb_172 ((([26] : List Int32) ++ (((flp p1).drop sn).take (en - sn))) ++ [c2]) (X173.mono (by decide) (by decide)) e173 K172 N173 p172_2 p172_3 p172_4 p172_5 f174 (by first | rfl | simp)
    ·
     have hc154_175 : ¬ ((1 : Int32) = (0 : Int32)) := by decide
     refine Wk.ifNo X162 hx (hD at_154) (n := 157) rfl ((if0 _ _).trans (feq hc154_175).1) ?_
     refine Wk.aload X162 hx (hD at_157) (n := 159) rfl rfl rfl ?_
     refine Wk.iload X162 hx (hD at_159) (n := 161) rfl rfl ?_
     obtain ⟨cq176, kq176, qn176a, qn176b, qn176c⟩ := isOf hZ rfl p162_0
     have cl176_ := fun Ls (hLs : LsOk c Ls) => X162.virtualBack hx (y := mn11) (z := mn11) hown (mW hZ hw 24 rfl) (mW hZ hw 25 rfl) (notFace_of_selects (args := #[]) (mW hZ hw 27 rfl)) (mW hZ hw 27 rfl) (mW hZ hw 26 rfl) (by decide) (backOf (W := 0) (rmAB l Z a0 hw [] b81 c1 t_133 kb_133 ([26] : List Int32) 8 (.ref ai_162) (.ref ac_162) (.int (1 : Int32)) (.int (1 : Int32)) T162.heap n0 (by omega) p162_0 p162_1 p162_2 p162_3 p162_4 p162_5 p162_6 p162_7 p162_8 r_c1.2 (by simp only [List.length_append, List.length_cons, List.length_nil, List.length_take, List.length_drop, own_l4]; omega) (by decide) (by omega) (by omega) (by omega)) hZ (oW hw 28 rfl) (oW hw 4 rfl) (by decide) (by decide)) qn176a qn176c (g := mkF m 161 Ls [(.int c1), (.ref b81)]) rfl hLs (Steps.refl _) (argsL := [(.int c1)]) (rest := []) (lenOf pd_0 rfl) rfl (leq0 rfl) (hD at_161) (fun _ _ => ⟨rfl, rfl, (by decide : 5 + 0 ≤ _), (by decide : 21 + 0 ≤ _)⟩)
     refine Wk.back (n := 164) (rc := 0) (rs := 0) (Q := Q_rmAB Z b81 c1 t_133 kb_133 ([26] : List Int32) 8 (.ref ai_162) (.ref ac_162) (.int (1 : Int32)) (.int (1 : Int32)) T162.heap n0) (cl176_ _ (lsok hml rfl)) fun vn176 T176 L176 X176 hQ176 => ?_
     clear cl176_
     obtain ⟨rfl, M176, J176, p176_0, p176_1, p176_2, p176_3, p176_4, p176_5, p176_6, p176_7, p176_8⟩ := hQ176
     have N176 := Fr.app N162 M176
     have sz176 := J176.1
     have K176 := K162.trans J176 (allS (Or.inr (by omega)) (allS (Or.inr (by omega)) all0))
     have lt_p176_0 := ny p176_0.lt
     have lt_p176_8 := ny p176_8.lt
     show Wk p e below _ T176 (mkF m 164 _ [(.int (1 : Int32))])
     refine Wk.pop X176 hx (hD at_164) (n := 165) rfl rfl ?_
     refine Wk.aload X176 hx (hD at_165) (n := 167) rfl rfl rfl ?_
     refine Wk.aload X176 hx (hD at_167) (n := 169) rfl rfl rfl ?_
     refine Wk.iload X176 hx (hD at_169) (n := 171) rfl rfl ?_
     refine Wk.iload X176 hx (hD at_171) (n := 173) rfl rfl ?_
     have f177 := ((((Un5.ext Ex81).keep J133 (ninS (nz (by omega)) nin0)).keep J162 (ninS (nz (by omega)) (ninS (nz (by omega)) nin0))).keep J176 (ninS (nz (by omega)) (ninS (nz (by omega)) nin0)))
     obtain ⟨cq178, kq178, qn178a, qn178b, qn178c⟩ := isOf hZ rfl p176_0
     have cl178_ := fun Ls (hLs : LsOk c Ls) => X176.virtualBack hx (y := mn12) (z := mn12) hown (mW hZ hw 49 rfl) (mW hZ hw 50 rfl) (notFace_of_selects (args := #[]) (mW hZ hw 52 rfl)) (mW hZ hw 52 rfl) (mW hZ hw 51 rfl) (by decide) (backOf (W := 0) (rmBB l Z a0 hw [] b81 b1 (Int32.ofNat sn) (Int32.ofNat en) k1 (flp p1) sn en t_133 kb_133 (([26] : List Int32) ++ [c1]) 8 (.ref ai_162) (.ref ac_162) (.int (1 : Int32)) (.int (1 : Int32)) T176.heap n0 (by omega) p176_0 p176_1 p176_2 p176_3 p176_4 p176_5 p176_6 p176_7 p176_8 f177 rfl rfl hse hen rfl (by simp only [List.length_append, List.length_cons, List.length_nil, List.length_take, List.length_drop, own_l4]; omega) (by decide) (by omega) (by omega) (by omega) (by omega) (by omega)) hZ (oW hw 53 rfl) (oW hw 4 rfl) (by decide) (by decide)) qn178a qn178c (g := mkF m 173 Ls [(.int (Int32.ofNat en)), (.int (Int32.ofNat sn)), (.ref b1), (.ref b81)]) rfl hLs (Steps.refl _) (argsL := [(.ref b1), (.int (Int32.ofNat sn)), (.int (Int32.ofNat en))]) (rest := []) (lenOf pd_30 rfl) rfl (leq0 rfl) (hD at_173) (fun _ _ => ⟨rfl, rfl, (by decide : 5 + 0 ≤ _), (by decide : 21 + 0 ≤ _)⟩)
     refine Wk.back (n := 176) (rc := 0) (rs := 0) (Q := Q_rmBB Z b81 b1 (Int32.ofNat sn) (Int32.ofNat en) k1 (flp p1) sn en t_133 kb_133 (([26] : List Int32) ++ [c1]) 8 (.ref ai_162) (.ref ac_162) (.int (1 : Int32)) (.int (1 : Int32)) T176.heap n0) (cl178_ _ (lsok hml rfl)) fun vn178 T178 L178 X178 hQ178 => ?_
     clear cl178_
     obtain ⟨rfl, M178, J178, p178_0, p178_1, p178_2, p178_3, p178_4, p178_5, p178_6, p178_7, p178_8⟩ := hQ178
     have N178 := Fr.app N176 M178
     have sz178 := J178.1
     have K178 := K176.trans J178 (allS (Or.inr (by omega)) (allS (Or.inr (by omega)) all0))
     have lt_p178_0 := ny p178_0.lt
     have lt_p178_8 := ny p178_8.lt
     show Wk p e below _ T178 (mkF m 176 _ [])
     refine Wk.aload X178 hx (hD at_176) (n := 178) rfl rfl rfl ?_
     refine Wk.iload X178 hx (hD at_178) (n := 180) rfl rfl ?_
     obtain ⟨cq179, kq179, qn179a, qn179b, qn179c⟩ := isOf hZ rfl p178_0
     have cl179_ := fun Ls (hLs : LsOk c Ls) => X178.virtualBack hx (y := mn11) (z := mn11) hown (mW hZ hw 24 rfl) (mW hZ hw 25 rfl) (notFace_of_selects (args := #[]) (mW hZ hw 27 rfl)) (mW hZ hw 27 rfl) (mW hZ hw 26 rfl) (by decide) (backOf (W := 0) (rmAB l Z a0 hw [] b81 c2 t_133 kb_133 ((([26] : List Int32) ++ [c1]) ++ (((flp p1).drop sn).take (en - sn))) 8 (.ref ai_162) (.ref ac_162) (.int (1 : Int32)) (.int (1 : Int32)) T178.heap n0 (by omega) p178_0 p178_1 p178_2 p178_3 p178_4 p178_5 p178_6 p178_7 p178_8 r_c2.2 (by simp only [List.length_append, List.length_cons, List.length_nil, List.length_take, List.length_drop, own_l4]; omega) (by decide) (by omega) (by omega) (by omega)) hZ (oW hw 28 rfl) (oW hw 4 rfl) (by decide) (by decide)) qn179a qn179c (g := mkF m 180 Ls [(.int c2), (.ref b81)]) rfl hLs (Steps.refl _) (argsL := [(.int c2)]) (rest := []) (lenOf pd_0 rfl) rfl (leq0 rfl) (hD at_180) (fun _ _ => ⟨rfl, rfl, (by decide : 5 + 0 ≤ _), (by decide : 21 + 0 ≤ _)⟩)
     refine Wk.back (n := 183) (rc := 0) (rs := 0) (Q := Q_rmAB Z b81 c2 t_133 kb_133 ((([26] : List Int32) ++ [c1]) ++ (((flp p1).drop sn).take (en - sn))) 8 (.ref ai_162) (.ref ac_162) (.int (1 : Int32)) (.int (1 : Int32)) T178.heap n0) (cl179_ _ (lsok hml rfl)) fun vn179 T179 L179 X179 hQ179 => ?_
     clear cl179_
     obtain ⟨rfl, M179, J179, p179_0, p179_1, p179_2, p179_3, p179_4, p179_5, p179_6, p179_7, p179_8⟩ := hQ179
     have N179 := Fr.app N178 M179
     have sz179 := J179.1
     have K179 := K178.trans J179 (allS (Or.inr (by omega)) (allS (Or.inr (by omega)) all0))
     have lt_p179_0 := ny p179_0.lt
     have lt_p179_8 := ny p179_8.lt
     show Wk p e below _ T179 (mkF m 183 _ [(.int (1 : Int32))])
     refine Wk.pop X179 hx (hD at_183) (n := 184) rfl rfl ?_
     refine Wk.aload X179 hx (hD at_184) (n := 186) rfl rfl rfl ?_
     have f180 := (((p162_9.keep J176 (ninS (nz (by omega)) (ninS (nz (by omega)) nin0))).keep J178 (ninS (nz (by omega)) (ninS (nz (by omega)) nin0))).keep J179 (ninS (nz (by omega)) (ninS (nz (by omega)) nin0)))
     have f181 := (((p162_10.keep J176).keep J178).keep J179)
     have f182 := (((p162_11.keep J176 (ninS (nz (by omega)) (ninS (nz (by omega)) nin0))).keep J178 (ninS (nz (by omega)) (ninS (nz (by omega)) nin0))).keep J179 (ninS (nz (by omega)) (ninS (nz (by omega)) nin0)))
     have f183 := (((p162_12.keep J176).keep J178).keep J179)
     have f184 := ((((f161.keep J162 (allS (by omega) (allS (by omega) all0))).keep J176 (allS (by omega) (allS (by omega) all0))).keep J178 (allS (by omega) (allS (by omega) all0))).keep J179 (allS (by omega) (allS (by omega) all0)))
     obtain ⟨cq185, kq185, qn185a, qn185b, qn185c⟩ := isOf hZ rfl p179_0
     have cl185_ := fun Ls (hLs : LsOk c Ls) => X179.virtualBack hx (y := mn30) (z := mn30) hown (mW hZ hw 60 rfl) (mW hZ hw 61 rfl) (notFace_of_selects (args := #[]) (mW hZ hw 63 rfl)) (mW hZ hw 63 rfl) (mW hZ hw 62 rfl) (by decide) (backOf (W := 0) (rmBDB l Z a0 hw [] b81 t_133 kb_133 (((([26] : List Int32) ++ [c1]) ++ (((flp p1).drop sn).take (en - sn))) ++ [c2]) 8 ai_162 kai_162 ([(.int (0 : Int32))]) ac_162 kac_162 ([(.int (256 : Int32))]) (1 : Int32) (.int (1 : Int32)) wso wu zc fm T179.heap n0 (by omega) p179_0 p179_1 p179_2 p179_3 p179_4 p179_5 p179_6 p179_7 p179_8 f180 f181 f182 f183 S4 S6 S7 S5 Es S8 f184 hCS hFM (by simp only [List.length_append, List.length_cons, List.length_nil, List.length_take, List.length_drop, own_l4]; omega) (by simp only [List.length_append, List.length_cons, List.length_nil, List.length_take, List.length_drop, own_l4]; omega) (by decide) hnu (by decide)) hZ (oW hw 64 rfl) (oW hw 4 rfl) (by decide) (by decide)) qn185a qn185c (g := mkF m 186 Ls [(.ref b81)]) rfl hLs (Steps.refl _) (argsL := []) (rest := []) (lenOf pd_31 rfl) rfl (leq0 rfl) (hD at_186) (fun _ _ => ⟨rfl, rfl, (by decide : 5 + 5 ≤ _), (by decide : 21 + 18 ≤ _)⟩)
     refine Wk.back (n := 189) (rc := 5) (rs := 18) (Q := Q_rmBDB Z b81 t_133 kb_133 (((([26] : List Int32) ++ [c1]) ++ (((flp p1).drop sn).take (en - sn))) ++ [c2]) 8 ai_162 kai_162 ([(.int (0 : Int32))]) ac_162 kac_162 ([(.int (256 : Int32))]) (1 : Int32) (.int (1 : Int32)) wso wu zc fm T179.heap n0) (cl185_ _ (lsok hml rfl)) fun vn185 T185 L185 X185 hQ185 => ?_
     clear cl185_
     obtain ⟨r_185, xs_185, t_185, kb_185, rfl, M185, J185, p185_0, p185_1, p185_2, p185_3, p185_4, p185_5, gr_185, gx_185, gt_185⟩ := hQ185
     have N185 := Fr.app N179 M185
     have sz185 := J185.1
     have K185 := K179.trans J185 (fun x hx => nomatch hx)
     have lt_p185_0 := ny p185_0.lt
     have lt_p185_2 := ny p185_2.lt
     have lt_p185_5 := ny p185_5.lt
     show Wk p e below _ T185 (mkF m 189 _ [(.ref r_185)])
     obtain ⟨cq186, kq186, qn186a, qn186b, qn186c⟩ := isOf hZ rfl p185_0
     have cl186_ := fun Ls (hLs : LsOk c Ls) => X185.virtualBack hx (y := mn29) (z := mn29) hown (mW hZ hw 121 rfl) (mW hZ hw 122 rfl) (notFace_of_selects (args := #[]) (mW hZ hw 124 rfl)) (mW hZ hw 124 rfl) (mW hZ hw 123 rfl) (by decide) (backOf (W := 0) (rmSE l Z a0 hw [] r_185 xs_185 T185.heap n0 (by omega) p185_1) hZ (oW hw 125 rfl) (oW hw 12 rfl) (by decide) (by decide)) qn186a qn186c (g := mkF m 189 Ls [(.ref r_185)]) rfl hLs (Steps.refl _) (argsL := []) (rest := []) (lenOf pd_32 rfl) rfl (leq0 rfl) (hD at_189) (fun _ _ => ⟨rfl, rfl, (by decide : 10 + 0 ≤ _), (by decide : 39 + 0 ≤ _)⟩)
     refine Wk.back (n := 192) (rc := 0) (rs := 0) (Q := Q_rmSE Z r_185 xs_185 T185.heap n0) (cl186_ _ (lsok hml rfl)) fun vn186 T186 L186 X186 hQ186 => ?_
     clear cl186_
     obtain ⟨rfl, M186, e186⟩ := hQ186
     have N186 := Fr.app N185 M186
     show Wk p e below _ T186 (mkF m 192 _ [(.ref xs_185)])
     refine Wk.astore X186 hx (hD at_192) (n := 194) rfl rfl (L' := #[.val (.int p1), .val (.int p2), .val (.int p3), .val (.int p4), .val (.int p5), .val (.int p6), .val (.int (1 : Int32)), .val (.int (1 : Int32)), .val (.int (1 : Int32)), .val (.ref b1), .val (.int (Int32.ofNat sn)), .val (.int (Int32.ofNat en)), .val (.int c1), .val (.int c2), .val (.ref b81), .val (.ref xs_185), .unset, .unset, .unset, .unset]) rfl ?_
     have f187 := (f184.keep J185 all0)
     exact J194 T186 T185.heap _ b81 xs_185 t_185 kb_185 (((([26] : List Int32) ++ [c1]) ++ (((flp p1).drop sn).take (en - sn))) ++ [c2]) (X186.mono (by decide) (by decide)) e186 K185 N186 p185_2 p185_3 p185_4 p185_5 f187 (by first | rfl | simp)
 refine Wk.iloadN X0 hx (hD at_0) (n := 1) rfl rfl ?_
 refine Wk.iconst X0 hx (hD at_1) (n := 2) rfl (z := (1 : Int32)) rfl ?_
 refine Wk.iand X0 hx (hD at_2) (n := 3) rfl ?_
 by_cases hc3 : (p4 &&& (1 : Int32)) = (0 : Int32)
 ·
  refine Wk.ifYes X0 hx (hD at_3) ((if0 _ _).trans (teq hc3).1) (by decide) (n := 10) (by decide) ?_
  refine Wk.iconst X0 hx (hD at_10) (n := 11) rfl (z := (0 : Int32)) rfl ?_
  refine Wk.istore X0 hx (hD at_11) (n := 13) rfl (L' := #[.val (.int p1), .val (.int p2), .val (.int p3), .val (.int p4), .val (.int p5), .val (.int p6), .val (.int (0 : Int32)), .unset, .unset, .unset, .unset, .unset, .unset, .unset, .unset, .unset, .unset, .unset, .unset, .unset]) rfl ?_
  refine Wk.iloadN X0 hx (hD at_13) (n := 14) rfl rfl ?_
  refine Wk.iconst X0 hx (hD at_14) (n := 15) rfl (z := (2 : Int32)) rfl ?_
  refine Wk.iand X0 hx (hD at_15) (n := 16) rfl ?_
  by_cases hc16 : (p4 &&& (2 : Int32)) = (0 : Int32)
  ·
   refine Wk.ifYes X0 hx (hD at_16) ((if0 _ _).trans (teq hc16).1) (by decide) (n := 23) (by decide) ?_
   refine Wk.iconst X0 hx (hD at_23) (n := 24) rfl (z := (0 : Int32)) rfl ?_
   refine Wk.istore X0 hx (hD at_24) (n := 26) rfl (L' := #[.val (.int p1), .val (.int p2), .val (.int p3), .val (.int p4), .val (.int p5), .val (.int p6), .val (.int (0 : Int32)), .val (.int (0 : Int32)), .unset, .unset, .unset, .unset, .unset, .unset, .unset, .unset, .unset, .unset, .unset, .unset]) rfl ?_
   refine Wk.iloadN X0 hx (hD at_26) (n := 27) rfl rfl ?_
   refine Wk.iconst X0 hx (hD at_27) (n := 28) rfl (z := (4 : Int32)) rfl ?_
   refine Wk.iand X0 hx (hD at_28) (n := 29) rfl ?_
   by_cases hc29 : (p4 &&& (4 : Int32)) = (0 : Int32)
   ·
    refine Wk.ifYes X0 hx (hD at_29) ((if0 _ _).trans (teq hc29).1) (by decide) (n := 36) (by decide) ?_
    refine Wk.iconst X0 hx (hD at_36) (n := 37) rfl (z := (0 : Int32)) rfl ?_
    refine Wk.istore X0 hx (hD at_37) (n := 39) rfl (L' := #[.val (.int p1), .val (.int p2), .val (.int p3), .val (.int p4), .val (.int p5), .val (.int p6), .val (.int (0 : Int32)), .val (.int (0 : Int32)), .val (.int (0 : Int32)), .unset, .unset, .unset, .unset, .unset, .unset, .unset, .unset, .unset, .unset, .unset]) rfl ?_
    exact J39 _ _ _ (Or.inl rfl) (Or.inl rfl) (Or.inl rfl)
   ·
    refine Wk.ifNo X0 hx (hD at_29) (n := 32) rfl ((if0 _ _).trans (feq hc29).1) ?_
    refine Wk.iconst X0 hx (hD at_32) (n := 33) rfl (z := (1 : Int32)) rfl ?_
    refine Wk.goto X0 hx (hD at_33) (by decide) (n := 37) (by decide) ?_
    refine Wk.istore X0 hx (hD at_37) (n := 39) rfl (L' := #[.val (.int p1), .val (.int p2), .val (.int p3), .val (.int p4), .val (.int p5), .val (.int p6), .val (.int (0 : Int32)), .val (.int (0 : Int32)), .val (.int (1 : Int32)), .unset, .unset, .unset, .unset, .unset, .unset, .unset, .unset, .unset, .unset, .unset]) rfl ?_
    exact J39 _ _ _ (Or.inl rfl) (Or.inl rfl) (Or.inr rfl)
  ·
   refine Wk.ifNo X0 hx (hD at_16) (n := 19) rfl ((if0 _ _).trans (feq hc16).1) ?_
   refine Wk.iconst X0 hx (hD at_19) (n := 20) rfl (z := (1 : Int32)) rfl ?_
   refine Wk.goto X0 hx (hD at_20) (by decide) (n := 24) (by decide) ?_
   refine Wk.istore X0 hx (hD at_24) (n := 26) rfl (L' := #[.val (.int p1), .val (.int p2), .val (.int p3), .val (.int p4), .val (.int p5), .val (.int p6), .val (.int (0 : Int32)), .val (.int (1 : Int32)), .unset, .unset, .unset, .unset, .unset, .unset, .unset, .unset, .unset, .unset, .unset, .unset]) rfl ?_
   refine Wk.iloadN X0 hx (hD at_26) (n := 27) rfl rfl ?_
   refine Wk.iconst X0 hx (hD at_27) (n := 28) rfl (z := (4 : Int32)) rfl ?_
   refine Wk.iand X0 hx (hD at_28) (n := 29) rfl ?_
   by_cases hc29 : (p4 &&& (4 : Int32)) = (0 : Int32)
   ·
    refine Wk.ifYes X0 hx (hD at_29) ((if0 _ _).trans (teq hc29).1) (by decide) (n := 36) (by decide) ?_
    refine Wk.iconst X0 hx (hD at_36) (n := 37) rfl (z := (0 : Int32)) rfl ?_
    refine Wk.istore X0 hx (hD at_37) (n := 39) rfl (L' := #[.val (.int p1), .val (.int p2), .val (.int p3), .val (.int p4), .val (.int p5), .val (.int p6), .val (.int (0 : Int32)), .val (.int (1 : Int32)), .val (.int (0 : Int32)), .unset, .unset, .unset, .unset, .unset, .unset, .unset, .unset, .unset, .unset, .unset]) rfl ?_
    exact J39 _ _ _ (Or.inl rfl) (Or.inr rfl) (Or.inl rfl)
   ·
    refine Wk.ifNo X0 hx (hD at_29) (n := 32) rfl ((if0 _ _).trans (feq hc29).1) ?_
    refine Wk.iconst X0 hx (hD at_32) (n := 33) rfl (z := (1 : Int32)) rfl ?_
    refine Wk.goto X0 hx (hD at_33) (by decide) (n := 37) (by decide) ?_
    refine Wk.istore X0 hx (hD at_37) (n := 39) rfl (L' := #[.val (.int p1), .val (.int p2), .val (.int p3), .val (.int p4), .val (.int p5), .val (.int p6), .val (.int (0 : Int32)), .val (.int (1 : Int32)), .val (.int (1 : Int32)), .unset, .unset, .unset, .unset, .unset, .unset, .unset, .unset, .unset, .unset, .unset]) rfl ?_
    exact J39 _ _ _ (Or.inl rfl) (Or.inr rfl) (Or.inr rfl)
 ·
  refine Wk.ifNo X0 hx (hD at_3) (n := 6) rfl ((if0 _ _).trans (feq hc3).1) ?_
  refine Wk.iconst X0 hx (hD at_6) (n := 7) rfl (z := (1 : Int32)) rfl ?_
  refine Wk.goto X0 hx (hD at_7) (by decide) (n := 11) (by decide) ?_
  refine Wk.istore X0 hx (hD at_11) (n := 13) rfl (L' := #[.val (.int p1), .val (.int p2), .val (.int p3), .val (.int p4), .val (.int p5), .val (.int p6), .val (.int (1 : Int32)), .unset, .unset, .unset, .unset, .unset, .unset, .unset, .unset, .unset, .unset, .unset, .unset, .unset]) rfl ?_
  refine Wk.iloadN X0 hx (hD at_13) (n := 14) rfl rfl ?_
  refine Wk.iconst X0 hx (hD at_14) (n := 15) rfl (z := (2 : Int32)) rfl ?_
  refine Wk.iand X0 hx (hD at_15) (n := 16) rfl ?_
  by_cases hc16 : (p4 &&& (2 : Int32)) = (0 : Int32)
  ·
   refine Wk.ifYes X0 hx (hD at_16) ((if0 _ _).trans (teq hc16).1) (by decide) (n := 23) (by decide) ?_
   refine Wk.iconst X0 hx (hD at_23) (n := 24) rfl (z := (0 : Int32)) rfl ?_
   refine Wk.istore X0 hx (hD at_24) (n := 26) rfl (L' := #[.val (.int p1), .val (.int p2), .val (.int p3), .val (.int p4), .val (.int p5), .val (.int p6), .val (.int (1 : Int32)), .val (.int (0 : Int32)), .unset, .unset, .unset, .unset, .unset, .unset, .unset, .unset, .unset, .unset, .unset, .unset]) rfl ?_
   refine Wk.iloadN X0 hx (hD at_26) (n := 27) rfl rfl ?_
   refine Wk.iconst X0 hx (hD at_27) (n := 28) rfl (z := (4 : Int32)) rfl ?_
   refine Wk.iand X0 hx (hD at_28) (n := 29) rfl ?_
   by_cases hc29 : (p4 &&& (4 : Int32)) = (0 : Int32)
   ·
    refine Wk.ifYes X0 hx (hD at_29) ((if0 _ _).trans (teq hc29).1) (by decide) (n := 36) (by decide) ?_
    refine Wk.iconst X0 hx (hD at_36) (n := 37) rfl (z := (0 : Int32)) rfl ?_
    refine Wk.istore X0 hx (hD at_37) (n := 39) rfl (L' := #[.val (.int p1), .val (.int p2), .val (.int p3), .val (.int p4), .val (.int p5), .val (.int p6), .val (.int (1 : Int32)), .val (.int (0 : Int32)), .val (.int (0 : Int32)), .unset, .unset, .unset, .unset, .unset, .unset, .unset, .unset, .unset, .unset, .unset]) rfl ?_
    exact J39 _ _ _ (Or.inr rfl) (Or.inl rfl) (Or.inl rfl)
   ·
    refine Wk.ifNo X0 hx (hD at_29) (n := 32) rfl ((if0 _ _).trans (feq hc29).1) ?_
    refine Wk.iconst X0 hx (hD at_32) (n := 33) rfl (z := (1 : Int32)) rfl ?_
    refine Wk.goto X0 hx (hD at_33) (by decide) (n := 37) (by decide) ?_
    refine Wk.istore X0 hx (hD at_37) (n := 39) rfl (L' := #[.val (.int p1), .val (.int p2), .val (.int p3), .val (.int p4), .val (.int p5), .val (.int p6), .val (.int (1 : Int32)), .val (.int (0 : Int32)), .val (.int (1 : Int32)), .unset, .unset, .unset, .unset, .unset, .unset, .unset, .unset, .unset, .unset, .unset]) rfl ?_
    exact J39 _ _ _ (Or.inr rfl) (Or.inl rfl) (Or.inr rfl)
  ·
   refine Wk.ifNo X0 hx (hD at_16) (n := 19) rfl ((if0 _ _).trans (feq hc16).1) ?_
   refine Wk.iconst X0 hx (hD at_19) (n := 20) rfl (z := (1 : Int32)) rfl ?_
   refine Wk.goto X0 hx (hD at_20) (by decide) (n := 24) (by decide) ?_
   refine Wk.istore X0 hx (hD at_24) (n := 26) rfl (L' := #[.val (.int p1), .val (.int p2), .val (.int p3), .val (.int p4), .val (.int p5), .val (.int p6), .val (.int (1 : Int32)), .val (.int (1 : Int32)), .unset, .unset, .unset, .unset, .unset, .unset, .unset, .unset, .unset, .unset, .unset, .unset]) rfl ?_
   refine Wk.iloadN X0 hx (hD at_26) (n := 27) rfl rfl ?_
   refine Wk.iconst X0 hx (hD at_27) (n := 28) rfl (z := (4 : Int32)) rfl ?_
   refine Wk.iand X0 hx (hD at_28) (n := 29) rfl ?_
   by_cases hc29 : (p4 &&& (4 : Int32)) = (0 : Int32)
   ·
    refine Wk.ifYes X0 hx (hD at_29) ((if0 _ _).trans (teq hc29).1) (by decide) (n := 36) (by decide) ?_
    refine Wk.iconst X0 hx (hD at_36) (n := 37) rfl (z := (0 : Int32)) rfl ?_
    refine Wk.istore X0 hx (hD at_37) (n := 39) rfl (L' := #[.val (.int p1), .val (.int p2), .val (.int p3), .val (.int p4), .val (.int p5), .val (.int p6), .val (.int (1 : Int32)), .val (.int (1 : Int32)), .val (.int (0 : Int32)), .unset, .unset, .unset, .unset, .unset, .unset, .unset, .unset, .unset, .unset, .unset]) rfl ?_
    exact J39 _ _ _ (Or.inr rfl) (Or.inr rfl) (Or.inl rfl)
   ·
    refine Wk.ifNo X0 hx (hD at_29) (n := 32) rfl ((if0 _ _).trans (feq hc29).1) ?_
    refine Wk.iconst X0 hx (hD at_32) (n := 33) rfl (z := (1 : Int32)) rfl ?_
    refine Wk.goto X0 hx (hD at_33) (by decide) (n := 37) (by decide) ?_
    refine Wk.istore X0 hx (hD at_37) (n := 39) rfl (L' := #[.val (.int p1), .val (.int p2), .val (.int p3), .val (.int p4), .val (.int p5), .val (.int p6), .val (.int (1 : Int32)), .val (.int (1 : Int32)), .val (.int (1 : Int32)), .unset, .unset, .unset, .unset, .unset, .unset, .unset, .unset, .unset, .unset, .unset]) rfl ?_
    exact J39 _ _ _ (Or.inr rfl) (Or.inr rfl) (Or.inr rfl)
end Walks
theorem comes_1 {Post : Tables → Env → Array Value → State → Outcome → State → Prop} (hpost : ∀ tb e args s v u, (limb_1_1.after args s (.returned v) u = true ∧ limb_1_2.after args s (.returned v) u = true ∧ True) → FrameEnd s (.returned v) u (Jvm.fieldLocs frame_1_writes args s ++ Jvm.arrayLocs frame_1_arrays args s ++ Jvm.staticLocs frame_1_statics s) 32 192 → Post tb e args s (.returned v) u) :
    ArmFor flags0 classFile x code maxLocals ret World_1 tables_1 room_1 Calls_1 rest_1 Pre_1 Post := by
  intro l hfl _ _ p e ha hc hk s m args below hf hA hF happ hP
  obtain ⟨hcalls, hrest, hpre⟩ := hP
  obtain ⟨-, -, -, hnamed, -, -, -, hat⟩ := (Spec.applies_iff hf).mp happ
  obtain ⟨hg, hn⟩ := and_e (Cond.before_iff.mp (show (Jvm.Cond.and given_1 narrow_1).before args s = true from hpre))
  obtain ⟨gc, gr⟩ := and_e hg
  obtain ⟨w0, w1, w2, w3, w4, w5, rfl⟩ : ∃ w0 w1 w2 w3 w4 w5 : Value, args = #[w0, w1, w2, w3, w4, w5] := by
    have hs : args.size = 6 := by simpa [Cond.value, given_1] using gc
    obtain ⟨L⟩ := args
    match L, hs with
    | [w0, w1, w2, w3, w4, w5], _ => exact ⟨w0, w1, w2, w3, w4, w5, rfl⟩
  have hw := fun d (hd : d ∈ tables_1) => atoms_spec (ws := Jvm.Cond.code x code maxLocals ret :: tables_1) hat d (List.mem_cons_of_mem _ hd)
  have hfit : Fit s := fun {y c} hc i hi => by
    obtain ⟨ha, rfl⟩ := Array.getElem?_eq_some_iff.mp hc
    have q := List.all_eq_true.mp ((Array.all_eq_true_iff_forall_mem.mp hF) _ (Array.getElem_mem ha)) i (List.mem_range.mpr hi)
    simpa [Array.getElem?_eq_getElem hi] using q
  obtain ⟨hsets, hown0⟩ := atoms_of _ (rest_1_c_eq ▸ (show rest_1_c.before _ s = true from hrest))
  have hr0 := Cond.before_iff.mp hown0
  obtain ⟨g0, gr⟩ := and_e gr
  obtain ⟨i0, ei0⟩ := is_v g0
  obtain rfl : w0 = (.int i0) := Option.some.inj ei0
  obtain ⟨g1, gr⟩ := and_e gr
  obtain ⟨i1, ei1⟩ := is_v g1
  obtain rfl : w1 = (.int i1) := Option.some.inj ei1
  obtain ⟨g2, gr⟩ := and_e gr
  obtain ⟨i2, ei2⟩ := is_v g2
  obtain rfl : w2 = (.int i2) := Option.some.inj ei2
  obtain ⟨g3, gr⟩ := and_e gr
  obtain ⟨i3, ei3⟩ := is_v g3
  obtain rfl : w3 = (.int i3) := Option.some.inj ei3
  obtain ⟨g4, gr⟩ := and_e gr
  obtain ⟨i4, ei4⟩ := is_v g4
  obtain rfl : w4 = (.int i4) := Option.some.inj ei4
  obtain ⟨i5, ei5⟩ := is_v gr
  obtain rfl : w5 = (.int i5) := Option.some.inj ei5
  obtain ⟨zc, ez⟩ := is_v (Cond.before_iff.mp (hsets _ (List.mem_of_getElem? (i := 1) rfl)))
  have S4 := Sta.start ez (Or.inl (hsets _ (List.mem_of_getElem? (i := 0) rfl)))
  have hCS : ¬ zc = 0 := own_ne0 ez (Cond.before_iff.mp (hsets _ (List.mem_of_getElem? (i := 2) rfl)))
  obtain ⟨fm, efm, rfm⟩ := isR_v (Cond.before_iff.mp (hsets _ (List.mem_of_getElem? (i := 8) rfl)))
  have S5 := Sta.start efm (Or.inl (hsets _ (List.mem_of_getElem? (i := 7) rfl)))
  obtain ⟨cn0, hn⟩ := and_e hn
  obtain ⟨cn1, hn⟩ := and_e hn
  obtain ⟨cn2, hn⟩ := and_e hn
  obtain ⟨cn3, hn⟩ := and_e hn
  obtain ⟨cn4, hn⟩ := and_e hn
  have cn5 := hn
  obtain ⟨wi, ev_wi⟩ := arr_v cn0
  have S_wi := Sta.start ev_wi (Or.inr ⟨(oW hw 12 rfl), (oW hw 13 rfl)⟩)
  obtain ⟨c_wi, Ar_wi⟩ := Arr.start ev_wi cn0
  have E_wi := Exa.start ev_wi cn1
  obtain ⟨ql_wi, le_wi⟩ := own_len ev_wi Ar_wi cn2
  obtain ⟨wc, ev_wc⟩ := arr_v cn3
  have S_wc := Sta.start ev_wc (Or.inr ⟨(oW hw 12 rfl), (oW hw 17 rfl)⟩)
  obtain ⟨c_wc, Ar_wc⟩ := Arr.start ev_wc cn3
  have E_wc := Exa.start ev_wc cn4
  obtain ⟨ql_wc, le_wc⟩ := own_len ev_wc Ar_wc cn5
  have Ai := own_arv0 hfit Ar_wi ev_wi cn2
  have Ac := own_arv0 hfit Ar_wc ev_wc cn5
  obtain ⟨wso, es⟩ := exa_v (Cond.before_iff.mp (hsets _ (List.mem_of_getElem? (i := 14) rfl)))
  have S8 := Sta.start es (Or.inl (hsets _ (List.mem_of_getElem? (i := 10) rfl)))
  have Es := Exa.start es (Cond.before_iff.mp (hsets _ (List.mem_of_getElem? (i := 14) rfl)))
  have es2 := own_eqr' es (Cond.before_iff.mp (hsets _ (List.mem_of_getElem? (i := 13) rfl)))
  have S7 := Sta.start es2 (Or.inl (hsets _ (List.mem_of_getElem? (i := 12) rfl)))
  obtain ⟨wu, eu⟩ := exa_v (Cond.before_iff.mp (hsets _ (List.mem_of_getElem? (i := 17) rfl)))
  have S6 := Sta.start eu (Or.inl (hsets _ (List.mem_of_getElem? (i := 16) rfl)))
  have Eu := Exa.start eu (Cond.before_iff.mp (hsets _ (List.mem_of_getElem? (i := 17) rfl)))
  have hnu := Exa.ne Es Eu (by decide)
  obtain ⟨n, o, h1, h2, h3, _, L, rfl, ⟨rfl, N, -⟩, hq⟩ := rm0 l s _ hw tables_1 i0 i1 i2 i3 i4 i5 wi wc c_wi.cls c_wc.cls wso wu zc fm s.heap s.heap.size (Nat.le_refl _) S_wi S_wc (Old.start s) Ai E_wi Ac E_wc S4 S6 S7 S5 Es S8 hCS rfm hnu (ny E_wi.lt) (ny E_wc.lt) p e ha hc hk s m _ below hf ((Spec.applies_iff_loose hf).mp happ).1 ⟨rfl, State.Warmed39.refl s, rfl⟩ trivial
  refine ⟨n, _, h1, h2, h3, hpost _ _ _ _ _ _ ⟨Cond.after_iff.mpr rfl, Cond.after_iff.mpr (eq_i res_at (Term.int_eval (1)) rfl), trivial⟩ ⟨hq.1, hq.2.1, (hq.2.2.sift fun y hy => Or.inr (N y hy)).mono (by decide) (by decide)⟩⟩
theorem main_1_1 : Claimed_1_1 := comes_1 fun _ _ _ _ _ _ h hF => ⟨h.1, hF⟩
theorem main_1_2 : Claimed_1_2 := comes_1 fun _ _ _ _ _ _ h hF => ⟨h.2.1, hF⟩
end Jvm.Pilot.@@N@@
namespace Jvm.Pilot.@@N@@
open Jvm Jvm.ClassFile Sem Op Lib Jvm.Free Jvm.Stand Jvm.Pilot.@@N@@.Jvm.D
/-! MADE BY PROGRAM (witnessworld.py) out of the Statement's table words and the real class files: 32 classes; the members and pool entries that the words name. The judged class is class 1, her method 1. -/
namespace start1
open Jvm.ClassFile
def u (s : String) : CpInfo := .utf8 (stringToUtf16 s)
/-- a pool by its gaps: so many unusable entries, then the entry; so many at the end -/
def gap : Nat → List CpInfo → List CpInfo
  | 0, r => r
  | n + 1, r => .unusable :: gap n r
def poolList (es : List (Nat × CpInfo)) (last : Nat) : List CpInfo := es.foldr (fun e r => gap e.1 (e.2 :: r)) (gap last [])
def pool (es : List (Nat × CpInfo)) (last : Nat) : Array CpInfo := ⟨poolList es last⟩
def fileOf (pool : Array CpInfo) (this : Nat) (attrs : Array Attribute := #[]) (ms : Array MethodInfo := #[]) (fl : Nat := 33) (sup : Nat := 0) (ifs : Array Nat := #[]) (fds : Array FieldInfo := #[]) : ClassFile where
  minorVersion := 0
  majorVersion := 65
  constantPool := pool
  accessFlags := fl
  thisClass := this
  superClass := sup
  interfaces := ifs
  fields := fds
  methods := ms
  attributes := attrs
def plain (name : String) (sup : Option ClassId) : Class where
  name := name
  kind := .ordinary
  loader := none
  accessFlags := 33
  super := sup
  interfaces := #[]
  cf := none
  fields := #[]
  methods := #[]
  instanceTypes := #[]
  staticTypes := #[]
  resolved := #[]
  callSites := []
  init := .initialized
  statics := none
  mirror := none

def pool0 : Array CpInfo := pool [(5, u "<init>"), (0, u "()V"), (1, .class_ 10), (1, u "java/lang/Object"), (85, u "clone"), (0, u "()Ljava/lang/Object;")] 26

def k0c0 : Code := { maxStack := 0, maxLocals := 1, code := object_method_1_code, exceptionTable := #[], attributes := #[] }
def k0m0 : Method := { name := "<init>", desc := "()V", sig := { parameters := [], returnType := none }, accessFlags := 1, code := some k0c0 }
def k0m1 : Method := { name := "clone", desc := "()Ljava/lang/Object;", sig := { parameters := [], returnType := some (.object "java/lang/Object") }, accessFlags := 260, code := none }
/-- java/lang/Object -/
def k0 : Class := { plain "java/lang/Object" none with
  accessFlags := 33
  interfaces := #[]
  cf := some (fileOf pool0 8 #[] #[{ accessFlags := 1, nameIndex := 5, descriptorIndex := 6, attributes := #[] }, { accessFlags := 260, nameIndex := 96, descriptorIndex := 97, attributes := #[] }] 33 0 #[] #[])
  fields := #[]
  methods := #[k0m0, k0m1]
  instanceTypes := #[]
  staticTypes := #[]
  resolved := Array.replicate 124 none
  statics := none }

def pool1 : Array CpInfo := pool [(2, .class_ 4), (1, u "java/lang/Object"), (0, u "<init>"), (0, u "()V"), (0, .integer 2147483647), (0, .class_ 9), (0, u "com/example/depeche/depeche/hl7/Text$Builder"), (0, .methodref 8 11), (0, .nameAndType 5 12), (0, u "(I)V"), (0, .methodref 8 14), (0, .nameAndType 15 16), (0, u "append"), (0, u "(I)Z"), (0, .methodref 8 18), (0, .nameAndType 15 19), (0, u "([BII)V"), (0, .methodref 8 21), (0, .nameAndType 22 23), (0, u "build"), (0, u "()Lcom/example/depeche/depeche/hl7/Text;"), (0, .methodref 25 26), (0, .class_ 27), (0, .nameAndType 28 29), (0, u "com/example/depeche/depeche/hl7/Text"), (0, u "searched"), (0, u "()Ljava/lang/String;"), (0, .methodref 31 32), (0, .class_ 33), (0, .nameAndType 34 35), (0, u "java/lang/String"), (0, u "length"), (0, u "()I"), (0, .methodref 31 37), (0, .nameAndType 38 39), (0, u "charAt"), (0, u "(I)C"), (0, .methodref 41 42), (0, .class_ 43), (0, .nameAndType 44 45), (0, u "com/example/depeche/depeche/hl7/BuilderAppendPinLaw"), (0, u "at"), (0, u "(Ljava/lang/String;IIIII)Z"), (2, u "law"), (0, u "(IIIIII)Z")] 7

def k1m0 : Method := { name := "<init>", desc := "()V", sig := { parameters := [], returnType := none }, accessFlags := 1, code := none }
def k1c1 : Code := { maxStack := 6, maxLocals := 20, code := code, exceptionTable := #[], attributes := #[] }
def k1m1 : Method := { name := "law", desc := "(IIIIII)Z", sig := { parameters := [.int, .int, .int, .int, .int, .int], returnType := some .boolean }, accessFlags := 9, code := some k1c1 }
def k1c2 : Code := { maxStack := 4, maxLocals := 7, code := method_3_code, exceptionTable := #[], attributes := #[] }
def k1m2 : Method := { name := "at", desc := "(Ljava/lang/String;IIIII)Z", sig := { parameters := [(.object "java/lang/String"), .int, .int, .int, .int, .int], returnType := some .boolean }, accessFlags := 10, code := some k1c2 }
/-- com/example/depeche/depeche/hl7/BuilderAppendPinLaw -/
def k1 : Class := { plain "com/example/depeche/depeche/hl7/BuilderAppendPinLaw" (some 0) with
  accessFlags := 49
  interfaces := #[]
  cf := some (fileOf pool1 41 #[] #[{ accessFlags := 1, nameIndex := 5, descriptorIndex := 6, attributes := #[] }, { accessFlags := 9, nameIndex := 48, descriptorIndex := 49, attributes := #[] }, { accessFlags := 10, nameIndex := 44, descriptorIndex := 45, attributes := #[] }] 49 2 #[] #[])
  fields := #[]
  methods := #[k1m0, k1m1, k1m2]
  instanceTypes := #[]
  staticTypes := #[]
  resolved := Array.replicate 57 none
  statics := none }

def pool2 : Array CpInfo := pool [(1, .class_ 2), (0, u "com/example/depeche/depeche/hl7/Text"), (0, .methodref 4 5), (0, .class_ 6), (0, .nameAndType 7 8), (0, u "java/lang/Object"), (0, u "<init>"), (0, u "()V"), (0, .fieldref 1 10), (0, .nameAndType 11 12), (0, u "NO_INDEXES"), (0, u "[I"), (0, .fieldref 14 15), (0, .class_ 16), (0, .nameAndType 17 12), (0, u "com/example/depeche/depeche/hl7/Text$Builder"), (0, u "asideAt"), (0, .fieldref 1 19), (0, .nameAndType 20 21), (0, u "NO_CHARS"), (0, u "[C"), (0, .fieldref 14 23), (0, .nameAndType 24 21), (0, u "aside"), (0, .fieldref 14 26), (0, .nameAndType 27 28), (0, u "bytes"), (0, u "[B"), (0, .fieldref 14 30), (0, .nameAndType 31 32), (0, u "asideLimit"), (0, u "I"), (0, .fieldref 14 34), (0, .nameAndType 35 21), (0, u "chars"), (0, .fieldref 14 37), (0, .nameAndType 38 32), (0, u "length"), (0, .methodref 40 41), (0, .class_ 42), (0, .nameAndType 43 44), (0, u "java/lang/System"), (0, u "arraycopy"), (0, u "(Ljava/lang/Object;ILjava/lang/Object;II)V"), (0, .methodref 46 47), (0, .class_ 48), (0, .nameAndType 49 50), (0, u "java/lang/Character"), (0, u "toChars"), (0, u "(I[CI)I"), (0, .methodref 14 52), (0, .nameAndType 53 54), (0, u "setAside"), (0, u "(I)Z"), (0, .methodref 14 56), (0, .nameAndType 57 8), (0, u "widen"), (0, .methodref 46 59), (0, .nameAndType 60 61), (0, u "charCount"), (0, u "(I)I"), (0, .fieldref 14 63), (0, .nameAndType 64 32), (0, u "asideCount"), (0, .methodref 66 67), (0, .class_ 68), (0, .nameAndType 69 70), (0, u "java/lang/Math"), (0, u "max"), (0, u "(II)I"), (0, .methodref 66 72), (0, .nameAndType 73 70), (0, u "min"), (0, .methodref 75 76), (0, .class_ 77), (0, .nameAndType 78 79), (0, u "java/util/Arrays"), (0, u "copyOf"), (0, u "([II)[I"), (0, .methodref 75 81), (0, .nameAndType 78 82), (0, u "([CI)[C"), (0, .class_ 84), (0, u "java/lang/String"), (0, .fieldref 86 87), (0, .class_ 88), (0, .nameAndType 89 90), (0, u "java/nio/charset/StandardCharsets"), (0, u "ISO_8859_1"), (0, u "Ljava/nio/charset/Charset;"), (0, .methodref 83 92), (0, .nameAndType 7 93), (0, u "([BIILjava/nio/charset/Charset;)V"), (0, .methodref 1 95), (0, .nameAndType 7 96), (0, u "(Ljava/lang/String;Z[I[C)V"), (0, .methodref 83 98), (0, .nameAndType 7 99), (0, u "([CII)V"), (0, .methodref 1 101), (0, .nameAndType 102 103), (0, u "of"), (0, u "(Ljava/lang/String;Z)Lcom/example/depeche/depeche/hl7/Text;"), (0, u "BYTES_A_CHARACTER_ASIDE"), (2, u "FIRST_ASIDE"), (1, u "(I)V"), (2, u "append"), (0, u "([BII)V"), (1, u "build"), (0, u "()Lcom/example/depeche/depeche/hl7/Text;")] 5

def k2c0 : Code := { maxStack := 3, maxLocals := 2, code := prog_27_method_1_code, exceptionTable := #[], attributes := #[] }
def k2m0 : Method := { name := "<init>", desc := "(I)V", sig := { parameters := [.int], returnType := none }, accessFlags := 0, code := some k2c0 }
def k2c1 : Code := { maxStack := 6, maxLocals := 5, code := prog_27_method_2_code, exceptionTable := #[], attributes := #[] }
def k2m1 : Method := { name := "append", desc := "([BII)V", sig := { parameters := [(.array .byte), .int, .int], returnType := none }, accessFlags := 0, code := some k2c1 }
def k2c2 : Code := { maxStack := 5, maxLocals := 3, code := prog_27_method_3_code, exceptionTable := #[], attributes := #[] }
def k2m2 : Method := { name := "append", desc := "(I)Z", sig := { parameters := [.int], returnType := some .boolean }, accessFlags := 0, code := some k2c2 }
def k2c3 : Code := { maxStack := 5, maxLocals := 4, code := prog_27_method_4_code, exceptionTable := #[], attributes := #[] }
def k2m3 : Method := { name := "setAside", desc := "(I)Z", sig := { parameters := [.int], returnType := some .boolean }, accessFlags := 2, code := some k2c3 }
def k2c4 : Code := { maxStack := 2, maxLocals := 2, code := prog_27_method_5_code, exceptionTable := #[], attributes := #[] }
def k2m4 : Method := { name := "widen", desc := "()V", sig := { parameters := [], returnType := none }, accessFlags := 2, code := some k2c4 }
def k2c5 : Code := { maxStack := 8, maxLocals := 2, code := prog_27_method_6_code, exceptionTable := #[], attributes := #[] }
def k2m5 : Method := { name := "build", desc := "()Lcom/example/depeche/depeche/hl7/Text;", sig := { parameters := [], returnType := some (.object "com/example/depeche/depeche/hl7/Text") }, accessFlags := 0, code := some k2c5 }
/-- com/example/depeche/depeche/hl7/Text$Builder -/
def k2 : Class := { plain "com/example/depeche/depeche/hl7/Text$Builder" (some 0) with
  accessFlags := 48
  interfaces := #[]
  cf := some (fileOf pool2 14 #[.nestHost 1] #[{ accessFlags := 0, nameIndex := 7, descriptorIndex := 109, attributes := #[] }, { accessFlags := 0, nameIndex := 112, descriptorIndex := 113, attributes := #[] }, { accessFlags := 0, nameIndex := 112, descriptorIndex := 54, attributes := #[] }, { accessFlags := 2, nameIndex := 53, descriptorIndex := 54, attributes := #[] }, { accessFlags := 2, nameIndex := 57, descriptorIndex := 8, attributes := #[] }, { accessFlags := 0, nameIndex := 115, descriptorIndex := 116, attributes := #[] }] 48 4 #[] #[{ accessFlags := 26, nameIndex := 104, descriptorIndex := 32, attributes := #[] }, { accessFlags := 26, nameIndex := 107, descriptorIndex := 32, attributes := #[] }, { accessFlags := 2, nameIndex := 27, descriptorIndex := 28, attributes := #[] }, { accessFlags := 2, nameIndex := 35, descriptorIndex := 21, attributes := #[] }, { accessFlags := 2, nameIndex := 38, descriptorIndex := 32, attributes := #[] }, { accessFlags := 18, nameIndex := 31, descriptorIndex := 32, attributes := #[] }, { accessFlags := 2, nameIndex := 17, descriptorIndex := 12, attributes := #[] }, { accessFlags := 2, nameIndex := 24, descriptorIndex := 21, attributes := #[] }, { accessFlags := 2, nameIndex := 64, descriptorIndex := 32, attributes := #[] }])
  fields := #[{ name := "BYTES_A_CHARACTER_ASIDE", type := .int, accessFlags := 26, slot := 0, constantValue := 0 }, { name := "FIRST_ASIDE", type := .int, accessFlags := 26, slot := 1, constantValue := 0 }, { name := "bytes", type := (.array .byte), accessFlags := 2, slot := 0, constantValue := 0 }, { name := "chars", type := (.array .char), accessFlags := 2, slot := 1, constantValue := 0 }, { name := "length", type := .int, accessFlags := 2, slot := 2, constantValue := 0 }, { name := "asideLimit", type := .int, accessFlags := 18, slot := 3, constantValue := 0 }, { name := "asideAt", type := (.array .int), accessFlags := 2, slot := 4, constantValue := 0 }, { name := "aside", type := (.array .char), accessFlags := 2, slot := 5, constantValue := 0 }, { name := "asideCount", type := .int, accessFlags := 2, slot := 6, constantValue := 0 }]
  methods := #[k2m0, k2m1, k2m2, k2m3, k2m4, k2m5]
  instanceTypes := #[(.array .byte), (.array .char), .int, .int, (.array .int), (.array .char), .int]
  staticTypes := #[.int, .int]
  resolved := Array.replicate 122 none
  statics := none }

def pool3 : Array CpInfo := pool [(1, .methodref 2 3), (0, .class_ 4), (0, .nameAndType 5 6), (0, u "java/lang/Object"), (0, u "<init>"), (0, u "()V"), (0, .fieldref 8 9), (0, .class_ 10), (0, .nameAndType 11 12), (0, u "com/example/depeche/depeche/hl7/Text"), (0, u "string"), (0, u "Ljava/lang/String;"), (0, .fieldref 8 14), (0, .nameAndType 15 16), (0, u "narrow"), (0, u "Z"), (0, .fieldref 8 18), (0, .nameAndType 19 20), (0, u "asideAt"), (0, u "[I"), (0, .fieldref 8 22), (0, .nameAndType 23 24), (0, u "aside"), (0, u "[C"), (0, .fieldref 8 26), (0, .nameAndType 27 20), (0, u "NO_INDEXES"), (0, .fieldref 8 29), (0, .nameAndType 30 24), (0, u "NO_CHARS"), (0, .methodref 8 32), (0, .nameAndType 5 33), (0, u "(Ljava/lang/String;Z[I[C)V"), (63, u "LAST"), (0, u "C"), (2, u "STAND_IN"), (3, u "of"), (0, u "(Ljava/lang/String;Z)Lcom/example/depeche/depeche/hl7/Text;"), (0, u "searched"), (0, u "()Ljava/lang/String;"), (11, .class_ 121), (0, u "com/example/depeche/depeche/hl7/Text$Builder")] 2

def k3c0 : Code := { maxStack := 2, maxLocals := 5, code := prog_26_method_1_code, exceptionTable := #[], attributes := #[] }
def k3m0 : Method := { name := "<init>", desc := "(Ljava/lang/String;Z[I[C)V", sig := { parameters := [(.object "java/lang/String"), .boolean, (.array .int), (.array .char)], returnType := none }, accessFlags := 2, code := some k3c0 }
def k3c1 : Code := { maxStack := 6, maxLocals := 2, code := prog_26_method_2_code, exceptionTable := #[], attributes := #[] }
def k3m1 : Method := { name := "of", desc := "(Ljava/lang/String;Z)Lcom/example/depeche/depeche/hl7/Text;", sig := { parameters := [(.object "java/lang/String"), .boolean], returnType := some (.object "com/example/depeche/depeche/hl7/Text") }, accessFlags := 8, code := some k3c1 }
def k3c2 : Code := { maxStack := 1, maxLocals := 1, code := prog_26_method_3_code, exceptionTable := #[], attributes := #[] }
def k3m2 : Method := { name := "searched", desc := "()Ljava/lang/String;", sig := { parameters := [], returnType := some (.object "java/lang/String") }, accessFlags := 0, code := some k3c2 }
/-- com/example/depeche/depeche/hl7/Text -/
def k3 : Class := { plain "com/example/depeche/depeche/hl7/Text" (some 0) with
  accessFlags := 48
  interfaces := #[]
  cf := some (fileOf pool3 8 #[.nestMembers #[120]] #[{ accessFlags := 2, nameIndex := 5, descriptorIndex := 33, attributes := #[] }, { accessFlags := 8, nameIndex := 105, descriptorIndex := 106, attributes := #[] }, { accessFlags := 0, nameIndex := 107, descriptorIndex := 108, attributes := #[] }] 48 2 #[] #[{ accessFlags := 26, nameIndex := 97, descriptorIndex := 98, attributes := #[] }, { accessFlags := 26, nameIndex := 101, descriptorIndex := 98, attributes := #[] }, { accessFlags := 26, nameIndex := 27, descriptorIndex := 20, attributes := #[] }, { accessFlags := 26, nameIndex := 30, descriptorIndex := 24, attributes := #[] }, { accessFlags := 18, nameIndex := 11, descriptorIndex := 12, attributes := #[] }, { accessFlags := 18, nameIndex := 15, descriptorIndex := 16, attributes := #[] }, { accessFlags := 18, nameIndex := 19, descriptorIndex := 20, attributes := #[] }, { accessFlags := 18, nameIndex := 23, descriptorIndex := 24, attributes := #[] }])
  fields := #[{ name := "LAST", type := .char, accessFlags := 26, slot := 0, constantValue := 0 }, { name := "STAND_IN", type := .char, accessFlags := 26, slot := 1, constantValue := 0 }, { name := "NO_INDEXES", type := (.array .int), accessFlags := 26, slot := 2, constantValue := 0 }, { name := "NO_CHARS", type := (.array .char), accessFlags := 26, slot := 3, constantValue := 0 }, { name := "string", type := (.object "java/lang/String"), accessFlags := 18, slot := 0, constantValue := 0 }, { name := "narrow", type := .boolean, accessFlags := 18, slot := 1, constantValue := 0 }, { name := "asideAt", type := (.array .int), accessFlags := 18, slot := 2, constantValue := 0 }, { name := "aside", type := (.array .char), accessFlags := 18, slot := 3, constantValue := 0 }]
  methods := #[k3m0, k3m1, k3m2]
  instanceTypes := #[(.object "java/lang/String"), .boolean, (.array .int), (.array .char)]
  staticTypes := #[.char, .char, (.array .int), (.array .char)]
  resolved := Array.replicate 124 none
  statics := some 0 }

def pool4 : Array CpInfo := pool [(1, .class_ 2), (0, u "java/io/Serializable"), (0, .class_ 4), (0, u "java/lang/Object")] 2

/-- java/io/Serializable -/
def k4 : Class := { plain "java/io/Serializable" (some 0) with
  accessFlags := 1537
  interfaces := #[]
  cf := some (fileOf pool4 1 #[] #[] 1537 3 #[] #[])
  fields := #[]
  methods := #[]
  instanceTypes := #[]
  staticTypes := #[]
  resolved := Array.replicate 7 none
  statics := none }

def pool5 : Array CpInfo := pool [(1, .class_ 2), (0, u "java/lang/Comparable"), (0, .class_ 4), (0, u "java/lang/Object")] 7

/-- java/lang/Comparable -/
def k5 : Class := { plain "java/lang/Comparable" (some 0) with
  accessFlags := 1537
  interfaces := #[]
  cf := some (fileOf pool5 1 #[] #[] 1537 3 #[] #[])
  fields := #[]
  methods := #[]
  instanceTypes := #[]
  staticTypes := #[]
  resolved := Array.replicate 12 none
  statics := none }

def pool6 : Array CpInfo := pool [(1, .class_ 2), (0, u "java/lang/constant/Constable"), (0, .class_ 4), (0, u "java/lang/Object")] 6

/-- java/lang/constant/Constable -/
def k6 : Class := { plain "java/lang/constant/Constable" (some 0) with
  accessFlags := 1537
  interfaces := #[]
  cf := some (fileOf pool6 1 #[] #[] 1537 3 #[] #[])
  fields := #[]
  methods := #[]
  instanceTypes := #[]
  staticTypes := #[]
  resolved := Array.replicate 11 none
  statics := none }

def pool7 : Array CpInfo := pool [(1, .class_ 2), (0, u "java/lang/Character"), (18, u "value"), (0, u "C"), (19, .class_ 44), (1, u "java/lang/Object"), (3, .class_ 50), (1, u "java/lang/Character$CharacterCache"), (22, .integer 65536), (37, .methodref 1 112), (0, .nameAndType 113 114), (0, u "isBmpCodePoint"), (0, u "(I)Z"), (59, u "(I)I"), (109, u "$assertionsDisabled"), (0, u "Z"), (21, .class_ 309), (1, u "java/lang/Character$UnicodeBlock"), (73, u "TYPE"), (0, u "Ljava/lang/Class;"), (0, .class_ 386), (0, u "java/io/Serializable"), (0, .class_ 388), (0, u "java/lang/Comparable"), (0, .class_ 390), (0, u "java/lang/constant/Constable"), (0, u "MIN_RADIX"), (0, u "I"), (2, u "MAX_RADIX"), (1, u "MIN_VALUE"), (1, u "MAX_VALUE"), (3, u "UNASSIGNED"), (0, u "B"), (0, u "UPPERCASE_LETTER"), (1, u "LOWERCASE_LETTER"), (0, u "TITLECASE_LETTER"), (1, u "MODIFIER_LETTER"), (1, u "OTHER_LETTER"), (1, u "NON_SPACING_MARK"), (1, u "ENCLOSING_MARK"), (1, u "COMBINING_SPACING_MARK"), (1, u "DECIMAL_DIGIT_NUMBER"), (1, u "LETTER_NUMBER"), (1, u "OTHER_NUMBER"), (1, u "SPACE_SEPARATOR"), (1, u "LINE_SEPARATOR"), (1, u "PARAGRAPH_SEPARATOR"), (1, u "CONTROL"), (1, u "FORMAT"), (1, u "PRIVATE_USE"), (1, u "SURROGATE"), (1, u "DASH_PUNCTUATION"), (1, u "START_PUNCTUATION"), (1, u "END_PUNCTUATION"), (1, u "CONNECTOR_PUNCTUATION"), (1, u "OTHER_PUNCTUATION"), (1, u "MATH_SYMBOL"), (1, u "CURRENCY_SYMBOL"), (1, u "MODIFIER_SYMBOL"), (1, u "OTHER_SYMBOL"), (1, u "INITIAL_QUOTE_PUNCTUATION"), (1, u "FINAL_QUOTE_PUNCTUATION"), (1, u "ERROR"), (1, u "DIRECTIONALITY_UNDEFINED"), (0, u "DIRECTIONALITY_LEFT_TO_RIGHT"), (0, u "DIRECTIONALITY_RIGHT_TO_LEFT"), (0, u "DIRECTIONALITY_RIGHT_TO_LEFT_ARABIC"), (0, u "DIRECTIONALITY_EUROPEAN_NUMBER"), (0, u "DIRECTIONALITY_EUROPEAN_NUMBER_SEPARATOR"), (0, u "DIRECTIONALITY_EUROPEAN_NUMBER_TERMINATOR"), (0, u "DIRECTIONALITY_ARABIC_NUMBER"), (0, u "DIRECTIONALITY_COMMON_NUMBER_SEPARATOR"), (0, u "DIRECTIONALITY_NONSPACING_MARK"), (0, u "DIRECTIONALITY_BOUNDARY_NEUTRAL"), (0, u "DIRECTIONALITY_PARAGRAPH_SEPARATOR"), (0, u "DIRECTIONALITY_SEGMENT_SEPARATOR"), (0, u "DIRECTIONALITY_WHITESPACE"), (0, u "DIRECTIONALITY_OTHER_NEUTRALS"), (0, u "DIRECTIONALITY_LEFT_TO_RIGHT_EMBEDDING"), (0, u "DIRECTIONALITY_LEFT_TO_RIGHT_OVERRIDE"), (0, u "DIRECTIONALITY_RIGHT_TO_LEFT_EMBEDDING"), (0, u "DIRECTIONALITY_RIGHT_TO_LEFT_OVERRIDE"), (1, u "DIRECTIONALITY_POP_DIRECTIONAL_FORMAT"), (0, u "DIRECTIONALITY_LEFT_TO_RIGHT_ISOLATE"), (0, u "DIRECTIONALITY_RIGHT_TO_LEFT_ISOLATE"), (0, u "DIRECTIONALITY_FIRST_STRONG_ISOLATE"), (0, u "DIRECTIONALITY_POP_DIRECTIONAL_ISOLATE"), (0, u "MIN_HIGH_SURROGATE"), (0, u "MAX_HIGH_SURROGATE"), (1, u "MIN_LOW_SURROGATE"), (0, u "MAX_LOW_SURROGATE"), (1, u "MIN_SURROGATE"), (0, u "MAX_SURROGATE"), (0, u "MIN_SUPPLEMENTARY_CODE_POINT"), (0, u "MIN_CODE_POINT"), (0, u "MAX_CODE_POINT"), (1, u "serialVersionUID"), (0, u "J"), (2, u "SIZE"), (0, u "BYTES"), (29, u "charCount"), (13, u "toChars"), (0, u "(I[CI)I"), (43, .class_ 596), (0, u "java/lang/Character$UnicodeScript"), (0, .class_ 598), (0, u "java/lang/Character$Subset")] 5

def k7c0 : Code := { maxStack := 2, maxLocals := 1, code := jdk_89_method_12_code, exceptionTable := #[], attributes := #[] }
def k7m0 : Method := { name := "isBmpCodePoint", desc := "(I)Z", sig := { parameters := [.int], returnType := some .boolean }, accessFlags := 9, code := some k7c0 }
def k7c1 : Code := { maxStack := 2, maxLocals := 1, code := jdk_89_method_18_code, exceptionTable := #[], attributes := #[] }
def k7m1 : Method := { name := "charCount", desc := "(I)I", sig := { parameters := [.int], returnType := some .int }, accessFlags := 9, code := some k7c1 }
def k7c2 : Code := { maxStack := 7, maxLocals := 3, code := jdk_89_method_30_code, exceptionTable := #[], attributes := #[] }
def k7m2 : Method := { name := "toChars", desc := "(I[CI)I", sig := { parameters := [.int, (.array .char), .int], returnType := some .int }, accessFlags := 9, code := some k7c2 }
/-- java/lang/Character -/
def k7 : Class := { plain "java/lang/Character" (some 0) with
  accessFlags := 49
  interfaces := #[4, 5, 6]
  cf := some (fileOf pool7 1 #[.nestMembers #[48, 595, 307, 597]] #[{ accessFlags := 9, nameIndex := 113, descriptorIndex := 114, attributes := #[] }, { accessFlags := 9, nameIndex := 536, descriptorIndex := 174, attributes := #[] }, { accessFlags := 9, nameIndex := 550, descriptorIndex := 551, attributes := #[] }] 49 42 #[385, 387, 389] #[{ accessFlags := 25, nameIndex := 391, descriptorIndex := 392, attributes := #[] }, { accessFlags := 25, nameIndex := 395, descriptorIndex := 392, attributes := #[] }, { accessFlags := 25, nameIndex := 397, descriptorIndex := 22, attributes := #[] }, { accessFlags := 25, nameIndex := 399, descriptorIndex := 22, attributes := #[] }, { accessFlags := 25, nameIndex := 383, descriptorIndex := 384, attributes := #[] }, { accessFlags := 25, nameIndex := 403, descriptorIndex := 404, attributes := #[] }, { accessFlags := 25, nameIndex := 405, descriptorIndex := 404, attributes := #[] }, { accessFlags := 25, nameIndex := 407, descriptorIndex := 404, attributes := #[] }, { accessFlags := 25, nameIndex := 408, descriptorIndex := 404, attributes := #[] }, { accessFlags := 25, nameIndex := 410, descriptorIndex := 404, attributes := #[] }, { accessFlags := 25, nameIndex := 412, descriptorIndex := 404, attributes := #[] }, { accessFlags := 25, nameIndex := 414, descriptorIndex := 404, attributes := #[] }, { accessFlags := 25, nameIndex := 416, descriptorIndex := 404, attributes := #[] }, { accessFlags := 25, nameIndex := 418, descriptorIndex := 404, attributes := #[] }, { accessFlags := 25, nameIndex := 420, descriptorIndex := 404, attributes := #[] }, { accessFlags := 25, nameIndex := 422, descriptorIndex := 404, attributes := #[] }, { accessFlags := 25, nameIndex := 424, descriptorIndex := 404, attributes := #[] }, { accessFlags := 25, nameIndex := 426, descriptorIndex := 404, attributes := #[] }, { accessFlags := 25, nameIndex := 428, descriptorIndex := 404, attributes := #[] }, { accessFlags := 25, nameIndex := 430, descriptorIndex := 404, attributes := #[] }, { accessFlags := 25, nameIndex := 432, descriptorIndex := 404, attributes := #[] }, { accessFlags := 25, nameIndex := 434, descriptorIndex := 404, attributes := #[] }, { accessFlags := 25, nameIndex := 436, descriptorIndex := 404, attributes := #[] }, { accessFlags := 25, nameIndex := 438, descriptorIndex := 404, attributes := #[] }, { accessFlags := 25, nameIndex := 440, descriptorIndex := 404, attributes := #[] }, { accessFlags := 25, nameIndex := 442, descriptorIndex := 404, attributes := #[] }, { accessFlags := 25, nameIndex := 444, descriptorIndex := 404, attributes := #[] }, { accessFlags := 25, nameIndex := 446, descriptorIndex := 404, attributes := #[] }, { accessFlags := 25, nameIndex := 448, descriptorIndex := 404, attributes := #[] }, { accessFlags := 25, nameIndex := 450, descriptorIndex := 404, attributes := #[] }, { accessFlags := 25, nameIndex := 452, descriptorIndex := 404, attributes := #[] }, { accessFlags := 25, nameIndex := 454, descriptorIndex := 404, attributes := #[] }, { accessFlags := 25, nameIndex := 456, descriptorIndex := 404, attributes := #[] }, { accessFlags := 25, nameIndex := 458, descriptorIndex := 404, attributes := #[] }, { accessFlags := 25, nameIndex := 460, descriptorIndex := 404, attributes := #[] }, { accessFlags := 24, nameIndex := 462, descriptorIndex := 392, attributes := #[] }, { accessFlags := 25, nameIndex := 464, descriptorIndex := 404, attributes := #[] }, { accessFlags := 25, nameIndex := 465, descriptorIndex := 404, attributes := #[] }, { accessFlags := 25, nameIndex := 466, descriptorIndex := 404, attributes := #[] }, { accessFlags := 25, nameIndex := 467, descriptorIndex := 404, attributes := #[] }, { accessFlags := 25, nameIndex := 468, descriptorIndex := 404, attributes := #[] }, { accessFlags := 25, nameIndex := 469, descriptorIndex := 404, attributes := #[] }, { accessFlags := 25, nameIndex := 470, descriptorIndex := 404, attributes := #[] }, { accessFlags := 25, nameIndex := 471, descriptorIndex := 404, attributes := #[] }, { accessFlags := 25, nameIndex := 472, descriptorIndex := 404, attributes := #[] }, { accessFlags := 25, nameIndex := 473, descriptorIndex := 404, attributes := #[] }, { accessFlags := 25, nameIndex := 474, descriptorIndex := 404, attributes := #[] }, { accessFlags := 25, nameIndex := 475, descriptorIndex := 404, attributes := #[] }, { accessFlags := 25, nameIndex := 476, descriptorIndex := 404, attributes := #[] }, { accessFlags := 25, nameIndex := 477, descriptorIndex := 404, attributes := #[] }, { accessFlags := 25, nameIndex := 478, descriptorIndex := 404, attributes := #[] }, { accessFlags := 25, nameIndex := 479, descriptorIndex := 404, attributes := #[] }, { accessFlags := 25, nameIndex := 480, descriptorIndex := 404, attributes := #[] }, { accessFlags := 25, nameIndex := 481, descriptorIndex := 404, attributes := #[] }, { accessFlags := 25, nameIndex := 482, descriptorIndex := 404, attributes := #[] }, { accessFlags := 25, nameIndex := 484, descriptorIndex := 404, attributes := #[] }, { accessFlags := 25, nameIndex := 485, descriptorIndex := 404, attributes := #[] }, { accessFlags := 25, nameIndex := 486, descriptorIndex := 404, attributes := #[] }, { accessFlags := 25, nameIndex := 487, descriptorIndex := 404, attributes := #[] }, { accessFlags := 25, nameIndex := 488, descriptorIndex := 404, attributes := #[] }, { accessFlags := 25, nameIndex := 489, descriptorIndex := 22, attributes := #[] }, { accessFlags := 25, nameIndex := 490, descriptorIndex := 22, attributes := #[] }, { accessFlags := 25, nameIndex := 492, descriptorIndex := 22, attributes := #[] }, { accessFlags := 25, nameIndex := 493, descriptorIndex := 22, attributes := #[] }, { accessFlags := 25, nameIndex := 495, descriptorIndex := 22, attributes := #[] }, { accessFlags := 25, nameIndex := 496, descriptorIndex := 22, attributes := #[] }, { accessFlags := 25, nameIndex := 497, descriptorIndex := 392, attributes := #[] }, { accessFlags := 25, nameIndex := 498, descriptorIndex := 392, attributes := #[] }, { accessFlags := 25, nameIndex := 499, descriptorIndex := 392, attributes := #[] }, { accessFlags := 18, nameIndex := 21, descriptorIndex := 22, attributes := #[] }, { accessFlags := 26, nameIndex := 501, descriptorIndex := 502, attributes := #[] }, { accessFlags := 25, nameIndex := 505, descriptorIndex := 392, attributes := #[] }, { accessFlags := 25, nameIndex := 506, descriptorIndex := 392, attributes := #[] }, { accessFlags := 4120, nameIndex := 284, descriptorIndex := 285, attributes := #[] }])
  fields := #[{ name := "MIN_RADIX", type := .int, accessFlags := 25, slot := 0, constantValue := 0 }, { name := "MAX_RADIX", type := .int, accessFlags := 25, slot := 1, constantValue := 0 }, { name := "MIN_VALUE", type := .char, accessFlags := 25, slot := 2, constantValue := 0 }, { name := "MAX_VALUE", type := .char, accessFlags := 25, slot := 3, constantValue := 0 }, { name := "TYPE", type := (.object "java/lang/Class"), accessFlags := 25, slot := 4, constantValue := 0 }, { name := "UNASSIGNED", type := .byte, accessFlags := 25, slot := 5, constantValue := 0 }, { name := "UPPERCASE_LETTER", type := .byte, accessFlags := 25, slot := 6, constantValue := 0 }, { name := "LOWERCASE_LETTER", type := .byte, accessFlags := 25, slot := 7, constantValue := 0 }, { name := "TITLECASE_LETTER", type := .byte, accessFlags := 25, slot := 8, constantValue := 0 }, { name := "MODIFIER_LETTER", type := .byte, accessFlags := 25, slot := 9, constantValue := 0 }, { name := "OTHER_LETTER", type := .byte, accessFlags := 25, slot := 10, constantValue := 0 }, { name := "NON_SPACING_MARK", type := .byte, accessFlags := 25, slot := 11, constantValue := 0 }, { name := "ENCLOSING_MARK", type := .byte, accessFlags := 25, slot := 12, constantValue := 0 }, { name := "COMBINING_SPACING_MARK", type := .byte, accessFlags := 25, slot := 13, constantValue := 0 }, { name := "DECIMAL_DIGIT_NUMBER", type := .byte, accessFlags := 25, slot := 14, constantValue := 0 }, { name := "LETTER_NUMBER", type := .byte, accessFlags := 25, slot := 15, constantValue := 0 }, { name := "OTHER_NUMBER", type := .byte, accessFlags := 25, slot := 16, constantValue := 0 }, { name := "SPACE_SEPARATOR", type := .byte, accessFlags := 25, slot := 17, constantValue := 0 }, { name := "LINE_SEPARATOR", type := .byte, accessFlags := 25, slot := 18, constantValue := 0 }, { name := "PARAGRAPH_SEPARATOR", type := .byte, accessFlags := 25, slot := 19, constantValue := 0 }, { name := "CONTROL", type := .byte, accessFlags := 25, slot := 20, constantValue := 0 }, { name := "FORMAT", type := .byte, accessFlags := 25, slot := 21, constantValue := 0 }, { name := "PRIVATE_USE", type := .byte, accessFlags := 25, slot := 22, constantValue := 0 }, { name := "SURROGATE", type := .byte, accessFlags := 25, slot := 23, constantValue := 0 }, { name := "DASH_PUNCTUATION", type := .byte, accessFlags := 25, slot := 24, constantValue := 0 }, { name := "START_PUNCTUATION", type := .byte, accessFlags := 25, slot := 25, constantValue := 0 }, { name := "END_PUNCTUATION", type := .byte, accessFlags := 25, slot := 26, constantValue := 0 }, { name := "CONNECTOR_PUNCTUATION", type := .byte, accessFlags := 25, slot := 27, constantValue := 0 }, { name := "OTHER_PUNCTUATION", type := .byte, accessFlags := 25, slot := 28, constantValue := 0 }, { name := "MATH_SYMBOL", type := .byte, accessFlags := 25, slot := 29, constantValue := 0 }, { name := "CURRENCY_SYMBOL", type := .byte, accessFlags := 25, slot := 30, constantValue := 0 }, { name := "MODIFIER_SYMBOL", type := .byte, accessFlags := 25, slot := 31, constantValue := 0 }, { name := "OTHER_SYMBOL", type := .byte, accessFlags := 25, slot := 32, constantValue := 0 }, { name := "INITIAL_QUOTE_PUNCTUATION", type := .byte, accessFlags := 25, slot := 33, constantValue := 0 }, { name := "FINAL_QUOTE_PUNCTUATION", type := .byte, accessFlags := 25, slot := 34, constantValue := 0 }, { name := "ERROR", type := .int, accessFlags := 24, slot := 35, constantValue := 0 }, { name := "DIRECTIONALITY_UNDEFINED", type := .byte, accessFlags := 25, slot := 36, constantValue := 0 }, { name := "DIRECTIONALITY_LEFT_TO_RIGHT", type := .byte, accessFlags := 25, slot := 37, constantValue := 0 }, { name := "DIRECTIONALITY_RIGHT_TO_LEFT", type := .byte, accessFlags := 25, slot := 38, constantValue := 0 }, { name := "DIRECTIONALITY_RIGHT_TO_LEFT_ARABIC", type := .byte, accessFlags := 25, slot := 39, constantValue := 0 }, { name := "DIRECTIONALITY_EUROPEAN_NUMBER", type := .byte, accessFlags := 25, slot := 40, constantValue := 0 }, { name := "DIRECTIONALITY_EUROPEAN_NUMBER_SEPARATOR", type := .byte, accessFlags := 25, slot := 41, constantValue := 0 }, { name := "DIRECTIONALITY_EUROPEAN_NUMBER_TERMINATOR", type := .byte, accessFlags := 25, slot := 42, constantValue := 0 }, { name := "DIRECTIONALITY_ARABIC_NUMBER", type := .byte, accessFlags := 25, slot := 43, constantValue := 0 }, { name := "DIRECTIONALITY_COMMON_NUMBER_SEPARATOR", type := .byte, accessFlags := 25, slot := 44, constantValue := 0 }, { name := "DIRECTIONALITY_NONSPACING_MARK", type := .byte, accessFlags := 25, slot := 45, constantValue := 0 }, { name := "DIRECTIONALITY_BOUNDARY_NEUTRAL", type := .byte, accessFlags := 25, slot := 46, constantValue := 0 }, { name := "DIRECTIONALITY_PARAGRAPH_SEPARATOR", type := .byte, accessFlags := 25, slot := 47, constantValue := 0 }, { name := "DIRECTIONALITY_SEGMENT_SEPARATOR", type := .byte, accessFlags := 25, slot := 48, constantValue := 0 }, { name := "DIRECTIONALITY_WHITESPACE", type := .byte, accessFlags := 25, slot := 49, constantValue := 0 }, { name := "DIRECTIONALITY_OTHER_NEUTRALS", type := .byte, accessFlags := 25, slot := 50, constantValue := 0 }, { name := "DIRECTIONALITY_LEFT_TO_RIGHT_EMBEDDING", type := .byte, accessFlags := 25, slot := 51, constantValue := 0 }, { name := "DIRECTIONALITY_LEFT_TO_RIGHT_OVERRIDE", type := .byte, accessFlags := 25, slot := 52, constantValue := 0 }, { name := "DIRECTIONALITY_RIGHT_TO_LEFT_EMBEDDING", type := .byte, accessFlags := 25, slot := 53, constantValue := 0 }, { name := "DIRECTIONALITY_RIGHT_TO_LEFT_OVERRIDE", type := .byte, accessFlags := 25, slot := 54, constantValue := 0 }, { name := "DIRECTIONALITY_POP_DIRECTIONAL_FORMAT", type := .byte, accessFlags := 25, slot := 55, constantValue := 0 }, { name := "DIRECTIONALITY_LEFT_TO_RIGHT_ISOLATE", type := .byte, accessFlags := 25, slot := 56, constantValue := 0 }, { name := "DIRECTIONALITY_RIGHT_TO_LEFT_ISOLATE", type := .byte, accessFlags := 25, slot := 57, constantValue := 0 }, { name := "DIRECTIONALITY_FIRST_STRONG_ISOLATE", type := .byte, accessFlags := 25, slot := 58, constantValue := 0 }, { name := "DIRECTIONALITY_POP_DIRECTIONAL_ISOLATE", type := .byte, accessFlags := 25, slot := 59, constantValue := 0 }, { name := "MIN_HIGH_SURROGATE", type := .char, accessFlags := 25, slot := 60, constantValue := 0 }, { name := "MAX_HIGH_SURROGATE", type := .char, accessFlags := 25, slot := 61, constantValue := 0 }, { name := "MIN_LOW_SURROGATE", type := .char, accessFlags := 25, slot := 62, constantValue := 0 }, { name := "MAX_LOW_SURROGATE", type := .char, accessFlags := 25, slot := 63, constantValue := 0 }, { name := "MIN_SURROGATE", type := .char, accessFlags := 25, slot := 64, constantValue := 0 }, { name := "MAX_SURROGATE", type := .char, accessFlags := 25, slot := 65, constantValue := 0 }, { name := "MIN_SUPPLEMENTARY_CODE_POINT", type := .int, accessFlags := 25, slot := 66, constantValue := 0 }, { name := "MIN_CODE_POINT", type := .int, accessFlags := 25, slot := 67, constantValue := 0 }, { name := "MAX_CODE_POINT", type := .int, accessFlags := 25, slot := 68, constantValue := 0 }, { name := "value", type := .char, accessFlags := 18, slot := 0, constantValue := 0 }, { name := "serialVersionUID", type := .long, accessFlags := 26, slot := 69, constantValue := 0 }, { name := "SIZE", type := .int, accessFlags := 25, slot := 70, constantValue := 0 }, { name := "BYTES", type := .int, accessFlags := 25, slot := 71, constantValue := 0 }, { name := "$assertionsDisabled", type := .boolean, accessFlags := 4120, slot := 72, constantValue := 0 }]
  methods := #[k7m0, k7m1, k7m2]
  instanceTypes := #[.char]
  staticTypes := #[.int, .int, .char, .char, (.object "java/lang/Class"), .byte, .byte, .byte, .byte, .byte, .byte, .byte, .byte, .byte, .byte, .byte, .byte, .byte, .byte, .byte, .byte, .byte, .byte, .byte, .byte, .byte, .byte, .byte, .byte, .byte, .byte, .byte, .byte, .byte, .byte, .int, .byte, .byte, .byte, .byte, .byte, .byte, .byte, .byte, .byte, .byte, .byte, .byte, .byte, .byte, .byte, .byte, .byte, .byte, .byte, .byte, .byte, .byte, .byte, .byte, .char, .char, .char, .char, .char, .char, .int, .int, .int, .long, .int, .int, .boolean]
  resolved := Array.replicate 604 none
  statics := none }

def pool8 : Array CpInfo := pool [(2, .class_ 4), (1, u "java/lang/CharSequence"), (42, .class_ 48), (0, u "java/lang/CharSequence$1CodePointIterator"), (10, .class_ 60), (0, u "java/lang/CharSequence$1CharIterator"), (5, .class_ 67), (0, u "java/lang/Object")] 63

/-- java/lang/CharSequence -/
def k8 : Class := { plain "java/lang/CharSequence" (some 0) with
  accessFlags := 1537
  interfaces := #[]
  cf := some (fileOf pool8 2 #[.nestMembers #[47, 59]] #[] 1537 66 #[] #[])
  fields := #[]
  methods := #[]
  instanceTypes := #[]
  staticTypes := #[]
  resolved := Array.replicate 131 none
  statics := none }

def pool9 : Array CpInfo := pool [(1, .class_ 2), (0, u "java/lang/constant/ConstantDesc"), (0, .class_ 4), (0, u "java/lang/Object")] 32

/-- java/lang/constant/ConstantDesc -/
def k9 : Class := { plain "java/lang/constant/ConstantDesc" (some 0) with
  accessFlags := 1537
  interfaces := #[]
  cf := some (fileOf pool9 1 #[] #[] 1537 3 #[] #[])
  fields := #[]
  methods := #[]
  instanceTypes := #[]
  staticTypes := #[]
  resolved := Array.replicate 37 none
  statics := none }

def pool10 : Array CpInfo := pool [(1, .methodref 2 3), (0, .class_ 4), (0, .nameAndType 5 6), (0, u "java/lang/Object"), (0, u "<init>"), (0, u "()V"), (2, .fieldref 10 11), (0, .class_ 12), (0, .nameAndType 13 14), (0, u "java/lang/String"), (0, u "value"), (0, u "[B"), (0, .fieldref 10 16), (0, .nameAndType 17 18), (0, u "coder"), (0, u "B"), (2, u "hash"), (0, u "I"), (2, u "hashIsZero"), (0, u "Z"), (0, .methodref 10 28), (0, .nameAndType 5 29), (0, u "([CIILjava/lang/Void;)V"), (0, .methodref 10 31), (0, .nameAndType 32 33), (0, u "rangeCheck"), (0, u "([CII)Ljava/lang/Void;"), (0, .methodref 10 35), (0, .nameAndType 36 37), (0, u "checkBoundsOffCount"), (0, u "(III)I"), (0, .fieldref 10 39), (0, .nameAndType 40 26), (0, u "COMPACT_STRINGS"), (1, .class_ 44), (1, u "java/lang/StringUTF16"), (0, u "compress"), (1, .methodref 42 48), (0, .nameAndType 49 50), (0, u "coderFromArrayLen"), (0, u "([BI)B"), (3, .methodref 55 56), (0, .class_ 57), (0, .nameAndType 58 59), (0, u "java/util/Arrays"), (0, u "copyOfRange"), (0, u "([BII)[B"), (15, .methodref 10 76), (0, .nameAndType 5 77), (0, u "(Ljava/nio/charset/Charset;[BII)V"), (0, .methodref 79 80), (0, .class_ 81), (0, .nameAndType 82 83), (0, u "java/util/Objects"), (0, u "requireNonNull"), (0, u "(Ljava/lang/Object;)Ljava/lang/Object;"), (0, .class_ 85), (0, u "java/nio/charset/Charset"), (0, .fieldref 87 88), (0, .class_ 89), (0, .nameAndType 90 91), (0, u "sun/nio/cs/UTF_8"), (0, u "INSTANCE"), (0, u "Lsun/nio/cs/UTF_8;"), (15, .class_ 109), (1, u "java/lang/StringLatin1"), (6, .fieldref 117 118), (0, .class_ 119), (0, .nameAndType 90 120), (0, u "sun/nio/cs/ISO_8859_1"), (0, u "Lsun/nio/cs/ISO_8859_1;"), (21, u "()Z"), (34, .methodref 42 178), (0, .nameAndType 45 179), (0, u "([CII)[B"), (58, u "([BIILjava/nio/charset/Charset;)V"), (95, u "()I"), (0, .methodref 10 336), (0, .nameAndType 17 337), (0, u "()B"), (25, u "([BI)C"), (27, u "(II)V"), (35, u "(I)C"), (64, .methodref 10 493), (0, .nameAndType 494 142), (0, u "isLatin1"), (0, .methodref 107 496), (0, .nameAndType 497 363), (0, u "charAt"), (3, u "checkIndex"), (5, u "length"), (67, .class_ 576), (0, u "java/lang/CharSequence"), (22, u "CASE_INSENSITIVE_ORDER"), (0, u "Ljava/util/Comparator;"), (371, u "([CII)V"), (80, .fieldref 1054 1055), (0, .class_ 1056), (0, .nameAndType 1057 1058), (0, u "jdk/internal/util/Preconditions"), (0, u "SIOOBE_FORMATTER"), (0, u "Ljava/util/function/BiFunction;"), (0, .methodref 1054 1060), (0, .nameAndType 501 1061), (0, u "(IILjava/util/function/BiFunction;)I"), (2, u "(IIILjava/util/function/BiFunction;)I"), (0, .methodref 1054 1066), (0, .nameAndType 1067 1064), (0, u "checkFromIndexSize"), (33, u "serialPersistentFields"), (0, u "[Ljava/io/ObjectStreamField;"), (0, .class_ 1104), (0, u "java/lang/String$CaseInsensitiveComparator"), (1, .class_ 1107), (0, u "java/io/Serializable"), (0, .class_ 1109), (0, u "java/lang/Comparable"), (0, .class_ 1111), (0, u "java/lang/constant/Constable"), (0, .class_ 1113), (0, u "java/lang/constant/ConstantDesc"), (2, u "serialVersionUID"), (0, u "J"), (3, u "REPL"), (0, u "C"), (2, u "LATIN1"), (1, u "UTF16")] 323

def k10m0 : Method := { name := "<init>", desc := "()V", sig := { parameters := [], returnType := none }, accessFlags := 1, code := none }
def k10c1 : Code := { maxStack := 7, maxLocals := 4, code := jdk_42_method_4_code, exceptionTable := #[], attributes := #[] }
def k10m1 : Method := { name := "<init>", desc := "([CII)V", sig := { parameters := [(.array .char), .int, .int], returnType := none }, accessFlags := 1, code := some k10c1 }
def k10c2 : Code := { maxStack := 3, maxLocals := 3, code := jdk_42_method_5_code, exceptionTable := #[], attributes := #[] }
def k10m2 : Method := { name := "rangeCheck", desc := "([CII)Ljava/lang/Void;", sig := { parameters := [(.array .char), .int, .int], returnType := some (.object "java/lang/Void") }, accessFlags := 10, code := some k10c2 }
def k10c3 : Code := { maxStack := 6, maxLocals := 5, code := jdk_42_method_10_code, exceptionTable := #[], attributes := #[] }
def k10m3 : Method := { name := "<init>", desc := "([BIILjava/nio/charset/Charset;)V", sig := { parameters := [(.array .byte), .int, .int, (.object "java/nio/charset/Charset")], returnType := none }, accessFlags := 1, code := some k10c3 }
def k10c4 : Code := { maxStack := 6, maxLocals := 11, code := jdk_42_method_11_code, exceptionTable := #[{ startPc := 800, endPc := 813, handlerPc := 816, catchType := 202 }], attributes := #[] }
def k10m4 : Method := { name := "<init>", desc := "(Ljava/nio/charset/Charset;[BII)V", sig := { parameters := [(.object "java/nio/charset/Charset"), (.array .byte), .int, .int], returnType := none }, accessFlags := 2, code := some k10c4 }
def k10c5 : Code := { maxStack := 2, maxLocals := 1, code := jdk_42_method_54_code, exceptionTable := #[], attributes := #[] }
def k10m5 : Method := { name := "length", desc := "()I", sig := { parameters := [], returnType := some .int }, accessFlags := 1, code := some k10c5 }
def k10c6 : Code := { maxStack := 2, maxLocals := 2, code := jdk_42_method_56_code, exceptionTable := #[], attributes := #[] }
def k10m6 : Method := { name := "charAt", desc := "(I)C", sig := { parameters := [.int], returnType := some .char }, accessFlags := 1, code := some k10c6 }
def k10c7 : Code := { maxStack := 4, maxLocals := 6, code := jdk_42_method_149_code, exceptionTable := #[], attributes := #[] }
def k10m7 : Method := { name := "<init>", desc := "([CIILjava/lang/Void;)V", sig := { parameters := [(.array .char), .int, .int, (.object "java/lang/Void")], returnType := none }, accessFlags := 2, code := some k10c7 }
def k10c8 : Code := { maxStack := 1, maxLocals := 1, code := jdk_42_method_152_code, exceptionTable := #[], attributes := #[] }
def k10m8 : Method := { name := "coder", desc := "()B", sig := { parameters := [], returnType := some .byte }, accessFlags := 0, code := some k10c8 }
def k10c9 : Code := { maxStack := 1, maxLocals := 1, code := jdk_42_method_154_code, exceptionTable := #[], attributes := #[] }
def k10m9 : Method := { name := "isLatin1", desc := "()Z", sig := { parameters := [], returnType := some .boolean }, accessFlags := 0, code := some k10c9 }
def k10c10 : Code := { maxStack := 3, maxLocals := 2, code := jdk_42_method_155_code, exceptionTable := #[], attributes := #[] }
def k10m10 : Method := { name := "checkIndex", desc := "(II)V", sig := { parameters := [.int, .int], returnType := none }, accessFlags := 8, code := some k10c10 }
def k10c11 : Code := { maxStack := 4, maxLocals := 3, code := jdk_42_method_157_code, exceptionTable := #[], attributes := #[] }
def k10m11 : Method := { name := "checkBoundsOffCount", desc := "(III)I", sig := { parameters := [.int, .int, .int], returnType := some .int }, accessFlags := 8, code := some k10c11 }
/-- java/lang/String -/
def k10 : Class := { plain "java/lang/String" (some 0) with
  accessFlags := 49
  interfaces := #[4, 5, 8, 6, 9]
  cf := some (fileOf pool10 10 #[.nestMembers #[1103]] #[{ accessFlags := 1, nameIndex := 5, descriptorIndex := 6, attributes := #[] }, { accessFlags := 1, nameIndex := 5, descriptorIndex := 972, attributes := #[] }, { accessFlags := 10, nameIndex := 32, descriptorIndex := 33, attributes := #[] }, { accessFlags := 1, nameIndex := 5, descriptorIndex := 238, attributes := #[] }, { accessFlags := 2, nameIndex := 5, descriptorIndex := 77, attributes := #[] }, { accessFlags := 1, nameIndex := 507, descriptorIndex := 334, attributes := #[] }, { accessFlags := 1, nameIndex := 497, descriptorIndex := 427, attributes := #[] }, { accessFlags := 2, nameIndex := 5, descriptorIndex := 29, attributes := #[] }, { accessFlags := 0, nameIndex := 17, descriptorIndex := 337, attributes := #[] }, { accessFlags := 0, nameIndex := 494, descriptorIndex := 142, attributes := #[] }, { accessFlags := 8, nameIndex := 501, descriptorIndex := 391, attributes := #[] }, { accessFlags := 8, nameIndex := 36, descriptorIndex := 37, attributes := #[] }] 49 2 #[1106, 1108, 575, 1110, 1112] #[{ accessFlags := 18, nameIndex := 13, descriptorIndex := 14, attributes := #[] }, { accessFlags := 18, nameIndex := 17, descriptorIndex := 18, attributes := #[] }, { accessFlags := 2, nameIndex := 21, descriptorIndex := 22, attributes := #[] }, { accessFlags := 2, nameIndex := 25, descriptorIndex := 26, attributes := #[] }, { accessFlags := 26, nameIndex := 1116, descriptorIndex := 1117, attributes := #[] }, { accessFlags := 24, nameIndex := 40, descriptorIndex := 26, attributes := #[] }, { accessFlags := 26, nameIndex := 1101, descriptorIndex := 1102, attributes := #[] }, { accessFlags := 26, nameIndex := 1121, descriptorIndex := 1122, attributes := #[] }, { accessFlags := 25, nameIndex := 599, descriptorIndex := 600, attributes := #[] }, { accessFlags := 24, nameIndex := 1125, descriptorIndex := 18, attributes := #[] }, { accessFlags := 24, nameIndex := 1127, descriptorIndex := 18, attributes := #[] }])
  fields := #[{ name := "value", type := (.array .byte), accessFlags := 18, slot := 0, constantValue := 0 }, { name := "coder", type := .byte, accessFlags := 18, slot := 1, constantValue := 0 }, { name := "hash", type := .int, accessFlags := 2, slot := 2, constantValue := 0 }, { name := "hashIsZero", type := .boolean, accessFlags := 2, slot := 3, constantValue := 0 }, { name := "serialVersionUID", type := .long, accessFlags := 26, slot := 0, constantValue := 0 }, { name := "COMPACT_STRINGS", type := .boolean, accessFlags := 24, slot := 1, constantValue := 0 }, { name := "serialPersistentFields", type := (.array (.object "java/io/ObjectStreamField")), accessFlags := 26, slot := 2, constantValue := 0 }, { name := "REPL", type := .char, accessFlags := 26, slot := 3, constantValue := 0 }, { name := "CASE_INSENSITIVE_ORDER", type := (.object "java/util/Comparator"), accessFlags := 25, slot := 4, constantValue := 0 }, { name := "LATIN1", type := .byte, accessFlags := 24, slot := 5, constantValue := 0 }, { name := "UTF16", type := .byte, accessFlags := 24, slot := 6, constantValue := 0 }]
  methods := #[k10m0, k10m1, k10m2, k10m3, k10m4, k10m5, k10m6, k10m7, k10m8, k10m9, k10m10, k10m11]
  instanceTypes := #[(.array .byte), .byte, .int, .boolean]
  staticTypes := #[.long, .boolean, (.array (.object "java/io/ObjectStreamField")), .char, (.object "java/util/Comparator"), .byte, .byte]
  resolved := Array.replicate 1451 none
  statics := some 1 }

def pool11 : Array CpInfo := pool [(2, .class_ 4), (1, u "java/lang/Object"), (0, u "<init>"), (0, u "()V"), (17, .class_ 26), (1, u "jdk/internal/util/Preconditions"), (6, u "checkIndex"), (15, u "checkFromIndexSize"), (5, .class_ 56), (0, u "jdk/internal/util/Preconditions$4"), (57, .class_ 115), (0, u "jdk/internal/util/Preconditions$1"), (7, u "SIOOBE_FORMATTER"), (0, u "Ljava/util/function/BiFunction;"), (0, .class_ 126), (0, u "jdk/internal/util/Preconditions$2"), (3, u "AIOOBE_FORMATTER"), (0, .class_ 132), (0, u "jdk/internal/util/Preconditions$3"), (3, u "IOOBE_FORMATTER"), (41, u "(IILjava/util/function/BiFunction;)I"), (4, u "(IIILjava/util/function/BiFunction;)I")] 10

def k11m0 : Method := { name := "<init>", desc := "()V", sig := { parameters := [], returnType := none }, accessFlags := 1, code := none }
def k11c1 : Code := { maxStack := 3, maxLocals := 3, code := jdk_41_method_11_code, exceptionTable := #[], attributes := #[] }
def k11m1 : Method := { name := "checkIndex", desc := "(IILjava/util/function/BiFunction;)I", sig := { parameters := [.int, .int, (.object "java/util/function/BiFunction")], returnType := some .int }, accessFlags := 9, code := some k11c1 }
def k11c2 : Code := { maxStack := 4, maxLocals := 4, code := jdk_41_method_13_code, exceptionTable := #[], attributes := #[] }
def k11m2 : Method := { name := "checkFromIndexSize", desc := "(IIILjava/util/function/BiFunction;)I", sig := { parameters := [.int, .int, .int, (.object "java/util/function/BiFunction")], returnType := some .int }, accessFlags := 9, code := some k11c2 }
/-- jdk/internal/util/Preconditions -/
def k11 : Class := { plain "jdk/internal/util/Preconditions" (some 0) with
  accessFlags := 33
  interfaces := #[]
  cf := some (fileOf pool11 24 #[.nestMembers #[55, 131, 125, 114]] #[{ accessFlags := 1, nameIndex := 5, descriptorIndex := 6, attributes := #[] }, { accessFlags := 9, nameIndex := 33, descriptorIndex := 178, attributes := #[] }, { accessFlags := 9, nameIndex := 49, descriptorIndex := 183, attributes := #[] }] 33 2 #[] #[{ accessFlags := 25, nameIndex := 123, descriptorIndex := 124, attributes := #[] }, { accessFlags := 25, nameIndex := 130, descriptorIndex := 124, attributes := #[] }, { accessFlags := 25, nameIndex := 136, descriptorIndex := 124, attributes := #[] }])
  fields := #[{ name := "SIOOBE_FORMATTER", type := (.object "java/util/function/BiFunction"), accessFlags := 25, slot := 0, constantValue := 0 }, { name := "AIOOBE_FORMATTER", type := (.object "java/util/function/BiFunction"), accessFlags := 25, slot := 1, constantValue := 0 }, { name := "IOOBE_FORMATTER", type := (.object "java/util/function/BiFunction"), accessFlags := 25, slot := 2, constantValue := 0 }]
  methods := #[k11m0, k11m1, k11m2]
  instanceTypes := #[]
  staticTypes := #[(.object "java/util/function/BiFunction"), (.object "java/util/function/BiFunction"), (.object "java/util/function/BiFunction")]
  resolved := Array.replicate 194 none
  statics := some 2 }

def pool12 : Array CpInfo := pool [(6, .class_ 8), (1, u "java/lang/Object"), (0, u "<init>"), (0, u "()V"), (1, .class_ 14), (1, u "java/lang/StringUTF16"), (31, u "$assertionsDisabled"), (0, u "Z"), (13, u "HI_BYTE_SHIFT"), (0, u "I"), (2, u "LO_BYTE_SHIFT"), (49, .methodref 12 116), (0, .nameAndType 117 118), (0, u "compress"), (0, u "([CI[BII)I"), (3, u "([CII)[B"), (138, u "coderFromArrayLen"), (0, u "([BI)B"), (106, .class_ 371), (1, u "java/lang/StringUTF16$LinesSpliterator"), (58, u "MAX_LENGTH"), (196, .class_ 628), (0, u "java/lang/StringUTF16$CodePointsSpliterator"), (0, .class_ 630), (0, u "java/lang/StringUTF16$CharsSpliterator")] 4

def k12m0 : Method := { name := "<init>", desc := "()V", sig := { parameters := [], returnType := none }, accessFlags := 0, code := none }
def k12c1 : Code := { maxStack := 2, maxLocals := 2, code := jdk_52_method_15_code, exceptionTable := #[], attributes := #[] }
def k12m1 : Method := { name := "coderFromArrayLen", desc := "([BI)B", sig := { parameters := [(.array .byte), .int], returnType := some .byte }, accessFlags := 8, code := some k12c1 }
def k12c2 : Code := { maxStack := 5, maxLocals := 6, code := jdk_52_method_16_code, exceptionTable := #[], attributes := #[] }
def k12m2 : Method := { name := "compress", desc := "([CII)[B", sig := { parameters := [(.array .char), .int, .int], returnType := some (.array .byte) }, accessFlags := 9, code := some k12c2 }
def k12c3 : Code := { maxStack := 3, maxLocals := 7, code := jdk_52_method_21_code, exceptionTable := #[], attributes := #[] }
def k12m3 : Method := { name := "compress", desc := "([CI[BII)I", sig := { parameters := [(.array .char), .int, (.array .byte), .int, .int], returnType := some .int }, accessFlags := 9, code := some k12c3 }
/-- java/lang/StringUTF16 -/
def k12 : Class := { plain "java/lang/StringUTF16" (some 0) with
  accessFlags := 48
  interfaces := #[]
  cf := some (fileOf pool12 12 #[.nestMembers #[627, 629, 369]] #[{ accessFlags := 0, nameIndex := 9, descriptorIndex := 10, attributes := #[] }, { accessFlags := 8, nameIndex := 261, descriptorIndex := 262, attributes := #[] }, { accessFlags := 9, nameIndex := 117, descriptorIndex := 122, attributes := #[] }, { accessFlags := 9, nameIndex := 117, descriptorIndex := 118, attributes := #[] }] 48 6 #[] #[{ accessFlags := 26, nameIndex := 61, descriptorIndex := 62, attributes := #[] }, { accessFlags := 26, nameIndex := 65, descriptorIndex := 62, attributes := #[] }, { accessFlags := 24, nameIndex := 430, descriptorIndex := 62, attributes := #[] }, { accessFlags := 4120, nameIndex := 46, descriptorIndex := 47, attributes := #[] }])
  fields := #[{ name := "HI_BYTE_SHIFT", type := .int, accessFlags := 26, slot := 0, constantValue := 0 }, { name := "LO_BYTE_SHIFT", type := .int, accessFlags := 26, slot := 1, constantValue := 0 }, { name := "MAX_LENGTH", type := .int, accessFlags := 24, slot := 2, constantValue := 0 }, { name := "$assertionsDisabled", type := .boolean, accessFlags := 4120, slot := 3, constantValue := 0 }]
  methods := #[k12m0, k12m1, k12m2, k12m3]
  instanceTypes := #[]
  staticTypes := #[.int, .int, .int, .boolean]
  resolved := Array.replicate 635 none
  statics := none }

def pool13 : Array CpInfo := pool [(1, .class_ 2), (0, u "java/lang/String"), (1, .class_ 6), (1, u "java/lang/Object"), (0, u "<init>"), (0, u "()V"), (0, .methodref 1 10), (0, .nameAndType 11 12), (0, u "checkIndex"), (0, u "(II)V"), (1, .class_ 16), (1, u "java/lang/StringLatin1"), (36, u "([BI)C"), (67, u "$assertionsDisabled"), (0, u "Z"), (98, .class_ 223), (1, u "java/lang/StringLatin1$LinesSpliterator"), (28, u "charAt"), (137, .class_ 391), (0, u "java/lang/StringLatin1$CharsSpliterator")] 3

def k13m0 : Method := { name := "<init>", desc := "()V", sig := { parameters := [], returnType := none }, accessFlags := 0, code := none }
def k13c1 : Code := { maxStack := 2, maxLocals := 2, code := jdk_43_method_2_code, exceptionTable := #[], attributes := #[] }
def k13m1 : Method := { name := "charAt", desc := "([BI)C", sig := { parameters := [(.array .byte), .int], returnType := some .char }, accessFlags := 9, code := some k13c1 }
/-- java/lang/StringLatin1 -/
def k13 : Class := { plain "java/lang/StringLatin1" (some 0) with
  accessFlags := 48
  interfaces := #[]
  cf := some (fileOf pool13 14 #[.nestMembers #[390, 221]] #[{ accessFlags := 0, nameIndex := 7, descriptorIndex := 8, attributes := #[] }, { accessFlags := 9, nameIndex := 252, descriptorIndex := 53, attributes := #[] }] 48 4 #[] #[{ accessFlags := 4120, nameIndex := 121, descriptorIndex := 122, attributes := #[] }])
  fields := #[{ name := "$assertionsDisabled", type := .boolean, accessFlags := 4120, slot := 0, constantValue := 0 }]
  methods := #[k13m0, k13m1]
  instanceTypes := #[]
  staticTypes := #[.boolean]
  resolved := Array.replicate 395 none
  statics := none }

def pool14 : Array CpInfo := pool [(1, .class_ 2), (0, u "java/lang/Math"), (1, .class_ 6), (1, u "java/lang/Object"), (0, u "<init>"), (0, u "()V"), (89, .class_ 100), (1, u "java/lang/Math$RandomNumberGeneratorHolder"), (71, u "negativeZeroFloatBits"), (0, u "J"), (2, u "negativeZeroDoubleBits"), (21, u "max"), (2, u "min"), (43, u "$assertionsDisabled"), (0, u "Z"), (88, u "(II)I"), (2, u "twoToTheDoubleScaleDown"), (0, u "D"), (4, u "twoToTheDoubleScaleUp"), (9, u "E"), (3, u "PI"), (2, u "TAU"), (2, u "DEGREES_TO_RADIANS"), (0, u "RADIANS_TO_DEGREES")] 94

def k14m0 : Method := { name := "<init>", desc := "()V", sig := { parameters := [], returnType := none }, accessFlags := 2, code := none }
def k14c1 : Code := { maxStack := 2, maxLocals := 2, code := jdk_29_method_65_code, exceptionTable := #[], attributes := #[] }
def k14m1 : Method := { name := "max", desc := "(II)I", sig := { parameters := [.int, .int], returnType := some .int }, accessFlags := 9, code := some k14c1 }
def k14c2 : Code := { maxStack := 2, maxLocals := 2, code := jdk_29_method_69_code, exceptionTable := #[], attributes := #[] }
def k14m2 : Method := { name := "min", desc := "(II)I", sig := { parameters := [.int, .int], returnType := some .int }, accessFlags := 9, code := some k14c2 }
/-- java/lang/Math -/
def k14 : Class := { plain "java/lang/Math" (some 0) with
  accessFlags := 49
  interfaces := #[]
  cf := some (fileOf pool14 1 #[.nestMembers #[98]] #[{ accessFlags := 2, nameIndex := 7, descriptorIndex := 8, attributes := #[] }, { accessFlags := 9, nameIndex := 198, descriptorIndex := 335, attributes := #[] }, { accessFlags := 9, nameIndex := 201, descriptorIndex := 335, attributes := #[] }] 49 4 #[] #[{ accessFlags := 25, nameIndex := 354, descriptorIndex := 339, attributes := #[] }, { accessFlags := 25, nameIndex := 358, descriptorIndex := 339, attributes := #[] }, { accessFlags := 25, nameIndex := 361, descriptorIndex := 339, attributes := #[] }, { accessFlags := 26, nameIndex := 364, descriptorIndex := 339, attributes := #[] }, { accessFlags := 26, nameIndex := 365, descriptorIndex := 339, attributes := #[] }, { accessFlags := 26, nameIndex := 172, descriptorIndex := 173, attributes := #[] }, { accessFlags := 26, nameIndex := 176, descriptorIndex := 173, attributes := #[] }, { accessFlags := 8, nameIndex := 344, descriptorIndex := 339, attributes := #[] }, { accessFlags := 8, nameIndex := 338, descriptorIndex := 339, attributes := #[] }, { accessFlags := 4120, nameIndex := 245, descriptorIndex := 246, attributes := #[] }])
  fields := #[{ name := "E", type := .double, accessFlags := 25, slot := 0, constantValue := 0 }, { name := "PI", type := .double, accessFlags := 25, slot := 1, constantValue := 0 }, { name := "TAU", type := .double, accessFlags := 25, slot := 2, constantValue := 0 }, { name := "DEGREES_TO_RADIANS", type := .double, accessFlags := 26, slot := 3, constantValue := 0 }, { name := "RADIANS_TO_DEGREES", type := .double, accessFlags := 26, slot := 4, constantValue := 0 }, { name := "negativeZeroFloatBits", type := .long, accessFlags := 26, slot := 5, constantValue := 0 }, { name := "negativeZeroDoubleBits", type := .long, accessFlags := 26, slot := 6, constantValue := 0 }, { name := "twoToTheDoubleScaleUp", type := .double, accessFlags := 8, slot := 7, constantValue := 0 }, { name := "twoToTheDoubleScaleDown", type := .double, accessFlags := 8, slot := 8, constantValue := 0 }, { name := "$assertionsDisabled", type := .boolean, accessFlags := 4120, slot := 9, constantValue := 0 }]
  methods := #[k14m0, k14m1, k14m2]
  instanceTypes := #[]
  staticTypes := #[.double, .double, .double, .double, .double, .long, .long, .double, .double, .boolean]
  resolved := Array.replicate 460 none
  statics := none }

def pool15 : Array CpInfo := pool [(2, .class_ 4), (1, u "java/lang/Object"), (0, u "<init>"), (0, u "()V"), (7, .class_ 16), (1, u "java/util/Arrays"), (57, .class_ 76), (1, u "java/util/Arrays$NaturalOrder"), (32, u "()Ljava/lang/Object;"), (3, .class_ 115), (1, u "java/util/Arrays$LegacyMergeSort"), (1, u "Z"), (10, .nameAndType 129 109), (0, u "clone"), (9, u "copyOfRange"), (10, .methodref 151 152), (0, .class_ 153), (0, .nameAndType 154 155), (0, u "java/lang/System"), (0, u "arraycopy"), (0, u "(Ljava/lang/Object;ILjava/lang/Object;II)V"), (146, u "copyOf"), (1, .methodref 305 306), (0, .class_ 307), (0, .nameAndType 308 309), (0, u "java/lang/Math"), (0, u "min"), (0, u "(II)I"), (6, .methodref 317 128), (0, .class_ 318), (0, u "[I"), (3, .methodref 323 128), (0, .class_ 324), (0, u "[C"), (14, .methodref 14 340), (0, .nameAndType 341 342), (0, u "copyOfRangeByte"), (0, u "([BII)[B"), (0, .methodref 14 344), (0, .nameAndType 345 346), (0, u "checkLength"), (0, u "(II)V"), (28, .class_ 376), (0, u "java/util/Arrays$ArrayList"), (68, u "$assertionsDisabled"), (269, u "MIN_ARRAY_SORT_GRAN"), (0, u "I"), (2, u "INSERTIONSORT_THRESHOLD"), (151, u "([II)[I"), (1, u "([CI)[C"), (101, .class_ 976), (0, u "java/util/Arrays$ArrayItr")] 52

def k15m0 : Method := { name := "<init>", desc := "()V", sig := { parameters := [], returnType := none }, accessFlags := 2, code := none }
def k15c1 : Code := { maxStack := 6, maxLocals := 3, code := jdk_65_method_123_code, exceptionTable := #[], attributes := #[] }
def k15m1 : Method := { name := "copyOf", desc := "([II)[I", sig := { parameters := [(.array .int), .int], returnType := some (.array .int) }, accessFlags := 9, code := some k15c1 }
def k15c2 : Code := { maxStack := 6, maxLocals := 3, code := jdk_65_method_125_code, exceptionTable := #[], attributes := #[] }
def k15m2 : Method := { name := "copyOf", desc := "([CI)[C", sig := { parameters := [(.array .char), .int], returnType := some (.array .char) }, accessFlags := 9, code := some k15c2 }
def k15c3 : Code := { maxStack := 4, maxLocals := 2, code := jdk_65_method_131_code, exceptionTable := #[], attributes := #[] }
def k15m3 : Method := { name := "checkLength", desc := "(II)V", sig := { parameters := [.int, .int], returnType := none }, accessFlags := 10, code := some k15c3 }
def k15c4 : Code := { maxStack := 3, maxLocals := 3, code := jdk_65_method_132_code, exceptionTable := #[], attributes := #[] }
def k15m4 : Method := { name := "copyOfRange", desc := "([BII)[B", sig := { parameters := [(.array .byte), .int, .int], returnType := some (.array .byte) }, accessFlags := 9, code := some k15c4 }
def k15c5 : Code := { maxStack := 6, maxLocals := 5, code := jdk_65_method_133_code, exceptionTable := #[], attributes := #[] }
def k15m5 : Method := { name := "copyOfRangeByte", desc := "([BII)[B", sig := { parameters := [(.array .byte), .int, .int], returnType := some (.array .byte) }, accessFlags := 10, code := some k15c5 }
/-- java/util/Arrays -/
def k15 : Class := { plain "java/util/Arrays" (some 0) with
  accessFlags := 49
  interfaces := #[]
  cf := some (fileOf pool15 14 #[.nestMembers #[975, 375, 113, 74]] #[{ accessFlags := 2, nameIndex := 5, descriptorIndex := 6, attributes := #[] }, { accessFlags := 9, nameIndex := 302, descriptorIndex := 871, attributes := #[] }, { accessFlags := 9, nameIndex := 302, descriptorIndex := 873, attributes := #[] }, { accessFlags := 10, nameIndex := 345, descriptorIndex := 346, attributes := #[] }, { accessFlags := 9, nameIndex := 139, descriptorIndex := 342, attributes := #[] }, { accessFlags := 10, nameIndex := 341, descriptorIndex := 342, attributes := #[] }] 49 2 #[] #[{ accessFlags := 26, nameIndex := 715, descriptorIndex := 716, attributes := #[] }, { accessFlags := 26, nameIndex := 719, descriptorIndex := 716, attributes := #[] }, { accessFlags := 4120, nameIndex := 445, descriptorIndex := 117, attributes := #[] }])
  fields := #[{ name := "MIN_ARRAY_SORT_GRAN", type := .int, accessFlags := 26, slot := 0, constantValue := 0 }, { name := "INSERTIONSORT_THRESHOLD", type := .int, accessFlags := 26, slot := 1, constantValue := 0 }, { name := "$assertionsDisabled", type := .boolean, accessFlags := 4120, slot := 2, constantValue := 0 }]
  methods := #[k15m0, k15m1, k15m2, k15m3, k15m4, k15m5]
  instanceTypes := #[]
  staticTypes := #[.int, .int, .boolean]
  resolved := Array.replicate 1029 none
  statics := none }

def pool16 : Array CpInfo := pool [(2, .class_ 4), (1, u "java/lang/Object"), (0, u "<init>"), (0, u "()V"), (1, .class_ 10), (1, u "java/lang/System"), (0, u "allowSecurityManager"), (0, u "I"), (16, u "cons"), (0, u "Ljava/io/Console;"), (77, .class_ 110), (1, u "java/lang/System$CallersHolder"), (43, u "initialErrStream"), (0, u "Ljava/io/PrintStream;"), (19, u "security"), (0, u "Ljava/lang/SecurityManager;"), (31, .class_ 209), (0, u "java/lang/System$1"), (7, u "props"), (0, u "Ljava/util/Properties;"), (2, u "lineSeparator"), (0, u "Ljava/lang/String;"), (96, .class_ 321), (1, u "java/lang/System$LoggerFinder"), (5, .class_ 328), (0, u "java/lang/System$Logger"), (67, u "err"), (2, u "out"), (91, u "notSupportedJnuEncoding"), (15, u "in"), (17, u "initialIn"), (0, u "Ljava/io/InputStream;"), (35, u "bootLayer"), (0, u "Ljava/lang/ModuleLayer;"), (99, .class_ 664), (0, u "java/lang/System$2"), (9, u "NEVER"), (2, u "MAYBE"), (49, u "arraycopy"), (0, u "(Ljava/lang/Object;ILjava/lang/Object;II)V"), (72, .class_ 802), (0, u "java/lang/System$Logger$Level")] 31

def k16m0 : Method := { name := "<init>", desc := "()V", sig := { parameters := [], returnType := none }, accessFlags := 2, code := none }
def k16m1 : Method := { name := "arraycopy", desc := "(Ljava/lang/Object;ILjava/lang/Object;II)V", sig := { parameters := [(.object "java/lang/Object"), .int, (.object "java/lang/Object"), .int, .int], returnType := none }, accessFlags := 265, code := none }
/-- java/lang/System -/
def k16 : Class := { plain "java/lang/System" (some 0) with
  accessFlags := 49
  interfaces := #[]
  cf := some (fileOf pool16 8 #[.nestMembers #[319, 327, 801, 108, 663, 208]] #[{ accessFlags := 2, nameIndex := 5, descriptorIndex := 6, attributes := #[] }, { accessFlags := 265, nameIndex := 727, descriptorIndex := 728, attributes := #[] }] 49 2 #[] #[{ accessFlags := 25, nameIndex := 507, descriptorIndex := 526, attributes := #[] }, { accessFlags := 25, nameIndex := 399, descriptorIndex := 155, attributes := #[] }, { accessFlags := 25, nameIndex := 396, descriptorIndex := 155, attributes := #[] }, { accessFlags := 10, nameIndex := 525, descriptorIndex := 526, attributes := #[] }, { accessFlags := 26, nameIndex := 674, descriptorIndex := 12, attributes := #[] }, { accessFlags := 26, nameIndex := 677, descriptorIndex := 12, attributes := #[] }, { accessFlags := 10, nameIndex := 11, descriptorIndex := 12, attributes := #[] }, { accessFlags := 74, nameIndex := 175, descriptorIndex := 176, attributes := #[] }, { accessFlags := 10, nameIndex := 491, descriptorIndex := 222, attributes := #[] }, { accessFlags := 74, nameIndex := 29, descriptorIndex := 30, attributes := #[] }, { accessFlags := 74, nameIndex := 154, descriptorIndex := 155, attributes := #[] }, { accessFlags := 10, nameIndex := 217, descriptorIndex := 218, attributes := #[] }, { accessFlags := 10, nameIndex := 221, descriptorIndex := 222, attributes := #[] }, { accessFlags := 8, nameIndex := 562, descriptorIndex := 563, attributes := #[] }])
  fields := #[{ name := "in", type := (.object "java/io/InputStream"), accessFlags := 25, slot := 0, constantValue := 0 }, { name := "out", type := (.object "java/io/PrintStream"), accessFlags := 25, slot := 1, constantValue := 0 }, { name := "err", type := (.object "java/io/PrintStream"), accessFlags := 25, slot := 2, constantValue := 0 }, { name := "initialIn", type := (.object "java/io/InputStream"), accessFlags := 10, slot := 3, constantValue := 0 }, { name := "NEVER", type := .int, accessFlags := 26, slot := 4, constantValue := 0 }, { name := "MAYBE", type := .int, accessFlags := 26, slot := 5, constantValue := 0 }, { name := "allowSecurityManager", type := .int, accessFlags := 10, slot := 6, constantValue := 0 }, { name := "security", type := (.object "java/lang/SecurityManager"), accessFlags := 74, slot := 7, constantValue := 0 }, { name := "notSupportedJnuEncoding", type := (.object "java/lang/String"), accessFlags := 10, slot := 8, constantValue := 0 }, { name := "cons", type := (.object "java/io/Console"), accessFlags := 74, slot := 9, constantValue := 0 }, { name := "initialErrStream", type := (.object "java/io/PrintStream"), accessFlags := 74, slot := 10, constantValue := 0 }, { name := "props", type := (.object "java/util/Properties"), accessFlags := 10, slot := 11, constantValue := 0 }, { name := "lineSeparator", type := (.object "java/lang/String"), accessFlags := 10, slot := 12, constantValue := 0 }, { name := "bootLayer", type := (.object "java/lang/ModuleLayer"), accessFlags := 8, slot := 13, constantValue := 0 }]
  methods := #[k16m0, k16m1]
  instanceTypes := #[]
  staticTypes := #[(.object "java/io/InputStream"), (.object "java/io/PrintStream"), (.object "java/io/PrintStream"), (.object "java/io/InputStream"), .int, .int, .int, (.object "java/lang/SecurityManager"), (.object "java/lang/String"), (.object "java/io/Console"), (.object "java/io/PrintStream"), (.object "java/util/Properties"), (.object "java/lang/String"), (.object "java/lang/ModuleLayer")]
  resolved := Array.replicate 834 none
  statics := none }

def pool17 : Array CpInfo := pool [(2, .class_ 4), (1, u "java/lang/Object"), (0, u "<init>"), (0, u "()V"), (14, .class_ 23), (1, u "java/nio/charset/StandardCharsets"), (0, u "US_ASCII"), (0, u "Ljava/nio/charset/Charset;"), (7, u "ISO_8859_1"), (7, u "UTF_8"), (5, u "UTF_16BE"), (5, u "UTF_16LE"), (5, u "UTF_16")] 8

def k17m0 : Method := { name := "<init>", desc := "()V", sig := { parameters := [], returnType := none }, accessFlags := 2, code := none }
/-- java/nio/charset/StandardCharsets -/
def k17 : Class := { plain "java/nio/charset/StandardCharsets" (some 0) with
  accessFlags := 49
  interfaces := #[]
  cf := some (fileOf pool17 21 #[] #[{ accessFlags := 2, nameIndex := 5, descriptorIndex := 6, attributes := #[] }] 49 2 #[] #[{ accessFlags := 25, nameIndex := 24, descriptorIndex := 25, attributes := #[] }, { accessFlags := 25, nameIndex := 33, descriptorIndex := 25, attributes := #[] }, { accessFlags := 25, nameIndex := 41, descriptorIndex := 25, attributes := #[] }, { accessFlags := 25, nameIndex := 47, descriptorIndex := 25, attributes := #[] }, { accessFlags := 25, nameIndex := 53, descriptorIndex := 25, attributes := #[] }, { accessFlags := 25, nameIndex := 59, descriptorIndex := 25, attributes := #[] }])
  fields := #[{ name := "US_ASCII", type := (.object "java/nio/charset/Charset"), accessFlags := 25, slot := 0, constantValue := 0 }, { name := "ISO_8859_1", type := (.object "java/nio/charset/Charset"), accessFlags := 25, slot := 1, constantValue := 0 }, { name := "UTF_8", type := (.object "java/nio/charset/Charset"), accessFlags := 25, slot := 2, constantValue := 0 }, { name := "UTF_16BE", type := (.object "java/nio/charset/Charset"), accessFlags := 25, slot := 3, constantValue := 0 }, { name := "UTF_16LE", type := (.object "java/nio/charset/Charset"), accessFlags := 25, slot := 4, constantValue := 0 }, { name := "UTF_16", type := (.object "java/nio/charset/Charset"), accessFlags := 25, slot := 5, constantValue := 0 }]
  methods := #[k17m0]
  instanceTypes := #[]
  staticTypes := #[(.object "java/nio/charset/Charset"), (.object "java/nio/charset/Charset"), (.object "java/nio/charset/Charset"), (.object "java/nio/charset/Charset"), (.object "java/nio/charset/Charset"), (.object "java/nio/charset/Charset")]
  resolved := Array.replicate 68 none
  statics := some 3 }

def pool18 : Array CpInfo := pool [(2, .class_ 4), (1, u "java/lang/Object"), (0, u "<init>"), (0, u "()V"), (35, .class_ 44), (1, u "java/util/Objects"), (0, u "requireNonNull"), (0, u "(Ljava/lang/Object;)Ljava/lang/Object;")] 137

def k18m0 : Method := { name := "<init>", desc := "()V", sig := { parameters := [], returnType := none }, accessFlags := 2, code := none }
def k18c1 : Code := { maxStack := 2, maxLocals := 1, code := jdk_31_method_10_code, exceptionTable := #[], attributes := #[] }
def k18m1 : Method := { name := "requireNonNull", desc := "(Ljava/lang/Object;)Ljava/lang/Object;", sig := { parameters := [(.object "java/lang/Object")], returnType := some (.object "java/lang/Object") }, accessFlags := 9, code := some k18c1 }
/-- java/util/Objects -/
def k18 : Class := { plain "java/util/Objects" (some 0) with
  accessFlags := 49
  interfaces := #[]
  cf := some (fileOf pool18 42 #[] #[{ accessFlags := 2, nameIndex := 5, descriptorIndex := 6, attributes := #[] }, { accessFlags := 9, nameIndex := 45, descriptorIndex := 46, attributes := #[] }] 49 2 #[] #[])
  fields := #[]
  methods := #[k18m0, k18m1]
  instanceTypes := #[]
  staticTypes := #[]
  resolved := Array.replicate 184 none
  statics := none }

def pool19 : Array CpInfo := pool [(18, .class_ 20), (1, u "java/nio/charset/Charset"), (0, u "cache1"), (0, u "[Ljava/lang/Object;"), (2, u "cache2"), (0, .class_ 27), (0, u "java/lang/Object"), (0, .class_ 29), (0, u "java/nio/charset/Charset$1"), (4, .class_ 36), (1, u "java/nio/charset/Charset$ThreadTrackHolder"), (21, .class_ 59), (0, u "java/nio/charset/Charset$2"), (11, .class_ 73), (1, u "java/nio/charset/Charset$ExtendedProviderHolder"), (22, u "standardProvider"), (0, u "Ljava/nio/charset/spi/CharsetProvider;"), (29, u "name"), (7, .class_ 136), (0, u "java/nio/charset/Charset$3"), (5, u "defaultCharset"), (0, u "Ljava/nio/charset/Charset;"), (14, u "zeroAliases"), (0, u "[Ljava/lang/String;"), (29, u "Ljava/lang/String;"), (2, u "aliases"), (2, u "aliasSet"), (0, u "Ljava/util/Set;"), (82, .class_ 280), (0, u "java/lang/Comparable"), (84, .class_ 366), (0, u "java/nio/charset/Charset$ExtendedProviderHolder$1")] 3

/-- java/nio/charset/Charset -/
def k19 : Class := { plain "java/nio/charset/Charset" (some 0) with
  accessFlags := 1057
  interfaces := #[5]
  cf := some (fileOf pool19 18 #[.nestMembers #[71, 365, 34, 135, 58, 28]] #[] 1057 26 #[279] #[{ accessFlags := 26, nameIndex := 96, descriptorIndex := 97, attributes := #[] }, { accessFlags := 26, nameIndex := 158, descriptorIndex := 159, attributes := #[] }, { accessFlags := 74, nameIndex := 21, descriptorIndex := 22, attributes := #[] }, { accessFlags := 74, nameIndex := 25, descriptorIndex := 22, attributes := #[] }, { accessFlags := 10, nameIndex := 142, descriptorIndex := 143, attributes := #[] }, { accessFlags := 18, nameIndex := 127, descriptorIndex := 189, attributes := #[] }, { accessFlags := 18, nameIndex := 192, descriptorIndex := 159, attributes := #[] }, { accessFlags := 2, nameIndex := 195, descriptorIndex := 196, attributes := #[] }])
  fields := #[{ name := "standardProvider", type := (.object "java/nio/charset/spi/CharsetProvider"), accessFlags := 26, slot := 0, constantValue := 0 }, { name := "zeroAliases", type := (.array (.object "java/lang/String")), accessFlags := 26, slot := 1, constantValue := 0 }, { name := "cache1", type := (.array (.object "java/lang/Object")), accessFlags := 74, slot := 2, constantValue := 0 }, { name := "cache2", type := (.array (.object "java/lang/Object")), accessFlags := 74, slot := 3, constantValue := 0 }, { name := "defaultCharset", type := (.object "java/nio/charset/Charset"), accessFlags := 10, slot := 4, constantValue := 0 }, { name := "name", type := (.object "java/lang/String"), accessFlags := 18, slot := 0, constantValue := 0 }, { name := "aliases", type := (.array (.object "java/lang/String")), accessFlags := 18, slot := 1, constantValue := 0 }, { name := "aliasSet", type := (.object "java/util/Set"), accessFlags := 2, slot := 2, constantValue := 0 }]
  methods := #[]
  instanceTypes := #[(.object "java/lang/String"), (.array (.object "java/lang/String")), (.object "java/util/Set")]
  staticTypes := #[(.object "java/nio/charset/spi/CharsetProvider"), (.array (.object "java/lang/String")), (.array (.object "java/lang/Object")), (.array (.object "java/lang/Object")), (.object "java/nio/charset/Charset")]
  resolved := Array.replicate 370 none
  statics := none }

def pool20 : Array CpInfo := pool [(1, .class_ 2), (0, u "sun/nio/cs/HistoricallyNamedCharset"), (0, .class_ 4), (0, u "java/lang/Object")] 4

/-- sun/nio/cs/HistoricallyNamedCharset -/
def k20 : Class := { plain "sun/nio/cs/HistoricallyNamedCharset" (some 0) with
  accessFlags := 1537
  interfaces := #[]
  cf := some (fileOf pool20 1 #[] #[] 1537 3 #[] #[])
  fields := #[]
  methods := #[]
  instanceTypes := #[]
  staticTypes := #[]
  resolved := Array.replicate 9 none
  statics := none }

def pool21 : Array CpInfo := pool [(10, .class_ 12), (1, u "java/nio/charset/Charset"), (0, u "<init>"), (5, .class_ 20), (0, u "sun/nio/cs/ISO_8859_1"), (0, .class_ 22), (0, u "sun/nio/cs/ISO_8859_1$Decoder"), (3, .class_ 27), (0, u "sun/nio/cs/ISO_8859_1$Encoder"), (3, u "()V"), (2, u "INSTANCE"), (0, u "Lsun/nio/cs/ISO_8859_1;"), (0, .class_ 37), (0, u "sun/nio/cs/HistoricallyNamedCharset")] 22

def k21m0 : Method := { name := "<init>", desc := "()V", sig := { parameters := [], returnType := none }, accessFlags := 1, code := none }
/-- sun/nio/cs/ISO_8859_1 -/
def k21 : Class := { plain "sun/nio/cs/ISO_8859_1" (some 19) with
  accessFlags := 33
  interfaces := #[20]
  cf := some (fileOf pool21 19 #[.nestMembers #[26, 21]] #[{ accessFlags := 1, nameIndex := 13, descriptorIndex := 31, attributes := #[] }] 33 10 #[36] #[{ accessFlags := 25, nameIndex := 34, descriptorIndex := 35, attributes := #[] }])
  fields := #[{ name := "INSTANCE", type := (.object "sun/nio/cs/ISO_8859_1"), accessFlags := 25, slot := 0, constantValue := 0 }]
  methods := #[k21m0]
  instanceTypes := #[(.object "java/lang/String"), (.array (.object "java/lang/String")), (.object "java/util/Set")]
  staticTypes := #[(.object "sun/nio/cs/ISO_8859_1")]
  resolved := Array.replicate 60 none
  statics := some 4 }

def pool22 : Array CpInfo := pool [(2, .class_ 4), (1, u "java/nio/charset/Charset"), (130, .class_ 136), (0, u "sun/nio/cs/Unicode"), (0, .class_ 138), (0, u "sun/nio/cs/HistoricallyNamedCharset")] 15

/-- sun/nio/cs/Unicode -/
def k22 : Class := { plain "sun/nio/cs/Unicode" (some 19) with
  accessFlags := 1056
  interfaces := #[20]
  cf := some (fileOf pool22 135 #[] #[] 1056 2 #[137] #[])
  fields := #[]
  methods := #[]
  instanceTypes := #[(.object "java/lang/String"), (.array (.object "java/lang/String")), (.object "java/util/Set")]
  staticTypes := #[]
  resolved := Array.replicate 154 none
  statics := none }

def pool23 : Array CpInfo := pool [(10, .class_ 12), (1, u "sun/nio/cs/Unicode"), (0, u "<init>"), (3, .class_ 18), (0, u "sun/nio/cs/UTF_8$Decoder"), (3, .class_ 23), (0, u "sun/nio/cs/UTF_8$Encoder"), (15, .class_ 40), (0, u "sun/nio/cs/UTF_8"), (2, u "()V"), (2, u "INSTANCE"), (0, u "Lsun/nio/cs/UTF_8;"), (8, u "JLA"), (0, u "Ljdk/internal/access/JavaLangAccess;")] 26

def k23m0 : Method := { name := "<init>", desc := "()V", sig := { parameters := [], returnType := none }, accessFlags := 1, code := none }
/-- sun/nio/cs/UTF_8 -/
def k23 : Class := { plain "sun/nio/cs/UTF_8" (some 22) with
  accessFlags := 49
  interfaces := #[]
  cf := some (fileOf pool23 39 #[.nestMembers #[22, 17]] #[{ accessFlags := 1, nameIndex := 13, descriptorIndex := 43, attributes := #[] }] 49 10 #[] #[{ accessFlags := 25, nameIndex := 46, descriptorIndex := 47, attributes := #[] }, { accessFlags := 26, nameIndex := 56, descriptorIndex := 57, attributes := #[] }])
  fields := #[{ name := "INSTANCE", type := (.object "sun/nio/cs/UTF_8"), accessFlags := 25, slot := 0, constantValue := 0 }, { name := "JLA", type := (.object "jdk/internal/access/JavaLangAccess"), accessFlags := 26, slot := 1, constantValue := 0 }]
  methods := #[k23m0]
  instanceTypes := #[(.object "java/lang/String"), (.array (.object "java/lang/String")), (.object "java/util/Set")]
  staticTypes := #[(.object "sun/nio/cs/UTF_8"), (.object "jdk/internal/access/JavaLangAccess")]
  resolved := Array.replicate 84 none
  statics := some 5 }

def pool24 : Array CpInfo := pool [(1, .class_ 2), (0, u "java/lang/Cloneable"), (0, .class_ 4), (0, u "java/lang/Object")] 2

/-- java/lang/Cloneable -/
def k24 : Class := { plain "java/lang/Cloneable" (some 0) with
  accessFlags := 1537
  interfaces := #[]
  cf := some (fileOf pool24 1 #[] #[] 1537 3 #[] #[])
  fields := #[]
  methods := #[]
  instanceTypes := #[]
  staticTypes := #[]
  resolved := Array.replicate 7 none
  statics := none }

def pool25 : Array CpInfo := pool [(9, u "<init>"), (6, .class_ 18), (1, u "java/lang/Object"), (0, u "()V"), (1, .class_ 23), (1, u "jdk/internal/util/ArraysSupport"), (0, u "LOG2_ARRAY_LONG_INDEX_SCALE"), (0, u "I"), (2, u "U"), (0, u "Ljdk/internal/misc/Unsafe;"), (8, u "BIG_ENDIAN"), (0, u "Z"), (8, u "LOG2_BYTE_BIT_SIZE"), (4, u "LOG2_ARRAY_INT_INDEX_SCALE"), (54, u "JLA"), (0, u "Ljdk/internal/access/JavaLangAccess;"), (11, u "LOG2_ARRAY_BOOLEAN_INDEX_SCALE"), (9, u "LOG2_ARRAY_BYTE_INDEX_SCALE"), (5, u "LOG2_ARRAY_CHAR_INDEX_SCALE"), (5, u "LOG2_ARRAY_SHORT_INDEX_SCALE"), (18, u "LOG2_ARRAY_FLOAT_INDEX_SCALE"), (24, u "LOG2_ARRAY_DOUBLE_INDEX_SCALE"), (89, u "T_BOOLEAN"), (2, u "T_CHAR"), (1, u "T_FLOAT"), (1, u "T_DOUBLE"), (1, u "T_BYTE"), (1, u "T_SHORT"), (1, u "T_INT"), (1, u "T_LONG"), (1, u "SOFT_MAX_ARRAY_LENGTH")] 83

def k25m0 : Method := { name := "<init>", desc := "()V", sig := { parameters := [], returnType := none }, accessFlags := 2, code := none }
/-- jdk/internal/util/ArraysSupport -/
def k25 : Class := { plain "jdk/internal/util/ArraysSupport" (some 0) with
  accessFlags := 33
  interfaces := #[]
  cf := some (fileOf pool25 21 #[] #[{ accessFlags := 2, nameIndex := 9, descriptorIndex := 19, attributes := #[] }] 33 16 #[] #[{ accessFlags := 24, nameIndex := 28, descriptorIndex := 29, attributes := #[] }, { accessFlags := 26, nameIndex := 38, descriptorIndex := 39, attributes := #[] }, { accessFlags := 25, nameIndex := 121, descriptorIndex := 25, attributes := #[] }, { accessFlags := 25, nameIndex := 131, descriptorIndex := 25, attributes := #[] }, { accessFlags := 25, nameIndex := 137, descriptorIndex := 25, attributes := #[] }, { accessFlags := 25, nameIndex := 143, descriptorIndex := 25, attributes := #[] }, { accessFlags := 25, nameIndex := 53, descriptorIndex := 25, attributes := #[] }, { accessFlags := 25, nameIndex := 24, descriptorIndex := 25, attributes := #[] }, { accessFlags := 25, nameIndex := 162, descriptorIndex := 25, attributes := #[] }, { accessFlags := 25, nameIndex := 187, descriptorIndex := 25, attributes := #[] }, { accessFlags := 26, nameIndex := 48, descriptorIndex := 25, attributes := #[] }, { accessFlags := 25, nameIndex := 277, descriptorIndex := 25, attributes := #[] }, { accessFlags := 25, nameIndex := 280, descriptorIndex := 25, attributes := #[] }, { accessFlags := 25, nameIndex := 282, descriptorIndex := 25, attributes := #[] }, { accessFlags := 25, nameIndex := 284, descriptorIndex := 25, attributes := #[] }, { accessFlags := 25, nameIndex := 286, descriptorIndex := 25, attributes := #[] }, { accessFlags := 25, nameIndex := 288, descriptorIndex := 25, attributes := #[] }, { accessFlags := 25, nameIndex := 290, descriptorIndex := 25, attributes := #[] }, { accessFlags := 25, nameIndex := 292, descriptorIndex := 25, attributes := #[] }, { accessFlags := 26, nameIndex := 108, descriptorIndex := 109, attributes := #[] }, { accessFlags := 25, nameIndex := 294, descriptorIndex := 25, attributes := #[] }])
  fields := #[{ name := "U", type := (.object "jdk/internal/misc/Unsafe"), accessFlags := 24, slot := 0, constantValue := 0 }, { name := "BIG_ENDIAN", type := .boolean, accessFlags := 26, slot := 1, constantValue := 0 }, { name := "LOG2_ARRAY_BOOLEAN_INDEX_SCALE", type := .int, accessFlags := 25, slot := 2, constantValue := 0 }, { name := "LOG2_ARRAY_BYTE_INDEX_SCALE", type := .int, accessFlags := 25, slot := 3, constantValue := 0 }, { name := "LOG2_ARRAY_CHAR_INDEX_SCALE", type := .int, accessFlags := 25, slot := 4, constantValue := 0 }, { name := "LOG2_ARRAY_SHORT_INDEX_SCALE", type := .int, accessFlags := 25, slot := 5, constantValue := 0 }, { name := "LOG2_ARRAY_INT_INDEX_SCALE", type := .int, accessFlags := 25, slot := 6, constantValue := 0 }, { name := "LOG2_ARRAY_LONG_INDEX_SCALE", type := .int, accessFlags := 25, slot := 7, constantValue := 0 }, { name := "LOG2_ARRAY_FLOAT_INDEX_SCALE", type := .int, accessFlags := 25, slot := 8, constantValue := 0 }, { name := "LOG2_ARRAY_DOUBLE_INDEX_SCALE", type := .int, accessFlags := 25, slot := 9, constantValue := 0 }, { name := "LOG2_BYTE_BIT_SIZE", type := .int, accessFlags := 26, slot := 10, constantValue := 0 }, { name := "T_BOOLEAN", type := .int, accessFlags := 25, slot := 11, constantValue := 0 }, { name := "T_CHAR", type := .int, accessFlags := 25, slot := 12, constantValue := 0 }, { name := "T_FLOAT", type := .int, accessFlags := 25, slot := 13, constantValue := 0 }, { name := "T_DOUBLE", type := .int, accessFlags := 25, slot := 14, constantValue := 0 }, { name := "T_BYTE", type := .int, accessFlags := 25, slot := 15, constantValue := 0 }, { name := "T_SHORT", type := .int, accessFlags := 25, slot := 16, constantValue := 0 }, { name := "T_INT", type := .int, accessFlags := 25, slot := 17, constantValue := 0 }, { name := "T_LONG", type := .int, accessFlags := 25, slot := 18, constantValue := 0 }, { name := "JLA", type := (.object "jdk/internal/access/JavaLangAccess"), accessFlags := 26, slot := 19, constantValue := 0 }, { name := "SOFT_MAX_ARRAY_LENGTH", type := .int, accessFlags := 25, slot := 20, constantValue := 0 }]
  methods := #[k25m0]
  instanceTypes := #[]
  staticTypes := #[(.object "jdk/internal/misc/Unsafe"), .boolean, .int, .int, .int, .int, .int, .int, .int, .int, .int, .int, .int, .int, .int, .int, .int, .int, .int, (.object "jdk/internal/access/JavaLangAccess"), .int]
  resolved := Array.replicate 378 none
  statics := none }

/-- the primitive byte -/
def k26 : Class := { plain "byte" none with kind := .primitive 'B', accessFlags := 0x411 }
/-- [B -/
def k27 : Class := { plain "[B" (some 0) with kind := .array 26 .byte, interfaces := #[24, 4], accessFlags := 1041 }

/-- the primitive char -/
def k28 : Class := { plain "char" none with kind := .primitive 'C', accessFlags := 0x411 }
/-- [C -/
def k29 : Class := { plain "[C" (some 0) with kind := .array 28 .char, interfaces := #[24, 4], accessFlags := 1041 }

/-- the primitive int -/
def k30 : Class := { plain "int" none with kind := .primitive 'I', accessFlags := 0x411 }
/-- [I -/
def k31 : Class := { plain "[I" (some 0) with kind := .array 30 .int, interfaces := #[24, 4], accessFlags := 1041 }

def heap : Heap := #[{ cls := 3, slots := #[.int 0, .int 0, .ref 6, .ref 7], vm := .statics 3 },
  { cls := 10, slots := #[.long 0, .int 1, .null, .int 0, .null, .int 0, .int 0], vm := .statics 10 },
  { cls := 11, slots := #[.null, .null, .null], vm := .statics 11 },
  { cls := 17, slots := #[.null, .ref 8, .null, .null, .null, .null], vm := .statics 17 },
  { cls := 21, slots := #[.ref 8], vm := .statics 21 },
  { cls := 23, slots := #[.ref 9, .null], vm := .statics 23 },
  { cls := 31, slots := #[], vm := .none },
  { cls := 29, slots := #[], vm := .none },
  { cls := 21, slots := #[.null, .null, .null], vm := .none },
  { cls := 23, slots := #[.null, .null, .null], vm := .none }]
def classes : Array Class := #[k0, k1, k2, k3, k4, k5, k6, k7, k8, k9, k10, k11, k12, k13, k14, k15, k16, k17, k18, k19, k20, k21, k22, k23, k24, k25, k26, k27, k28, k29, k30, k31]
def interned : List (Array UInt16 × Addr) := []
def slotsUsed : Nat := 29
def theMethod : MethodId := ⟨1, 1⟩
def args0 : Array Value := #[.int 6, .int 7, .int 8, .int 7, .int 10, .int 11]
def aboutOver (below : List Frame) : State where
  vm := { classes := classes, interned := interned.toArray }
  heap := heap
  slotsUsed := slotsUsed
  threads := #[{ frames := .invoking theMethod args0 :: below }]
def below0 : List Frame := [.native { method := ⟨0, 0⟩, args := #[] }]
def about1 : State := aboutOver below0
def p0 : Program := .bare "" "" ""
def e0 : Env := launch0.env 0 0 0
theorem w_frames : about1.frames = Frame.invoking theMethod args0 :: below0 := rfl
set_option maxRecDepth 65536 in
theorem w_args : argsFit about1.vm theMethod args0 = true := by decide +kernel
set_option maxRecDepth 65536 in
theorem w_heap : heapFits about1 = true := by decide +kernel
set_option maxRecDepth 65536 in
theorem w_runnable : about1.curStatus? = some .runnable := by decide +kernel
set_option maxRecDepth 65536 in
theorem w_alone : about1.alone = true := by decide +kernel
set_option maxRecDepth 65536 in
theorem w_named : about1.methodNamed? x = some theMethod := by decide +kernel
set_option maxRecDepth 65536 in
theorem w_hears : about1.hears theMethod below0 = true := by decide +kernel
set_option maxRecDepth 65536 in
theorem w_ripe : about1.ripe theMethod args0 below0 = true := by decide +kernel
theorem w_running : about1.status = .running := rfl
set_option maxRecDepth 65536 in
theorem w_room : about1.hasRoom e0.platform room_1 = true :=
  launch0.hasRoom_least _ room_1 (by decide +kernel) (by decide +kernel) (by decide +kernel) (by decide +kernel) (by decide +kernel) (by decide +kernel)
theorem allAtoms_all (ts : List Jvm.Cond) (a : Array Jvm.Value) (st : Jvm.State) : (allAtoms ts).before a st = ts.all (fun c => c.before a st) := by
  induction ts with
  | nil => rfl
  | cons c t ih =>
    show (Jvm.Cond.and c (allAtoms t)).before a st = _
    rw [Jvm.Cond.before_and, ih, List.all_cons]
def words1 : List Jvm.Cond := Jvm.Cond.code x code maxLocals ret :: tables_1
/-- a 'code' word, met by the world's own term for the bytes: nothing is compared byte by byte -/
theorem code_word {y : MethodName} {bytes : ByteArray} {mx : Nat} {rt : Option FieldType} {a : Array Value} {s : State} {m : MethodId} {meth : Method} {c : Code} (h1 : s.methodNamed? y = some m) (h2 : s.vm.method? m = some meth) (h3 : meth.code = some c) (h4 : c.code = bytes)
    (h5 : (c.maxLocals == mx && c.exceptionTable.isEmpty && decide (c.maxStack ≤ mostOperands) && decide (meth.sig.returnType = rt) && !meth.locks && decide (parseMethodDescriptor y.desc = some meth.sig)) = true) : (Jvm.Cond.code y bytes mx rt).before a s = true := by
  simp only [Bool.and_eq_true, beq_iff_eq, Bool.not_eq_true', decide_eq_true_eq] at h5
  obtain ⟨⟨⟨⟨⟨g1, g2⟩, g3⟩, g4⟩, g5⟩, g6⟩ := h5
  simp [Cond.before, Cond.holds, Cond.value, h1, h2, h3, h4, g1, g2, g3, g4, g5, g6]
def isCode : Jvm.Cond → Bool
  | .code _ _ _ _ => true
  | _ => false
theorem all_split {L : List Jvm.Cond} {P : Jvm.Cond → Bool} (h1 : L.all (fun c => isCode c || P c) = true) (h2 : ∀ c ∈ L.filter isCode, P c = true) : L.all P = true := by
  refine List.all_eq_true.mpr fun c hc => ?_
  have h := List.all_eq_true.mp h1 c hc
  rcases Bool.eq_false_or_eq_true (isCode c) with hi | hi
  · exact h2 c (List.mem_filter.mpr ⟨hc, hi⟩)
  · simpa [hi] using h
set_option maxRecDepth 65536 in
theorem w_c0 : (Jvm.Cond.code x code maxLocals ret).before args0 about1 = true := code_word (m := ⟨1, 1⟩) (meth := k1m1) (c := k1c1) (by decide +kernel) rfl rfl rfl (by decide +kernel)
set_option maxRecDepth 65536 in
theorem w_c1 : (Jvm.Cond.code ({ cls := "com/example/depeche/depeche/hl7/Text$Builder", name := "<init>", desc := "(I)V" } : Jvm.MethodName) prog_27_method_1_code (2 : Nat) (Option.none : Option Jvm.ClassFile.FieldType)).before args0 about1 = true := code_word (m := ⟨2, 0⟩) (meth := k2m0) (c := k2c0) (by decide +kernel) rfl rfl rfl (by decide +kernel)
set_option maxRecDepth 65536 in
theorem w_c2 : (Jvm.Cond.code ({ cls := "java/lang/Object", name := "<init>", desc := "()V" } : Jvm.MethodName) object_method_1_code (1 : Nat) (Option.none : Option Jvm.ClassFile.FieldType)).before args0 about1 = true := code_word (m := ⟨0, 0⟩) (meth := k0m0) (c := k0c0) (by decide +kernel) rfl rfl rfl (by decide +kernel)
set_option maxRecDepth 65536 in
theorem w_c3 : (Jvm.Cond.code ({ cls := "com/example/depeche/depeche/hl7/Text$Builder", name := "append", desc := "(I)Z" } : Jvm.MethodName) prog_27_method_3_code (3 : Nat) (Option.some Jvm.ClassFile.FieldType.boolean)).before args0 about1 = true := code_word (m := ⟨2, 2⟩) (meth := k2m2) (c := k2c2) (by decide +kernel) rfl rfl rfl (by decide +kernel)
set_option maxRecDepth 65536 in
theorem w_c4 : (Jvm.Cond.code ({ cls := "com/example/depeche/depeche/hl7/Text$Builder", name := "setAside", desc := "(I)Z" } : Jvm.MethodName) prog_27_method_4_code (4 : Nat) (Option.some Jvm.ClassFile.FieldType.boolean)).before args0 about1 = true := code_word (m := ⟨2, 3⟩) (meth := k2m3) (c := k2c3) (by decide +kernel) rfl rfl rfl (by decide +kernel)
set_option maxRecDepth 65536 in
theorem w_c5 : (Jvm.Cond.code ({ cls := "java/lang/Character", name := "charCount", desc := "(I)I" } : Jvm.MethodName) jdk_89_method_18_code (1 : Nat) (Option.some Jvm.ClassFile.FieldType.int)).before args0 about1 = true := code_word (m := ⟨7, 1⟩) (meth := k7m1) (c := k7c1) (by decide +kernel) rfl rfl rfl (by decide +kernel)
set_option maxRecDepth 65536 in
theorem w_c6 : (Jvm.Cond.code ({ cls := "com/example/depeche/depeche/hl7/Text$Builder", name := "widen", desc := "()V" } : Jvm.MethodName) prog_27_method_5_code (2 : Nat) (Option.none : Option Jvm.ClassFile.FieldType)).before args0 about1 = true := code_word (m := ⟨2, 4⟩) (meth := k2m4) (c := k2c4) (by decide +kernel) rfl rfl rfl (by decide +kernel)
set_option maxRecDepth 65536 in
theorem w_c7 : (Jvm.Cond.code ({ cls := "com/example/depeche/depeche/hl7/Text$Builder", name := "append", desc := "([BII)V" } : Jvm.MethodName) prog_27_method_2_code (5 : Nat) (Option.none : Option Jvm.ClassFile.FieldType)).before args0 about1 = true := code_word (m := ⟨2, 1⟩) (meth := k2m1) (c := k2c1) (by decide +kernel) rfl rfl rfl (by decide +kernel)
set_option maxRecDepth 65536 in
theorem w_c8 : (Jvm.Cond.code ({ cls := "java/lang/Character", name := "toChars", desc := "(I[CI)I" } : Jvm.MethodName) jdk_89_method_30_code (3 : Nat) (Option.some Jvm.ClassFile.FieldType.int)).before args0 about1 = true := code_word (m := ⟨7, 2⟩) (meth := k7m2) (c := k7c2) (by decide +kernel) rfl rfl rfl (by decide +kernel)
set_option maxRecDepth 65536 in
theorem w_c9 : (Jvm.Cond.code ({ cls := "java/lang/Character", name := "isBmpCodePoint", desc := "(I)Z" } : Jvm.MethodName) jdk_89_method_12_code (1 : Nat) (Option.some Jvm.ClassFile.FieldType.boolean)).before args0 about1 = true := code_word (m := ⟨7, 0⟩) (meth := k7m0) (c := k7c0) (by decide +kernel) rfl rfl rfl (by decide +kernel)
set_option maxRecDepth 65536 in
theorem w_c10 : (Jvm.Cond.code ({ cls := "com/example/depeche/depeche/hl7/Text$Builder", name := "build", desc := "()Lcom/example/depeche/depeche/hl7/Text;" } : Jvm.MethodName) prog_27_method_6_code (2 : Nat) (Option.some (Jvm.ClassFile.FieldType.object "com/example/depeche/depeche/hl7/Text"))).before args0 about1 = true := code_word (m := ⟨2, 5⟩) (meth := k2m5) (c := k2c5) (by decide +kernel) rfl rfl rfl (by decide +kernel)
set_option maxRecDepth 65536 in
theorem w_c11 : (Jvm.Cond.code ({ cls := "java/lang/String", name := "<init>", desc := "([CII)V" } : Jvm.MethodName) jdk_42_method_4_code (4 : Nat) (Option.none : Option Jvm.ClassFile.FieldType)).before args0 about1 = true := code_word (m := ⟨10, 1⟩) (meth := k10m1) (c := k10c1) (by decide +kernel) rfl rfl rfl (by decide +kernel)
set_option maxRecDepth 65536 in
theorem w_c12 : (Jvm.Cond.code ({ cls := "java/lang/String", name := "rangeCheck", desc := "([CII)Ljava/lang/Void;" } : Jvm.MethodName) jdk_42_method_5_code (3 : Nat) (Option.some (Jvm.ClassFile.FieldType.object "java/lang/Void"))).before args0 about1 = true := code_word (m := ⟨10, 2⟩) (meth := k10m2) (c := k10c2) (by decide +kernel) rfl rfl rfl (by decide +kernel)
set_option maxRecDepth 65536 in
theorem w_c13 : (Jvm.Cond.code ({ cls := "java/lang/String", name := "checkBoundsOffCount", desc := "(III)I" } : Jvm.MethodName) jdk_42_method_157_code (3 : Nat) (Option.some Jvm.ClassFile.FieldType.int)).before args0 about1 = true := code_word (m := ⟨10, 11⟩) (meth := k10m11) (c := k10c11) (by decide +kernel) rfl rfl rfl (by decide +kernel)
set_option maxRecDepth 65536 in
theorem w_c14 : (Jvm.Cond.code ({ cls := "jdk/internal/util/Preconditions", name := "checkFromIndexSize", desc := "(IIILjava/util/function/BiFunction;)I" } : Jvm.MethodName) jdk_41_method_13_code (4 : Nat) (Option.some Jvm.ClassFile.FieldType.int)).before args0 about1 = true := code_word (m := ⟨11, 2⟩) (meth := k11m2) (c := k11c2) (by decide +kernel) rfl rfl rfl (by decide +kernel)
set_option maxRecDepth 65536 in
theorem w_c15 : (Jvm.Cond.code ({ cls := "java/lang/String", name := "<init>", desc := "([CIILjava/lang/Void;)V" } : Jvm.MethodName) jdk_42_method_149_code (6 : Nat) (Option.none : Option Jvm.ClassFile.FieldType)).before args0 about1 = true := code_word (m := ⟨10, 7⟩) (meth := k10m7) (c := k10c7) (by decide +kernel) rfl rfl rfl (by decide +kernel)
set_option maxRecDepth 65536 in
theorem w_c16 : (Jvm.Cond.code ({ cls := "java/lang/StringUTF16", name := "compress", desc := "([CII)[B" } : Jvm.MethodName) jdk_52_method_16_code (6 : Nat) (Option.some (Jvm.ClassFile.FieldType.array Jvm.ClassFile.FieldType.byte))).before args0 about1 = true := code_word (m := ⟨12, 2⟩) (meth := k12m2) (c := k12c2) (by decide +kernel) rfl rfl rfl (by decide +kernel)
set_option maxRecDepth 65536 in
theorem w_c17 : (Jvm.Cond.code ({ cls := "java/lang/StringUTF16", name := "compress", desc := "([CI[BII)I" } : Jvm.MethodName) jdk_52_method_21_code (7 : Nat) (Option.some Jvm.ClassFile.FieldType.int)).before args0 about1 = true := code_word (m := ⟨12, 3⟩) (meth := k12m3) (c := k12c3) (by decide +kernel) rfl rfl rfl (by decide +kernel)
set_option maxRecDepth 65536 in
theorem w_c18 : (Jvm.Cond.code ({ cls := "java/lang/StringUTF16", name := "coderFromArrayLen", desc := "([BI)B" } : Jvm.MethodName) jdk_52_method_15_code (2 : Nat) (Option.some Jvm.ClassFile.FieldType.byte)).before args0 about1 = true := code_word (m := ⟨12, 1⟩) (meth := k12m1) (c := k12c1) (by decide +kernel) rfl rfl rfl (by decide +kernel)
set_option maxRecDepth 65536 in
theorem w_c19 : (Jvm.Cond.code ({ cls := "com/example/depeche/depeche/hl7/Text", name := "of", desc := "(Ljava/lang/String;Z)Lcom/example/depeche/depeche/hl7/Text;" } : Jvm.MethodName) prog_26_method_2_code (2 : Nat) (Option.some (Jvm.ClassFile.FieldType.object "com/example/depeche/depeche/hl7/Text"))).before args0 about1 = true := code_word (m := ⟨3, 1⟩) (meth := k3m1) (c := k3c1) (by decide +kernel) rfl rfl rfl (by decide +kernel)
set_option maxRecDepth 65536 in
theorem w_c20 : (Jvm.Cond.code ({ cls := "com/example/depeche/depeche/hl7/Text", name := "<init>", desc := "(Ljava/lang/String;Z[I[C)V" } : Jvm.MethodName) prog_26_method_1_code (5 : Nat) (Option.none : Option Jvm.ClassFile.FieldType)).before args0 about1 = true := code_word (m := ⟨3, 0⟩) (meth := k3m0) (c := k3c0) (by decide +kernel) rfl rfl rfl (by decide +kernel)
set_option maxRecDepth 65536 in
theorem w_c21 : (Jvm.Cond.code ({ cls := "com/example/depeche/depeche/hl7/Text", name := "searched", desc := "()Ljava/lang/String;" } : Jvm.MethodName) prog_26_method_3_code (1 : Nat) (Option.some (Jvm.ClassFile.FieldType.object "java/lang/String"))).before args0 about1 = true := code_word (m := ⟨3, 2⟩) (meth := k3m2) (c := k3c2) (by decide +kernel) rfl rfl rfl (by decide +kernel)
set_option maxRecDepth 65536 in
theorem w_c22 : (Jvm.Cond.code ({ cls := "java/lang/String", name := "length", desc := "()I" } : Jvm.MethodName) jdk_42_method_54_code (1 : Nat) (Option.some Jvm.ClassFile.FieldType.int)).before args0 about1 = true := code_word (m := ⟨10, 5⟩) (meth := k10m5) (c := k10c5) (by decide +kernel) rfl rfl rfl (by decide +kernel)
set_option maxRecDepth 65536 in
theorem w_c23 : (Jvm.Cond.code ({ cls := "java/lang/String", name := "coder", desc := "()B" } : Jvm.MethodName) jdk_42_method_152_code (1 : Nat) (Option.some Jvm.ClassFile.FieldType.byte)).before args0 about1 = true := code_word (m := ⟨10, 8⟩) (meth := k10m8) (c := k10c8) (by decide +kernel) rfl rfl rfl (by decide +kernel)
set_option maxRecDepth 65536 in
theorem w_c24 : (Jvm.Cond.code ({ cls := "com/example/depeche/depeche/hl7/BuilderAppendPinLaw", name := "at", desc := "(Ljava/lang/String;IIIII)Z" } : Jvm.MethodName) method_3_code (7 : Nat) (Option.some Jvm.ClassFile.FieldType.boolean)).before args0 about1 = true := code_word (m := ⟨1, 2⟩) (meth := k1m2) (c := k1c2) (by decide +kernel) rfl rfl rfl (by decide +kernel)
set_option maxRecDepth 65536 in
theorem w_c25 : (Jvm.Cond.code ({ cls := "java/lang/String", name := "charAt", desc := "(I)C" } : Jvm.MethodName) jdk_42_method_56_code (2 : Nat) (Option.some Jvm.ClassFile.FieldType.char)).before args0 about1 = true := code_word (m := ⟨10, 6⟩) (meth := k10m6) (c := k10c6) (by decide +kernel) rfl rfl rfl (by decide +kernel)
set_option maxRecDepth 65536 in
theorem w_c26 : (Jvm.Cond.code ({ cls := "java/lang/String", name := "isLatin1", desc := "()Z" } : Jvm.MethodName) jdk_42_method_154_code (1 : Nat) (Option.some Jvm.ClassFile.FieldType.boolean)).before args0 about1 = true := code_word (m := ⟨10, 9⟩) (meth := k10m9) (c := k10c9) (by decide +kernel) rfl rfl rfl (by decide +kernel)
set_option maxRecDepth 65536 in
theorem w_c27 : (Jvm.Cond.code ({ cls := "java/lang/StringLatin1", name := "charAt", desc := "([BI)C" } : Jvm.MethodName) jdk_43_method_2_code (2 : Nat) (Option.some Jvm.ClassFile.FieldType.char)).before args0 about1 = true := code_word (m := ⟨13, 1⟩) (meth := k13m1) (c := k13c1) (by decide +kernel) rfl rfl rfl (by decide +kernel)
set_option maxRecDepth 65536 in
theorem w_c28 : (Jvm.Cond.code ({ cls := "java/lang/String", name := "checkIndex", desc := "(II)V" } : Jvm.MethodName) jdk_42_method_155_code (2 : Nat) (Option.none : Option Jvm.ClassFile.FieldType)).before args0 about1 = true := code_word (m := ⟨10, 10⟩) (meth := k10m10) (c := k10c10) (by decide +kernel) rfl rfl rfl (by decide +kernel)
set_option maxRecDepth 65536 in
theorem w_c29 : (Jvm.Cond.code ({ cls := "jdk/internal/util/Preconditions", name := "checkIndex", desc := "(IILjava/util/function/BiFunction;)I" } : Jvm.MethodName) jdk_41_method_11_code (3 : Nat) (Option.some Jvm.ClassFile.FieldType.int)).before args0 about1 = true := code_word (m := ⟨11, 1⟩) (meth := k11m1) (c := k11c1) (by decide +kernel) rfl rfl rfl (by decide +kernel)
set_option maxRecDepth 65536 in
theorem w_c30 : (Jvm.Cond.code ({ cls := "java/lang/Math", name := "max", desc := "(II)I" } : Jvm.MethodName) jdk_29_method_65_code (2 : Nat) (Option.some Jvm.ClassFile.FieldType.int)).before args0 about1 = true := code_word (m := ⟨14, 1⟩) (meth := k14m1) (c := k14c1) (by decide +kernel) rfl rfl rfl (by decide +kernel)
set_option maxRecDepth 65536 in
theorem w_c31 : (Jvm.Cond.code ({ cls := "java/lang/Math", name := "min", desc := "(II)I" } : Jvm.MethodName) jdk_29_method_69_code (2 : Nat) (Option.some Jvm.ClassFile.FieldType.int)).before args0 about1 = true := code_word (m := ⟨14, 2⟩) (meth := k14m2) (c := k14c2) (by decide +kernel) rfl rfl rfl (by decide +kernel)
set_option maxRecDepth 65536 in
theorem w_c32 : (Jvm.Cond.code ({ cls := "java/util/Arrays", name := "copyOf", desc := "([II)[I" } : Jvm.MethodName) jdk_65_method_123_code (3 : Nat) (Option.some (Jvm.ClassFile.FieldType.array Jvm.ClassFile.FieldType.int))).before args0 about1 = true := code_word (m := ⟨15, 1⟩) (meth := k15m1) (c := k15c1) (by decide +kernel) rfl rfl rfl (by decide +kernel)
set_option maxRecDepth 65536 in
theorem w_c33 : (Jvm.Cond.code ({ cls := "java/util/Arrays", name := "copyOf", desc := "([CI)[C" } : Jvm.MethodName) jdk_65_method_125_code (3 : Nat) (Option.some (Jvm.ClassFile.FieldType.array Jvm.ClassFile.FieldType.char))).before args0 about1 = true := code_word (m := ⟨15, 2⟩) (meth := k15m2) (c := k15c2) (by decide +kernel) rfl rfl rfl (by decide +kernel)
set_option maxRecDepth 65536 in
theorem w_c34 : (Jvm.Cond.code ({ cls := "java/lang/String", name := "<init>", desc := "([BIILjava/nio/charset/Charset;)V" } : Jvm.MethodName) jdk_42_method_10_code (5 : Nat) (Option.none : Option Jvm.ClassFile.FieldType)).before args0 about1 = true := code_word (m := ⟨10, 3⟩) (meth := k10m3) (c := k10c3) (by decide +kernel) rfl rfl rfl (by decide +kernel)
set_option maxRecDepth 65536 in
theorem w_c35 : (Jvm.Cond.code ({ cls := "java/util/Objects", name := "requireNonNull", desc := "(Ljava/lang/Object;)Ljava/lang/Object;" } : Jvm.MethodName) jdk_31_method_10_code (1 : Nat) (Option.some (Jvm.ClassFile.FieldType.object "java/lang/Object"))).before args0 about1 = true := code_word (m := ⟨18, 1⟩) (meth := k18m1) (c := k18c1) (by decide +kernel) rfl rfl rfl (by decide +kernel)
set_option maxRecDepth 65536 in
theorem w_c36 : (Jvm.Cond.code ({ cls := "java/util/Arrays", name := "copyOfRange", desc := "([BII)[B" } : Jvm.MethodName) jdk_65_method_132_code (3 : Nat) (Option.some (Jvm.ClassFile.FieldType.array Jvm.ClassFile.FieldType.byte))).before args0 about1 = true := code_word (m := ⟨15, 4⟩) (meth := k15m4) (c := k15c4) (by decide +kernel) rfl rfl rfl (by decide +kernel)
set_option maxRecDepth 65536 in
theorem w_c37 : (Jvm.Cond.code ({ cls := "java/util/Arrays", name := "copyOfRangeByte", desc := "([BII)[B" } : Jvm.MethodName) jdk_65_method_133_code (5 : Nat) (Option.some (Jvm.ClassFile.FieldType.array Jvm.ClassFile.FieldType.byte))).before args0 about1 = true := code_word (m := ⟨15, 5⟩) (meth := k15m5) (c := k15c5) (by decide +kernel) rfl rfl rfl (by decide +kernel)
set_option maxRecDepth 65536 in
theorem w_c38 : (Jvm.Cond.code ({ cls := "java/util/Arrays", name := "checkLength", desc := "(II)V" } : Jvm.MethodName) jdk_65_method_131_code (2 : Nat) (Option.none : Option Jvm.ClassFile.FieldType)).before args0 about1 = true := code_word (m := ⟨15, 3⟩) (meth := k15m3) (c := k15c3) (by decide +kernel) rfl rfl rfl (by decide +kernel)
def codes1 : List Jvm.Cond := [Jvm.Cond.code x code maxLocals ret, Jvm.Cond.code ({ cls := "com/example/depeche/depeche/hl7/Text$Builder", name := "<init>", desc := "(I)V" } : Jvm.MethodName) prog_27_method_1_code (2 : Nat) (Option.none : Option Jvm.ClassFile.FieldType), Jvm.Cond.code ({ cls := "java/lang/Object", name := "<init>", desc := "()V" } : Jvm.MethodName) object_method_1_code (1 : Nat) (Option.none : Option Jvm.ClassFile.FieldType), Jvm.Cond.code ({ cls := "com/example/depeche/depeche/hl7/Text$Builder", name := "append", desc := "(I)Z" } : Jvm.MethodName) prog_27_method_3_code (3 : Nat) (Option.some Jvm.ClassFile.FieldType.boolean), Jvm.Cond.code ({ cls := "com/example/depeche/depeche/hl7/Text$Builder", name := "setAside", desc := "(I)Z" } : Jvm.MethodName) prog_27_method_4_code (4 : Nat) (Option.some Jvm.ClassFile.FieldType.boolean), Jvm.Cond.code ({ cls := "java/lang/Character", name := "charCount", desc := "(I)I" } : Jvm.MethodName) jdk_89_method_18_code (1 : Nat) (Option.some Jvm.ClassFile.FieldType.int), Jvm.Cond.code ({ cls := "com/example/depeche/depeche/hl7/Text$Builder", name := "widen", desc := "()V" } : Jvm.MethodName) prog_27_method_5_code (2 : Nat) (Option.none : Option Jvm.ClassFile.FieldType), Jvm.Cond.code ({ cls := "com/example/depeche/depeche/hl7/Text$Builder", name := "append", desc := "([BII)V" } : Jvm.MethodName) prog_27_method_2_code (5 : Nat) (Option.none : Option Jvm.ClassFile.FieldType), Jvm.Cond.code ({ cls := "java/lang/Character", name := "toChars", desc := "(I[CI)I" } : Jvm.MethodName) jdk_89_method_30_code (3 : Nat) (Option.some Jvm.ClassFile.FieldType.int), Jvm.Cond.code ({ cls := "java/lang/Character", name := "isBmpCodePoint", desc := "(I)Z" } : Jvm.MethodName) jdk_89_method_12_code (1 : Nat) (Option.some Jvm.ClassFile.FieldType.boolean), Jvm.Cond.code ({ cls := "com/example/depeche/depeche/hl7/Text$Builder", name := "build", desc := "()Lcom/example/depeche/depeche/hl7/Text;" } : Jvm.MethodName) prog_27_method_6_code (2 : Nat) (Option.some (Jvm.ClassFile.FieldType.object "com/example/depeche/depeche/hl7/Text")), Jvm.Cond.code ({ cls := "java/lang/String", name := "<init>", desc := "([CII)V" } : Jvm.MethodName) jdk_42_method_4_code (4 : Nat) (Option.none : Option Jvm.ClassFile.FieldType), Jvm.Cond.code ({ cls := "java/lang/String", name := "rangeCheck", desc := "([CII)Ljava/lang/Void;" } : Jvm.MethodName) jdk_42_method_5_code (3 : Nat) (Option.some (Jvm.ClassFile.FieldType.object "java/lang/Void")), Jvm.Cond.code ({ cls := "java/lang/String", name := "checkBoundsOffCount", desc := "(III)I" } : Jvm.MethodName) jdk_42_method_157_code (3 : Nat) (Option.some Jvm.ClassFile.FieldType.int), Jvm.Cond.code ({ cls := "jdk/internal/util/Preconditions", name := "checkFromIndexSize", desc := "(IIILjava/util/function/BiFunction;)I" } : Jvm.MethodName) jdk_41_method_13_code (4 : Nat) (Option.some Jvm.ClassFile.FieldType.int), Jvm.Cond.code ({ cls := "java/lang/String", name := "<init>", desc := "([CIILjava/lang/Void;)V" } : Jvm.MethodName) jdk_42_method_149_code (6 : Nat) (Option.none : Option Jvm.ClassFile.FieldType), Jvm.Cond.code ({ cls := "java/lang/StringUTF16", name := "compress", desc := "([CII)[B" } : Jvm.MethodName) jdk_52_method_16_code (6 : Nat) (Option.some (Jvm.ClassFile.FieldType.array Jvm.ClassFile.FieldType.byte)), Jvm.Cond.code ({ cls := "java/lang/StringUTF16", name := "compress", desc := "([CI[BII)I" } : Jvm.MethodName) jdk_52_method_21_code (7 : Nat) (Option.some Jvm.ClassFile.FieldType.int), Jvm.Cond.code ({ cls := "java/lang/StringUTF16", name := "coderFromArrayLen", desc := "([BI)B" } : Jvm.MethodName) jdk_52_method_15_code (2 : Nat) (Option.some Jvm.ClassFile.FieldType.byte), Jvm.Cond.code ({ cls := "com/example/depeche/depeche/hl7/Text", name := "of", desc := "(Ljava/lang/String;Z)Lcom/example/depeche/depeche/hl7/Text;" } : Jvm.MethodName) prog_26_method_2_code (2 : Nat) (Option.some (Jvm.ClassFile.FieldType.object "com/example/depeche/depeche/hl7/Text")), Jvm.Cond.code ({ cls := "com/example/depeche/depeche/hl7/Text", name := "<init>", desc := "(Ljava/lang/String;Z[I[C)V" } : Jvm.MethodName) prog_26_method_1_code (5 : Nat) (Option.none : Option Jvm.ClassFile.FieldType), Jvm.Cond.code ({ cls := "com/example/depeche/depeche/hl7/Text", name := "searched", desc := "()Ljava/lang/String;" } : Jvm.MethodName) prog_26_method_3_code (1 : Nat) (Option.some (Jvm.ClassFile.FieldType.object "java/lang/String")), Jvm.Cond.code ({ cls := "java/lang/String", name := "length", desc := "()I" } : Jvm.MethodName) jdk_42_method_54_code (1 : Nat) (Option.some Jvm.ClassFile.FieldType.int), Jvm.Cond.code ({ cls := "java/lang/String", name := "coder", desc := "()B" } : Jvm.MethodName) jdk_42_method_152_code (1 : Nat) (Option.some Jvm.ClassFile.FieldType.byte), Jvm.Cond.code ({ cls := "com/example/depeche/depeche/hl7/BuilderAppendPinLaw", name := "at", desc := "(Ljava/lang/String;IIIII)Z" } : Jvm.MethodName) method_3_code (7 : Nat) (Option.some Jvm.ClassFile.FieldType.boolean), Jvm.Cond.code ({ cls := "java/lang/String", name := "charAt", desc := "(I)C" } : Jvm.MethodName) jdk_42_method_56_code (2 : Nat) (Option.some Jvm.ClassFile.FieldType.char), Jvm.Cond.code ({ cls := "java/lang/String", name := "isLatin1", desc := "()Z" } : Jvm.MethodName) jdk_42_method_154_code (1 : Nat) (Option.some Jvm.ClassFile.FieldType.boolean), Jvm.Cond.code ({ cls := "java/lang/StringLatin1", name := "charAt", desc := "([BI)C" } : Jvm.MethodName) jdk_43_method_2_code (2 : Nat) (Option.some Jvm.ClassFile.FieldType.char), Jvm.Cond.code ({ cls := "java/lang/String", name := "checkIndex", desc := "(II)V" } : Jvm.MethodName) jdk_42_method_155_code (2 : Nat) (Option.none : Option Jvm.ClassFile.FieldType), Jvm.Cond.code ({ cls := "jdk/internal/util/Preconditions", name := "checkIndex", desc := "(IILjava/util/function/BiFunction;)I" } : Jvm.MethodName) jdk_41_method_11_code (3 : Nat) (Option.some Jvm.ClassFile.FieldType.int), Jvm.Cond.code ({ cls := "java/lang/Math", name := "max", desc := "(II)I" } : Jvm.MethodName) jdk_29_method_65_code (2 : Nat) (Option.some Jvm.ClassFile.FieldType.int), Jvm.Cond.code ({ cls := "java/lang/Math", name := "min", desc := "(II)I" } : Jvm.MethodName) jdk_29_method_69_code (2 : Nat) (Option.some Jvm.ClassFile.FieldType.int), Jvm.Cond.code ({ cls := "java/util/Arrays", name := "copyOf", desc := "([II)[I" } : Jvm.MethodName) jdk_65_method_123_code (3 : Nat) (Option.some (Jvm.ClassFile.FieldType.array Jvm.ClassFile.FieldType.int)), Jvm.Cond.code ({ cls := "java/util/Arrays", name := "copyOf", desc := "([CI)[C" } : Jvm.MethodName) jdk_65_method_125_code (3 : Nat) (Option.some (Jvm.ClassFile.FieldType.array Jvm.ClassFile.FieldType.char)), Jvm.Cond.code ({ cls := "java/lang/String", name := "<init>", desc := "([BIILjava/nio/charset/Charset;)V" } : Jvm.MethodName) jdk_42_method_10_code (5 : Nat) (Option.none : Option Jvm.ClassFile.FieldType), Jvm.Cond.code ({ cls := "java/util/Objects", name := "requireNonNull", desc := "(Ljava/lang/Object;)Ljava/lang/Object;" } : Jvm.MethodName) jdk_31_method_10_code (1 : Nat) (Option.some (Jvm.ClassFile.FieldType.object "java/lang/Object")), Jvm.Cond.code ({ cls := "java/util/Arrays", name := "copyOfRange", desc := "([BII)[B" } : Jvm.MethodName) jdk_65_method_132_code (3 : Nat) (Option.some (Jvm.ClassFile.FieldType.array Jvm.ClassFile.FieldType.byte)), Jvm.Cond.code ({ cls := "java/util/Arrays", name := "copyOfRangeByte", desc := "([BII)[B" } : Jvm.MethodName) jdk_65_method_133_code (5 : Nat) (Option.some (Jvm.ClassFile.FieldType.array Jvm.ClassFile.FieldType.byte)), Jvm.Cond.code ({ cls := "java/util/Arrays", name := "checkLength", desc := "(II)V" } : Jvm.MethodName) jdk_65_method_131_code (2 : Nat) (Option.none : Option Jvm.ClassFile.FieldType)]
set_option maxRecDepth 65536 in
theorem codes_eq : words1.filter isCode = codes1 := rfl
theorem w_codes : ∀ c ∈ words1.filter isCode, c.before args0 about1 = true := by
  rw [codes_eq]
  intro c hc
  simp only [codes1, List.mem_cons, List.not_mem_nil, or_false] at hc
  rcases hc with rfl | rfl | rfl | rfl | rfl | rfl | rfl | rfl | rfl | rfl | rfl | rfl | rfl | rfl | rfl | rfl | rfl | rfl | rfl | rfl | rfl | rfl | rfl | rfl | rfl | rfl | rfl | rfl | rfl | rfl | rfl | rfl | rfl | rfl | rfl | rfl | rfl | rfl | rfl
  · exact w_c0
  · exact w_c1
  · exact w_c2
  · exact w_c3
  · exact w_c4
  · exact w_c5
  · exact w_c6
  · exact w_c7
  · exact w_c8
  · exact w_c9
  · exact w_c10
  · exact w_c11
  · exact w_c12
  · exact w_c13
  · exact w_c14
  · exact w_c15
  · exact w_c16
  · exact w_c17
  · exact w_c18
  · exact w_c19
  · exact w_c20
  · exact w_c21
  · exact w_c22
  · exact w_c23
  · exact w_c24
  · exact w_c25
  · exact w_c26
  · exact w_c27
  · exact w_c28
  · exact w_c29
  · exact w_c30
  · exact w_c31
  · exact w_c32
  · exact w_c33
  · exact w_c34
  · exact w_c35
  · exact w_c36
  · exact w_c37
  · exact w_c38
set_option maxRecDepth 65536 in
theorem w_t1 : (words1.take 24).all (fun c => isCode c || c.before args0 about1) = true := by decide +kernel
set_option maxRecDepth 65536 in
theorem w_t2 : ((words1.drop 24).take 24).all (fun c => isCode c || c.before args0 about1) = true := by decide +kernel
set_option maxRecDepth 65536 in
theorem w_t3 : (((words1.drop 24).drop 24).take 24).all (fun c => isCode c || c.before args0 about1) = true := by decide +kernel
set_option maxRecDepth 65536 in
theorem w_t4 : ((((words1.drop 24).drop 24).drop 24).take 24).all (fun c => isCode c || c.before args0 about1) = true := by decide +kernel
set_option maxRecDepth 65536 in
theorem w_t5 : (((((words1.drop 24).drop 24).drop 24).drop 24).take 24).all (fun c => isCode c || c.before args0 about1) = true := by decide +kernel
set_option maxRecDepth 65536 in
theorem w_t6 : ((((((words1.drop 24).drop 24).drop 24).drop 24).drop 24).take 24).all (fun c => isCode c || c.before args0 about1) = true := by decide +kernel
set_option maxRecDepth 65536 in
theorem w_t7 : (((((((words1.drop 24).drop 24).drop 24).drop 24).drop 24).drop 24).take 24).all (fun c => isCode c || c.before args0 about1) = true := by decide +kernel
set_option maxRecDepth 65536 in
theorem w_t8 : ((((((((words1.drop 24).drop 24).drop 24).drop 24).drop 24).drop 24).drop 24).take 24).all (fun c => isCode c || c.before args0 about1) = true := by decide +kernel
theorem with_word {y : MethodName} {bytes : ByteArray} {mx : Nat} {rt : Option FieldType} {hs : List (Nat × Nat × Nat × Nat)} {a : Array Value} {s : State} {m : MethodId} {meth : Method} {c : Code} (h1 : s.methodNamed? y = some m) (h2 : s.vm.method? m = some meth) (h3 : meth.code = some c) (h4 : c.code = bytes)
    (h5 : (c.maxLocals == mx && decide (c.exceptionTable.toList.map (fun h => (h.startPc, h.endPc, h.handlerPc, h.catchType)) = hs) && decide (c.maxStack ≤ mostOperands) && decide (meth.sig.returnType = rt) && !meth.locks && decide (parseMethodDescriptor y.desc = some meth.sig)) = true) : (Jvm.Cond.codeWith y bytes mx rt hs).before a s = true := by
  simp only [Bool.and_eq_true, beq_iff_eq, Bool.not_eq_true', decide_eq_true_eq] at h5
  obtain ⟨⟨⟨⟨⟨g1, g2⟩, g3⟩, g4⟩, g5⟩, g6⟩ := h5
  simp [Cond.before, Cond.holds, Cond.value, h1, h2, h3, h4, g1, g2, g3, g4, g5, g6]
set_option maxRecDepth 65536 in
theorem w_cw : (Jvm.Cond.codeWith ({ cls := "java/lang/String", name := "<init>", desc := "(Ljava/nio/charset/Charset;[BII)V" } : Jvm.MethodName) jdk_42_method_11_code (11 : Nat) (Option.none : Option Jvm.ClassFile.FieldType) [(800, 813, 816, 202)]).before args0 about1 = true := with_word (m := ⟨10, 4⟩) (meth := k10m4) (c := k10c4) (by decide +kernel) rfl rfl rfl (by decide +kernel)
theorem all_cut {L A B : List Jvm.Cond} {w : Jvm.Cond} {P : Jvm.Cond → Bool} (e : L = A ++ w :: B) (h1 : A.all P = true) (h2 : P w = true) (h3 : B.all P = true) : L.all P = true := by
  rw [e, List.all_append, List.all_cons, h1, h2, h3]; rfl
set_option maxRecDepth 65536 in
theorem w_t9 : (((((((((words1.drop 24).drop 24).drop 24).drop 24).drop 24).drop 24).drop 24).drop 24).take 24).all (fun c => isCode c || c.before args0 about1) = true :=
  all_cut (A := (((((((((words1.drop 24).drop 24).drop 24).drop 24).drop 24).drop 24).drop 24).drop 24).take 24).take 4) (B := (((((((((words1.drop 24).drop 24).drop 24).drop 24).drop 24).drop 24).drop 24).drop 24).take 24).drop 5) (w := (Jvm.Cond.codeWith ({ cls := "java/lang/String", name := "<init>", desc := "(Ljava/nio/charset/Charset;[BII)V" } : Jvm.MethodName) jdk_42_method_11_code (11 : Nat) (Option.none : Option Jvm.ClassFile.FieldType) [(800, 813, 816, 202)])) rfl (by decide +kernel) (by rw [w_cw]; rfl) (by decide +kernel)
set_option maxRecDepth 65536 in
theorem w_t10 : (((((((((words1.drop 24).drop 24).drop 24).drop 24).drop 24).drop 24).drop 24).drop 24).drop 24).all (fun c => isCode c || c.before args0 about1) = true := by decide +kernel
theorem w_tables : (allAtoms (Jvm.Cond.code x code maxLocals ret :: tables_1)).before args0 about1 = true := by
  rw [allAtoms_all]
  show words1.all (fun c => c.before args0 about1) = true
  refine all_split ?_ w_codes
  rw [← List.take_append_drop 24 words1, List.all_append, w_t1, ← List.take_append_drop 24 (words1.drop 24), List.all_append, w_t2, ← List.take_append_drop 24 ((words1.drop 24).drop 24), List.all_append, w_t3, ← List.take_append_drop 24 (((words1.drop 24).drop 24).drop 24), List.all_append, w_t4, ← List.take_append_drop 24 ((((words1.drop 24).drop 24).drop 24).drop 24), List.all_append, w_t5, ← List.take_append_drop 24 (((((words1.drop 24).drop 24).drop 24).drop 24).drop 24), List.all_append, w_t6, ← List.take_append_drop 24 ((((((words1.drop 24).drop 24).drop 24).drop 24).drop 24).drop 24), List.all_append, w_t7, ← List.take_append_drop 24 (((((((words1.drop 24).drop 24).drop 24).drop 24).drop 24).drop 24).drop 24), List.all_append, w_t8, ← List.take_append_drop 24 ((((((((words1.drop 24).drop 24).drop 24).drop 24).drop 24).drop 24).drop 24).drop 24), List.all_append, w_t9, w_t10]
  rfl
set_option maxRecDepth 65536 in
theorem w_rest : rest_1_c.before args0 about1 = true := by decide +kernel
set_option maxRecDepth 65536 in
theorem w_case : (Jvm.Cond.and given_1 narrow_1).before args0 about1 = true := by decide +kernel
theorem w_applies : (headSpec (Jvm.Cond.code x code maxLocals ret :: tables_1) room_1).applies x e0.platform about1 = true :=
  (Spec.applies_iff w_frames).mpr ⟨w_running, w_runnable, w_alone, w_named, w_hears, w_ripe, w_room, w_tables⟩
theorem atStart : AtStart classFile x code maxLocals ret World_1 tables_1 room_1 Calls_1 rest_1 Pre_1 launch0 p0 e0 about1 theMethod args0 below0 :=
  ⟨lists_1, trivial, launch0.admits_env _ _ _, launch0.least_env, fairChoices_fair.cas, fairChoices_fair.clock, w_frames, w_args, w_heap, w_applies, trivial, w_rest, w_case⟩
end start1
theorem witness_1 : WitnessClaimed_1 := ⟨start1.p0, start1.e0, start1.about1, start1.theMethod, start1.args0, start1.below0, start1.atStart⟩
end Jvm.Pilot.@@N@@
