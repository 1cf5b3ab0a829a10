import JvmDerived
import JvmDerived.Pilot.@@N@@Statement
import JvmDerived.Pilot.@@N@@Code
set_option linter.unusedVariables false
set_option linter.unusedSimpArgs false
namespace Jvm.RoadKit
open Sem ClassFile Op Lib Jvm.Stand Jvm.Free Jvm.LawKit
section Own
variable {p : Program} {l : Launch} {e : Env} {R : Room} {s : State} {m : MethodId} {args : Array Value} {below : List Frame} {meth : Method} {c : Code} {T T' : State} {locs : List Loc} {cells slots : Nat} {g g' : JFrame} {Qf : Option Value → Heap → List Loc → Prop} {E : Outcome → State → Prop} {C S : Nat} {Z : State} {a0 : Array Value} {h : Heap} {pc n : Nat} {Ls : Array Slot} {sk : List Value}
theorem nz {a b : Addr} (h : ¬ @Eq Nat a b) : a ≠ b := h
theorem ny {a b : Nat} (h : a < b) : a < b := h
theorem nx {a b : Nat} (h : a = b) : a = b := h
theorem nw {a b : Nat} (h : ¬ a = b) : ¬ a = b := h
theorem own_nn {z : Int32} {i : Nat} (h : z = Int32.ofNat i) (hi : i < 2 ^ 31) : z.toNatClampNeg = i ∧ ¬ z < 0 := by
  subst h
  have e : (Int32.ofNat i).toInt = i := Int32.toInt_ofNat_of_lt hi
  refine ⟨by rw [Int32.toNatClampNeg, e]; rfl, ?_⟩
  rw [Int32.lt_iff_toInt_lt, e]
  have : (0 : Int32).toInt = 0 := rfl
  omega
theorem retI (X : Stand p l e R s m args below meth c T locs cells slots) (hx : p.tables.exec = Jvm.exec) {z : Int32} {rest : List Value} (hret : meth.sig.returnType = some .int) (hd : decode c.code pc = .ok (.ireturn, 1)) {fs : List Frame}
    (hl : ∀ (f : JFrame) (acts : List Action), f.method = m → f.locked = none → f.entered = [] → (doReturn e (T.setTop f) acts (some (.int z))).1 = T.setFrames fs) : Steps p.tables e below (T.setTop (mkF m pc Ls (.int z :: rest))) (T.setFrames fs) := by
  have hm' : T.vm.method? m = some meth := X.method'
  have hn : narrow .int (.int z) = .int z := rfl
  show Steps p.tables e below (T.setTop { method := m, pc := pc, locals := Ls, stack := _ :: rest, locked := none }) _
  jvm_step X.here [X.here.top, hx, hd, hm', hret, hn]
  first | (intro acts; rw [hl _ acts rfl rfl rfl]) | rw [hl _ _ rfl rfl rfl]
  exact Steps.refl _
theorem retL (X : Stand p l e R s m args below meth c T locs cells slots) (hx : p.tables.exec = Jvm.exec) {z : Int64} {rest : List Value} (hret : meth.sig.returnType = some .long) (hd : decode c.code pc = .ok (.lreturn, 1)) {fs : List Frame}
    (hl : ∀ (f : JFrame) (acts : List Action), f.method = m → f.locked = none → f.entered = [] → (doReturn e (T.setTop f) acts (some (.long z))).1 = T.setFrames fs) : Steps p.tables e below (T.setTop (mkF m pc Ls (.long z :: rest))) (T.setFrames fs) := by
  have hm' : T.vm.method? m = some meth := X.method'
  show Steps p.tables e below (T.setTop { method := m, pc := pc, locals := Ls, stack := _ :: rest, locked := none }) _
  jvm_step X.here [X.here.top, hx, hd, hm', hret, narrow]
  first | (intro acts; rw [hl _ acts rfl rfl rfl]) | rw [hl _ _ rfl rfl rfl]
  exact Steps.refl _
theorem retA (X : Stand p l e R s m args below meth c T locs cells slots) (hx : p.tables.exec = Jvm.exec) {z : Value} {t : FieldType} {rest : List Value} (hz : z.isRef = true) (hret : meth.sig.returnType = some t) (ht : t.isReference = true) (hd : decode c.code pc = .ok (.areturn, 1)) {fs : List Frame}
    (hl : ∀ (f : JFrame) (acts : List Action), f.method = m → f.locked = none → f.entered = [] → (doReturn e (T.setTop f) acts (some z)).1 = T.setFrames fs) : Steps p.tables e below (T.setTop (mkF m pc Ls (z :: rest))) (T.setFrames fs) := by
  have hm' : T.vm.method? m = some meth := X.method'
  show Steps p.tables e below (T.setTop { method := m, pc := pc, locals := Ls, stack := _ :: rest, locked := none }) _
  jvm_step X.here [X.here.top, hx, hd, hm', hret, hz, ht]
  first | (intro acts; rw [hl _ acts rfl rfl rfl]) | rw [hl _ _ rfl rfl rfl]
  exact Steps.refl _
theorem retNz (X : Stand p l e R s m args below meth c T locs cells slots) (hx : p.tables.exec = Jvm.exec) {z z' : Int32} {t : FieldType} {rest : List Value} (hz : nar t z = z') (hret : meth.sig.returnType = some t) (ht : t = .boolean ∨ t = .byte ∨ t = .char ∨ t = .short)
    (hd : decode c.code pc = .ok (.ireturn, 1)) {fs : List Frame} (hl : ∀ (f : JFrame) (acts : List Action), f.method = m → f.locked = none → f.entered = [] → (doReturn e (T.setTop f) acts (some (.int z'))).1 = T.setFrames fs) :
    Steps p.tables e below (T.setTop (mkF m pc Ls (.int z :: rest))) (T.setFrames fs) := by
  subst hz
  exact retN X hx hret ht hd hl
/-- from here the body comes back, with what Qf says of the value, the heap and the places written -/
def Wk (p : Program) (e : Env) (below : List Frame) (E : Outcome → State → Prop) (T : State) (g : JFrame) : Prop :=
  ∃ s₂ o, Steps p.tables e below (T.setTop g) s₂ ∧ s₂.status = .running ∧ Ended s₂ below o ∧ E o s₂
def EndN (s : State) (Qf : Option Value → Heap → List Loc → Prop) (C S : Nat) : Outcome → State → Prop := fun o s₂ => ∃ v L, o = .returned v ∧ Qf v s₂.heap L ∧ FrameEnd s o s₂ L C S
theorem Wk.go (k : ∀ t, Steps p.tables e below (T'.setTop g') t → Steps p.tables e below (T.setTop g) t) (w : Wk p e below E T' g') : Wk p e below E T g := by
  obtain ⟨s₂, o, a, r⟩ := w
  exact ⟨s₂, o, k _ a, r⟩
theorem Wk.leave (X : Stand p l e R s m args below meth c T locs cells slots) {v : Option Value} (hv : meth.sig.returnType = none → v = none) (hlocks : meth.locks = false) (eT : T.heap = h) (hQ : Qf v h locs) (hC : cells ≤ C) (hS : slots ≤ S)
    (k : ∀ fs, (∀ (f : JFrame) (acts : List Action), f.method = m → f.locked = none → f.entered = [] → (doReturn e (T.setTop f) acts v).1 = T.setFrames fs) → Steps p.tables e below (T.setTop g) (T.setFrames fs)) : Wk p e below (EndN s Qf C S) T g := by
  obtain ⟨fs, hr, hrun, hended, hW, hsame⟩ := X.leave hv hlocks
  subst eT
  exact ⟨_, _, k fs hr, hrun, hended, _, _, rfl, hQ, ⟨_, rfl⟩, hW, hsame.mono hC hS⟩
theorem Wk.aloadN (X : Stand p l e R s m args below meth c T locs cells slots) (hx : p.tables.exec = Jvm.exec) {k : Fin 4} {v : Value} (hd : decode c.code pc = .ok (.aload_n k, 1)) (hp : pc + 1 = n) (hl : Ls[k.val]? = some (.val v)) (hv : v.isRef = true) (w : Wk p e below E T (mkF m n Ls (v :: sk))) : Wk p e below E T (mkF m pc Ls sk) := by
  subst hp
  exact Wk.go (fun _ k => XS.aloadN X.here hx rfl hd hl hv k) w
theorem Wk.iloadN (X : Stand p l e R s m args below meth c T locs cells slots) (hx : p.tables.exec = Jvm.exec) {k : Fin 4} {v : Int32} (hd : decode c.code pc = .ok (.iload_n k, 1)) (hp : pc + 1 = n) (hl : Ls[k.val]? = some (.val (.int v))) (w : Wk p e below E T (mkF m n Ls (.int v :: sk))) : Wk p e below E T (mkF m pc Ls sk) := by
  subst hp
  exact Wk.go (fun _ k => XS.iloadN X.here hx rfl hd hl k) w
theorem Wk.astoreN (X : Stand p l e R s m args below meth c T locs cells slots) (hx : p.tables.exec = Jvm.exec) {k : Fin 4} {v : Value} {L' : Array Slot} (hd : decode c.code pc = .ok (.astore_n k, 1)) (hp : pc + 1 = n) (hv : v.isRef = true) (hl : storeLocals Ls k.val v = some L') (w : Wk p e below E T (mkF m n L' sk)) : Wk p e below E T (mkF m pc Ls (v :: sk)) := by
  subst hp
  exact Wk.go (fun _ k => XS.astoreN X.here hx rfl hd rfl hv hl k) w
theorem Wk.aload (X : Stand p l e R s m args below meth c T locs cells slots) (hx : p.tables.exec = Jvm.exec) {k : Nat} {v : Value} (hd : decode c.code pc = .ok (.aload k, 2)) (hp : pc + 2 = n) (hl : Ls[k]? = some (.val v)) (hv : v.isRef = true) (w : Wk p e below E T (mkF m n Ls (v :: sk))) : Wk p e below E T (mkF m pc Ls sk) := by
  subst hp
  exact Wk.go (fun _ k => XS.aload X.here hx rfl hd hl hv k) w
theorem Wk.astore (X : Stand p l e R s m args below meth c T locs cells slots) (hx : p.tables.exec = Jvm.exec) {k : Nat} {v : Value} {L' : Array Slot} (hd : decode c.code pc = .ok (.astore k, 2)) (hp : pc + 2 = n) (hv : v.isRef = true) (hl : storeLocals Ls k v = some L') (w : Wk p e below E T (mkF m n L' sk)) : Wk p e below E T (mkF m pc Ls (v :: sk)) := by
  subst hp
  exact Wk.go (fun _ k => XS.astore X.here hx rfl hd rfl hv hl k) w
theorem Wk.iconst (X : Stand p l e R s m args below meth c T locs cells slots) (hx : p.tables.exec = Jvm.exec) {i : Int} {z : Int32} (hd : decode c.code pc = .ok (.iconst i, 1)) (hp : pc + 1 = n) (hz : Int32.ofInt i = z) (w : Wk p e below E T (mkF m n Ls (.int z :: sk))) : Wk p e below E T (mkF m pc Ls sk) := by
  subst hp; subst hz
  exact Wk.go (fun _ k => XS.iconst X.here hx rfl hd  k) w
theorem Wk.sipush (X : Stand p l e R s m args below meth c T locs cells slots) (hx : p.tables.exec = Jvm.exec) {i : Int} {z : Int32} (hd : decode c.code pc = .ok (.sipush i, 3)) (hp : pc + 3 = n) (hz : (Int16.ofInt i).toInt32 = z) (w : Wk p e below E T (mkF m n Ls (.int z :: sk))) : Wk p e below E T (mkF m pc Ls sk) := by
  subst hp; subst hz
  exact Wk.go (fun _ k => XS.sipush X.here hx rfl hd  k) w
theorem Wk.iand (X : Stand p l e R s m args below meth c T locs cells slots) (hx : p.tables.exec = Jvm.exec) {x y : Int32} (hd : decode c.code pc = .ok (.iand, 1)) (hp : pc + 1 = n)  (w : Wk p e below E T (mkF m n Ls (.int (x &&& y) :: sk))) : Wk p e below E T (mkF m pc Ls (.int y :: .int x :: sk)) := by
  subst hp
  exact Wk.go (fun _ k => XS.iand X.here hx rfl hd rfl k) w
theorem Wk.i2c (X : Stand p l e R s m args below meth c T locs cells slots) (hx : p.tables.exec = Jvm.exec) {x z : Int32} (hd : decode c.code pc = .ok (.i2c, 1)) (hp : pc + 1 = n) (hz : x.toUInt32.toUInt16.toUInt32.toInt32 = z) (w : Wk p e below E T (mkF m n Ls (.int z :: sk))) : Wk p e below E T (mkF m pc Ls (.int x :: sk)) := by
  subst hp; subst hz
  exact Wk.go (fun _ k => XS.i2c X.here hx rfl hd rfl k) w
theorem Wk.dup (X : Stand p l e R s m args below meth c T locs cells slots) (hx : p.tables.exec = Jvm.exec) {x : Value} (hd : decode c.code pc = .ok (.dup, 1)) (hp : pc + 1 = n) (hc : x.category = 1) (w : Wk p e below E T (mkF m n Ls (x :: x :: sk))) : Wk p e below E T (mkF m pc Ls (x :: sk)) := by
  subst hp
  exact Wk.go (fun _ k => XS.dup X.here hx rfl hd rfl hc k) w
theorem Wk.pop (X : Stand p l e R s m args below meth c T locs cells slots) (hx : p.tables.exec = Jvm.exec) {x : Value} (hd : decode c.code pc = .ok (.pop, 1)) (hp : pc + 1 = n) (hc : x.category = 1) (w : Wk p e below E T (mkF m n Ls sk)) : Wk p e below E T (mkF m pc Ls (x :: sk)) := by
  subst hp
  exact Wk.go (fun _ k => XS.pop X.here hx rfl hd rfl hc k) w
theorem Wk.goto (X : Stand p l e R s m args below meth c T locs cells slots) (hx : p.tables.exec = Jvm.exec)  {o : Int} (hd : decode c.code pc = .ok (.goto o, 3))  (ho : 0 ≤ (pc : Int) + o) (hp : ((pc : Int) + o).toNat = n) (w : Wk p e below E T (mkF m n Ls sk)) : Wk p e below E T (mkF m pc Ls sk) := Wk.go (fun _ k => XS.goto X.here hx rfl rfl hd  ho hp k) w
theorem Wk.ifYes (X : Stand p l e R s m args below meth c T locs cells slots) (hx : p.tables.exec = Jvm.exec) {cd : ClassFile.Cond} {x : Int32} {o : Int} (hd : decode c.code pc = .ok (.ifCond cd o, 3)) (hc : ifCond.holds cd x = true) (ho : 0 ≤ (pc : Int) + o) (hp : ((pc : Int) + o).toNat = n) (w : Wk p e below E T (mkF m n Ls sk)) : Wk p e below E T (mkF m pc Ls (.int x :: sk)) := Wk.go (fun _ k => XS.ifYes X.here hx rfl rfl hd rfl hc ho hp k) w
theorem Wk.ifNo (X : Stand p l e R s m args below meth c T locs cells slots) (hx : p.tables.exec = Jvm.exec) {cd : ClassFile.Cond} {o : Int} {x : Int32} (hd : decode c.code pc = .ok (.ifCond cd o, 3)) (hp : pc + 3 = n) (hc : ifCond.holds cd x = false) (w : Wk p e below E T (mkF m n Ls sk)) : Wk p e below E T (mkF m pc Ls (.int x :: sk)) := by
  subst hp
  exact Wk.go (fun _ k => XS.ifNo X.here hx rfl hd rfl hc k) w
theorem Wk.icmpNo (X : Stand p l e R s m args below meth c T locs cells slots) (hx : p.tables.exec = Jvm.exec) {cd : ClassFile.Cond} {o : Int} {x y : Int32} (hd : decode c.code pc = .ok (.if_icmp cd o, 3)) (hp : pc + 3 = n) (hc : if_icmp.holds cd x y = false) (w : Wk p e below E T (mkF m n Ls sk)) : Wk p e below E T (mkF m pc Ls (.int y :: .int x :: sk)) := by
  subst hp
  exact Wk.go (fun _ k => XS.icmpNo X.here hx rfl hd rfl hc k) w
theorem Wk.newO (X : Stand p l e R s m args below meth c T locs cells slots) (hx : p.tables.exec = Jvm.exec) (hZ : Z.Warmed39 s.vm) {own K : String} {index k : Nat} (hown : s.vm.findClass own = some m.cls) (w : (Cond.classLink own index K).before a0 Z = true) (wi : (Cond.instantiable K k).before a0 Z = true) (wz : (Cond.initialized K).before a0 Z = true) (eT : T.heap = h) (hd : decode c.code pc = .ok (.new index, 3)) (hp : pc + 3 = n) (hc : cells + 1 ≤ R.cells) (hl : slots + k ≤ R.slots)
    (kk : ∀ (T' : State) (h' : Heap) (b : Addr), b = h.size → Stand p l e R s m args below meth c T' locs (cells + 1) (slots + k) → T'.heap = h' → Ext h h' → Exa Z h' b K → (∀ {O nm d : String} {ty : FieldType}, Laid Z a0 K O nm d → parseFieldDescriptor d = some ty → Fld Z h' b O nm d (defaultValue ty)) → Unt h' b → Wk p e below E T' (mkF m n Ls (.ref b :: sk))) : Wk p e below E T (mkF m pc Ls sk) := by
  subst hp
  obtain ⟨T', h', X', e', E', A', D', Y', st'⟩ := RoadKit.newO X hx hZ hown w wi wz eT (g := mkF m pc Ls sk) rfl hd hc hl
  exact Wk.go st' (kk T' h' _ rfl X' e' E' A' (fun L q => D' L q) Y')
theorem Wk.getF (X : Stand p l e R s m args below meth c T locs cells slots) (hx : p.tables.exec = Jvm.exec) (hZ : Z.Warmed39 s.vm) {own R0 O f d host : String} {index : Nat} (hown : s.vm.findClass own = some m.cls) (w : (Cond.fieldLink own index R0 f d).before a0 Z = true ∨ (Cond.fieldLinkNest own index R0 f d host).before a0 Z = true) (via : Via Z R0 O f d) (eT : T.heap = h) {a : Addr} {v : Value} (F : Fld Z h a O f d v) (hd : decode c.code pc = .ok (.getfield index, 3)) (hp : pc + 3 = n) (kk : ∀ T' : State, Stand p l e R s m args below meth c T' locs cells slots → T'.heap = h → Wk p e below E T' (mkF m n Ls (v :: sk))) : Wk p e below E T (mkF m pc Ls (.ref a :: sk)) := by
  subst hp
  obtain ⟨T', X', e', st'⟩ := RoadKit.getF X hx hZ hown w via eT F (g := mkF m pc Ls (.ref a :: sk)) rfl rfl hd
  exact Wk.go st' (kk T' X' e')
theorem Wk.getS (X : Stand p l e R s m args below meth c T locs cells slots) (hx : p.tables.exec = Jvm.exec) (hZ : Z.Warmed39 s.vm) {own R0 O f d host : String} {index : Nat} (hown : s.vm.findClass own = some m.cls) (w : (Cond.fieldLink own index R0 f d).before a0 Z = true ∨ (Cond.fieldLinkNest own index R0 f d host).before a0 Z = true) (via : Via Z R0 O f d) (eT : T.heap = h) {v : Value} (F : Sta Z h O f d v) (hd : decode c.code pc = .ok (.getstatic index, 3)) (hp : pc + 3 = n) (kk : ∀ T' : State, Stand p l e R s m args below meth c T' locs cells slots → T'.heap = h → Wk p e below E T' (mkF m n Ls (v :: sk))) : Wk p e below E T (mkF m pc Ls sk) := by
  subst hp
  obtain ⟨T', X', e', st'⟩ := RoadKit.getS2 X hx hZ hown w via eT F (g := mkF m pc Ls sk) rfl hd
  exact Wk.go st' (kk T' X' e')
theorem Wk.putF (X : Stand p l e R s m args below meth c T locs cells slots) (hx : p.tables.exec = Jvm.exec) (hZ : Z.Warmed39 s.vm) {own R0 O f d host : String} {index : Nat} (hown : s.vm.findClass own = some m.cls) (w : (Cond.fieldLink own index R0 f d).before a0 Z = true ∨ (Cond.fieldLinkNest own index R0 f d host).before a0 Z = true) (via : Via Z R0 O f d) (eT : T.heap = h) {K : String} {kk' : Nat} {ty : FieldType} {a : Addr} {v old : Value} (F : Fld Z h a O f d old) (Ea : Exa Z h a K) (L : (Cond.lays K O f d).before a0 Z = true ∨ ((Cond.laysFinal K O f d).before a0 Z = true ∧ own = O ∧ meth.name = "<init>")) (wi : (Cond.instantiable K kk').before a0 Z = true) (hty : parseFieldDescriptor d = some ty) (hn : narrow ty v = v) (hf : fits ty v = true) (hd : decode c.code pc = .ok (.putfield index, 3)) (hp : pc + 3 = n) (kk : ∀ (T' : State) (h' : Heap), Stand p l e R s m args below meth c T' (locs ++ [⟨a, slotOf Z O f d⟩]) cells slots → T'.heap = h' → Wr h h' a (slotOf Z O f d) v → Wk p e below E T' (mkF m n Ls sk)) : Wk p e below E T (mkF m pc Ls (v :: .ref a :: sk)) := by
  subst hp
  obtain ⟨T', h', X', e', W', st'⟩ := RoadKit.putF X hx hZ hown w via eT F Ea L wi hty hn hf (g := mkF m pc Ls (v :: .ref a :: sk)) rfl rfl hd
  exact Wk.go st' (kk T' h' X' e' W')
theorem Wk.putFN (X : Stand p l e R s m args below meth c T locs cells slots) (hx : p.tables.exec = Jvm.exec) (hZ : Z.Warmed39 s.vm) {own R0 O f d : String} {index : Nat} (hown : s.vm.findClass own = some m.cls) (w : (Cond.fieldLink own index R0 f d).before a0 Z = true) (via : Via Z R0 O f d) (eT : T.heap = h) {K : String} {kk' : Nat} {ty : FieldType} {a : Addr} {v old : Value} (F : Fld Z h a O f d old) (Ea : Exa Z h a K) (L : (Cond.lays K O f d).before a0 Z = true ∨ ((Cond.laysFinal K O f d).before a0 Z = true ∧ own = O ∧ meth.name = "<init>")) (wi : (Cond.instantiable K kk').before a0 Z = true) (hty : parseFieldDescriptor d = some ty) {v' : Value} (hn : narrow ty v = v') (hf : fits ty v' = true) (hd : decode c.code pc = .ok (.putfield index, 3)) (hp : pc + 3 = n) (kk : ∀ (T' : State) (h' : Heap), Stand p l e R s m args below meth c T' (locs ++ [⟨a, slotOf Z O f d⟩]) cells slots → T'.heap = h' → Wr h h' a (slotOf Z O f d) v' → Wk p e below E T' (mkF m n Ls sk)) : Wk p e below E T (mkF m pc Ls (v :: .ref a :: sk)) := by
  subst hp
  obtain ⟨T', h', X', e', W', st'⟩ := RoadKit.putFN X hx hZ hown w via eT F Ea L wi hty hn hf (g := mkF m pc Ls (v :: .ref a :: sk)) rfl rfl hd
  exact Wk.go st' (kk T' h' X' e' W')
theorem Wk.initO (X : Stand p l e R s m args below meth c T locs cells slots) (hx : p.tables.exec = Jvm.exec) (hZ : Z.Warmed39 s.vm) {own : String} {idx : Nat} (hown : s.vm.findClass own = some m.cls) (w1 : (Cond.methodLink own idx Lib.objectInit).before a0 Z = true) (w2 : (Cond.instanceMethod Lib.objectInit).before a0 Z = true) (w3 : (Cond.code Lib.objectInit ⟨#[0xb1]⟩ 1 none).before a0 Z = true) (eT : T.heap = h) (hsz : Ls.size = c.maxLocals) {a : Addr} (hd : decode c.code pc = .ok (.invokespecial idx, 3)) (hp : pc + 3 = n) (hf : 1 ≤ R.frames) {w : Nat} (hw : (sk.map fun v => v.category).sum ≤ w) (hl : w + 12 ≤ R.locals) (kk : ∀ T' : State, Stand p l e R s m args below meth c T' locs cells slots → T'.heap = h → Wk p e below E T' (mkF m n Ls sk)) : Wk p e below E T (mkF m pc Ls (.ref a :: sk)) := by
  subst hp
  obtain ⟨T', X', e', st'⟩ := RoadKit.initO X hx hZ hown w1 w2 w3 eT (g := mkF m pc Ls (.ref a :: sk)) rfl hsz rfl hd hf (W := w) (by show 2 * 0 + _ ≤ _; omega) hl
  exact Wk.go st' (kk T' X' e')
theorem Wk.newP (X : Stand p l e R s m args below meth c T locs cells slots) (hx : p.tables.exec = Jvm.exec) (hZ : Z.Warmed39 s.vm) {aty : ArrayType} (w : (Cond.arrayClass (newarray.typeOf aty)).before a0 Z = true) (eT : T.heap = h) (hd : decode c.code pc = .ok (.newarray aty, 2)) (hp : pc + 2 = n) {z : Int32} (hz : ¬ z < 0) {cap : Nat} (hcap : z.toNatClampNeg ≤ cap) (hb : cap * 8 ≤ 536870912) (hc : cells + 1 ≤ R.cells) (hl : slots + cap ≤ R.slots)
    (kk : ∀ (T' : State) (h' : Heap) (b : Addr) (cA : ClassId), b = h.size → Stand p l e R s m args below meth c T' locs (cells + 1) (slots + cap) → T'.heap = h' → Ext h h' → Arr Z h' b (newA cA (newarray.typeOf aty) z) (newarray.typeOf aty) → Wk p e below E T' (mkF m n Ls (.ref b :: sk))) : Wk p e below E T (mkF m pc Ls (.int z :: sk)) := by
  subst hp
  obtain ⟨T', h', cA, X', e', E', A', st'⟩ := RoadKit.newP X hx hZ w eT (g := mkF m pc Ls (.int z :: sk)) rfl hd rfl hz hcap hb hc hl
  exact Wk.go st' (kk T' h' _ cA rfl X' e' E' A')
theorem Wk.stC (X : Stand p l e R s m args below meth c T locs cells slots) (hx : p.tables.exec = Jvm.exec) (hZ : Z.Warmed39 s.vm) (eT : T.heap = h) {a : Addr} {cl : Cell} (A : Arr Z h a cl .char) {j : Int32} {x : Int32} (hj : ¬ (j < 0 ∨ cl.slots.size ≤ j.toNatClampNeg)) (hd : decode c.code pc = .ok (.castore, 1)) (hp : pc + 1 = n) (kk : ∀ (T' : State) (h' : Heap), Stand p l e R s m args below meth c T' (locs ++ [⟨a, j.toNatClampNeg⟩]) cells slots → T'.heap = h' → Wr h h' a j.toNatClampNeg (.int (nar .char x)) → Wk p e below E T' (mkF m n Ls sk)) : Wk p e below E T (mkF m pc Ls ((.int x) :: .int j :: .ref a :: sk)) := by
  subst hp
  obtain ⟨T', h', X', e', W', st'⟩ := RoadKit.stC X hx hZ eT A hj (g := mkF m pc Ls ((.int x) :: .int j :: .ref a :: sk)) rfl rfl hd
  exact Wk.go st' (kk T' h' X' e' W')
theorem Wk.back {rc rs : Nat} {Q : Option Value → Heap → List Loc → Prop} {rest : List Value} (call : ∃ (v : Option Value) (vm₁ : Vm) (B : Pt), s.WarmedH vm₁ ∧ Stand p l e R s m args below meth c B.U B.locs B.cells B.slots ∧ (∃ L, Q v B.U.heap L ∧ B.locs = locs ++ L ∧ B.cells = cells + rc ∧ B.slots = slots + rs) ∧ Steps p.tables e below (T.setTop (mkF m pc Ls sk)) (B.U.setTop (mkF m n Ls (v.toList ++ rest)))) (kk : ∀ (v : Option Value) (T' : State) (L : List Loc), Stand p l e R s m args below meth c T' (locs ++ L) (cells + rc) (slots + rs) → Q v T'.heap L → Wk p e below E T' (mkF m n Ls (v.toList ++ rest))) : Wk p e below E T (mkF m pc Ls sk) := by
  obtain ⟨v, _, ⟨T', L', c', s'⟩, -, X', ⟨L, hQ, h1, h2, h3⟩, k⟩ := call
  dsimp only [Pt.U, Pt.locs, Pt.cells, Pt.slots] at X' h1 h2 h3 k hQ
  subst h1 h2 h3
  exact Wk.go (fun _ r => k.trans r) (kk v T' L X' hQ)
theorem Wk.backS {rc rs : Nat} {Q : Option Value → Heap → List Loc → Prop} {rest : List Value} (call : ∃ (v : Option Value) (vm₁ : Vm) (B : Pt), s.WarmedH vm₁ ∧ Stand p l e R s m args below meth c B.U B.locs B.cells B.slots ∧ (∃ L, Q v B.U.heap L ∧ B.locs = locs ++ L ∧ B.cells = cells + rc ∧ B.slots = slots + rs) ∧ ∀ target, Steps p.tables e below (B.U.setTop (mkF m n Ls (v.toList ++ rest))) target → Steps p.tables e below (T.setTop (mkF m pc Ls sk)) target) (kk : ∀ (v : Option Value) (T' : State) (L : List Loc), Stand p l e R s m args below meth c T' (locs ++ L) (cells + rc) (slots + rs) → Q v T'.heap L → Wk p e below E T' (mkF m n Ls (v.toList ++ rest))) : Wk p e below E T (mkF m pc Ls sk) := by
  obtain ⟨v, _, ⟨T', L', c', s'⟩, -, X', ⟨L, hQ, h1, h2, h3⟩, k⟩ := call
  dsimp only [Pt.U, Pt.locs, Pt.cells, Pt.slots] at X' h1 h2 h3 k hQ
  subst h1 h2 h3
  exact Wk.go k (kk v T' L X' hQ)
end Own
end Jvm.RoadKit
namespace Jvm.RoadKit
open Sem ClassFile Op Lib Bundle Jvm.Stand Jvm.Free Jvm.LawKit
section OwnEnter
variable {l : Launch} {Z : State} {h0 : Heap} {Q : Option Value → Heap → List Loc → Prop} {EL : List (String × Nat)}
abbrev rM (a b c d : Nat) : Room := { frames := a, cells := b, slots := c, locals := d }
abbrev MetN (l : Launch) (Z : State) (y : MethodName) (bytes : ByteArray) (maxL : Nat) (ret : Option FieldType) (ws : List Cond) (rm : Room) (A : Array Value) (h0 : Heap) (Q : Option Value → Heap → List Loc → Prop) : Prop := MetFree l y (head1 (Cond.code y bytes maxL ret :: ws) rm) (fun a U => a = A ∧ Z.Warmed39 U.vm ∧ U.heap = h0) (fun _ _ _ _ _ => True) (fun _ U o U' => ∃ v L, o = .returned v ∧ Q v U'.heap L ∧ FrameEnd U o U' L rm.cells rm.slots)
theorem enterN {y : MethodName} {bytes : ByteArray} {maxL : Nat} {ret : Option FieldType} {ws : List Cond} {rm : Room} {A : Array Value} {Ls : Array Slot} (hp : plainFor y = true) (ef : ∀ m, entryFrame m A maxL = mkF m 0 Ls [])
    (k : ∀ (p : Program) (e : Env) (s : State) (m : MethodId) (below : List Frame) (meth : Method) (c : Code) (s₁ : State), BodyLoose p l y (head1 (Cond.code y bytes maxL ret :: ws) rm) bytes maxL ret e s m A below meth c s₁ → Z.Warmed39 s.vm → p.tables.exec = Jvm.exec → (∀ {pc : Nat} {r : Except DecodeError (Instr × Nat)}, decode bytes pc = r → decode c.code pc = r) → meth.locks = false → c.maxLocals = maxL → s.vm.findClass y.cls = some m.cls → meth.name = y.name → Stand p l e rm s m A below meth c s₁ [] 0 0 → s₁.heap = h0 → Wk p e below (EndN s Q rm.cells rm.slots) s₁ (mkF m 0 Ls [])) :
    MetFree l y (head1 (Cond.code y bytes maxL ret :: ws) rm) (fun a U => a = A ∧ Z.Warmed39 U.vm ∧ U.heap = h0) (fun _ _ _ _ _ => True) (fun _ U o U' => ∃ v L, o = .returned v ∧ Q v U'.heap L ∧ FrameEnd U o U' L rm.cells rm.slots) := by
  refine MetFree.of_bodySF hp hisR ?_
  intro p e s m args below meth c s₁ Bd hml0 hP hK
  obtain ⟨rfl, hZ, hh⟩ := hP
  have q := k p e s m below meth c s₁ Bd hZ Bd.exec (fun q => hb Bd.bytes q) (BodyLoose.notSynchronized Bd) hml0 (findClass_of_methodNamed Bd.named) (name_of_methodNamed Bd.named Bd.method).1 (Stand.of_body Bd) (by rw [← hh, Bd.state]; rfl)
  rw [← ef] at q
  exact q
abbrev LsOk (c : Code) (Ls : Array Slot) : Prop := Ls.size = c.maxLocals
theorem lsok {c : Code} {Ls : Array Slot} {n : Nat} (h : c.maxLocals = n) (q : Ls.size = n) : LsOk c Ls := q.trans h.symm
theorem leq0 {a b : Nat} (h : a = b) : 2 * 0 + a ≤ b := by omega
end OwnEnter
end Jvm.RoadKit
@@BLOCK:TracedD.lean.txt@@
/- laws to paste: Road.backV (cut by pick.py; bodies as the Statement names them) -/
namespace Jvm.Pilot.@@N@@
namespace StrChars
open Jvm Sem ClassFile Op Lib Jvm.Stand Jvm.Free.XT Jvm.Free.ALB Jvm.Free.JM Jvm.Free
open Jvm.Lib.Cold (StaticIs)
/-- a char array whose places are chars -/
def Ch (a : Addr) (A : Cell) (U : State) : Prop := Arr .char a A U ∧ Typed .char A
theorem Ch.mv {a : Addr} {A : Cell} {U U' : State} (h : Ch a A U) (hal : U.vm.Alike U'.vm) (hh : U'.heap = U.heap) : Ch a A U' := ⟨h.1.mv hal hh, h.2⟩
theorem Ch.keep {a : Addr} {A : Cell} {U U' : State} (h : Ch a A U) (hal : U.vm.Alike U'.vm) (hk : U'.heap[a]? = some A) : Ch a A U' := ⟨h.1.keep hal hk, h.2⟩
/-- what place i of a char[]'s cell holds -/
def cv (A : Cell) (i : Nat) : Int32 := match A.slots[i]? with | some (.int x) => x | _ => 0
theorem Ch.get {a : Addr} {A : Cell} {U : State} (h : Ch a A U) {i : Nat} (hi : i < A.slots.size) : A.slots[i]? = some (.int (cv A i)) := by
  have e := Array.getElem?_eq_getElem hi
  have f := h.2 i _ e
  unfold cv; rw [e]
  generalize A.slots[i] = v at f
  cases v <;> simp [fits] at f ⊢
/-- the byte that i2b leaves of a char -/
def lo8 (x : Int32) : Int32 := x.toInt8.toInt32
theorem fits_lo8 (y : Int32) : fits .byte (.int (lo8 y)) = true := by
  have h1 := y.toInt8.le_toInt
  have h2 := y.toInt8.toInt_lt
  simp only [lo8, fits, Bool.and_eq_true, decide_eq_true_eq, Int32.le_iff_toInt_le, Int8.toInt_toInt32, show (-128 : Int32).toInt = -128 from by decide, show (127 : Int32).toInt = 127 from by decide]
  omega
/-- A' is A but that each place j of lo .. hi - 1 holds f j -/
def Laid (A A' : Cell) (lo hi : Nat) (f : Nat → Value) : Prop := A'.cls = A.cls ∧ A'.vm = A.vm ∧ A'.slots.size = A.slots.size ∧ ∀ i, A'.slots[i]? = if lo ≤ i ∧ i < hi then some (f i) else A.slots[i]?
theorem Laid.zero (A : Cell) (lo : Nat) (f : Nat → Value) : Laid A A lo (lo + 0) f := ⟨rfl, rfl, rfl, fun i => by rw [if_neg (by omega)]⟩
theorem Laid.step {A Ak : Cell} {lo k : Nat} {f : Nat → Value} {v : Value} (h : Laid A Ak lo k f) (hlo : lo ≤ k) (hk : k < Ak.slots.size) (hv : v = f k) : Laid A (Ak.setSlot k v) lo (k + 1) f := by
  refine ⟨h.1, h.2.1, by simpa [Cell.setSlot] using h.2.2.1, fun i => ?_⟩
  by_cases e : k = i
  · subst e; rw [Cell.slots_setSlot_self v hk, if_pos (by omega), hv]
  · rw [Cell.slots_setSlot_ne v e, h.2.2.2 i]
    by_cases q : lo ≤ i ∧ i < k
    · rw [if_pos q, if_pos (by omega)]
    · rw [if_neg q, if_neg (by omega)]
def U16 : String := "java/lang/StringUTF16"
namespace Cmp5
def yN : MethodName := ⟨"java/lang/StringUTF16", "compress", "([CI[BII)I"⟩
abbrev yB : ByteArray := jdk_52_method_21_code
theorem d0 : decode yB 0 = .ok (.iconst 0, 1) := by decide +kernel
theorem d1 : decode yB 1 = .ok (.istore 5, 2) := by decide +kernel
theorem d3 : decode yB 3 = .ok (.iload 5, 2) := by decide +kernel
theorem d5 : decode yB 5 = .ok (.iload 4, 2) := by decide +kernel
theorem d7 : decode yB 7 = .ok (.if_icmp (.ge) 37, 3) := by decide +kernel
theorem d10 : decode yB 10 = .ok (.aload_n 0, 1) := by decide +kernel
theorem d11 : decode yB 11 = .ok (.iload_n 1, 1) := by decide +kernel
theorem d12 : decode yB 12 = .ok (.caload, 1) := by decide +kernel
theorem d13 : decode yB 13 = .ok (.istore 6, 2) := by decide +kernel
theorem d15 : decode yB 15 = .ok (.iload 6, 2) := by decide +kernel
theorem d17 : decode yB 17 = .ok (.sipush 255, 3) := by decide +kernel
theorem d20 : decode yB 20 = .ok (.if_icmp (.le) 6, 3) := by decide +kernel
theorem d26 : decode yB 26 = .ok (.aload_n 2, 1) := by decide +kernel
theorem d27 : decode yB 27 = .ok (.iload_n 3, 1) := by decide +kernel
theorem d28 : decode yB 28 = .ok (.iload 6, 2) := by decide +kernel
theorem d30 : decode yB 30 = .ok (.i2b, 1) := by decide +kernel
theorem d31 : decode yB 31 = .ok (.bastore, 1) := by decide +kernel
theorem d32 : decode yB 32 = .ok (.iinc 1 1, 3) := by decide +kernel
theorem d35 : decode yB 35 = .ok (.iinc 3 1, 3) := by decide +kernel
theorem d38 : decode yB 38 = .ok (.iinc 5 1, 3) := by decide +kernel
theorem d41 : decode yB 41 = .ok (.goto (-38), 3) := by decide +kernel
theorem d44 : decode yB 44 = .ok (.iload 4, 2) := by decide +kernel
theorem d46 : decode yB 46 = .ok (.ireturn, 1) := by decide +kernel
def site : List Cond := []
def tab : Cond := tabOf yN yB 7 (some .int) site
def P (b : Addr) (A : Cell) (d : Addr) (B : Cell) (o q len : Nat) (args : Array Value) (s : State) : Prop := args = #[.ref b, .int (Int32.ofNat o), .ref d, .int (Int32.ofNat q), .int (Int32.ofNat len)] ∧ Ch b A s ∧ Arr .byte d B s ∧ b ≠ d ∧ o + len ≤ A.slots.size ∧ q + len ≤ B.slots.size ∧ ∀ i, i < len → ¬ 255 < cv A (o + i)
def E (b : Addr) (A : Cell) (d : Addr) (B : Cell) (o q len : Nat) (r : Option Value) (s u : State) : Prop := r = some (.int (Int32.ofNat len)) ∧ ∃ B', Put d B' s u ∧ Laid B B' q (q + len) (fun j => Value.int (lo8 (cv A (o + (j - q)))))
/-- no char of the range above 255: len; the places written hold each char's low byte -/
theorem law (l : Launch) (b : Addr) (A : Cell) (d : Addr) (B : Cell) (o q len : Nat) : Law l yN 5 5 0 0 yB 7 (some .int) site (P b A d B o q len) (E b A d B o q len) (copyLocs d q len) 0 0 := by
  refine Law.of_walk (plainFor_of_name (by decide +kernel)) (by decide +kernel) (by decide +kernel) (by decide) (fun _ _ h => by rw [h.1]; rfl) (fun _ U U' hal hh h => ⟨h.1, h.2.1.mv hal hh, h.2.2.1.mv hal hh, h.2.2.2⟩) (fun r U U' V V' h1 hal h2 h => ⟨h.1, h.2.elim fun B' q => ⟨B', q.1.mv h1 h2, q.2⟩⟩) ?_
  intro p e s m args below meth c s₁ X0 hexec hbytes hml hret hlk hnm hown hh0 W hP
  obtain ⟨rfl, hA, hB, hne, l1, l2, hp⟩ := hP
  have c1 : Steps p.tables e below (s₁.setTop (entryFrame m #[.ref b, .int (Int32.ofNat o), .ref d, .int (Int32.ofNat q), .int (Int32.ofNat len)] 7)) (s₁.setTop (mkF m 0 #[.val (.ref b), .val (.int (Int32.ofNat o)), .val (.ref d), .val (.int (Int32.ofNat q)), .val (.int (Int32.ofNat len)), .unset, .unset] [])) := entry rfl
  have hA0 := hA.1.mv X0.warmed.alike hh0
  have hB0 := hB.mv X0.warmed.alike hh0
  have a31 := hA.1.2.2.2
  have c2 : Steps p.tables e below (s₁.setTop (entryFrame m #[.ref b, .int (Int32.ofNat o), .ref d, .int (Int32.ofNat q), .int (Int32.ofNat len)] 7)) (s₁.setTop (mkF m 3 #[.val (.ref b), .val (.int (Int32.ofNat o)), .val (.ref d), .val (.int (Int32.ofNat q)), .val (.int (Int32.ofNat len)), .val (.int 0), .unset] [])) := c1.trans (by
    refine iconstV X0.here hexec rfl 0 (hb hbytes d0) (by decide) ?_
    refine XS.istore X0.here hexec rfl (hb hbytes d1) rfl rfl ?_
    exact Steps.refl _)
  have loop : ∀ (r i : Nat), i + r = len → ∀ (z : Slot), (z = .unset ∨ ∃ w, z = .val w ∧ w.category = 1) → ∀ (Tl : State) (Bk : Cell), Stand p l e { frames := 0, locals := 0, cells := 0, slots := 0 } s m #[.ref b, .int (Int32.ofNat o), .ref d, .int (Int32.ofNat q), .int (Int32.ofNat len)] below meth c Tl ([] ++ copyLocs d q i) 0 0 → Put d Bk s₁ Tl → Laid B Bk q (q + i) (fun j => Value.int (lo8 (cv A (o + (j - q))))) →
      Steps p.tables e below (s₁.setTop (entryFrame m #[.ref b, .int (Int32.ofNat o), .ref d, .int (Int32.ofNat q), .int (Int32.ofNat len)] 7)) (Tl.setTop (mkF m 3 #[.val (.ref b), .val (.int (Int32.ofNat (o + i))), .val (.ref d), .val (.int (Int32.ofNat (q + i))), .val (.int (Int32.ofNat len)), .val (.int (Int32.ofNat i)), z] [])) → ∃ (T' : State) (B' : Cell) (z' : Slot), Stand p l e { frames := 0, locals := 0, cells := 0, slots := 0 } s m #[.ref b, .int (Int32.ofNat o), .ref d, .int (Int32.ofNat q), .int (Int32.ofNat len)] below meth c T' ([] ++ copyLocs d q len) 0 0 ∧ Put d B' s₁ T' ∧ Laid B B' q (q + len) (fun j => Value.int (lo8 (cv A (o + (j - q))))) ∧
      Steps p.tables e below (s₁.setTop (entryFrame m #[.ref b, .int (Int32.ofNat o), .ref d, .int (Int32.ofNat q), .int (Int32.ofNat len)] 7)) (T'.setTop (mkF m 3 #[.val (.ref b), .val (.int (Int32.ofNat (o + len))), .val (.ref d), .val (.int (Int32.ofNat (q + len))), .val (.int (Int32.ofNat len)), .val (.int (Int32.ofNat len)), z'] [])) := by
    intro r
    induction r with
    | zero =>
      intro i hi z hz Tl Bk Xl pl fl cl
      have hil : i = len := by omega
      rw [hil] at Xl fl cl
      exact ⟨Tl, Bk, z, Xl, pl, fl, cl⟩
    | succ r ih =>
      intro i hi z hz Tl Bk Xl pl fl cl
      have all := X0.warmed.alike.symm.trans Xl.warmed.alike
      have hAl := hA0.keep all (pl.other hne hA0.1)
      have hBk := hB0.like all pl.1 fl.1 fl.2.1 fl.2.2.1
      have hlt : q + i < Bk.slots.size := by rw [fl.2.2.1]; omega
      have c3 : Steps p.tables e below (s₁.setTop (entryFrame m #[.ref b, .int (Int32.ofNat o), .ref d, .int (Int32.ofNat q), .int (Int32.ofNat len)] 7)) (Tl.setTop (mkF m 12 #[.val (.ref b), .val (.int (Int32.ofNat (o + i))), .val (.ref d), .val (.int (Int32.ofNat (q + i))), .val (.int (Int32.ofNat len)), .val (.int (Int32.ofNat i)), z] [.int (Int32.ofNat (o + i)), .ref b])) := cl.trans (by
        refine XS.iload Xl.here hexec rfl (hb hbytes d3) rfl ?_
        refine XS.iload Xl.here hexec rfl (hb hbytes d5) rfl ?_
        refine XS.icmpNo Xl.here hexec rfl (hb hbytes d7) rfl (ii_ge_f (lt32 (by omega) (by omega))) ?_
        refine XS.aloadN Xl.here hexec rfl (hb hbytes d10) rfl rfl ?_
        refine XS.iloadN Xl.here hexec rfl (hb hbytes d11) rfl ?_
        exact Steps.refl _)
      have c4 : Steps p.tables e below (s₁.setTop (entryFrame m #[.ref b, .int (Int32.ofNat o), .ref d, .int (Int32.ofNat q), .int (Int32.ofNat len)] 7)) (Tl.setTop (mkF m 13 #[.val (.ref b), .val (.int (Int32.ofNat (o + i))), .val (.ref d), .val (.int (Int32.ofNat (q + i))), .val (.int (Int32.ofNat len)), .val (.int (Int32.ofNat i)), z] [.int (cv A (o + i))])) := c3.trans (by
        refine Xl.aget hexec hAl rfl (hA.get (i := o + i) (by omega)) rfl rfl (hb hbytes d12) ?_
        exact Steps.refl _)
      have c5 : Steps p.tables e below (s₁.setTop (entryFrame m #[.ref b, .int (Int32.ofNat o), .ref d, .int (Int32.ofNat q), .int (Int32.ofNat len)] 7)) (Tl.setTop (mkF m 15 #[.val (.ref b), .val (.int (Int32.ofNat (o + i))), .val (.ref d), .val (.int (Int32.ofNat (q + i))), .val (.int (Int32.ofNat len)), .val (.int (Int32.ofNat i)), .val (.int (cv A (o + i)))] [])) := c4.trans (by
        refine XS.istoreS Xl.here hexec rfl (hb hbytes d13) rfl rfl hz ?_
        exact Steps.refl _)
      have c6 : Steps p.tables e below (s₁.setTop (entryFrame m #[.ref b, .int (Int32.ofNat o), .ref d, .int (Int32.ofNat q), .int (Int32.ofNat len)] 7)) (Tl.setTop (mkF m 31 #[.val (.ref b), .val (.int (Int32.ofNat (o + i))), .val (.ref d), .val (.int (Int32.ofNat (q + i))), .val (.int (Int32.ofNat len)), .val (.int (Int32.ofNat i)), .val (.int (cv A (o + i)))] [.int (lo8 (cv A (o + i))), .int (Int32.ofNat (q + i)), .ref d])) := c5.trans (by
        refine XS.iload Xl.here hexec rfl (hb hbytes d15) rfl ?_
        refine sipushV Xl.here hexec rfl 255 (hb hbytes d17) (by decide) ?_
        refine XS.icmpYes Xl.here hexec rfl (pc0 := 20) rfl (hb hbytes d20) rfl (ii_le_t (hp i (by omega))) (by decide) rfl ?_
        refine XS.aloadN Xl.here hexec rfl (hb hbytes d26) rfl rfl ?_
        refine XS.iloadN Xl.here hexec rfl (hb hbytes d27) rfl ?_
        refine XS.iload Xl.here hexec rfl (hb hbytes d28) rfl ?_
        refine i2b Xl.here hexec rfl (hb hbytes d30) rfl ?_
        exact Steps.refl _)
      obtain ⟨T7, X7, p7, st7⟩ := Xl.aput hexec hBk rfl hlt rfl (fits_lo8 (cv A (o + i))) (g := (mkF m 31 #[.val (.ref b), .val (.int (Int32.ofNat (o + i))), .val (.ref d), .val (.int (Int32.ofNat (q + i))), .val (.int (Int32.ofNat len)), .val (.int (Int32.ofNat i)), .val (.int (cv A (o + i)))] [.int (lo8 (cv A (o + i))), .int (Int32.ofNat (q + i)), .ref d])) rfl (rest := []) rfl (hb hbytes d31)
      have c8 : Steps p.tables e below (s₁.setTop (entryFrame m #[.ref b, .int (Int32.ofNat o), .ref d, .int (Int32.ofNat q), .int (Int32.ofNat len)] 7)) (T7.setTop (mkF m 32 #[.val (.ref b), .val (.int (Int32.ofNat (o + i))), .val (.ref d), .val (.int (Int32.ofNat (q + i))), .val (.int (Int32.ofNat len)), .val (.int (Int32.ofNat i)), .val (.int (cv A (o + i)))] [])) := c6.trans (st7 _ (Steps.refl _))
      have c9 : Steps p.tables e below (s₁.setTop (entryFrame m #[.ref b, .int (Int32.ofNat o), .ref d, .int (Int32.ofNat q), .int (Int32.ofNat len)] 7)) (T7.setTop (mkF m 3 #[.val (.ref b), .val (.int (Int32.ofNat (o + i) + 1)), .val (.ref d), .val (.int (Int32.ofNat (q + i) + 1)), .val (.int (Int32.ofNat len)), .val (.int (Int32.ofNat i + 1)), .val (.int (cv A (o + i)))] [])) := c8.trans (by
        refine iincV X7.here hexec rfl 1 (hb hbytes d32) (by decide) rfl rfl ?_
        refine iincV X7.here hexec rfl 1 (hb hbytes d35) (by decide) rfl rfl ?_
        refine iincV X7.here hexec rfl 1 (hb hbytes d38) (by decide) rfl rfl ?_
        refine XS.goto X7.here hexec rfl (pc0 := 41) rfl (hb hbytes d41) (by decide) rfl ?_
        exact Steps.refl _)
      have c10 : Steps p.tables e below (s₁.setTop (entryFrame m #[.ref b, .int (Int32.ofNat o), .ref d, .int (Int32.ofNat q), .int (Int32.ofNat len)] 7)) (T7.setTop (mkF m 3 #[.val (.ref b), .val (.int (Int32.ofNat (o + (i + 1)))), .val (.ref d), .val (.int (Int32.ofNat (q + (i + 1)))), .val (.int (Int32.ofNat len)), .val (.int (Int32.ofNat (i + 1))), .val (.int (cv A (o + i)))] [])) := by
        have := c9
        rw [succ32, succ32, succ32] at this
        exact this
      exact ih (i + 1) (by omega) _ (Or.inr ⟨_, rfl, rfl⟩) T7 _ (by rw [copyLocs_step, ← List.append_assoc]; exact X7) (pl.trans p7) (fl.step (by omega) hlt (by simp)) c10
  obtain ⟨T9, B9, z9, X9, p9, f9, g9⟩ := loop len 0 (by omega) .unset (Or.inl rfl) s₁ B (by simpa [copyLocs] using X0) ⟨hB0.1, fun _ _ => rfl, rfl⟩ (Laid.zero _ _ _) c2
  have c11 : Steps p.tables e below (s₁.setTop (entryFrame m #[.ref b, .int (Int32.ofNat o), .ref d, .int (Int32.ofNat q), .int (Int32.ofNat len)] 7)) (T9.setTop (mkF m 46 #[.val (.ref b), .val (.int (Int32.ofNat (o + len))), .val (.ref d), .val (.int (Int32.ofNat (q + len))), .val (.int (Int32.ofNat len)), .val (.int (Int32.ofNat len)), z9] [.int (Int32.ofNat len)])) := g9.trans (by
    refine XS.iload X9.here hexec rfl (hb hbytes d3) rfl ?_
    refine XS.iload X9.here hexec rfl (hb hbytes d5) rfl ?_
    refine XS.icmpYes X9.here hexec rfl (pc0 := 7) rfl (hb hbytes d7) rfl (ii_ge_t (nlt32 (by omega) (Nat.le_refl _))) (by decide) rfl ?_
    refine XS.iload X9.here hexec rfl (hb hbytes d44) rfl ?_
    exact Steps.refl _)
  exact ⟨T9, some (.int (Int32.ofNat len)), _, _, _, X9, by simp, rfl, rfl, (fun h => by cases h), ⟨rfl, B9, p9.from hh0, f9⟩, fun fs hl => c11.trans (X9.ireturnOut hexec hret rfl (Or.inl rfl) (hb hbytes d46) hl)⟩
end Cmp5
namespace Cmp3
def yN : MethodName := ⟨"java/lang/StringUTF16", "compress", "([CII)[B"⟩
abbrev yB : ByteArray := jdk_52_method_16_code
theorem d0 : decode yB 0 = .ok (.iload_n 2, 1) := by decide +kernel
theorem d1 : decode yB 1 = .ok (.newarray .byte, 2) := by decide +kernel
theorem d3 : decode yB 3 = .ok (.astore_n 3, 1) := by decide +kernel
theorem d4 : decode yB 4 = .ok (.aload_n 0, 1) := by decide +kernel
theorem d5 : decode yB 5 = .ok (.iload_n 1, 1) := by decide +kernel
theorem d6 : decode yB 6 = .ok (.aload_n 3, 1) := by decide +kernel
theorem d7 : decode yB 7 = .ok (.iconst 0, 1) := by decide +kernel
theorem d8 : decode yB 8 = .ok (.iload_n 2, 1) := by decide +kernel
theorem d9 : decode yB 9 = .ok (.invokestatic 115, 3) := by decide +kernel
theorem d12 : decode yB 12 = .ok (.istore 4, 2) := by decide +kernel
theorem d14 : decode yB 14 = .ok (.iload 4, 2) := by decide +kernel
theorem d16 : decode yB 16 = .ok (.iload_n 2, 1) := by decide +kernel
theorem d17 : decode yB 17 = .ok (.if_icmp (.eq) 40, 3) := by decide +kernel
theorem d57 : decode yB 57 = .ok (.aload_n 3, 1) := by decide +kernel
theorem d58 : decode yB 58 = .ok (.areturn, 1) := by decide +kernel
def site : List Cond := [.arrayClass .byte, Cmp5.tab] ++ staticW U16 115 Cmp5.yN
def tab : Cond := tabOf yN yB 6 (some (.array .byte)) site
def P (b : Addr) (A : Cell) (o len : Nat) (args : Array Value) (s : State) : Prop := args = #[.ref b, .int (Int32.ofNat o), .int (Int32.ofNat len)] ∧ Ch b A s ∧ o + len ≤ A.slots.size ∧ len ≤ 536870912 ∧ ∀ i, i < len → ¬ 255 < cv A (o + i)
def E (b : Addr) (A : Cell) (o len : Nat) (r : Option Value) (s u : State) : Prop := NewArr .byte "[B" len (fun j => .int (lo8 (cv A (o + j)))) r s u ∧ u.heap.size = s.heap.size + 1
/-- no char of the range above 255: a new byte[] of their low bytes -/
theorem law (l : Launch) (b : Addr) (A : Cell) (o len : Nat) : Law l yN 3 3 1 18 yB 6 (some (.array .byte)) site (P b A o len) (E b A o len) [] 1 len := by
  refine Law.of_walk (plainFor_of_name (by decide +kernel)) (by decide +kernel) (by decide +kernel) (by decide) (fun _ _ h => by rw [h.1]; rfl) (fun _ U U' hal hh h => ⟨h.1, h.2.1.mv hal hh, h.2.2⟩) (fun r U U' V V' h1 hal h2 h => ⟨NewArr.mv r U U' V V' h1 hal h2 h.1, by rw [h1, h2]; exact h.2⟩) ?_
  intro p e s m args below meth c s₁ X0 hexec hbytes hml hret hlk hnm hown hh0 W hP
  obtain ⟨rfl, hA, l1, l2, hp⟩ := hP
  have a31 := hA.1.2.2.2
  have c1 : Steps p.tables e below (s₁.setTop (entryFrame m #[.ref b, .int (Int32.ofNat o), .int (Int32.ofNat len)] 6)) (s₁.setTop (mkF m 0 #[.val (.ref b), .val (.int (Int32.ofNat o)), .val (.int (Int32.ofNat len)), .unset, .unset, .unset] [])) := entry rfl
  have c2 : Steps p.tables e below (s₁.setTop (entryFrame m #[.ref b, .int (Int32.ofNat o), .int (Int32.ofNat len)] 6)) (s₁.setTop (mkF m 1 #[.val (.ref b), .val (.int (Int32.ofNat o)), .val (.int (Int32.ofNat len)), .unset, .unset, .unset] [.int (Int32.ofNat len)])) := c1.trans (by
    refine XS.iloadN X0.here hexec rfl (hb hbytes d0) rfl ?_
    exact Steps.refl _)
  obtain ⟨T3, B3, X3, ba3, bs3, bv3, bh3, bf3, st3⟩ := X0.anew hexec (atype := .byte) (wk W (.arrayClass .byte)) rfl (by show len * 1 ≤ _; omega) (by omega) (g := (mkF m 1 #[.val (.ref b), .val (.int (Int32.ofNat o)), .val (.int (Int32.ofNat len)), .unset, .unset, .unset] [.int (Int32.ofNat len)])) rfl (hb hbytes d1) (rest := []) rfl (Nat.le_refl _) (by show 0 + len ≤ len; omega)
  rw [hh0] at ba3 st3
  have kp3 : XT.Kept s T3 := (XT.Kept.of_eq hh0).push bh3
  have hA3 := hA.keep X3.warmed.alike (kp3 _ _ hA.1.1)
  have hne : b ≠ s.heap.size := hA.1.ne
  have c4 : Steps p.tables e below (s₁.setTop (entryFrame m #[.ref b, .int (Int32.ofNat o), .int (Int32.ofNat len)] 6)) (T3.setTop (mkF m 3 #[.val (.ref b), .val (.int (Int32.ofNat o)), .val (.int (Int32.ofNat len)), .unset, .unset, .unset] [.ref s.heap.size])) := c2.trans (st3 _ (Steps.refl _))
  have c5 : Steps p.tables e below (s₁.setTop (entryFrame m #[.ref b, .int (Int32.ofNat o), .int (Int32.ofNat len)] 6)) (T3.setTop (mkF m 9 #[.val (.ref b), .val (.int (Int32.ofNat o)), .val (.int (Int32.ofNat len)), .val (.ref s.heap.size), .unset, .unset] [.int (Int32.ofNat len), .int 0, .ref s.heap.size, .int (Int32.ofNat o), .ref b])) := c4.trans (by
    refine XS.astoreN X3.here hexec rfl (hb hbytes d3) rfl rfl rfl ?_
    refine XS.aloadN X3.here hexec rfl (hb hbytes d4) rfl rfl ?_
    refine XS.iloadN X3.here hexec rfl (hb hbytes d5) rfl ?_
    refine XS.aloadN X3.here hexec rfl (hb hbytes d6) rfl rfl ?_
    refine iconstV X3.here hexec rfl 0 (hb hbytes d7) (by decide) ?_
    refine XS.iloadN X3.here hexec rfl (hb hbytes d8) rfl ?_
    exact Steps.refl _)
  obtain ⟨v6, T6, X6, E6, g6⟩ := X3.callS hexec (Cmp5.law l b A s.heap.size B3 o 0 len) hown (wks W (staticW U16 115 Cmp5.yN)) (wk W Cmp5.tab) (W := 0) (Nat.le_of_ble_eq_true rfl) (Nat.le_of_ble_eq_true rfl) (Nat.le_refl _) (by show 0 + len + 0 ≤ len; omega) (g := (mkF m 9 #[.val (.ref b), .val (.int (Int32.ofNat o)), .val (.int (Int32.ofNat len)), .val (.ref s.heap.size), .unset, .unset] [.int (Int32.ofNat len), .int (Int32.ofNat 0), .ref s.heap.size, .int (Int32.ofNat o), .ref b])) rfl (by rw [hml]; rfl) c5 (argsL := [.ref b, .int (Int32.ofNat o), .ref s.heap.size, .int (Int32.ofNat 0), .int (Int32.ofNat len)]) (rest := []) rfl rfl (by show 2 * 0 + 0 ≤ _; decide) (hb hbytes d9) (⟨rfl, hA3, ba3, hne, l1, by rw [bs3]; simp, hp⟩)
  obtain ⟨rfl, B6, p6, f6⟩ := E6
  have c7 : Steps p.tables e below (s₁.setTop (entryFrame m #[.ref b, .int (Int32.ofNat o), .int (Int32.ofNat len)] 6)) (T6.setTop (mkF m 12 #[.val (.ref b), .val (.int (Int32.ofNat o)), .val (.int (Int32.ofNat len)), .val (.ref s.heap.size), .unset, .unset] [.int (Int32.ofNat len)])) := g6
  have c8 : Steps p.tables e below (s₁.setTop (entryFrame m #[.ref b, .int (Int32.ofNat o), .int (Int32.ofNat len)] 6)) (T6.setTop (mkF m 58 #[.val (.ref b), .val (.int (Int32.ofNat o)), .val (.int (Int32.ofNat len)), .val (.ref s.heap.size), .val (.int (Int32.ofNat len)), .unset] [.ref s.heap.size])) := c7.trans (by
    refine XS.istore X6.here hexec rfl (hb hbytes d12) rfl rfl ?_
    refine XS.iload X6.here hexec rfl (hb hbytes d14) rfl ?_
    refine XS.iloadN X6.here hexec rfl (hb hbytes d16) rfl ?_
    refine XS.icmpYes X6.here hexec rfl (pc0 := 17) rfl (hb hbytes d17) rfl (ii_eq_t rfl) (by decide) rfl ?_
    refine XS.aloadN X6.here hexec rfl (hb hbytes d57) rfl rfl ?_
    exact Steps.refl _)
  have X8 := X6.wide (L' := []) (cells' := 1) (slots' := len) (fun x hx hlt => by
    simp only [List.nil_append, copyLocs, List.mem_map, List.mem_range] at hx
    obtain ⟨i, -, rfl⟩ := hx
    exact absurd hlt (Nat.lt_irrefl _)) (Nat.le_refl _) (by omega)
  exact ⟨T6, some (.ref s.heap.size), _, _, _, X8, rfl, rfl, rfl, (fun h => by cases h), ⟨⟨rfl, B6, ba3.like (X3.warmed.alike.symm.trans X6.warmed.alike) p6.1 f6.1 f6.2.1 f6.2.2.1, f6.2.1.trans bv3, by rw [X6.warmed.alike.findClass, f6.1]; exact bf3, by rw [f6.2.2.1, bs3]; simp, fun j hj => by rw [f6.2.2.2 j, if_pos (by omega)]; rfl, kp3.put p6 (Nat.le_refl _)⟩, by rw [p6.2.2, bh3, hh0]; simp⟩, fun fs hl => c8.trans (X8.areturnOut hexec rfl hret rfl (hb hbytes d58) hl)⟩
end Cmp3
namespace CodL
def yN : MethodName := ⟨"java/lang/StringUTF16", "coderFromArrayLen", "([BI)B"⟩
abbrev yB : ByteArray := jdk_52_method_15_code
theorem d0 : decode yB 0 = .ok (.iload_n 1, 1) := by decide +kernel
theorem d1 : decode yB 1 = .ok (.aload_n 0, 1) := by decide +kernel
theorem d2 : decode yB 2 = .ok (.arraylength, 1) := by decide +kernel
theorem d3 : decode yB 3 = .ok (.isub, 1) := by decide +kernel
theorem d4 : decode yB 4 = .ok (.bipush 31, 2) := by decide +kernel
theorem d6 : decode yB 6 = .ok (.iushr, 1) := by decide +kernel
theorem d7 : decode yB 7 = .ok (.i2b, 1) := by decide +kernel
theorem d8 : decode yB 8 = .ok (.ireturn, 1) := by decide +kernel
def site : List Cond := []
def tab : Cond := tabOf yN yB 2 (some .byte) site
def P (d : Addr) (B : Cell) (args : Array Value) (s : State) : Prop := args = #[.ref d, .int (Int32.ofNat B.slots.size)] ∧ Arr .byte d B s
def E (r : Option Value) (s u : State) : Prop := XT.PureE (some (.int 0)) r s u
/-- an array as long as the number of chars: LATIN1 -/
theorem law (l : Launch) (d : Addr) (B : Cell) : Law l yN 2 2 0 0 yB 2 (some .byte) site (P d B) E [] 0 0 := by
  refine Law.of_walk (plainFor_of_name (by decide +kernel)) (by decide +kernel) (by decide +kernel) (by decide) (fun _ _ h => by rw [h.1]; rfl) (fun _ U U' hal hh h => ⟨h.1, h.2.mv hal hh⟩) (fun r U U' V V' h1 hal h2 h => XT.PureE.mv r U U' V V' h1 hal h2 h) ?_
  intro p e s m args below meth c s₁ X0 hexec hbytes hml hret hlk hnm hown hh0 W hP
  obtain ⟨rfl, hB⟩ := hP
  have hB0 := hB.mv X0.warmed.alike hh0
  have c1 : Steps p.tables e below (s₁.setTop (entryFrame m #[.ref d, .int (Int32.ofNat B.slots.size)] 2)) (s₁.setTop (mkF m 0 #[.val (.ref d), .val (.int (Int32.ofNat B.slots.size))] [])) := entry rfl
  have c2 : Steps p.tables e below (s₁.setTop (entryFrame m #[.ref d, .int (Int32.ofNat B.slots.size)] 2)) (s₁.setTop (mkF m 2 #[.val (.ref d), .val (.int (Int32.ofNat B.slots.size))] [.ref d, .int (Int32.ofNat B.slots.size)])) := c1.trans (by
    refine XS.iloadN X0.here hexec rfl (hb hbytes d0) rfl ?_
    refine XS.aloadN X0.here hexec rfl (hb hbytes d1) rfl rfl ?_
    exact Steps.refl _)
  have c3 : Steps p.tables e below (s₁.setTop (entryFrame m #[.ref d, .int (Int32.ofNat B.slots.size)] 2)) (s₁.setTop (mkF m 8 #[.val (.ref d), .val (.int (Int32.ofNat B.slots.size))] [.int (lo8 (ushr (Int32.ofNat B.slots.size - Int32.ofNat B.slots.size) 31))])) := c2.trans (by
    refine X0.alen hexec hB0 rfl rfl (hb hbytes d2) ?_
    refine XS.isub X0.here hexec rfl (hb hbytes d3) rfl ?_
    refine bipushV X0.here hexec rfl 31 (hb hbytes d4) (by decide) ?_
    refine iushr X0.here hexec rfl (hb hbytes d6) rfl ?_
    refine i2b X0.here hexec rfl (hb hbytes d7) rfl ?_
    exact Steps.refl _)
  have e0 : lo8 (ushr (Int32.ofNat B.slots.size - Int32.ofNat B.slots.size) 31) = 0 := by rw [Int32.sub_self]; decide
  rw [e0] at c3
  exact ⟨s₁, some (.int 0), _, _, _, X0, rfl, rfl, rfl, (fun h => by cases h), ⟨rfl, hh0⟩, fun fs hl => c3.trans (X0.ireturnOut hexec hret rfl (Or.inr (Or.inr (Or.inl rfl))) (hb hbytes d8) hl)⟩
end CodL
/-- the String at a is Latin-1 over a new byte[] (the heap's one new cell): the low bytes of the len chars of A from o on; every cell but a is kept -/
def Got (a : Addr) (D : Cell) (fV fC : Field) (A : Cell) (o len : Nat) (r : Option Value) (s u : State) : Prop := r = none ∧ ∃ D' V : Cell, Blank "java/lang/String" a D' u ∧ Same D D' [fV.slot, fC.slot] ∧ D'.slots[fV.slot]? = some (.ref s.heap.size) ∧ D'.slots[fC.slot]? = some (.int 0) ∧ Arr .byte s.heap.size V u ∧ V.vm = .none ∧ u.vm.findClass "[B" = some V.cls ∧ V.slots.size = len ∧ (∀ j, j < len → V.slots[j]? = some (.int (lo8 (cv A (o + j))))) ∧ (∀ (y : Addr) (c : Cell), y ≠ a → s.heap[y]? = some c → u.heap[y]? = some c) ∧ u.heap.size = s.heap.size + 1
theorem Got.mv {a : Addr} {D A : Cell} {fV fC : Field} {o len : Nat} : ∀ r (U U' V V' : State), U'.heap = U.heap → V.vm.Alike V'.vm → V'.heap = V.heap → Got a D fV fC A o len r U V → Got a D fV fC A o len r U' V' :=
  fun r U U' V V' h1 hal h2 ⟨e0, D', X, a1, a2, a3, a4, a5, a6, a7, a8, a9, a10, a11⟩ => ⟨e0, D', X, a1.mv hal h2, a2, by rw [h1]; exact a3, a4, by rw [h1]; exact a5.mv hal h2, a6, by rw [hal.findClass]; exact a7, a8, a9, by rw [h1, h2]; exact a10, by rw [h1, h2]; exact a11⟩
namespace New4
def yN : MethodName := ⟨"java/lang/String", "<init>", "([CIILjava/lang/Void;)V"⟩
abbrev yB : ByteArray := jdk_42_method_149_code
theorem d0 : decode yB 0 = .ok (.aload_n 0, 1) := by decide +kernel
theorem d1 : decode yB 1 = .ok (.invokespecial 1, 3) := by decide +kernel
theorem d4 : decode yB 4 = .ok (.iload_n 3, 1) := by decide +kernel
theorem d5 : decode yB 5 = .ok (.ifCond (.ne) 22, 3) := by decide +kernel
theorem d27 : decode yB 27 = .ok (.getstatic 38, 3) := by decide +kernel
theorem d30 : decode yB 30 = .ok (.ifCond (.eq) 28, 3) := by decide +kernel
theorem d33 : decode yB 33 = .ok (.aload_n 1, 1) := by decide +kernel
theorem d34 : decode yB 34 = .ok (.iload_n 2, 1) := by decide +kernel
theorem d35 : decode yB 35 = .ok (.iload_n 3, 1) := by decide +kernel
theorem d36 : decode yB 36 = .ok (.invokestatic 177, 3) := by decide +kernel
theorem d39 : decode yB 39 = .ok (.astore 5, 2) := by decide +kernel
theorem d41 : decode yB 41 = .ok (.aload_n 0, 1) := by decide +kernel
theorem d42 : decode yB 42 = .ok (.aload 5, 2) := by decide +kernel
theorem d44 : decode yB 44 = .ok (.iload_n 3, 1) := by decide +kernel
theorem d45 : decode yB 45 = .ok (.invokestatic 47, 3) := by decide +kernel
theorem d48 : decode yB 48 = .ok (.putfield 15, 3) := by decide +kernel
theorem d51 : decode yB 51 = .ok (.aload_n 0, 1) := by decide +kernel
theorem d52 : decode yB 52 = .ok (.aload 5, 2) := by decide +kernel
theorem d54 : decode yB 54 = .ok (.putfield 9, 3) := by decide +kernel
theorem d57 : decode yB 57 = .ok (.return_, 1) := by decide +kernel
def site : List Cond := [.fieldLink "java/lang/String" 38 "java/lang/String" "COMPACT_STRINGS" "Z", Cmp3.tab, CodL.tab, .laysFinal "java/lang/String" "java/lang/String" "value" "[B", .fieldLink "java/lang/String" 9 "java/lang/String" "value" "[B", .laysFinal "java/lang/String" "java/lang/String" "coder" "B", .fieldLink "java/lang/String" 15 "java/lang/String" "coder" "B"] ++ objW "java/lang/String" 1 ++ staticW "java/lang/String" 177 Cmp3.yN ++ staticW "java/lang/String" 47 CodL.yN
def tab : Cond := tabOf yN yB 6 none site
def P (a : Addr) (D : Cell) (fV fC : Field) (b : Addr) (A : Cell) (z : Int32) (o len : Nat) (args : Array Value) (s : State) : Prop := args = #[.ref a, .ref b, .int (Int32.ofNat o), .int (Int32.ofNat len), .null] ∧ Blank "java/lang/String" a D s ∧ Found "java/lang/String" "value" "[B" fV s ∧ Found "java/lang/String" "coder" "B" fC s ∧ Ch b A s ∧ StaticIs s "java/lang/String" "COMPACT_STRINGS" "Z" (.int z) ∧ ¬ z = 0 ∧ 0 < len ∧ o + len ≤ A.slots.size ∧ len ≤ 536870912 ∧ ∀ i, i < len → ¬ 255 < cv A (o + i)
def E (a : Addr) (D : Cell) (fV fC : Field) (A : Cell) (o len : Nat) (r : Option Value) (s u : State) : Prop := Got a D fV fC A o len r s u
/-- len > 0, no char of the range above 255: a Latin-1 String of their low bytes -/
theorem law (l : Launch) (a : Addr) (D : Cell) (fV fC : Field) (b : Addr) (A : Cell) (z : Int32) (o len : Nat) : Law l yN 5 4 2 35 yB 6 none site (P a D fV fC b A z o len) (E a D fV fC A o len) [⟨a, fC.slot⟩, ⟨a, fV.slot⟩] 1 len := by
  refine Law.of_walk (plainFor_of_name (by decide +kernel)) (by decide +kernel) (by decide +kernel) (by decide) (fun _ _ h => by rw [h.1]; rfl) (fun _ U U' hal hh h => ⟨h.1, h.2.1.mv hal hh, h.2.2.1.al hal, h.2.2.2.1.al hal, h.2.2.2.2.1.mv hal hh, h.2.2.2.2.2.1.there hal hh, h.2.2.2.2.2.2⟩) (fun r U U' V V' h1 hal h2 h => Got.mv r U U' V V' h1 hal h2 h) ?_
  intro p e s m args below meth c s₁ X0 hexec hbytes hml hret hlk hnm hown hh0 W hP
  obtain ⟨rfl, hB, f1, f2, hA, s1, hz, l0, l1, l2, hp⟩ := hP
  have a31 := hA.1.2.2.2
  have c1 : Steps p.tables e below (s₁.setTop (entryFrame m #[.ref a, .ref b, .int (Int32.ofNat o), .int (Int32.ofNat len), .null] 6)) (s₁.setTop (mkF m 0 #[.val (.ref a), .val (.ref b), .val (.int (Int32.ofNat o)), .val (.int (Int32.ofNat len)), .val .null, .unset] [])) := entry rfl
  have c2 : Steps p.tables e below (s₁.setTop (entryFrame m #[.ref a, .ref b, .int (Int32.ofNat o), .int (Int32.ofNat len), .null] 6)) (s₁.setTop (mkF m 1 #[.val (.ref a), .val (.ref b), .val (.int (Int32.ofNat o)), .val (.int (Int32.ofNat len)), .val .null, .unset] [.ref a])) := c1.trans (by
    refine XS.aloadN X0.here hexec rfl (hb hbytes d0) rfl rfl ?_
    exact Steps.refl _)
  obtain ⟨T3, X3, q3, st3⟩ := X0.oinit hexec hown (wks W (objW "java/lang/String" 1)) (g := (mkF m 1 #[.val (.ref a), .val (.ref b), .val (.int (Int32.ofNat o)), .val (.int (Int32.ofNat len)), .val .null, .unset] [.ref a])) rfl (by rw [hml]; rfl) (rest := []) rfl (hb hbytes d1) (W := 0) (by show 2 * 0 + 0 ≤ _; decide) (Nat.le_of_ble_eq_true rfl) (Nat.le_of_ble_eq_true rfl)
  have hh3 := q3.trans hh0
  have c4 : Steps p.tables e below (s₁.setTop (entryFrame m #[.ref a, .ref b, .int (Int32.ofNat o), .int (Int32.ofNat len), .null] 6)) (T3.setTop (mkF m 27 #[.val (.ref a), .val (.ref b), .val (.int (Int32.ofNat o)), .val (.int (Int32.ofNat len)), .val .null, .unset] [])) := (c2.trans (st3 _ (Steps.refl _))).trans (by
    refine XS.iloadN X3.here hexec rfl (hb hbytes d4) rfl ?_
    refine XS.ifYes X3.here hexec rfl (pc0 := 5) rfl (hb hbytes d5) rfl (i0_ne_t (nz32 (by omega) l0)) (by decide) rfl ?_
    exact Steps.refl _)
  obtain ⟨T5, X5, q5, st5⟩ := X3.sget hexec hown (wk W (.fieldLink "java/lang/String" 38 "java/lang/String" "COMPACT_STRINGS" "Z")) s1 (fun _ _ h => by rw [hh3]; exact h) (g := (mkF m 27 #[.val (.ref a), .val (.ref b), .val (.int (Int32.ofNat o)), .val (.int (Int32.ofNat len)), .val .null, .unset] [])) rfl (hb hbytes d27)
  have hh5 := q5.trans hh3
  have c6 : Steps p.tables e below (s₁.setTop (entryFrame m #[.ref a, .ref b, .int (Int32.ofNat o), .int (Int32.ofNat len), .null] 6)) (T5.setTop (mkF m 30 #[.val (.ref a), .val (.ref b), .val (.int (Int32.ofNat o)), .val (.int (Int32.ofNat len)), .val .null, .unset] [.int z])) := c4.trans (st5 _ (Steps.refl _))
  have c7 : Steps p.tables e below (s₁.setTop (entryFrame m #[.ref a, .ref b, .int (Int32.ofNat o), .int (Int32.ofNat len), .null] 6)) (T5.setTop (mkF m 36 #[.val (.ref a), .val (.ref b), .val (.int (Int32.ofNat o)), .val (.int (Int32.ofNat len)), .val .null, .unset] [.int (Int32.ofNat len), .int (Int32.ofNat o), .ref b])) := c6.trans (by
    refine XS.ifNo X5.here hexec rfl (hb hbytes d30) rfl (i0_eq_f hz) ?_
    refine XS.aloadN X5.here hexec rfl (hb hbytes d33) rfl rfl ?_
    refine XS.iloadN X5.here hexec rfl (hb hbytes d34) rfl ?_
    refine XS.iloadN X5.here hexec rfl (hb hbytes d35) rfl ?_
    exact Steps.refl _)
  obtain ⟨v8, T8, X8, E8, g8⟩ := X5.callS hexec (Cmp3.law l b A o len) hown (wks W (staticW "java/lang/String" 177 Cmp3.yN)) (wk W Cmp3.tab) (W := 0) (Nat.le_of_ble_eq_true rfl) (Nat.le_of_ble_eq_true rfl) (Nat.le_refl _) (by show 0 + len ≤ len; omega) (g := (mkF m 36 #[.val (.ref a), .val (.ref b), .val (.int (Int32.ofNat o)), .val (.int (Int32.ofNat len)), .val .null, .unset] [.int (Int32.ofNat len), .int (Int32.ofNat o), .ref b])) rfl (by rw [hml]; rfl) c7 (argsL := [.ref b, .int (Int32.ofNat o), .int (Int32.ofNat len)]) (rest := []) rfl rfl (by show 2 * 0 + 0 ≤ _; decide) (hb hbytes d36) (⟨rfl, hA.mv X5.warmed.alike hh5, l1, l2, hp⟩)
  obtain ⟨e8, z8⟩ := E8
  obtain ⟨rfl, N, n1, n2, n3, n4, n5, n6⟩ := NewArr.mv _ T5 s _ _ hh5.symm (Vm.Alike.refl _) rfl e8
  rw [hh5] at z8
  have hB1 := hB.keep X8.warmed.alike (n6 _ _ hB.1)
  have hne : s.heap.size ≠ a := (Nat.ne_of_lt (Array.getElem?_eq_some_iff.mp hB.1).1).symm
  have c9 : Steps p.tables e below (s₁.setTop (entryFrame m #[.ref a, .ref b, .int (Int32.ofNat o), .int (Int32.ofNat len), .null] 6)) (T8.setTop (mkF m 39 #[.val (.ref a), .val (.ref b), .val (.int (Int32.ofNat o)), .val (.int (Int32.ofNat len)), .val .null, .unset] [.ref s.heap.size])) := g8
  have c10 : Steps p.tables e below (s₁.setTop (entryFrame m #[.ref a, .ref b, .int (Int32.ofNat o), .int (Int32.ofNat len), .null] 6)) (T8.setTop (mkF m 45 #[.val (.ref a), .val (.ref b), .val (.int (Int32.ofNat o)), .val (.int (Int32.ofNat len)), .val .null, .val (.ref s.heap.size)] [.int (Int32.ofNat N.slots.size), .ref s.heap.size, .ref a])) := by
    have hc : Steps p.tables e below (s₁.setTop (entryFrame m #[.ref a, .ref b, .int (Int32.ofNat o), .int (Int32.ofNat len), .null] 6)) (T8.setTop (mkF m 45 #[.val (.ref a), .val (.ref b), .val (.int (Int32.ofNat o)), .val (.int (Int32.ofNat len)), .val .null, .val (.ref s.heap.size)] [.int (Int32.ofNat len), .ref s.heap.size, .ref a])) := c9.trans (by
      refine XS.astore X8.here hexec rfl (hb hbytes d39) rfl rfl rfl ?_
      refine XS.aloadN X8.here hexec rfl (hb hbytes d41) rfl rfl ?_
      refine XS.aload X8.here hexec rfl (hb hbytes d42) rfl rfl ?_
      refine XS.iloadN X8.here hexec rfl (hb hbytes d44) rfl ?_
      exact Steps.refl _)
    rw [n4]; exact hc
  obtain ⟨v11, T11, X11, E11, g11⟩ := X8.callS hexec (CodL.law l s.heap.size N) hown (wks W (staticW "java/lang/String" 47 CodL.yN)) (wk W CodL.tab) (W := 1) (Nat.le_of_ble_eq_true rfl) (Nat.le_of_ble_eq_true rfl) (Nat.le_refl _) (by show 0 + len + 0 ≤ len; omega) (g := (mkF m 45 #[.val (.ref a), .val (.ref b), .val (.int (Int32.ofNat o)), .val (.int (Int32.ofNat len)), .val .null, .val (.ref s.heap.size)] [.int (Int32.ofNat N.slots.size), .ref s.heap.size, .ref a])) rfl (by rw [hml]; rfl) c10 (argsL := [.ref s.heap.size, .int (Int32.ofNat N.slots.size)]) (rest := [.ref a]) rfl rfl (by show 2 * 0 + (1 + 0) ≤ _; decide) (hb hbytes d45) (⟨rfl, n1⟩)
  obtain ⟨rfl, q11⟩ := E11
  have hB11 := hB1.mv (X8.warmed.alike.symm.trans X11.warmed.alike) q11
  have c12 : Steps p.tables e below (s₁.setTop (entryFrame m #[.ref a, .ref b, .int (Int32.ofNat o), .int (Int32.ofNat len), .null] 6)) (T11.setTop (mkF m 48 #[.val (.ref a), .val (.ref b), .val (.int (Int32.ofNat o)), .val (.int (Int32.ofNat len)), .val .null, .val (.ref s.heap.size)] [.int 0, .ref a])) := g11
  obtain ⟨T13, X13, p13, bl13, sl13, st13⟩ := X11.finit hexec hown (wk W (.fieldLink "java/lang/String" 15 "java/lang/String" "coder" "B")) (Or.inr ⟨_, (wk W (.laysFinal "java/lang/String" "java/lang/String" "coder" "B"))⟩) (Or.inl ⟨rfl, hnm⟩) f2 (Or.inl rfl) hB11 (t := .byte) (by decide +kernel) rfl (g := (mkF m 48 #[.val (.ref a), .val (.ref b), .val (.int (Int32.ofNat o)), .val (.int (Int32.ofNat len)), .val .null, .val (.ref s.heap.size)] [.int 0, .ref a])) rfl (rest := []) rfl (hb hbytes d48)
  have c14 : Steps p.tables e below (s₁.setTop (entryFrame m #[.ref a, .ref b, .int (Int32.ofNat o), .int (Int32.ofNat len), .null] 6)) (T13.setTop (mkF m 54 #[.val (.ref a), .val (.ref b), .val (.int (Int32.ofNat o)), .val (.int (Int32.ofNat len)), .val .null, .val (.ref s.heap.size)] [.ref s.heap.size, .ref a])) := (c12.trans (st13 _ (Steps.refl _))).trans (by
    refine XS.aloadN X13.here hexec rfl (hb hbytes d51) rfl rfl ?_
    refine XS.aload X13.here hexec rfl (hb hbytes d52) rfl rfl ?_
    exact Steps.refl _)
  obtain ⟨T15, X15, p15, bl15, sl15, st15⟩ := X13.finit hexec hown (wk W (.fieldLink "java/lang/String" 9 "java/lang/String" "value" "[B")) (Or.inr ⟨_, (wk W (.laysFinal "java/lang/String" "java/lang/String" "value" "[B"))⟩) (Or.inl ⟨rfl, hnm⟩) f1 (Or.inl rfl) bl13 (t := (.array .byte)) (by decide +kernel) rfl (g := (mkF m 54 #[.val (.ref a), .val (.ref b), .val (.int (Int32.ofNat o)), .val (.int (Int32.ofNat len)), .val .null, .val (.ref s.heap.size)] [.ref s.heap.size, .ref a])) rfl (rest := []) rfl (hb hbytes d54)
  have c16 : Steps p.tables e below (s₁.setTop (entryFrame m #[.ref a, .ref b, .int (Int32.ofNat o), .int (Int32.ofNat len), .null] 6)) (T15.setTop (mkF m 57 #[.val (.ref a), .val (.ref b), .val (.int (Int32.ofNat o)), .val (.int (Int32.ofNat len)), .val .null, .val (.ref s.heap.size)] [])) := c14.trans (st15 _ (Steps.refl _))
  have ap := apart (Or.inr ⟨_, (wk W (.laysFinal "java/lang/String" "java/lang/String" "value" "[B"))⟩) (Or.inr ⟨_, (wk W (.laysFinal "java/lang/String" "java/lang/String" "coder" "B"))⟩) f1 f2 (t₁ := .array .byte) (t₂ := .byte) (by decide +kernel) (by decide +kernel) (by decide)
  have al := X8.warmed.alike.symm.trans X15.warmed.alike
  have n7 : T11.heap[s.heap.size]? = some N := by rw [q11]; exact n1.1
  exact ⟨T15, none, _, _, _, X15, by simp, rfl, by omega, (fun _ => rfl), ⟨rfl, _, N, bl15, ((Same.refl D _).set _ (by simp)).set _ (by simp), sl15, (Cell.slots_setSlot_ne _ ap).trans sl13, n1.keep al (p15.other hne (p13.other hne n7)), n2, by rw [al.findClass]; exact n3, n4, n5, fun y c h1 h2 => p15.other h1 (p13.other h1 (by rw [q11]; exact n6 y c h2)), by rw [p15.2.2, p13.2.2, q11]; exact z8⟩, fun fs hl => c16.trans (X15.returnOut hexec hret (hb hbytes d57) hl)⟩
end New4
namespace New1
def yN : MethodName := ⟨"java/lang/String", "<init>", "([C)V"⟩
abbrev yB : ByteArray := jdk_42_method_3_code
theorem d0 : decode yB 0 = .ok (.aload_n 0, 1) := by decide +kernel
theorem d1 : decode yB 1 = .ok (.aload_n 1, 1) := by decide +kernel
theorem d2 : decode yB 2 = .ok (.iconst 0, 1) := by decide +kernel
theorem d3 : decode yB 3 = .ok (.aload_n 1, 1) := by decide +kernel
theorem d4 : decode yB 4 = .ok (.arraylength, 1) := by decide +kernel
theorem d5 : decode yB 5 = .ok (.aconst_null, 1) := by decide +kernel
theorem d6 : decode yB 6 = .ok (.invokespecial 27, 3) := by decide +kernel
theorem d9 : decode yB 9 = .ok (.return_, 1) := by decide +kernel
def site : List Cond := [New4.tab] ++ initW "java/lang/String" 27 New4.yN
def tab : Cond := tabOf yN yB 2 none site
def P (a : Addr) (D : Cell) (fV fC : Field) (b : Addr) (A : Cell) (z : Int32) (args : Array Value) (s : State) : Prop := args = #[.ref a, .ref b] ∧ Blank "java/lang/String" a D s ∧ Found "java/lang/String" "value" "[B" fV s ∧ Found "java/lang/String" "coder" "B" fC s ∧ Ch b A s ∧ StaticIs s "java/lang/String" "COMPACT_STRINGS" "Z" (.int z) ∧ ¬ z = 0 ∧ 0 < A.slots.size ∧ A.slots.size ≤ 536870912 ∧ ∀ i, i < A.slots.size → ¬ 255 < cv A i
def E (a : Addr) (D : Cell) (fV fC : Field) (A : Cell) (r : Option Value) (s u : State) : Prop := Got a D fV fC A 0 A.slots.size r s u
/-- new String(chars), not empty, no char above 255: a Latin-1 String of their low bytes -/
theorem law (l : Launch) (a : Addr) (D : Cell) (fV fC : Field) (b : Addr) (A : Cell) (z : Int32) : Law l yN 2 1 3 52 yB 2 none site (P a D fV fC b A z) (E a D fV fC A) [⟨a, fC.slot⟩, ⟨a, fV.slot⟩] 1 A.slots.size := by
  refine Law.of_walk (plainFor_of_name (by decide +kernel)) (by decide +kernel) (by decide +kernel) (by decide) (fun _ _ h => by rw [h.1]; rfl) (fun _ U U' hal hh h => ⟨h.1, h.2.1.mv hal hh, h.2.2.1.al hal, h.2.2.2.1.al hal, h.2.2.2.2.1.mv hal hh, h.2.2.2.2.2.1.there hal hh, h.2.2.2.2.2.2⟩) (fun r U U' V V' h1 hal h2 h => Got.mv r U U' V V' h1 hal h2 h) ?_
  intro p e s m args below meth c s₁ X0 hexec hbytes hml hret hlk hnm hown hh0 W hP
  obtain ⟨rfl, hB, f1, f2, hA, s1, hz, l0, l2, hp⟩ := hP
  have c1 : Steps p.tables e below (s₁.setTop (entryFrame m #[.ref a, .ref b] 2)) (s₁.setTop (mkF m 0 #[.val (.ref a), .val (.ref b)] [])) := entry rfl
  have c2 : Steps p.tables e below (s₁.setTop (entryFrame m #[.ref a, .ref b] 2)) (s₁.setTop (mkF m 6 #[.val (.ref a), .val (.ref b)] [.null, .int (Int32.ofNat A.slots.size), .int 0, .ref b, .ref a])) := c1.trans (by
    refine XS.aloadN X0.here hexec rfl (hb hbytes d0) rfl rfl ?_
    refine XS.aloadN X0.here hexec rfl (hb hbytes d1) rfl rfl ?_
    refine iconstV X0.here hexec rfl 0 (hb hbytes d2) (by decide) ?_
    refine XS.aloadN X0.here hexec rfl (hb hbytes d3) rfl rfl ?_
    refine X0.alen hexec (hA.1.mv X0.warmed.alike hh0) rfl rfl (hb hbytes d4) ?_
    refine XS.aconstNull X0.here hexec rfl (hb hbytes d5) ?_
    exact Steps.refl _)
  obtain ⟨v3, T3, X3, E3, g3⟩ := X0.callN hexec (New4.law l a D fV fC b A z 0 A.slots.size) rfl hown (wks W (initW "java/lang/String" 27 New4.yN)) (W New4.tab (by simp only [site, List.mem_cons, List.mem_append, true_or, or_true])) (W := 0) (Nat.le_of_ble_eq_true rfl) (Nat.le_of_ble_eq_true rfl) (Nat.le_refl _) (by show 0 + A.slots.size ≤ A.slots.size; omega) (g := (mkF m 6 #[.val (.ref a), .val (.ref b)] [.null, .int (Int32.ofNat A.slots.size), .int (Int32.ofNat 0), .ref b, .ref a])) rfl (by rw [hml]; rfl) c2 (argsL := [.ref b, .int (Int32.ofNat 0), .int (Int32.ofNat A.slots.size), .null]) (rest := []) rfl rfl (by show 2 * 0 + 0 ≤ _; decide) (hb hbytes d6) (⟨rfl, hB.mv X0.warmed.alike hh0, f1.al X0.warmed.alike, f2.al X0.warmed.alike, hA.mv X0.warmed.alike hh0, s1.there X0.warmed.alike hh0, hz, l0, by omega, l2, fun i hi => by rw [Nat.zero_add]; exact hp i hi⟩)
  have e0 := Got.mv _ s₁ s _ _ hh0.symm (Vm.Alike.refl _) rfl E3
  obtain rfl := e0.1
  have c4 : Steps p.tables e below (s₁.setTop (entryFrame m #[.ref a, .ref b] 2)) (T3.setTop (mkF m 9 #[.val (.ref a), .val (.ref b)] [])) := g3
  exact ⟨T3, none, _, _, _, X3, by simp, rfl, by omega, (fun _ => rfl), e0, fun fs hl => c4.trans (X3.returnOut hexec hret (hb hbytes d9) hl)⟩
theorem pays {l : Launch} {R : Room} {p : Program} {e : Env} {below : List Frame} {s : State} {sargs : Array Value} {len W : Nat} (a : Addr) (D : Cell) (fV fC : Field) (b : Addr) (A : Cell) (z : Int32) (htab : tab.before sargs s = true) (hfr : 4 ≤ R.frames) (hlo : W + 65 ≤ R.locals) :
    Back l R p e below s sargs yN len W (fun A₁ a₁ => A₁.cells + 1 ≤ R.cells ∧ A₁.slots + A.slots.size ≤ R.slots ∧ P a D fV fC b A z a₁ A₁.U) (fun A₁ _ v₁ B₁ => E a D fV fC A v₁ A₁.U B₁.U ∧ B₁.locs = A₁.locs ++ [⟨a, fC.slot⟩, ⟨a, fV.slot⟩] ∧ B₁.cells = A₁.cells + 1 ∧ B₁.slots = A₁.slots + A.slots.size) :=
  (law l a D fV fC b A z).pays htab hfr (by omega)
end New1
end StrChars
namespace StrChars.Road
open Jvm Sem ClassFile Op Lib Jvm.Stand Jvm.Free Jvm.Free.XT
open Jvm.Lib.Cold (StaticIs)
abbrev ST : String := "java/lang/String"
/-- every table word that New1's law asks, flat -/
abbrev words : List Jvm.Cond := [.code New1.yN New1.yB 2 none, .initialized ST, .methodLink ST 27 New4.yN, .instanceMethod New4.yN,
  .code New4.yN New4.yB 6 none, .fieldLink ST 38 ST "COMPACT_STRINGS" "Z", .laysFinal ST ST "value" "[B", .fieldLink ST 9 ST "value" "[B", .laysFinal ST ST "coder" "B", .fieldLink ST 15 ST "coder" "B",
  .methodLink ST 1 Lib.objectInit, .instanceMethod Lib.objectInit, .code Lib.objectInit ⟨#[0xb1]⟩ 1 none, .methodLink ST 177 Cmp3.yN, .static Cmp3.yN, .methodLink ST 47 CodL.yN, .static CodL.yN,
  .code Cmp3.yN Cmp3.yB 6 (some (.array .byte)), .initialized U16, .arrayClass .byte, .methodLink U16 115 Cmp5.yN, .static Cmp5.yN, .code Cmp5.yN Cmp5.yB 7 (some .int), .code CodL.yN CodL.yB 2 (some .byte)]
theorem tab_of {a : Array Value} {s : State} (h : ∀ w ∈ words, w.before a s = true) : New1.tab.before a s = true := by
  have h5 : Cmp5.tab.before a s = true := unparts (wk h (.code Cmp5.yN Cmp5.yB 7 (some .int))) (wks h (.initialized Cmp5.yN.cls :: Cmp5.site))
  have hc : CodL.tab.before a s = true := unparts (wk h (.code CodL.yN CodL.yB 2 (some .byte))) (wks h (.initialized CodL.yN.cls :: CodL.site))
  have q5 : ∀ w ∈ Cmp5.tab :: words, w.before a s = true := fun w hw => (List.mem_cons.mp hw).elim (fun e => e ▸ h5) (h w)
  have h3 : Cmp3.tab.before a s = true := unparts (wk q5 (.code Cmp3.yN Cmp3.yB 6 (some (.array .byte)))) (wks q5 (.initialized Cmp3.yN.cls :: Cmp3.site))
  have q3 : ∀ w ∈ Cmp3.tab :: CodL.tab :: words, w.before a s = true := fun w hw => (List.mem_cons.mp hw).elim (fun e => e ▸ h3) fun hw => (List.mem_cons.mp hw).elim (fun e => e ▸ hc) (h w)
  have h4 : New4.tab.before a s = true := unparts (wk q3 (.code New4.yN New4.yB 6 none)) (wks q3 (.initialized New4.yN.cls :: New4.site))
  have q4 : ∀ w ∈ New4.tab :: words, w.before a s = true := fun w hw => (List.mem_cons.mp hw).elim (fun e => e ▸ h4) (h w)
  exact unparts (wk q4 (.code New1.yN New1.yB 2 none)) (wks q4 (.initialized New1.yN.cls :: New1.site))
/-- the words ride from the start Z to the walk's own state -/
theorem moved {Z s : State} {a0 args : Array Value} (hZ : Z.Warmed39 s.vm) (hw : ∀ d ∈ words, d.before a0 Z = true) : ∀ d ∈ words, d.before args s = true := fun d hd => by
  have q := hw d hd
  have t : ∀ d ∈ words, d = .arrayClass .byte ∨ (d.onTables && d.keepsFace) = true := by decide +kernel
  rcases t d hd with rfl | t
  · exact RoadKit.mvA hZ q
  · exact RoadKit.mv hZ q t
/-- WHAT COMES BACK, over the tables of the start Z: h the heap at the call, h' behind it -/
def Q (Z : State) (x : Addr) (A : Cell) (h : Heap) (v : Option Value) (h' : Heap) (L : List Loc) : Prop := v = none ∧ (∀ y ∈ L, y.base = x) ∧ RoadKit.Keep h h' [x] ∧ h'.size = h.size + 1 ∧ RoadKit.Exa Z h' x ST ∧ RoadKit.Fld Z h' x ST "value" "[B" (.ref h.size) ∧ RoadKit.Fld Z h' x ST "coder" "B" (.int 0) ∧
  (∃ V : Cell, RoadKit.Arr Z h' h.size V .byte ∧ V.vm = .none ∧ Z.vm.findClass "[B" = some V.cls ∧ V.slots.size = A.slots.size ∧ ∀ j, j < A.slots.size → V.slots[j]? = some (.int (lo8 (cv A j)))) ∧
  ∀ (O n d : String) (w : Value), RoadKit.Fld Z h x O n d w → RoadKit.slotOf Z O n d ≠ RoadKit.slotOf Z ST "value" "[B" → RoadKit.slotOf Z O n d ≠ RoadKit.slotOf Z ST "coder" "B" → RoadKit.Fld Z h' x O n d w
/-- **new String(chars) AT A CALL, IN THE ROAD'S FORM**: for specialBack behind newO: x the fresh String, b the char[] with the cell A -/
theorem back {p : Program} {l : Launch} {e : Env} {R : Room} {s : State} {args : Array Value} {below : List Frame} {len W : Nat} {Z : State} {a0 : Array Value} {h : Heap} (hZ : Z.Warmed39 s.vm) (hw : ∀ d ∈ words, d.before a0 Z = true) {kI : Nat} (wi : (Jvm.Cond.instantiable ST kI).before a0 Z = true)
    {x b : Addr} {A : Cell} {z : Int32} {v0 c0 : Value} (E : RoadKit.Exa Z h x ST) (V : RoadKit.Fld Z h x ST "value" "[B" v0) (C : RoadKit.Fld Z h x ST "coder" "B" c0) (K : RoadKit.Arr Z h b A .char) (hty : Typed .char A) (S : RoadKit.Sta Z h ST "COMPACT_STRINGS" "Z" (.int z)) (hz : ¬ z = 0)
    (l0 : 0 < A.slots.size) (l2 : A.slots.size ≤ 536870912) (hp : ∀ i, i < A.slots.size → ¬ 255 < cv A i) (hfr : 4 ≤ R.frames) (hlo : W + 65 ≤ R.locals) :
    Back l R p e below s args New1.yN len W (fun P a => a = #[.ref x, .ref b] ∧ P.U.heap = h ∧ P.cells + 1 ≤ R.cells ∧ P.slots + A.slots.size ≤ R.slots)
      (fun P _ v B => ∃ L, Q Z x A h v B.U.heap L ∧ B.locs = P.locs ++ L ∧ B.cells = P.cells + 1 ∧ B.slots = P.slots + A.slots.size) := by
  intro m meth c P g ig mk a X hg hsize hdg hW hn hp'
  obtain ⟨rfl, rfl, r1, r2⟩ := hp'
  have al : Z.vm.Alike P.U.vm := hZ.alike.trans X.warmed.alike
  obtain ⟨D, cfV, kV, iV, fV, hD, gV, stV, knV, obV, asV, slV⟩ := id V
  obtain ⟨D', cfC, kC, iC, fC, hD', gC, stC, -, -, asC, slC⟩ := id C
  cases hD.symm.trans hD'
  obtain ⟨D2, kD, e1, e2, e3, e4, e5⟩ := id E
  cases hD.symm.trans e1
  obtain ⟨c2, k2, i1, i2, i3, -⟩ := Cond.instantiable_spec wi
  cases e2.symm.trans i1
  cases e3.symm.trans i2
  obtain ⟨kU, u1, u2⟩ := al.2.2 _ _ e3
  have hB : Blank ST x D P.U := ⟨hD, ⟨knV, fun q hq => by rw [hq] at obV; cases obV⟩, by rw [al.findClass]; exact e2, kU, u1, by rw [u2]; exact i3, by rw [u2]; exact e5 i3⟩
  have F1 : Found ST "value" "[B" fV P.U := ⟨SBG.found_only al ⟨cfV, kV, iV, gV⟩, stV⟩
  have F2 : Found ST "coder" "B" fC P.U := ⟨SBG.found_only al ⟨cfC, kC, iC, gC⟩, stC⟩
  have hA : Ch b A P.U := ⟨⟨K.1, State.isArrayOf_alike al K.2.1, K.2.2, by omega⟩, hty⟩
  have hS : StaticIs P.U ST "COMPACT_STRINGS" "Z" (.int z) := by
    obtain ⟨cfS, iS, kS, fS, st, cS, t1, t2, t3, t4, t5, t6, t7⟩ := S
    exact StaticIs.there (s := { Z with heap := P.U.heap }) ⟨cfS, iS, kS, fS, st, cS, t1, t2, t3, t4, t5, (fun q => by rw [q] at t6; cases t6), t7⟩ al rfl
  obtain ⟨v, B, X', ⟨⟨hv, E', V', q1, q2, q3, q4, q5, q6, q7, q8, q9, q10, q11⟩, hl, hc, hs⟩, st⟩ := New1.pays x D fV fC b A z (tab_of (moved hZ hw)) hfr hlo m meth c P g ig mk _ X hg hsize hdg hW hn ⟨r1, r2, rfl, hB, F1, F2, hA, hS, hz, l0, l2, hp⟩
  have al' : Z.vm.Alike B.U.vm := hZ.alike.trans X'.warmed.alike
  have hsz : E'.slots.size = D.slots.size := by
    obtain ⟨-, -, -, kB, w1, w2, w3⟩ := q1
    obtain ⟨kB', y1, y2⟩ := al'.2.2 _ _ e3
    rw [q2.2.1] at w1
    cases w1.symm.trans y1
    rw [w3, e5 i3, y2]
  refine ⟨v, B, X', ⟨_, ⟨hv, ?_, ⟨by omega, fun y cy hy hn' => q10 y cy (by simpa using hn') hy, fun y cy hy => ?_⟩, q11, ⟨E', _, q1.1, by rw [q2.2.1]; exact e2, by rw [q2.2.1]; exact e3, by rw [q2.1]; exact obV, fun _ => by rw [hsz]; exact e5 i3⟩,
    ⟨E', cfV, kV, iV, fV, q1.1, gV, stV, by rw [q2.1]; exact knV, by rw [q2.1]; exact obV, by rw [q2.2.1]; exact asV, q3⟩, ⟨E', cfC, kC, iC, fC, q1.1, gC, stC, by rw [q2.1]; exact knV, by rw [q2.1]; exact obV, by rw [q2.2.1]; exact asC, q4⟩,
    ⟨V', ⟨q5.1, State.isArrayOf_alike al'.symm q5.2.1, q5.2.2.1⟩, q6, by rw [← al'.findClass]; exact q7, q8, fun j hj => by have := q9 j hj; rwa [Nat.zero_add] at this⟩, fun O n d w F n1 n2 => ?_⟩, hl, hc, hs⟩, st⟩
  · intro y hy
    simp only [List.mem_cons, List.not_mem_nil, or_false] at hy
    rcases hy with rfl | rfl <;> rfl
  · by_cases q : y = x
    · subst q
      cases hD.symm.trans hy
      exact ⟨E', q1.1, q2.2.1, q2.1, hsz⟩
    · exact ⟨cy, q10 y cy q hy, rfl, rfl, rfl⟩
  · obtain ⟨D3, cf, k, i, f, g1, g2, g3, g4, g5, g6, g7⟩ := F
    cases hD.symm.trans g1
    simp only [RoadKit.slotOf, g2, gV, gC, Option.map_some, Option.getD_some] at n1 n2
    exact ⟨E', cf, k, i, f, q1.1, g2, g3, by rw [q2.1]; exact g4, by rw [q2.1]; exact g5, by rw [q2.2.1]; exact g6, by rw [q2.2.2 f.slot (by simp [n1, n2])]; exact g7⟩
end StrChars.Road
namespace StrChars.Road
open Jvm Sem ClassFile Op Lib Jvm.Stand Jvm.Free Jvm.Free.XT
/-- WHAT COMES BACK, the byte[] as a list of values -/
def QA (Z : State) (x : Addr) (zn : Int32) (cs : List Int32) (h : Heap) (v : Option Value) (h' : Heap) (L : List Loc) : Prop := v = none ∧ (∀ y ∈ L, y.base = x) ∧ RoadKit.Keep h h' [x] ∧ h'.size = h.size + 1 ∧ RoadKit.Exa Z h' x ST ∧ RoadKit.Fld Z h' x ST "value" "[B" (.ref h.size) ∧ RoadKit.Fld Z h' x ST "coder" "B" (.int 0) ∧
  (∃ kb, Z.vm.findClass "[B" = some kb ∧ RoadKit.Arv Z h' h.size kb .byte zn (cs.map fun c => .int (lo8 c)) (.int 0)) ∧
  ∀ (O n d : String) (w : Value), RoadKit.Fld Z h x O n d w → RoadKit.slotOf Z O n d ≠ RoadKit.slotOf Z ST "value" "[B" → RoadKit.slotOf Z O n d ≠ RoadKit.slotOf Z ST "coder" "B" → RoadKit.Fld Z h' x O n d w
/-- **new String(chars) AT A CALL, THE ARRAYS AS LISTS**: the char[] at b holds cs, not empty, no char above 255 -/
theorem backArv {p : Program} {l : Launch} {e : Env} {R : Room} {s : State} {args : Array Value} {below : List Frame} {len W : Nat} {Z : State} {a0 : Array Value} {h : Heap} (hZ : Z.Warmed39 s.vm) (hw : ∀ d ∈ words, d.before a0 Z = true) {kI : Nat} (wi : (Jvm.Cond.instantiable ST kI).before a0 Z = true)
    {x b : Addr} {k : ClassId} {zn z : Int32} {cs : List Int32} {dv v0 c0 : Value} (E : RoadKit.Exa Z h x ST) (V : RoadKit.Fld Z h x ST "value" "[B" v0) (C : RoadKit.Fld Z h x ST "coder" "B" c0) (K : RoadKit.Arv Z h b k .char zn (cs.map Value.int) dv) (S : RoadKit.Sta Z h ST "COMPACT_STRINGS" "Z" (.int z)) (hz : ¬ z = 0)
    (hlen : zn.toNatClampNeg = cs.length) (h0 : 0 < cs.length) (hbig : cs.length ≤ 536870912) (hall : ∀ c ∈ cs, ¬ 255 < c) (hfr : 4 ≤ R.frames) (hlo : W + 65 ≤ R.locals) :
    Back l R p e below s args New1.yN len W (fun P a => a = #[.ref x, .ref b] ∧ P.U.heap = h ∧ P.cells + 1 ≤ R.cells ∧ P.slots + cs.length ≤ R.slots)
      (fun P _ v B => ∃ L, QA Z x zn cs h v B.U.heap L ∧ B.locs = P.locs ++ L ∧ B.cells = P.cells + 1 ∧ B.slots = P.slots + cs.length) := by
  obtain ⟨A, K1, K2, K3, K4, K5, K6⟩ := K
  have e : A.slots.size = cs.length := K3.trans hlen
  have hat : ∀ (i : Nat) (hi : i < cs.length), A.slots[i]? = some (.int cs[i]) := fun i hi => by rw [K5 i (by omega)]; simp [List.getD_eq_getElem?_getD, hi]
  have hcv : ∀ (i : Nat) (hi : i < cs.length), cv A i = cs[i] := fun i hi => by unfold cv; rw [hat i hi]
  have hty : Typed .char A := fun i v hv => by
    have hi : i < A.slots.size := (Array.getElem?_eq_some_iff.mp hv).1
    have q := K5 i hi
    rw [hv] at q
    rw [Option.some.inj q]
    exact K6 i hi
  refine Back.mono (back hZ hw wi E V C K1 hty S hz (by omega) (by omega) (fun i hi => by rw [hcv i (by omega)]; exact hall _ (List.getElem_mem _)) hfr hlo) (fun P a hp => ⟨hp.1, hp.2.1, hp.2.2.1, by rw [e]; exact hp.2.2.2⟩) (fun P a v B hp hq => ?_)
  obtain ⟨L, ⟨q1, q2, q3, q4, q5, q6, q7, ⟨V', v1, v2, v3, v4, v5⟩, q9⟩, hl, hc, hs⟩ := hq
  refine ⟨L, ⟨q1, q2, q3, q4, q5, q6, q7, ⟨V'.cls, v3, V', v1, rfl, by rw [v4, e, hlen], K4, fun i hi => ?_, fun i hi => ?_⟩, q9⟩, hl, hc, by rw [hs, e]⟩
  · have hi' : i < cs.length := by omega
    rw [v5 i (by omega), hcv i hi']; simp [List.getD_eq_getElem?_getD, hi']
  · have hi' : i < cs.length := by omega
    simp only [List.getD_eq_getElem?_getD, List.getElem?_map, List.getElem?_eq_getElem hi', Option.map_some, Option.getD_some]
    exact fits_lo8 _
end StrChars.Road
namespace StrChars.Road
open Jvm Sem ClassFile Op Lib Jvm.Stand Jvm.Free Jvm.Free.XT
/-- WHAT COMES BACK, in the writer's own shape -/
def QV (Z : State) (x : Addr) (N : Int32) (bs : List Int32) (h : Heap) (n0 : Nat) (v : Option Value) (h' : Heap) (L : List Loc) : Prop := v = none ∧ RoadKit.Fr n0 L ∧ RoadKit.Keep h h' [x] ∧ RoadKit.Exa Z h' x ST ∧ RoadKit.Fld Z h' x ST "coder" "B" (.int 0) ∧
  ∃ (t : Addr) (kb : ClassId), n0 ≤ t ∧ h.size ≤ t ∧ ¬ t = x ∧ RoadKit.Fld Z h' x ST "value" "[B" (.ref t) ∧ RoadKit.Arv Z h' t kb .byte N (bs.map Value.int) (.int 0)
/-- **new String(chars) AT A CALL, FOR THE WRITER**: a char[] of n known ints, each 0 to 255 -/
theorem backV {p : Program} {l : Launch} {e : Env} {R : Room} {s : State} {args : Array Value} {below : List Frame} {len W : Nat} {Z : State} {a0 : Array Value} {h : Heap} (hZ : Z.Warmed39 s.vm) (hw : ∀ d ∈ words, d.before a0 Z = true) {kI : Nat} (wi : (Jvm.Cond.instantiable ST kI).before a0 Z = true)
    {x b : Addr} {kC : ClassId} {cs bs : List Int32} {d v0 c0 : Value} {z N : Int32} {n n0 : Nat} (hx0 : n0 ≤ x) (hh0 : n0 ≤ h.size) (E : RoadKit.Exa Z h x ST) (V : RoadKit.Fld Z h x ST "value" "[B" v0) (C : RoadKit.Fld Z h x ST "coder" "B" c0) (K : RoadKit.Arv Z h b kC .char N (cs.map Value.int) d) (S : RoadKit.Sta Z h ST "COMPACT_STRINGS" "Z" (.int z)) (hz : ¬ z = 0)
    (hn : cs.length = n) (hN : N = Int32.ofNat n) (l0 : 0 < n) (l2 : n ≤ 4000) (hp : ∀ c ∈ cs, ¬ c < 0 ∧ ¬ (255 : Int32) < c) (hb : bs = cs.map (fun c => c.toInt8.toInt32)) (hfr : 4 ≤ R.frames) (hlo : W + 65 ≤ R.locals) :
    Back l R p e below s args (⟨"java/lang/String", "<init>", "([C)V"⟩ : MethodName) len W (fun P a => a = #[.ref x, .ref b] ∧ P.U.heap = h ∧ P.cells + 1 ≤ R.cells ∧ P.slots + n ≤ R.slots)
      (fun P _ v B => ∃ L, QV Z x N bs h n0 v B.U.heap L ∧ B.locs = P.locs ++ L ∧ B.cells = P.cells + 1 ∧ B.slots = P.slots + n) := by
  subst hn hN hb
  refine Back.mono (backArv hZ hw wi E V C K S hz (n32 (by omega)) l0 (by omega) (fun c hc => (hp c hc).2) hfr hlo) (fun P a hp => hp) (fun P a v B hp hq => ?_)
  obtain ⟨L, ⟨q1, q2, q3, q4, q5, q6, q7, ⟨kb, v1, v2⟩, q9⟩, hl, hc, hs⟩ := hq
  exact ⟨L, ⟨q1, fun y hy => by rw [q2 y hy]; exact hx0, q3, q5, q7, h.size, kb, hh0, Nat.le_refl _, Nat.ne_of_gt E.lt, q6, by rw [List.map_map]; exact v2⟩, hl, hc, hs⟩
end StrChars.Road
end Jvm.Pilot.@@N@@
namespace Jvm.RoadKit
open Sem ClassFile Op Lib Jvm.Stand Jvm.Free Jvm.LawKit Bundle Jvm.Free.Exc LibCode.Throwable
section OwnThrow
variable {p : Program} {l : Launch} {e : Env} {R : Room} {s : State} {m : MethodId} {args : Array Value} {below : List Frame} {meth : Method} {c : Code} {T : State} {locs : List Loc} {cells slots : Nat} {Z : State} {a0 : Array Value} {h h0 : Heap}
/-- the words of a sheet that fillInStackTrace asks, for an exception of the class rc -/
def own_at (rc : String) : List Cond := [.native tFill0, .initialized tN, .superclass tN "java/lang/Object", .instanceMethod tFill, .codeSync tFill Fill.code 1 (some (.object tN)), .instanceMethod tFill0, .instanceMethod oInit, .code oInit ⟨#[0xb1]⟩ 1 none, .methodLink tN 1 oInit, .methodLink tN 27 tFill, .methodLink tN 202 tFill0,
  .fieldLink tN 7 tN "cause" thD, .fieldLink tN 17 tN "stackTrace" steD, .fieldLink tN 24 tN "suppressedExceptions" listD, .fieldLink tN 13 tN "UNASSIGNED_STACK" steD, .laysStatic tN "UNASSIGNED_STACK" steD, .fieldLink tN 20 tN "SUPPRESSED_SENTINEL" listD, .laysStatic tN "SUPPRESSED_SENTINEL" listD,
  .declares tFill, .selects rc tFill0 tFill0, .selects rc tFill tFill, .lays rc tN "cause" thD, .lays rc tN "stackTrace" steD, .lays rc tN "suppressedExceptions" listD, .lays rc tN "detailMessage" msgD, .fieldLink tN 198 tN "backtrace" obD, .lays rc tN "backtrace" obD, .arrayOver (.object "java/lang/Object"), .soleField tN "backtrace", .soleField tN "depth", .lays rc tN "depth" "I"]
theorem own_aok {rc : String} : (own_at rc).all xOk = true := rfl
theorem own_tl {pl : Platform} {rc : String} (howns : pl.frameOwnsMonitors = true) (hfin : pl.finalization = false) (hpl : pl.magicAccessors = ({} : Platform).magicAccessors) (W : ∀ d ∈ own_at rc, d.before args s = true) :
    ∃ T : ThrowableC, T.Links pl s ∧ s.vm.findClass tN = some T.cT ∧ s.methodNamed? tFill = some T.fill ∧ s.methodNamed? tFill0 = some T.fill0 ∧ s.fieldFound? tN "stackTrace" steD = some (T.cT, T.kT, T.i17, T.fStack) ∧ s.fieldFound? tN "UNASSIGNED_STACK" steD = some (T.cT, T.kT, T.i13, T.fUnassigned) ∧ T.fStack.type = .array (.object "java/lang/StackTraceElement") := by
  have a : ∀ d, d ∈ own_at rc → d.holds args s none s [] = true := fun d hd => W d hd
  have w : ∀ {d : Cond}, d ∈ own_at rc → d.holds args s none s [] = true := fun hd => a _ hd
  -- the class
  obtain ⟨⟨c, j0⟩, mNat, n0, m0, nat0, cod0, lok0, sig0⟩ := Cond.native_spec (a (.native tFill0) (by simp [own_at]))
  have hc : s.vm.findClass tN = some c := findClass_of_methodNamed n0
  obtain ⟨k, hk, hname⟩ := Vm.findClass_spec hc
  obtain ⟨_, k1, _, _, hk1, _, _, hord, _, hni⟩ := Cond.superclass_spec hc (a (.superclass tN "java/lang/Object") (by simp [own_at]))
  cases Option.some.inj (hk.symm.trans hk1)
  -- its methods
  obtain ⟨jF, mF, nF, mF1, atF, stF, abF, -, -⟩ := Cond.ownMethod (x := tFill) hc hk (a (.instanceMethod tFill) (by simp [own_at]))
  obtain ⟨mF2, cF, mF3, cdF, byF, loF, reF, lkF, -, sgF⟩ := Cond.codeSync_spec nF (a (.codeSync tFill Fill.code 1 (some (.object tN))) (by simp [own_at]))
  cases Option.some.inj (mF1.symm.trans mF3)
  obtain ⟨j1, mN, n1, m1, at0, st0, ab0, nm0, ds0⟩ := Cond.ownMethod (x := tFill0) hc hk (a (.instanceMethod tFill0) (by simp [own_at]))
  cases Option.some.inj (n0.symm.trans n1)
  cases Option.some.inj (m0.symm.trans m1)
  obtain ⟨mO, metO, nO, mO1, stO, abO⟩ := Cond.instanceMethod_spec (a (.instanceMethod oInit) (by simp [own_at]))
  obtain ⟨metO2, cO, mO2, cdO, byO, loO, -, lkO, -, sgO⟩ := Cond.code_spec nO (a (.code oInit ⟨#[0xb1]⟩ 1 none) (by simp [own_at]))
  cases Option.some.inj (mO1.symm.trans mO2)
  obtain ⟨kO, hkO, nmkO⟩ := Vm.findClass_spec (findClass_of_methodNamed nO)
  obtain ⟨nmO, dsO⟩ := name_of_methodNamed nO mO1
  -- its links
  obtain ⟨ci1, q1, cf, l1, r1, hcf, p1⟩ := Cond.linkedMethod hc hk nO (a (.methodLink tN 1 oInit) (by simp [own_at])) pl hpl
  obtain ⟨ci27, q27, cf2, l27, r27, hcf2, p27⟩ := Cond.linkedMethod hc hk nF (a (.methodLink tN 27 tFill) (by simp [own_at])) pl hpl
  cases Option.some.inj (hcf.symm.trans hcf2)
  obtain ⟨ci202, q202, cf3, l202, r202, hcf3, p202⟩ := Cond.linkedMethod hc hk n0 (a (.methodLink tN 202 tFill0) (by simp [own_at])) pl hpl
  cases Option.some.inj (hcf.symm.trans hcf3)
  -- its fields
  obtain ⟨c7, i7, f7, k7, g7, a7, s7, z7, -⟩ := Cond.ownField (t := .object tN) hc hk (by decide +kernel) (a (.fieldLink tN 7 tN "cause" thD) (by simp [own_at])) (a (.lays rc tN "cause" thD) (by simp [own_at])) pl hpl
  obtain ⟨c17, i17, f17, k17, g17, a17, s17, z17, n17, t17, y17⟩ := Cond.ownField (t := .array (.object "java/lang/StackTraceElement")) hc hk (by decide +kernel) (a (.fieldLink tN 17 tN "stackTrace" steD) (by simp [own_at])) (a (.lays rc tN "stackTrace" steD) (by simp [own_at])) pl hpl
  obtain ⟨c24, i24, f24, k24, g24, a24, s24, z24, n24, t24, y24⟩ := Cond.ownField (t := .object "java/util/List") hc hk (by decide +kernel) (a (.fieldLink tN 24 tN "suppressedExceptions" listD) (by simp [own_at])) (a (.lays rc tN "suppressedExceptions" listD) (by simp [own_at])) pl hpl
  obtain ⟨c13, i13, f13, aS, cS, k13, g13, a13, s13, -, -, sta, -, -, -, -, y13⟩ := Cond.ownStatic (t := .array (.object "java/lang/StackTraceElement")) hc hk (by decide +kernel) (a (.fieldLink tN 13 tN "UNASSIGNED_STACK" steD) (by simp [own_at])) (a (.laysStatic tN "UNASSIGNED_STACK" steD) (by simp [own_at])) pl hpl
  obtain ⟨c20, i20, f20, _, _, k20, g20, a20, s20, -⟩ := Cond.ownStatic (t := .object "java/util/List") hc hk (by decide +kernel) (a (.fieldLink tN 20 tN "SUPPRESSED_SENTINEL" listD) (by simp [own_at])) (a (.laysStatic tN "SUPPRESSED_SENTINEL" listD) (by simp [own_at])) pl hpl
  obtain ⟨cX, kX, _, _, _, fM, hcX, hkX, -, sM, zM, -⟩ := Cond.lays_spec (a (.lays rc tN "detailMessage" msgD) (by simp [own_at]))
  obtain ⟨-, d17, e17, b17⟩ := Cond.laysAt hcX hkX y17 (a (.lays rc tN "stackTrace" steD) (by simp [own_at]))
  obtain ⟨-, d24, e24, b24⟩ := Cond.laysAt hcX hkX y24 (a (.lays rc tN "suppressedExceptions" listD) (by simp [own_at]))
  have hap := Cond.laysApart e17 e24 b17 b24 (by rw [n17, n24]; decide)
  have pF : mF.sig.parameters = [] := by
    rw [show parseMethodDescriptor tFill.desc = some ⟨[], some (.object tN)⟩ from by decide +kernel] at sgF
    rw [← Option.some.inj sgF]
  have p0 : mNat.sig.parameters = [.int] := by
    rw [show parseMethodDescriptor tFill0.desc = some ⟨[.int], some (.object tN)⟩ from by decide +kernel] at sig0
    rw [← Option.some.inj sig0]
  have pO : metO.sig.parameters.length = 0 := by
    rw [show parseMethodDescriptor oInit.desc = some ⟨[], none⟩ from by decide +kernel] at sgO
    rw [← Option.some.inj sgO]; rfl
  refine ⟨{ cT := c, kT := k, cO := c, aS := aS, fillIdx := jF, fill0Idx := j0, initSIdx := jF, obj := mO, kObj := kO, methFill := mF, methFill0 := mNat, methInitS := mF, methObj := metO, codeFill := cF, codeInitS := cF, codeObj := cO, fBack := f7, fDepth := f7, fStack := f17, fCause := f7, fSupp := f24, fMsg := fM, fUnassigned := f13, fSentinel := f20, cfT := cf, ci1 := ci1, n1 := q1, ci27 := ci27, n27 := q27, ci202 := ci202, n202 := q202, ci7 := c7, i7 := i7, ci13 := c13, i13 := i13, ci17 := c17, i17 := i17, ci20 := c20, i20 := i20, ci24 := c24, i24 := i24 }, ?_, hc, nF, n0, y17, y13, t17⟩
  exact { owns := howns, noFinalization := hfin, cls := hk, name := hname, boot := Vm.findClass_boot hc hk, notInterface := hni, initialized := Cond.initialized_spec hc hk (a (.initialized tN) (by simp [own_at])), statics := sta, fillAt := atF, fillCode := cdF, fillBytes := byF, fillLocals := loF, fillLocks := lkF, fillStatic := stF, fillAbstract := abF, fillReturns := reF, fillParams := pF, fill0At := at0, fill0Name := nm0, fill0Desc := ds0, fill0Params := p0, fill0Static := st0, fill0Native := nat0, fill0Code := cod0, fill0Locks := lok0, fill0Abstract := ab0, stackInstance := s17, stackNotFinal := z17, unassignedStatic := s13, objClass := hkO, objClassName := nmkO, objMethod := mO1, objName := nmO, objStatic := stO, objAbstract := abO, objFound := by rw [dsO]; exact lookupSpecial_of_named nO mO1 stO, objParams := pO, objCode := cdO, objBytes := byO, objLocks := lkO, causeInstance := s7, causeNotFinal := z7, sentinelStatic := s20, suppInstance := s24, suppNotFinal := z24, msgInstance := sM, msgNotFinal := zM, stackApartSupp := hap, file := hcf, mlink1 := l1, mright1 := r1, pool1 := p1, mlink27 := l27, mright27 := r27, pool27 := p27, mlink202 := l202, mright202 := r202, pool202 := p202, link7 := k7, right7 := g7, at7 := a7, link13 := k13, right13 := g13, at13 := a13, link17 := k17, right17 := g17, at17 := a17, link20 := k20, right20 := g20, at20 := a20, link24 := k24, right24 := g24,at24 := a24 }
set_option maxHeartbeats 4000000 in
theorem own_fill (X : Stand p l e R s m args below meth c T locs cells slots) (hx : p.tables.exec = Jvm.exec) (hl : l.stackTraces = true) (hZ : Z.Warmed39 s.vm) (hown : s.vm.findClass tN = some m.cls) {rc : String} (hw : ∀ d ∈ own_at rc, d.before a0 Z = true) (hT0 : ThS Z s.heap) (hTK : s.vm.MethodsKnown) (hBelow : s.vm.FramesKnown below)
    (eT : T.heap = h) {a : Addr} {n : Nat} (wi : (Cond.instantiable rc n).before a0 Z = true) (E : Exa Z h a rc) (N : Unt h a) (B : Fld Z h a tN "backtrace" obD .null) {u : Value} (hu : u.isRef = true) (S : Fld Z h a tN "stackTrace" steD u) (U : Sta Z h tN "UNASSIGNED_STACK" steD u)
    {Ls : Array Slot} (hLs : Ls.size = c.maxLocals) {pc : Nat} (hd : decode c.code pc = .ok (.invokevirtual 27, 3)) (hf : 2 < R.frames) (hlo : 42 ≤ R.locals) (hce : cells + 1 ≤ R.cells) (hsl : slots + 2752 ≤ R.slots) :
    ∃ (T' : State) (L : List Loc), (∀ y ∈ L, Six s a y) ∧ Stand p l e R s m args below meth c T' (locs ++ L) (cells + 1) (slots + 2752) ∧ ∀ target, Steps p.tables e below (T'.setTop (mkF m (pc + 3) Ls [.ref a])) target → Steps p.tables e below (T.setTop (mkF m pc Ls [.ref a])) target := by
  have W : ∀ d ∈ own_at rc, d.before args s = true := fun d hd => mvX hT0 hZ (List.all_eq_true.mp own_aok d hd) (hw d hd)
  have w : ∀ d, d ∈ own_at rc → d.holds args s none s [] = true := fun d hd => W d hd
  have hpl : e.platform.magicAccessors = ({} : Platform).magicAccessors := by rw [X.admits.platform]
  obtain ⟨Q, L, hT, hF, h0, hS, hU, tyS⟩ := own_tl (by rw [X.admits.platform]) (by rw [X.admits.platform]) hpl W
  -- the receiver's cell
  obtain ⟨cell, kz, e1, e2, e3, -, e5⟩ := E
  obtain ⟨c2, u1, hvm, hmon⟩ := N
  cases e1.symm.trans u1
  obtain ⟨c4, k2, i1, i2, i3, -⟩ := Cond.instantiable_spec wi
  cases e2.symm.trans i1
  cases e3.symm.trans i2
  have hal := hZ.alike
  obtain ⟨kX, hk, ek⟩ := hal.2.2 _ _ e3
  have hcX : s.vm.findClass rc = some cell.cls := by rw [hal.findClass]; exact e2
  have hord : kX.kind = .ordinary := by rw [ek]; exact i3
  have hsz : cell.slots.size = kX.instanceTypes.size := by rw [ek]; exact e5 i3
  obtain ⟨c3, _, _, _, fB0, b1, b2, -, -, -, -, b7⟩ := B
  cases e1.symm.trans b1
  obtain ⟨c5, _, _, _, fS0, d1, d2, -, -, -, -, d7⟩ := S
  cases e1.symm.trans d1
  obtain ⟨_, _, kU0, fU0, st, cS, v1, -, -, v4, v5, v6, v7⟩ := U
  obtain ⟨_, x2, -⟩ := State.fieldFound?_setVm (s := Z) hal d2
  cases (show s.fieldFound? tN "stackTrace" steD = _ from x2).symm.trans hS
  obtain ⟨_, x3, ekU⟩ := State.fieldFound?_setVm (s := Z) hal v1
  cases (show s.fieldFound? tN "UNASSIGNED_STACK" steD = _ from x3).symm.trans hU
  have hst : st = Q.aS := Option.some.inj ((show Q.kT.statics = some st by rw [ekU]; exact v4).symm.trans L.statics)
  subst hst
  -- backtrace and depth
  obtain ⟨ci, iB, fB, kB, gB, aB, sB, -, nB, tB, yB⟩ := Cond.ownField (t := .object "java/lang/Object") hT L.cls (by decide +kernel) (w (.fieldLink tN 198 tN "backtrace" obD) (by simp [own_at])) (w (.lays rc tN "backtrace" obD) (by simp [own_at])) e.platform hpl
  obtain ⟨_, x4, -⟩ := State.fieldFound?_setVm (s := Z) hal b2
  have xB := Option.some.inj ((show s.fieldFound? tN "backtrace" obD = _ from x4).symm.trans yB)
  simp only [Prod.mk.injEq] at xB
  rw [xB.2.2.2] at b7
  obtain ⟨_, _, cD, kD, iD, fD, -, -, yD, sD, -⟩ := Cond.lays_spec (w (.lays rc tN "depth" "I") (by simp [own_at]))
  cases Option.some.inj ((Cond.lays_declared (w (.lays rc tN "depth" "I") (by simp [own_at])) yD).symm.trans hT)
  obtain ⟨hkD, aD⟩ := State.fieldFound?_spec yD
  cases Option.some.inj (hkD.symm.trans L.cls)
  obtain ⟨nD, tD⟩ := State.fieldFound?_type yD (t := .int) (by decide +kernel)
  have hfb := Cond.soleField_find hT L.cls (w (.soleField tN "backtrace") (by simp [own_at])) aB nB sB
  have hfd := Cond.soleField_find hT L.cls (w (.soleField tN "depth") (by simp [own_at])) aD nD sD
  obtain ⟨comp, cO, kO, -, -, hkO, hkindO, hO⟩ := Cond.arrayOver_spec (W (.arrayOver (.object "java/lang/Object")) (by simp [own_at]))
  obtain ⟨zS, -⟩ := Cond.laysAt hcX hk hS (w (.lays rc tN "stackTrace" steD) (by simp [own_at]))
  obtain ⟨zB, -⟩ := Cond.laysAt hcX hk yB (w (.lays rc tN "backtrace" obD) (by simp [own_at]))
  obtain ⟨zD, -⟩ := Cond.laysAt hcX hk yD (w (.lays rc tN "depth" "I") (by simp [own_at]))
  have tk : ∀ {f : Field} {v : Value}, kX.instanceTypes[f.slot]? = some f.type → fits f.type v = true → Jvm.Takes s cell f v := fun {f v} h1 h2 => by
    obtain ⟨q1, q2⟩ := Takes.of_laid (v := v) hk hord h1 h2
    exact ⟨by rw [hsz]; simpa using q1, by rw [hvm]; exact q2⟩
  have hne : Q.aS ≠ a := fun q => by
    rw [q] at v5
    cases e1.symm.trans v5
    rw [hvm] at v6; cases v6
  have hsel0 : selectMethod e.platform s.vm cell.cls Q.fill0 = .method Q.fill0 := by
    obtain ⟨_, _, _, q1, q2, q3, q4, -⟩ := Cond.selects_spec (w (.selects rc tFill0 tFill0) (by simp [own_at]))
    cases Option.some.inj (q1.symm.trans hcX)
    cases Option.some.inj (q2.symm.trans (State.methodFound?_of_named h0 (by decide)))
    cases Option.some.inj (q3.symm.trans h0)
    rw [Launch.admits_selectMethod X.admits]; exact q4
  have hSE := W (.selects rc tFill tFill) (by simp [own_at])
  obtain ⟨v9, vm9, ⟨T9, L9, c9, n9⟩, -, X9, ⟨hv9, C9, n', hn, -, -, -, -, -, hL9, hc9, hn9⟩, come⟩ := X.virtualBack hx (own := tN) (C := rc) (index := 27) (y := tFill) (z := tFill) hown (W (.methodLink tN 27 tFill) (by simp [own_at])) (W (.declares tFill) (by simp [own_at])) (notFace_of_selects hSE) hSE (W (.instanceMethod tFill) (by simp [own_at])) (by decide)
    (fillPaysAny (l := l) (W := 0) hx (by rw [X.admits.platform]; exact hl) Q L hF (u0 := ⟨u, hu⟩) (self := a) (cell := cell) (cellS := cS) (fun _ => by rw [hvm]; simp) (by rw [hvm]; simp) (by rw [hmon]) (by rw [hmon]) d7 hsel0 hne (fun q => by rw [q] at v6; cases v6) v7 (tk zS (by rw [tyS]; exact fits_refV_array _ ⟨u, hu⟩))
      ⟨{ ci198 := ci, i198 := iB, fBack := fB }, ⟨kB, gB, aB, sB⟩, b7⟩ hTK hBelow hT hO hkO hkindO hfb hfd (fun y => tk zB (by rw [tB]; rfl)) (fun y => tk zD (by rw [tD]; rfl)) hf (by omega))
    (b := a) (cB := cell.cls) hcX ⟨cell, by rw [eT]; exact e1, rfl, by rw [hvm]; rfl⟩ (g := mkF m pc Ls [.ref a]) rfl hLs (Steps.refl _) (argsL := []) (rest := [])
    (fun sig h => by rw [show parseMethodDescriptor tFill.desc = some ⟨[], some (.object tN)⟩ from by decide +kernel] at h; rw [← Option.some.inj h]; rfl) rfl (by show 2 * 0 + 0 ≤ 0; decide) hd
    (fun vmx hWx => ⟨rfl, hce, hsl, by show T.heap[a]? = _; rw [eT]; exact e1, by show T.heap[_]? = _; rw [eT]; exact v5⟩)
  dsimp only [Pt.U, Pt.locs, Pt.cells, Pt.slots] at X9 hL9 hc9 hn9 come
  subst hv9 hL9 hc9 hn9
  refine ⟨T9, _, ?_, X9.mono (Nat.le_refl _) (Nat.add_le_add_left hn _), fun target q => come.trans q⟩
  intro y hy
  simp only [List.mem_cons, List.not_mem_nil, or_false] at hy
  rcases hy with rfl | rfl | rfl
  · exact ⟨("backtrace", obD), _, by simp [sixNames], ⟨_, _, _, yB⟩, rfl⟩
  · exact ⟨("depth", "I"), _, by simp [sixNames], ⟨_, _, _, yD⟩, rfl⟩
  · exact ⟨("stackTrace", steD), _, by simp [sixNames], ⟨_, _, _, hS⟩, rfl⟩
theorem own_al (hZ : Z.Warmed39 s.vm) {a : Addr} {L : List Loc} (hL : ∀ y ∈ L, Six s a y) : ∀ y ∈ ([] ++ [(⟨a, slotOf Z tN "cause" thD⟩ : Loc)] ++ [⟨a, slotOf Z tN "stackTrace" steD⟩] ++ [⟨a, slotOf Z tN "suppressedExceptions" listD⟩]) ++ L, ∃ nd ∈ sixNames, y = ⟨a, slotOf Z tN nd.1 nd.2⟩ := by
  intro y hy
  rcases List.mem_append.mp hy with hy | hy
  · simp only [List.nil_append, List.mem_append, List.mem_singleton] at hy
    rcases hy with (rfl | rfl) | rfl
    · exact ⟨("cause", thD), by simp [sixNames], rfl⟩
    · exact ⟨("stackTrace", steD), by simp [sixNames], rfl⟩
    · exact ⟨("suppressedExceptions", listD), by simp [sixNames], rfl⟩
  · exact six_slot hZ (hL y hy)
theorem own_kp (X : Stand p l e R s m args below meth c T locs cells slots) (hh : s.heap = h0) {a : Addr} (hL : ∀ y ∈ locs, ∃ nd ∈ sixNames, y = ⟨a, slotOf Z tN nd.1 nd.2⟩) : Kp Z h0 T.heap a := by
  subst hh
  obtain ⟨-, q2, -, -, -, q6⟩ := X.same
  refine ⟨q2, fun y cy hy => ?_⟩
  obtain ⟨c', r1, r2, r3, r4⟩ := q6 y cy hy
  refine ⟨c', r1, r2, r3, fun ne => ?_, fun i hi => r4 i fun hm => ?_⟩
  · have e : c'.slots = cy.slots := Array.ext_getElem? fun i => r4 i fun hm => by
      obtain ⟨nd, -, q⟩ := hL _ hm
      exact ne (congrArg Loc.base q)
    rw [r2, e]
  · obtain ⟨nd, z1, z2⟩ := hL _ hm
    exact hi nd z1 (congrArg Loc.slot z2).symm
end OwnThrow
end Jvm.RoadKit
namespace Jvm.Pilot.@@N@@
open Jvm Jvm.ClassFile Sem Op Lib Jvm.Free Jvm.Stand Jvm.LawKit Jvm.RoadKit Bundle Jvm.Pilot.@@N@@.Jvm.D
theorem own_fld {args : Array Value} {s : State} {t u : Term} {C n d : String} {a : Addr} {z : Int32} (ev : t.eval args s none [] s = some (.ref a)) (hu : u.eval args s none [] s = some (.int z)) (h : (Jvm.Cond.eq (Term.field t C n d) u).value args s none s [] = some true) : Fld s s.heap a C n d (.int z) := by
  obtain ⟨x, y, h1, h2, -, k2⟩ := cmp_v (Or.inl h)
  rw [hu] at h2
  cases h2
  obtain ⟨x', rfl⟩ := k2
  have e2 : x' = z := gotT (P := x' = z) (by simp [Cond.value, h1, hu]) h
  subst e2
  rw [fld_at ev] at h1
  exact Fld.start h1
theorem own_c255 (x : Int32) : nar .char ((x &&& (255 : Int32)).toUInt32.toUInt16.toUInt32.toInt32) = (x &&& (255 : Int32)).toUInt32.toUInt16.toUInt32.toInt32 := by
  show ((x &&& (255 : Int32)).toUInt32.toUInt16.toUInt32.toInt32).toUInt32.toUInt16.toUInt32.toInt32 = _
  rw [i2c_mask, i2c_mask]
theorem own_r255 (x : Int32) : ¬ ((x &&& (255 : Int32)).toUInt32.toUInt16.toUInt32.toInt32) < 0 ∧ ¬ (255 : Int32) < ((x &&& (255 : Int32)).toUInt32.toUInt16.toUInt32.toInt32) := by
  rw [i2c_mask]
  have h := c_and x 255 (by decide)
  have e : (255 : Int32).toInt = 255 := rfl
  have e0 : (0 : Int32).toInt = 0 := rfl
  constructor <;> rw [Int32.lt_iff_toInt_lt] <;> omega
theorem own_ne0 {args : Array Value} {s : State} {t : Term} {z : Int32} (ev : t.eval args s none [] s = some (.int z)) (h : (Jvm.Cond.not (Jvm.Cond.eq t (Term.int (0 : Int32)))).value args s none s [] = some true) : ¬ z = 0 := by
  have h2 := not_v h
  exact gotF (P := z = 0) (by simp [Cond.value, ev, Term.eval]) h2
theorem own_fitr {n : String} {v : Value} (h : v.isRef = true) : fits (.object n) v = true := by rcases ref_cases h with rfl | ⟨x, rfl⟩ <;> rfl
theorem own_narr {n : String} {v : Value} (h : v.isRef = true) : narrow (.object n) v = v := by rcases ref_cases h with rfl | ⟨x, rfl⟩ <;> rfl
theorem own_fita {t : FieldType} {v : Value} (h : v.isRef = true) : fits (.array t) v = true := by rcases ref_cases h with rfl | ⟨x, rfl⟩ <;> rfl
theorem own_nara {t : FieldType} {v : Value} (h : v.isRef = true) : narrow (.array t) v = v := by rcases ref_cases h with rfl | ⟨x, rfl⟩ <;> rfl
theorem own_atw : ∀ d ∈ own_at "com/example/net_thirty/netthirty/invoice/DiscountTooLargeException", d ∈ tables_1 := by decide +kernel
theorem oW {Z : State} {a0 : Array Value} (hw : ∀ d ∈ tables_1, d.before a0 Z = true) (i : Nat) {d : Jvm.Cond} (h : tables_1[i]? = some d) : d.before a0 Z = true := hw _ (List.mem_of_getElem? h)
theorem mW {Z s : State} {a0 args : Array Value} (hZ : Z.Warmed39 s.vm) (hw : ∀ d ∈ tables_1, d.before a0 Z = true) (i : Nat) {d : Jvm.Cond} (h : tables_1[i]? = some d) (hc : (d.onTables && d.keepsFace) = true := by rfl) : d.before args s = true := mvT hZ (oW hw i h) hc
abbrev B1_ := jdk_78_method_2_code
abbrev B2_ := jdk_59_method_2_code
abbrev B3_ := jdk_58_method_2_code
abbrev B4_ := jdk_57_method_2_code
abbrev B5_ := prog_17_method_1_code
abbrev B6_ := jdk_2649_method_3_code
abbrev B7_ := jdk_2649_method_4_code
abbrev B8_ := jdk_2649_method_2_code
abbrev B9_ := prog_17_method_2_code
abbrev B10_ := jdk_2649_method_6_code
abbrev B11_ := jdk_2649_method_5_code
abbrev mn1 : MethodName := ⟨"java/lang/Throwable", "<init>", "(Ljava/lang/String;)V"⟩
abbrev mn2 : MethodName := ⟨"java/lang/Exception", "<init>", "(Ljava/lang/String;)V"⟩
abbrev mn3 : MethodName := ⟨"java/lang/RuntimeException", "<init>", "(Ljava/lang/String;)V"⟩
abbrev mn4 : MethodName := ⟨"java/lang/IllegalArgumentException", "<init>", "(Ljava/lang/String;)V"⟩
abbrev mn5 : MethodName := ⟨"com/example/net_thirty/netthirty/invoice/DiscountTooLargeException", "<init>", "(ILjava/lang/String;)V"⟩
abbrev mn6 : MethodName := ⟨"java/util/OptionalInt", "<init>", "(I)V"⟩
abbrev mn7 : MethodName := ⟨"java/util/OptionalInt", "of", "(I)Ljava/util/OptionalInt;"⟩
abbrev mn8 : MethodName := ⟨"java/util/OptionalInt", "empty", "()Ljava/util/OptionalInt;"⟩
abbrev mn9 : MethodName := ⟨"com/example/net_thirty/netthirty/invoice/DiscountTooLargeException", "line", "()Ljava/util/OptionalInt;"⟩
abbrev mn10 : MethodName := ⟨"java/util/OptionalInt", "isPresent", "()Z"⟩
abbrev mn11 : MethodName := ⟨"java/util/OptionalInt", "getAsInt", "()I"⟩
abbrev mn12 : MethodName := ⟨"java/lang/String", "<init>", "([C)V"⟩
set_option maxRecDepth 65536
set_option maxHeartbeats 40000000
section Walks
abbrev HW (a0 : Array Value) (Z : State) : Prop := ∀ d ∈ tables_1, d.before a0 Z = true
variable (l : Launch) (Z : State) (a0 : Array Value)
theorem own_ws : ∀ d ∈ StrChars.Road.words, d ∈ tables_1 := by decide +kernel
theorem own_six {Z : State} {a0 : Array Value} (hw : ∀ d ∈ tables_1, d.before a0 Z = true) : ∀ nd ∈ Jvm.Free.Exc.sixNames, Jvm.RoadKit.slotOf Z tN nd.1 nd.2 ≠ Jvm.RoadKit.slotOf Z "com/example/net_thirty/netthirty/invoice/DiscountTooLargeException" "line" "I" := fun nd hm => by
  have Lf : Laid Z a0 "com/example/net_thirty/netthirty/invoice/DiscountTooLargeException" "com/example/net_thirty/netthirty/invoice/DiscountTooLargeException" "line" "I" := Or.inr (oW hw 97 rfl)
  simp only [Jvm.Free.Exc.sixNames, List.mem_cons, List.not_mem_nil, or_false] at hm
  have hw' := fun d hd => hw d (own_atw d hd)
  rcases hm with rfl | rfl | rfl | rfl | rfl | rfl
  · exact slot_ne (Or.inl (hw' _ (by simp [own_at]))) Lf (by decide) (t := .object tN) (t' := .int) (by decide) (by decide)
  · exact slot_ne (Or.inl (hw' _ (by simp [own_at]))) Lf (by decide) (t := .array (.object "java/lang/StackTraceElement")) (t' := .int) (by decide) (by decide)
  · exact slot_ne (Or.inl (hw' _ (by simp [own_at]))) Lf (by decide) (t := .object "java/util/List") (t' := .int) (by decide) (by decide)
  · exact slot_ne (Or.inl (hw' _ (by simp [own_at]))) Lf (by decide) (t := .object "java/lang/Object") (t' := .int) (by decide) (by decide)
  · exact slot_ne (Or.inl (hw' _ (by simp [own_at]))) Lf (by decide) (t := .int) (t' := .int) (by decide) (by decide)
  · exact slot_ne (Or.inl (hw' _ (by simp [own_at]))) Lf (by decide) (t := .object "java/lang/String") (t' := .int) (by decide) (by decide)

def Q_rmTh (Z : State) (a1 : Addr) (a2 : Addr) (u1 : Value) (us : Value) (ut : Value) (h0 : Heap) (n0 : Nat) (v : Option Value) (h : Heap) (L : List Loc) : Prop := v = none ∧ Fr n0 L ∧ Keep h0 h [a1] ∧ Exa Z h a1 "com/example/net_thirty/netthirty/invoice/DiscountTooLargeException" ∧ Fld Z h a1 "com/example/net_thirty/netthirty/invoice/DiscountTooLargeException" "line" "I" u1
theorem ef_rmTh (m : MethodId) (x0 : Addr) (x1 : Addr) : entryFrame m #[(.ref x0), (.ref x1)] 2 = mkF m 0 #[.val (.ref x0), .val (.ref x1)] [] := by first | (simp [entryFrame, mkF, argsToLocals, Value.category]; done) | rfl
theorem pn_java_lang_Throwable : plainName "java/lang/Throwable" = true := by first | (simp [plainName, overriddenIn]; done) | decide +kernel
theorem d1_0 : decode B1_ 0 = .ok (.aload_n 0, 1) := by decide +kernel
theorem d1_1 : decode B1_ 1 = .ok (.invokespecial 1, 3) := by decide +kernel
theorem d1_4 : decode B1_ 4 = .ok (.aload_n 0, 1) := by decide +kernel
theorem d1_5 : decode B1_ 5 = .ok (.aload_n 0, 1) := by decide +kernel
theorem d1_6 : decode B1_ 6 = .ok (.putfield 7, 3) := by decide +kernel
theorem d1_9 : decode B1_ 9 = .ok (.aload_n 0, 1) := by decide +kernel
theorem d1_10 : decode B1_ 10 = .ok (.getstatic 13, 3) := by decide +kernel
theorem d1_13 : decode B1_ 13 = .ok (.putfield 17, 3) := by decide +kernel
theorem d1_16 : decode B1_ 16 = .ok (.aload_n 0, 1) := by decide +kernel
theorem d1_17 : decode B1_ 17 = .ok (.getstatic 20, 3) := by decide +kernel
theorem d1_20 : decode B1_ 20 = .ok (.putfield 24, 3) := by decide +kernel
theorem d1_23 : decode B1_ 23 = .ok (.aload_n 0, 1) := by decide +kernel
theorem d1_24 : decode B1_ 24 = .ok (.invokevirtual 27, 3) := by decide +kernel
theorem d1_27 : decode B1_ 27 = .ok (.pop, 1) := by decide +kernel
theorem d1_28 : decode B1_ 28 = .ok (.aload_n 0, 1) := by decide +kernel
theorem d1_29 : decode B1_ 29 = .ok (.aload_n 1, 1) := by decide +kernel
theorem d1_30 : decode B1_ 30 = .ok (.putfield 31, 3) := by decide +kernel
theorem d1_33 : decode B1_ 33 = .ok (.return_, 1) := by decide +kernel
theorem rmTh (hw : HW a0 Z) (ws : List Jvm.Cond) (a1 : Addr) (a2 : Addr) (u1 : Value) (us : Value) (ut : Value) (h0 : Heap) (n0 : Nat) (Z0 : n0 ≤ h0.size) (E1 : Exa Z h0 a1 "com/example/net_thirty/netthirty/invoice/DiscountTooLargeException") (F1 : Fld Z h0 a1 "com/example/net_thirty/netthirty/invoice/DiscountTooLargeException" "line" "I" u1) (B1 : Fld Z h0 a1 "java/lang/Throwable" "backtrace" "Ljava/lang/Object;" .null) (B2 : Fld Z h0 a1 "java/lang/Throwable" "detailMessage" "Ljava/lang/String;" .null) (B3 : Fld Z h0 a1 "java/lang/Throwable" "cause" "Ljava/lang/Throwable;" .null) (B4 : Fld Z h0 a1 "java/lang/Throwable" "stackTrace" "[Ljava/lang/StackTraceElement;" .null) (B5 : Fld Z h0 a1 "java/lang/Throwable" "suppressedExceptions" "Ljava/util/List;" .null) (Y1 : Unt h0 a1) (O1 : Old Z n0 h0) (S2 : Sta Z Z.heap "java/lang/Throwable" "UNASSIGNED_STACK" "[Ljava/lang/StackTraceElement;" us) (S3 : Sta Z Z.heap "java/lang/Throwable" "SUPPRESSED_SENTINEL" "Ljava/util/List;" ut) (g1 : n0 ≤ a1) (hl : l.stackTraces = true) (hus : us.isRef = true) (hut : ut.isRef = true) :
    MetFree l mn1 (head1 (Jvm.Cond.code mn1 jdk_78_method_2_code 2 none :: ws) (rM 3 1 2752 42)) (fun a U => a = #[(.ref a1), (.ref a2)] ∧ Z.Warmed39 U.vm ∧ U.heap = h0) (fun _ _ bl s _ => s.vm.MethodsKnown ∧ s.vm.FramesKnown bl) (fun _ U o U' => ∃ v L, o = .returned v ∧ Q_rmTh Z a1 a2 u1 us ut h0 n0 v U'.heap L ∧ FrameEnd U o U' L (rM 3 1 2752 42).cells (rM 3 1 2752 42).slots) := by
 refine MetFree.of_bodySF (plainFor_of_name pn_java_lang_Throwable) hisR ?_
 intro p e s m args below meth c s₁ Bd hml0 hP hK
 obtain ⟨rfl, hZ, hh⟩ := hP
 have hx := Bd.exec
 have hby := Bd.bytes
 have hlk := BodyLoose.notSynchronized Bd
 have hml : c.maxLocals = 2 := hml0
 have hown : s.vm.findClass "java/lang/Throwable" = some m.cls := findClass_of_methodNamed Bd.named
 have hnm := (name_of_methodNamed Bd.named Bd.method).1
 have X0 : Stand p l e (rM 3 1 2752 42) s m #[(.ref a1), (.ref a2)] below meth c s₁ [] 0 0 := Stand.of_body Bd
 have e0 : s₁.heap = h0 := by rw [← hh, Bd.state]; rfl
 have N0 := Fr.nil n0
 have K0 := Keep.refl h0 [a1]
 skip
 show Wk p e below (EndN s (Q_rmTh Z a1 a2 u1 us ut h0 n0) (rM 3 1 2752 42).cells (rM 3 1 2752 42).slots) s₁ (entryFrame m #[(.ref a1), (.ref a2)] 2)
 rw [ef_rmTh]
 have hD := fun {pc : Nat} {i : _} (q : decode jdk_78_method_2_code pc = i) => hb hby q
 have lt_E1 := ny E1.lt
 have lt_F1 := ny F1.lt
 have lt_B1 := ny B1.lt
 have lt_B2 := ny B2.lt
 have lt_B3 := ny B3.lt
 have lt_B4 := ny B4.lt
 have lt_B5 := ny B5.lt
 refine Wk.aloadN X0 hx (hD d1_0) (n := 1) rfl rfl rfl ?_
 refine Wk.initO X0 hx hZ hown (oW hw 59 rfl) (oW hw 12 rfl) (oW hw 13 rfl) e0 (by rw [hml]; rfl) (hD d1_1) (n := 4) rfl (by decide) (w := 0) (Nat.le_of_eq rfl) (by decide) fun T1 X1 e1 => ?_
 refine Wk.aloadN X1 hx (hD d1_4) (n := 5) rfl rfl rfl ?_
 refine Wk.aloadN X1 hx (hD d1_5) (n := 6) rfl rfl rfl ?_
 refine Wk.putF X1 hx hZ hown (host := "") (Or.inl (oW hw 60 rfl)) Via.refl e1 B3 E1 (Or.inl (oW hw 61 rfl)) (oW hw 31 rfl) (ty := (.object "java/lang/Throwable")) (by decide) rfl rfl (hD d1_6) (n := 9) rfl fun T2 H2 X2 e2 Wn2 => ?_
 have sz2 := Wn2.size
 have Fn2 := B3.same Wn2
 have K2 := K0.wr Wn2 (Or.inl (List.mem_of_getElem? (i := 0) rfl))
 have N2 := Fr.snoc X2 N0 (by omega)
 refine Wk.aloadN X2 hx (hD d1_9) (n := 10) rfl rfl rfl ?_
 have f3 := (O1.wr Wn2 (by omega))
 refine Wk.getS X2 hx hZ hown (host := "") (Or.inl (oW hw 62 rfl)) Via.refl e2 (Sta.ext f3.2 S2) (hD d1_10) (n := 13) rfl fun T4 X4 e4 => ?_
 have f5 := (B4.other Wn2 (Or.inr (slot_ne (Or.inl (oW hw 64 rfl)) (Or.inl (oW hw 61 rfl)) (by decide) (t := (.array (.object "java/lang/StackTraceElement"))) (t' := (.object "java/lang/Throwable")) (by decide) (by decide))))
 have f6 := (E1.wr Wn2)
 refine Wk.putF X4 hx hZ hown (host := "") (Or.inl (oW hw 63 rfl)) Via.refl e4 f5 f6 (Or.inl (oW hw 64 rfl)) (oW hw 31 rfl) (ty := (.array (.object "java/lang/StackTraceElement"))) (by decide) (own_nara hus) (own_fita hus) (hD d1_13) (n := 16) rfl fun T7 H7 X7 e7 Wn7 => ?_
 have sz7 := Wn7.size
 have Fn7 := f5.same Wn7
 have K7 := K2.wr Wn7 (Or.inl (List.mem_of_getElem? (i := 0) rfl))
 have N7 := Fr.snoc X7 N2 (by omega)
 refine Wk.aloadN X7 hx (hD d1_16) (n := 17) rfl rfl rfl ?_
 have f8 := (f3.wr Wn7 (by omega))
 refine Wk.getS X7 hx hZ hown (host := "") (Or.inl (oW hw 65 rfl)) Via.refl e7 (Sta.ext f8.2 S3) (hD d1_17) (n := 20) rfl fun T9 X9 e9 => ?_
 have f10 := ((B5.other Wn2 (Or.inr (slot_ne (Or.inl (oW hw 67 rfl)) (Or.inl (oW hw 61 rfl)) (by decide) (t := (.object "java/util/List")) (t' := (.object "java/lang/Throwable")) (by decide) (by decide)))).other Wn7 (Or.inr (slot_ne (Or.inl (oW hw 67 rfl)) (Or.inl (oW hw 64 rfl)) (by decide) (t := (.object "java/util/List")) (t' := (.array (.object "java/lang/StackTraceElement"))) (by decide) (by decide))))
 have f11 := (f6.wr Wn7)
 refine Wk.putF X9 hx hZ hown (host := "") (Or.inl (oW hw 66 rfl)) Via.refl e9 f10 f11 (Or.inl (oW hw 67 rfl)) (oW hw 31 rfl) (ty := (.object "java/util/List")) (by decide) (own_narr hut) (own_fitr hut) (hD d1_20) (n := 23) rfl fun T12 H12 X12 e12 Wn12 => ?_
 have sz12 := Wn12.size
 have Fn12 := f10.same Wn12
 have K12 := K7.wr Wn12 (Or.inl (List.mem_of_getElem? (i := 0) rfl))
 have N12 := Fr.snoc X12 N7 (by omega)
 refine Wk.aloadN X12 hx (hD d1_23) (n := 24) rfl rfl rfl ?_
 have f14 := (f11.wr Wn12)
 have f15 := (Unt.wr Wn12 (Unt.wr Wn7 (Unt.wr Wn2 Y1)))
 have f16 := (((B1.other Wn2 (Or.inr (slot_ne (Or.inl (oW hw 92 rfl)) (Or.inl (oW hw 61 rfl)) (by decide) (t := (.object "java/lang/Object")) (t' := (.object "java/lang/Throwable")) (by decide) (by decide)))).other Wn7 (Or.inr (slot_ne (Or.inl (oW hw 92 rfl)) (Or.inl (oW hw 64 rfl)) (by decide) (t := (.object "java/lang/Object")) (t' := (.array (.object "java/lang/StackTraceElement"))) (by decide) (by decide)))).other Wn12 (Or.inr (slot_ne (Or.inl (oW hw 92 rfl)) (Or.inl (oW hw 67 rfl)) (by decide) (t := (.object "java/lang/Object")) (t' := (.object "java/util/List")) (by decide) (by decide))))
 have f17 := (Fn7.other Wn12 (Or.inr (slot_ne (Or.inl (oW hw 64 rfl)) (Or.inl (oW hw 67 rfl)) (by decide) (t := (.array (.object "java/lang/StackTraceElement"))) (t' := (.object "java/util/List")) (by decide) (by decide))))
 have f18 := (f8.wr Wn12 (by omega))
 have hT0 : ThS Z s.heap := by rw [hh]; exact ThS.ext O1.2 ThS.start
 have cl13_ := fun (Ls : Array Slot) (hLs : Ls.size = c.maxLocals) => own_fill X12 hx hl hZ hown (rc := "com/example/net_thirty/netthirty/invoice/DiscountTooLargeException") (fun d hd => hw d (own_atw d hd)) hT0 hK.1 hK.2 e12 (oW hw 31 rfl) f14 f15 f16 hus f17 (Sta.ext f18.2 S2) hLs (hD d1_24) (by decide) (by decide) (by decide) (by decide)
 obtain ⟨T13, L13, hL13, X13, st13⟩ := cl13_ #[.val (.ref a1), .val (.ref a2)] (by rw [hml]; rfl)
 refine Wk.go st13 ?_
 clear st13 cl13_
 have Al13 := own_al hZ hL13
 have Kp13 := own_kp X13 hh Al13
 have K13 := keep_of_kp Kp13
 have N13 : Fr n0 _ := fun y hy => by obtain ⟨nd, -, rfl⟩ := Al13 y hy; exact g1
 have sz13 := K13.1
 have An13 := E1.kp Kp13
 have Yn13 := Y1.kp Kp13
 have Fn13 := F1.kp Kp13 (Or.inr (own_six hw))
 obtain ⟨vd13, Fd13⟩ := fld_laid An13 (Unt.known Yn13) (oW hw 31 rfl) (Or.inl (oW hw 91 rfl))
 have Ol13 := O1.keep K13 (allS (by omega) all0)
 show Wk p e below _ T13 (mkF m 27 _ [.ref a1])
 refine Wk.pop X13 hx (hD d1_27) (n := 28) rfl rfl ?_
 refine Wk.aloadN X13 hx (hD d1_28) (n := 29) rfl rfl rfl ?_
 refine Wk.aloadN X13 hx (hD d1_29) (n := 30) rfl rfl rfl ?_
 refine Wk.putF X13 hx hZ hown (host := "") (Or.inl (oW hw 95 rfl)) Via.refl rfl Fd13 An13 (Or.inl (oW hw 91 rfl)) (oW hw 31 rfl) (ty := (.object "java/lang/String")) (by decide) rfl rfl (hD d1_30) (n := 33) rfl fun T19 H19 X19 e19 Wn19 => ?_
 have sz19 := Wn19.size
 have Fn19 := Fd13.same Wn19
 have K19 := K13.wr Wn19 (Or.inl (List.mem_of_getElem? (i := 0) rfl))
 have N19 := Fr.snoc X19 N13 (by omega)
 have f20 := (An13.wr Wn19)
 have f21 := (Fn13.other Wn19 (Or.inr (slot_ne (Or.inr (oW hw 97 rfl)) (Or.inl (oW hw 91 rfl)) (by decide) (t := .int) (t' := (.object "java/lang/String")) (by decide) (by decide))))
 exact Wk.leave X19 (v := none) (fun _ => rfl) hlk e19 ⟨rfl, N19, K19, f20, f21⟩ (by decide) (by decide) (fun fs hr => X19.returnOut hx Bd.returns (hD d1_33) hr)
def Q_rmEx (Z : State) (a1 : Addr) (a2 : Addr) (u1 : Value) (us : Value) (ut : Value) (h0 : Heap) (n0 : Nat) (v : Option Value) (h : Heap) (L : List Loc) : Prop := v = none ∧ Fr n0 L ∧ Keep h0 h [a1] ∧ Exa Z h a1 "com/example/net_thirty/netthirty/invoice/DiscountTooLargeException" ∧ Fld Z h a1 "com/example/net_thirty/netthirty/invoice/DiscountTooLargeException" "line" "I" u1
theorem ef_rmEx (m : MethodId) (x0 : Addr) (x1 : Addr) : entryFrame m #[(.ref x0), (.ref x1)] 2 = mkF m 0 #[.val (.ref x0), .val (.ref x1)] [] := by first | (simp [entryFrame, mkF, argsToLocals, Value.category]; done) | rfl
theorem pn_java_lang_Exception : plainName "java/lang/Exception" = true := by first | (simp [plainName, overriddenIn]; done) | decide +kernel
theorem d2_0 : decode B2_ 0 = .ok (.aload_n 0, 1) := by decide +kernel
theorem d2_1 : decode B2_ 1 = .ok (.aload_n 1, 1) := by decide +kernel
theorem d2_2 : decode B2_ 2 = .ok (.invokespecial 7, 3) := by decide +kernel
theorem pd_0 : parseMethodDescriptor "(Ljava/lang/String;)V" = some ⟨[(.object "java/lang/String")], none⟩ := by decide +kernel
theorem d2_5 : decode B2_ 5 = .ok (.return_, 1) := by decide +kernel
theorem rmEx (hw : HW a0 Z) (ws : List Jvm.Cond) (a1 : Addr) (a2 : Addr) (u1 : Value) (us : Value) (ut : Value) (h0 : Heap) (n0 : Nat) (Z0 : n0 ≤ h0.size) (E1 : Exa Z h0 a1 "com/example/net_thirty/netthirty/invoice/DiscountTooLargeException") (F1 : Fld Z h0 a1 "com/example/net_thirty/netthirty/invoice/DiscountTooLargeException" "line" "I" u1) (B1 : Fld Z h0 a1 "java/lang/Throwable" "backtrace" "Ljava/lang/Object;" .null) (B2 : Fld Z h0 a1 "java/lang/Throwable" "detailMessage" "Ljava/lang/String;" .null) (B3 : Fld Z h0 a1 "java/lang/Throwable" "cause" "Ljava/lang/Throwable;" .null) (B4 : Fld Z h0 a1 "java/lang/Throwable" "stackTrace" "[Ljava/lang/StackTraceElement;" .null) (B5 : Fld Z h0 a1 "java/lang/Throwable" "suppressedExceptions" "Ljava/util/List;" .null) (Y1 : Unt h0 a1) (O1 : Old Z n0 h0) (S2 : Sta Z Z.heap "java/lang/Throwable" "UNASSIGNED_STACK" "[Ljava/lang/StackTraceElement;" us) (S3 : Sta Z Z.heap "java/lang/Throwable" "SUPPRESSED_SENTINEL" "Ljava/util/List;" ut) (g1 : n0 ≤ a1) (hl : l.stackTraces = true) (hus : us.isRef = true) (hut : ut.isRef = true) :
    MetFree l mn2 (head1 (Jvm.Cond.code mn2 jdk_59_method_2_code 2 none :: ws) (rM 4 1 2752 55)) (fun a U => a = #[(.ref a1), (.ref a2)] ∧ Z.Warmed39 U.vm ∧ U.heap = h0) (fun _ _ bl s _ => s.vm.MethodsKnown ∧ s.vm.FramesKnown bl) (fun _ U o U' => ∃ v L, o = .returned v ∧ Q_rmEx Z a1 a2 u1 us ut h0 n0 v U'.heap L ∧ FrameEnd U o U' L (rM 4 1 2752 55).cells (rM 4 1 2752 55).slots) := by
 refine MetFree.of_bodySF (plainFor_of_name pn_java_lang_Exception) hisR ?_
 intro p e s m args below meth c s₁ Bd hml0 hP hK
 obtain ⟨rfl, hZ, hh⟩ := hP
 have hx := Bd.exec
 have hby := Bd.bytes
 have hlk := BodyLoose.notSynchronized Bd
 have hml : c.maxLocals = 2 := hml0
 have hown : s.vm.findClass "java/lang/Exception" = some m.cls := findClass_of_methodNamed Bd.named
 have hnm := (name_of_methodNamed Bd.named Bd.method).1
 have X0 : Stand p l e (rM 4 1 2752 55) s m #[(.ref a1), (.ref a2)] below meth c s₁ [] 0 0 := Stand.of_body Bd
 have e0 : s₁.heap = h0 := by rw [← hh, Bd.state]; rfl
 have N0 := Fr.nil n0
 have K0 := Keep.refl h0 [a1]
 clear hh
 show Wk p e below (EndN s (Q_rmEx Z a1 a2 u1 us ut h0 n0) (rM 4 1 2752 55).cells (rM 4 1 2752 55).slots) s₁ (entryFrame m #[(.ref a1), (.ref a2)] 2)
 rw [ef_rmEx]
 have hD := fun {pc : Nat} {i : _} (q : decode jdk_59_method_2_code pc = i) => hb hby q
 have lt_E1 := ny E1.lt
 have lt_F1 := ny F1.lt
 have lt_B1 := ny B1.lt
 have lt_B2 := ny B2.lt
 have lt_B3 := ny B3.lt
 have lt_B4 := ny B4.lt
 have lt_B5 := ny B5.lt
 refine Wk.aloadN X0 hx (hD d2_0) (n := 1) rfl rfl rfl ?_
 refine Wk.aloadN X0 hx (hD d2_1) (n := 2) rfl rfl rfl ?_
 have cl1_ := fun Ls (hLs : LsOk c Ls) => X0.specialBack hx (y := mn1) rfl hown (mW hZ hw 53 rfl) (mW hZ hw 54 rfl) (mW hZ hw 58 rfl) (by decide) (backOfKL (W := 0) (rmTh l Z a0 hw [] a1 a2 u1 us ut h0 n0 (by omega) E1 F1 B1 B2 B3 B4 B5 Y1 O1 S2 S3 (by omega) hl hus hut) hZ (oW hw 58 rfl) (oW hw 57 rfl) (by decide) (by decide) hK.1 hK.2) (g := mkF m 2 Ls [(.ref a2), (.ref a1)]) rfl hLs (Steps.refl _) (a := a1) (argsL := [(.ref a2)]) (rest := []) (lenOf pd_0 rfl) rfl (leq0 rfl) (hD d2_2) (fun _ _ => ⟨rfl, e0, (by decide : 0 + 1 ≤ _), (by decide : 0 + 2752 ≤ _)⟩)
 refine Wk.back (n := 5) (rc := 1) (rs := 2752) (Q := Q_rmTh Z a1 a2 u1 us ut h0 n0) (cl1_ _ (lsok hml rfl)) fun vn1 T1 L1 X1 hQ1 => ?_
 clear cl1_
 obtain ⟨rfl, M1, J1, p1_0, p1_1⟩ := hQ1
 have N1 := Fr.app N0 M1
 have sz1 := J1.1
 have K1 := K0.trans J1 (allS (Or.inl (List.mem_of_getElem? (i := 0) rfl)) all0)
 have lt_p1_0 := ny p1_0.lt
 show Wk p e below _ T1 (mkF m 5 _ [])
 exact Wk.leave X1 (v := none) (fun _ => rfl) hlk rfl ⟨rfl, N1, K1, p1_0, p1_1⟩ (by decide) (by decide) (fun fs hr => X1.returnOut hx Bd.returns (hD d2_5) hr)
def Q_rmRE (Z : State) (a1 : Addr) (a2 : Addr) (u1 : Value) (us : Value) (ut : Value) (h0 : Heap) (n0 : Nat) (v : Option Value) (h : Heap) (L : List Loc) : Prop := v = none ∧ Fr n0 L ∧ Keep h0 h [a1] ∧ Exa Z h a1 "com/example/net_thirty/netthirty/invoice/DiscountTooLargeException" ∧ Fld Z h a1 "com/example/net_thirty/netthirty/invoice/DiscountTooLargeException" "line" "I" u1
theorem ef_rmRE (m : MethodId) (x0 : Addr) (x1 : Addr) : entryFrame m #[(.ref x0), (.ref x1)] 2 = mkF m 0 #[.val (.ref x0), .val (.ref x1)] [] := by first | (simp [entryFrame, mkF, argsToLocals, Value.category]; done) | rfl
theorem pn_java_lang_RuntimeException : plainName "java/lang/RuntimeException" = true := by first | (simp [plainName, overriddenIn]; done) | decide +kernel
theorem d3_0 : decode B3_ 0 = .ok (.aload_n 0, 1) := by decide +kernel
theorem d3_1 : decode B3_ 1 = .ok (.aload_n 1, 1) := by decide +kernel
theorem d3_2 : decode B3_ 2 = .ok (.invokespecial 7, 3) := by decide +kernel
theorem d3_5 : decode B3_ 5 = .ok (.return_, 1) := by decide +kernel
theorem rmRE (hw : HW a0 Z) (ws : List Jvm.Cond) (a1 : Addr) (a2 : Addr) (u1 : Value) (us : Value) (ut : Value) (h0 : Heap) (n0 : Nat) (Z0 : n0 ≤ h0.size) (E1 : Exa Z h0 a1 "com/example/net_thirty/netthirty/invoice/DiscountTooLargeException") (F1 : Fld Z h0 a1 "com/example/net_thirty/netthirty/invoice/DiscountTooLargeException" "line" "I" u1) (B1 : Fld Z h0 a1 "java/lang/Throwable" "backtrace" "Ljava/lang/Object;" .null) (B2 : Fld Z h0 a1 "java/lang/Throwable" "detailMessage" "Ljava/lang/String;" .null) (B3 : Fld Z h0 a1 "java/lang/Throwable" "cause" "Ljava/lang/Throwable;" .null) (B4 : Fld Z h0 a1 "java/lang/Throwable" "stackTrace" "[Ljava/lang/StackTraceElement;" .null) (B5 : Fld Z h0 a1 "java/lang/Throwable" "suppressedExceptions" "Ljava/util/List;" .null) (Y1 : Unt h0 a1) (O1 : Old Z n0 h0) (S2 : Sta Z Z.heap "java/lang/Throwable" "UNASSIGNED_STACK" "[Ljava/lang/StackTraceElement;" us) (S3 : Sta Z Z.heap "java/lang/Throwable" "SUPPRESSED_SENTINEL" "Ljava/util/List;" ut) (g1 : n0 ≤ a1) (hl : l.stackTraces = true) (hus : us.isRef = true) (hut : ut.isRef = true) :
    MetFree l mn3 (head1 (Jvm.Cond.code mn3 jdk_58_method_2_code 2 none :: ws) (rM 5 1 2752 68)) (fun a U => a = #[(.ref a1), (.ref a2)] ∧ Z.Warmed39 U.vm ∧ U.heap = h0) (fun _ _ bl s _ => s.vm.MethodsKnown ∧ s.vm.FramesKnown bl) (fun _ U o U' => ∃ v L, o = .returned v ∧ Q_rmRE Z a1 a2 u1 us ut h0 n0 v U'.heap L ∧ FrameEnd U o U' L (rM 5 1 2752 68).cells (rM 5 1 2752 68).slots) := by
 refine MetFree.of_bodySF (plainFor_of_name pn_java_lang_RuntimeException) hisR ?_
 intro p e s m args below meth c s₁ Bd hml0 hP hK
 obtain ⟨rfl, hZ, hh⟩ := hP
 have hx := Bd.exec
 have hby := Bd.bytes
 have hlk := BodyLoose.notSynchronized Bd
 have hml : c.maxLocals = 2 := hml0
 have hown : s.vm.findClass "java/lang/RuntimeException" = some m.cls := findClass_of_methodNamed Bd.named
 have hnm := (name_of_methodNamed Bd.named Bd.method).1
 have X0 : Stand p l e (rM 5 1 2752 68) s m #[(.ref a1), (.ref a2)] below meth c s₁ [] 0 0 := Stand.of_body Bd
 have e0 : s₁.heap = h0 := by rw [← hh, Bd.state]; rfl
 have N0 := Fr.nil n0
 have K0 := Keep.refl h0 [a1]
 clear hh
 show Wk p e below (EndN s (Q_rmRE Z a1 a2 u1 us ut h0 n0) (rM 5 1 2752 68).cells (rM 5 1 2752 68).slots) s₁ (entryFrame m #[(.ref a1), (.ref a2)] 2)
 rw [ef_rmRE]
 have hD := fun {pc : Nat} {i : _} (q : decode jdk_58_method_2_code pc = i) => hb hby q
 have lt_E1 := ny E1.lt
 have lt_F1 := ny F1.lt
 have lt_B1 := ny B1.lt
 have lt_B2 := ny B2.lt
 have lt_B3 := ny B3.lt
 have lt_B4 := ny B4.lt
 have lt_B5 := ny B5.lt
 refine Wk.aloadN X0 hx (hD d3_0) (n := 1) rfl rfl rfl ?_
 refine Wk.aloadN X0 hx (hD d3_1) (n := 2) rfl rfl rfl ?_
 have cl1_ := fun Ls (hLs : LsOk c Ls) => X0.specialBack hx (y := mn2) rfl hown (mW hZ hw 47 rfl) (mW hZ hw 48 rfl) (mW hZ hw 52 rfl) (by decide) (backOfKL (W := 0) (rmEx l Z a0 hw [] a1 a2 u1 us ut h0 n0 (by omega) E1 F1 B1 B2 B3 B4 B5 Y1 O1 S2 S3 (by omega) hl hus hut) hZ (oW hw 52 rfl) (oW hw 51 rfl) (by decide) (by decide) hK.1 hK.2) (g := mkF m 2 Ls [(.ref a2), (.ref a1)]) rfl hLs (Steps.refl _) (a := a1) (argsL := [(.ref a2)]) (rest := []) (lenOf pd_0 rfl) rfl (leq0 rfl) (hD d3_2) (fun _ _ => ⟨rfl, e0, (by decide : 0 + 1 ≤ _), (by decide : 0 + 2752 ≤ _)⟩)
 refine Wk.back (n := 5) (rc := 1) (rs := 2752) (Q := Q_rmEx Z a1 a2 u1 us ut h0 n0) (cl1_ _ (lsok hml rfl)) fun vn1 T1 L1 X1 hQ1 => ?_
 clear cl1_
 obtain ⟨rfl, M1, J1, p1_0, p1_1⟩ := hQ1
 have N1 := Fr.app N0 M1
 have sz1 := J1.1
 have K1 := K0.trans J1 (allS (Or.inl (List.mem_of_getElem? (i := 0) rfl)) all0)
 have lt_p1_0 := ny p1_0.lt
 show Wk p e below _ T1 (mkF m 5 _ [])
 exact Wk.leave X1 (v := none) (fun _ => rfl) hlk rfl ⟨rfl, N1, K1, p1_0, p1_1⟩ (by decide) (by decide) (fun fs hr => X1.returnOut hx Bd.returns (hD d3_5) hr)
def Q_rmIA (Z : State) (a1 : Addr) (a2 : Addr) (u1 : Value) (us : Value) (ut : Value) (h0 : Heap) (n0 : Nat) (v : Option Value) (h : Heap) (L : List Loc) : Prop := v = none ∧ Fr n0 L ∧ Keep h0 h [a1] ∧ Exa Z h a1 "com/example/net_thirty/netthirty/invoice/DiscountTooLargeException" ∧ Fld Z h a1 "com/example/net_thirty/netthirty/invoice/DiscountTooLargeException" "line" "I" u1
theorem ef_rmIA (m : MethodId) (x0 : Addr) (x1 : Addr) : entryFrame m #[(.ref x0), (.ref x1)] 2 = mkF m 0 #[.val (.ref x0), .val (.ref x1)] [] := by first | (simp [entryFrame, mkF, argsToLocals, Value.category]; done) | rfl
theorem pn_java_lang_IllegalArgumentException : plainName "java/lang/IllegalArgumentException" = true := by first | (simp [plainName, overriddenIn]; done) | decide +kernel
theorem d4_0 : decode B4_ 0 = .ok (.aload_n 0, 1) := by decide +kernel
theorem d4_1 : decode B4_ 1 = .ok (.aload_n 1, 1) := by decide +kernel
theorem d4_2 : decode B4_ 2 = .ok (.invokespecial 7, 3) := by decide +kernel
theorem d4_5 : decode B4_ 5 = .ok (.return_, 1) := by decide +kernel
theorem rmIA (hw : HW a0 Z) (ws : List Jvm.Cond) (a1 : Addr) (a2 : Addr) (u1 : Value) (us : Value) (ut : Value) (h0 : Heap) (n0 : Nat) (Z0 : n0 ≤ h0.size) (E1 : Exa Z h0 a1 "com/example/net_thirty/netthirty/invoice/DiscountTooLargeException") (F1 : Fld Z h0 a1 "com/example/net_thirty/netthirty/invoice/DiscountTooLargeException" "line" "I" u1) (B1 : Fld Z h0 a1 "java/lang/Throwable" "backtrace" "Ljava/lang/Object;" .null) (B2 : Fld Z h0 a1 "java/lang/Throwable" "detailMessage" "Ljava/lang/String;" .null) (B3 : Fld Z h0 a1 "java/lang/Throwable" "cause" "Ljava/lang/Throwable;" .null) (B4 : Fld Z h0 a1 "java/lang/Throwable" "stackTrace" "[Ljava/lang/StackTraceElement;" .null) (B5 : Fld Z h0 a1 "java/lang/Throwable" "suppressedExceptions" "Ljava/util/List;" .null) (Y1 : Unt h0 a1) (O1 : Old Z n0 h0) (S2 : Sta Z Z.heap "java/lang/Throwable" "UNASSIGNED_STACK" "[Ljava/lang/StackTraceElement;" us) (S3 : Sta Z Z.heap "java/lang/Throwable" "SUPPRESSED_SENTINEL" "Ljava/util/List;" ut) (g1 : n0 ≤ a1) (hl : l.stackTraces = true) (hus : us.isRef = true) (hut : ut.isRef = true) :
    MetFree l mn4 (head1 (Jvm.Cond.code mn4 jdk_57_method_2_code 2 none :: ws) (rM 6 1 2752 81)) (fun a U => a = #[(.ref a1), (.ref a2)] ∧ Z.Warmed39 U.vm ∧ U.heap = h0) (fun _ _ bl s _ => s.vm.MethodsKnown ∧ s.vm.FramesKnown bl) (fun _ U o U' => ∃ v L, o = .returned v ∧ Q_rmIA Z a1 a2 u1 us ut h0 n0 v U'.heap L ∧ FrameEnd U o U' L (rM 6 1 2752 81).cells (rM 6 1 2752 81).slots) := by
 refine MetFree.of_bodySF (plainFor_of_name pn_java_lang_IllegalArgumentException) hisR ?_
 intro p e s m args below meth c s₁ Bd hml0 hP hK
 obtain ⟨rfl, hZ, hh⟩ := hP
 have hx := Bd.exec
 have hby := Bd.bytes
 have hlk := BodyLoose.notSynchronized Bd
 have hml : c.maxLocals = 2 := hml0
 have hown : s.vm.findClass "java/lang/IllegalArgumentException" = some m.cls := findClass_of_methodNamed Bd.named
 have hnm := (name_of_methodNamed Bd.named Bd.method).1
 have X0 : Stand p l e (rM 6 1 2752 81) s m #[(.ref a1), (.ref a2)] below meth c s₁ [] 0 0 := Stand.of_body Bd
 have e0 : s₁.heap = h0 := by rw [← hh, Bd.state]; rfl
 have N0 := Fr.nil n0
 have K0 := Keep.refl h0 [a1]
 clear hh
 show Wk p e below (EndN s (Q_rmIA Z a1 a2 u1 us ut h0 n0) (rM 6 1 2752 81).cells (rM 6 1 2752 81).slots) s₁ (entryFrame m #[(.ref a1), (.ref a2)] 2)
 rw [ef_rmIA]
 have hD := fun {pc : Nat} {i : _} (q : decode jdk_57_method_2_code pc = i) => hb hby q
 have lt_E1 := ny E1.lt
 have lt_F1 := ny F1.lt
 have lt_B1 := ny B1.lt
 have lt_B2 := ny B2.lt
 have lt_B3 := ny B3.lt
 have lt_B4 := ny B4.lt
 have lt_B5 := ny B5.lt
 refine Wk.aloadN X0 hx (hD d4_0) (n := 1) rfl rfl rfl ?_
 refine Wk.aloadN X0 hx (hD d4_1) (n := 2) rfl rfl rfl ?_
 have cl1_ := fun Ls (hLs : LsOk c Ls) => X0.specialBack hx (y := mn3) rfl hown (mW hZ hw 41 rfl) (mW hZ hw 42 rfl) (mW hZ hw 46 rfl) (by decide) (backOfKL (W := 0) (rmRE l Z a0 hw [] a1 a2 u1 us ut h0 n0 (by omega) E1 F1 B1 B2 B3 B4 B5 Y1 O1 S2 S3 (by omega) hl hus hut) hZ (oW hw 46 rfl) (oW hw 45 rfl) (by decide) (by decide) hK.1 hK.2) (g := mkF m 2 Ls [(.ref a2), (.ref a1)]) rfl hLs (Steps.refl _) (a := a1) (argsL := [(.ref a2)]) (rest := []) (lenOf pd_0 rfl) rfl (leq0 rfl) (hD d4_2) (fun _ _ => ⟨rfl, e0, (by decide : 0 + 1 ≤ _), (by decide : 0 + 2752 ≤ _)⟩)
 refine Wk.back (n := 5) (rc := 1) (rs := 2752) (Q := Q_rmRE Z a1 a2 u1 us ut h0 n0) (cl1_ _ (lsok hml rfl)) fun vn1 T1 L1 X1 hQ1 => ?_
 clear cl1_
 obtain ⟨rfl, M1, J1, p1_0, p1_1⟩ := hQ1
 have N1 := Fr.app N0 M1
 have sz1 := J1.1
 have K1 := K0.trans J1 (allS (Or.inl (List.mem_of_getElem? (i := 0) rfl)) all0)
 have lt_p1_0 := ny p1_0.lt
 show Wk p e below _ T1 (mkF m 5 _ [])
 exact Wk.leave X1 (v := none) (fun _ => rfl) hlk rfl ⟨rfl, N1, K1, p1_0, p1_1⟩ (by decide) (by decide) (fun fs hr => X1.returnOut hx Bd.returns (hD d4_5) hr)
def Q_rmIni (Z : State) (a1 : Addr) (p1 : Int32) (a2 : Addr) (u1 : Value) (us : Value) (ut : Value) (h0 : Heap) (n0 : Nat) (v : Option Value) (h : Heap) (L : List Loc) : Prop := v = none ∧ Fr n0 L ∧ Keep h0 h [a1] ∧ Exa Z h a1 "com/example/net_thirty/netthirty/invoice/DiscountTooLargeException" ∧ Fld Z h a1 "com/example/net_thirty/netthirty/invoice/DiscountTooLargeException" "line" "I" (.int p1)
theorem ef_rmIni (m : MethodId) (x0 : Addr) (x1 : Int32) (x2 : Addr) : entryFrame m #[(.ref x0), (.int x1), (.ref x2)] 3 = mkF m 0 #[.val (.ref x0), .val (.int x1), .val (.ref x2)] [] := by first | (simp [entryFrame, mkF, argsToLocals, Value.category]; done) | rfl
theorem pn_com_example_net_thirty_netthirty_invoice_DiscountTooLargeException : plainName "com/example/net_thirty/netthirty/invoice/DiscountTooLargeException" = true := by first | (simp [plainName, overriddenIn]; done) | decide +kernel
theorem d5_0 : decode B5_ 0 = .ok (.aload_n 0, 1) := by decide +kernel
theorem d5_1 : decode B5_ 1 = .ok (.aload_n 2, 1) := by decide +kernel
theorem d5_2 : decode B5_ 2 = .ok (.invokespecial 1, 3) := by decide +kernel
theorem d5_5 : decode B5_ 5 = .ok (.aload_n 0, 1) := by decide +kernel
theorem d5_6 : decode B5_ 6 = .ok (.iload_n 1, 1) := by decide +kernel
theorem d5_7 : decode B5_ 7 = .ok (.putfield 7, 3) := by decide +kernel
theorem d5_10 : decode B5_ 10 = .ok (.return_, 1) := by decide +kernel
theorem rmIni (hw : HW a0 Z) (ws : List Jvm.Cond) (a1 : Addr) (p1 : Int32) (a2 : Addr) (u1 : Value) (us : Value) (ut : Value) (h0 : Heap) (n0 : Nat) (Z0 : n0 ≤ h0.size) (E1 : Exa Z h0 a1 "com/example/net_thirty/netthirty/invoice/DiscountTooLargeException") (F1 : Fld Z h0 a1 "com/example/net_thirty/netthirty/invoice/DiscountTooLargeException" "line" "I" u1) (B1 : Fld Z h0 a1 "java/lang/Throwable" "backtrace" "Ljava/lang/Object;" .null) (B2 : Fld Z h0 a1 "java/lang/Throwable" "detailMessage" "Ljava/lang/String;" .null) (B3 : Fld Z h0 a1 "java/lang/Throwable" "cause" "Ljava/lang/Throwable;" .null) (B4 : Fld Z h0 a1 "java/lang/Throwable" "stackTrace" "[Ljava/lang/StackTraceElement;" .null) (B5 : Fld Z h0 a1 "java/lang/Throwable" "suppressedExceptions" "Ljava/util/List;" .null) (Y1 : Unt h0 a1) (O1 : Old Z n0 h0) (S2 : Sta Z Z.heap "java/lang/Throwable" "UNASSIGNED_STACK" "[Ljava/lang/StackTraceElement;" us) (S3 : Sta Z Z.heap "java/lang/Throwable" "SUPPRESSED_SENTINEL" "Ljava/util/List;" ut) (g1 : n0 ≤ a1) (hl : l.stackTraces = true) (hus : us.isRef = true) (hut : ut.isRef = true) :
    MetFree l mn5 (head1 (Jvm.Cond.code mn5 prog_17_method_1_code 3 none :: ws) (rM 7 1 2752 98)) (fun a U => a = #[(.ref a1), (.int p1), (.ref a2)] ∧ Z.Warmed39 U.vm ∧ U.heap = h0) (fun _ _ bl s _ => s.vm.MethodsKnown ∧ s.vm.FramesKnown bl) (fun _ U o U' => ∃ v L, o = .returned v ∧ Q_rmIni Z a1 p1 a2 u1 us ut h0 n0 v U'.heap L ∧ FrameEnd U o U' L (rM 7 1 2752 98).cells (rM 7 1 2752 98).slots) := by
 refine MetFree.of_bodySF (plainFor_of_name pn_com_example_net_thirty_netthirty_invoice_DiscountTooLargeException) hisR ?_
 intro p e s m args below meth c s₁ Bd hml0 hP hK
 obtain ⟨rfl, hZ, hh⟩ := hP
 have hx := Bd.exec
 have hby := Bd.bytes
 have hlk := BodyLoose.notSynchronized Bd
 have hml : c.maxLocals = 3 := hml0
 have hown : s.vm.findClass "com/example/net_thirty/netthirty/invoice/DiscountTooLargeException" = some m.cls := findClass_of_methodNamed Bd.named
 have hnm := (name_of_methodNamed Bd.named Bd.method).1
 have X0 : Stand p l e (rM 7 1 2752 98) s m #[(.ref a1), (.int p1), (.ref a2)] below meth c s₁ [] 0 0 := Stand.of_body Bd
 have e0 : s₁.heap = h0 := by rw [← hh, Bd.state]; rfl
 have N0 := Fr.nil n0
 have K0 := Keep.refl h0 [a1]
 clear hh
 show Wk p e below (EndN s (Q_rmIni Z a1 p1 a2 u1 us ut h0 n0) (rM 7 1 2752 98).cells (rM 7 1 2752 98).slots) s₁ (entryFrame m #[(.ref a1), (.int p1), (.ref a2)] 3)
 rw [ef_rmIni]
 have hD := fun {pc : Nat} {i : _} (q : decode prog_17_method_1_code pc = i) => hb hby q
 have lt_E1 := ny E1.lt
 have lt_F1 := ny F1.lt
 have lt_B1 := ny B1.lt
 have lt_B2 := ny B2.lt
 have lt_B3 := ny B3.lt
 have lt_B4 := ny B4.lt
 have lt_B5 := ny B5.lt
 refine Wk.aloadN X0 hx (hD d5_0) (n := 1) rfl rfl rfl ?_
 refine Wk.aloadN X0 hx (hD d5_1) (n := 2) rfl rfl rfl ?_
 have cl1_ := fun Ls (hLs : LsOk c Ls) => X0.specialBack hx (y := mn4) rfl hown (mW hZ hw 36 rfl) (mW hZ hw 37 rfl) (mW hZ hw 40 rfl) (by decide) (backOfKL (W := 0) (rmIA l Z a0 hw [] a1 a2 u1 us ut h0 n0 (by omega) E1 F1 B1 B2 B3 B4 B5 Y1 O1 S2 S3 (by omega) hl hus hut) hZ (oW hw 40 rfl) (oW hw 39 rfl) (by decide) (by decide) hK.1 hK.2) (g := mkF m 2 Ls [(.ref a2), (.ref a1)]) rfl hLs (Steps.refl _) (a := a1) (argsL := [(.ref a2)]) (rest := []) (lenOf pd_0 rfl) rfl (leq0 rfl) (hD d5_2) (fun _ _ => ⟨rfl, e0, (by decide : 0 + 1 ≤ _), (by decide : 0 + 2752 ≤ _)⟩)
 refine Wk.back (n := 5) (rc := 1) (rs := 2752) (Q := Q_rmIA Z a1 a2 u1 us ut h0 n0) (cl1_ _ (lsok hml rfl)) fun vn1 T1 L1 X1 hQ1 => ?_
 clear cl1_
 obtain ⟨rfl, M1, J1, p1_0, p1_1⟩ := hQ1
 have N1 := Fr.app N0 M1
 have sz1 := J1.1
 have K1 := K0.trans J1 (allS (Or.inl (List.mem_of_getElem? (i := 0) rfl)) all0)
 have lt_p1_0 := ny p1_0.lt
 show Wk p e below _ T1 (mkF m 5 _ [])
 refine Wk.aloadN X1 hx (hD d5_5) (n := 6) rfl rfl rfl ?_
 refine Wk.iloadN X1 hx (hD d5_6) (n := 7) rfl rfl ?_
 refine Wk.putF X1 hx hZ hown (host := "") (Or.inl (oW hw 96 rfl)) Via.refl rfl p1_1 p1_0 (Or.inr ⟨(oW hw 97 rfl), rfl, hnm⟩) (oW hw 31 rfl) (ty := .int) (by decide) rfl rfl (hD d5_7) (n := 10) rfl fun T2 H2 X2 e2 Wn2 => ?_
 have sz2 := Wn2.size
 have Fn2 := p1_1.same Wn2
 have K2 := K1.wr Wn2 (Or.inl (List.mem_of_getElem? (i := 0) rfl))
 have N2 := Fr.snoc X2 N1 (by omega)
 have f3 := (p1_0.wr Wn2)
 exact Wk.leave X2 (v := none) (fun _ => rfl) hlk e2 ⟨rfl, N2, K2, f3, Fn2⟩ (by decide) (by decide) (fun fs hr => X2.returnOut hx Bd.returns (hD d5_10) hr)
def Q_rmOIni (Z : State) (a1 : Addr) (p2 : Int32) (u1 : Value) (u2 : Value) (h0 : Heap) (n0 : Nat) (v : Option Value) (h : Heap) (L : List Loc) : Prop := v = none ∧ Fr n0 L ∧ Keep h0 h [a1] ∧ Exa Z h a1 "java/util/OptionalInt" ∧ Fld Z h a1 "java/util/OptionalInt" "isPresent" "Z" (.int (1 : Int32)) ∧ Fld Z h a1 "java/util/OptionalInt" "value" "I" (.int p2)
theorem ef_rmOIni (m : MethodId) (x0 : Addr) (x1 : Int32) : entryFrame m #[(.ref x0), (.int x1)] 2 = mkF m 0 #[.val (.ref x0), .val (.int x1)] [] := by first | (simp [entryFrame, mkF, argsToLocals, Value.category]; done) | rfl
theorem pn_java_util_OptionalInt : plainName "java/util/OptionalInt" = true := by first | (simp [plainName, overriddenIn]; done) | decide +kernel
theorem d6_0 : decode B6_ 0 = .ok (.aload_n 0, 1) := by decide +kernel
theorem d6_1 : decode B6_ 1 = .ok (.invokespecial 1, 3) := by decide +kernel
theorem d6_4 : decode B6_ 4 = .ok (.aload_n 0, 1) := by decide +kernel
theorem d6_5 : decode B6_ 5 = .ok (.iconst 1, 1) := by decide +kernel
theorem d6_6 : decode B6_ 6 = .ok (.putfield 7, 3) := by decide +kernel
theorem d6_9 : decode B6_ 9 = .ok (.aload_n 0, 1) := by decide +kernel
theorem d6_10 : decode B6_ 10 = .ok (.iload_n 1, 1) := by decide +kernel
theorem d6_11 : decode B6_ 11 = .ok (.putfield 13, 3) := by decide +kernel
theorem d6_14 : decode B6_ 14 = .ok (.return_, 1) := by decide +kernel
theorem rmOIni (hw : HW a0 Z) (ws : List Jvm.Cond) (a1 : Addr) (p2 : Int32) (u1 : Value) (u2 : Value) (h0 : Heap) (n0 : Nat) (Z0 : n0 ≤ h0.size) (E1 : Exa Z h0 a1 "java/util/OptionalInt") (F1 : Fld Z h0 a1 "java/util/OptionalInt" "isPresent" "Z" u1) (F2 : Fld Z h0 a1 "java/util/OptionalInt" "value" "I" u2) (g1 : n0 ≤ a1) : MetN l Z mn6 jdk_2649_method_3_code 2 none ws (rM 1 0 0 12) #[(.ref a1), (.int p2)] h0 (Q_rmOIni Z a1 p2 u1 u2 h0 n0) := by
 refine enterN (plainFor_of_name pn_java_util_OptionalInt) (fun m => ef_rmOIni m _ _) fun p e s m below meth c s₁ Bd hZ hx hD hlk hml hown hnm X0 e0 => ?_
 have N0 := Fr.nil n0
 have K0 := Keep.refl h0 [a1]
 have lt_E1 := ny E1.lt
 have lt_F1 := ny F1.lt
 have lt_F2 := ny F2.lt
 refine Wk.aloadN X0 hx (hD d6_0) (n := 1) rfl rfl rfl ?_
 refine Wk.initO X0 hx hZ hown (oW hw 113 rfl) (oW hw 12 rfl) (oW hw 13 rfl) e0 (by rw [hml]; rfl) (hD d6_1) (n := 4) rfl (by decide) (w := 0) (Nat.le_of_eq rfl) (by decide) fun T1 X1 e1 => ?_
 refine Wk.aloadN X1 hx (hD d6_4) (n := 5) rfl rfl rfl ?_
 refine Wk.iconst X1 hx (hD d6_5) (n := 6) rfl (z := (1 : Int32)) rfl ?_
 refine Wk.putFN X1 hx hZ hown (oW hw 114 rfl) Via.refl e1 F1 E1 (Or.inr ⟨(oW hw 115 rfl), rfl, hnm⟩) (oW hw 108 rfl) (ty := .boolean) (by decide) (v' := (.int (1 : Int32))) rfl rfl (hD d6_6) (n := 9) rfl fun T2 H2 X2 e2 Wn2 => ?_
 have sz2 := Wn2.size
 have Fn2 := F1.same Wn2
 have K2 := K0.wr Wn2 (Or.inl (List.mem_of_getElem? (i := 0) rfl))
 have N2 := Fr.snoc X2 N0 (by omega)
 refine Wk.aloadN X2 hx (hD d6_9) (n := 10) rfl rfl rfl ?_
 refine Wk.iloadN X2 hx (hD d6_10) (n := 11) rfl rfl ?_
 have f3 := (F2.other Wn2 (Or.inr (slot_ne (Or.inr (oW hw 117 rfl)) (Or.inr (oW hw 115 rfl)) (by decide) (t := .int) (t' := .boolean) (by decide) (by decide))))
 have f4 := (E1.wr Wn2)
 refine Wk.putF X2 hx hZ hown (host := "") (Or.inl (oW hw 116 rfl)) Via.refl e2 f3 f4 (Or.inr ⟨(oW hw 117 rfl), rfl, hnm⟩) (oW hw 108 rfl) (ty := .int) (by decide) rfl rfl (hD d6_11) (n := 14) rfl fun T5 H5 X5 e5 Wn5 => ?_
 have sz5 := Wn5.size
 have Fn5 := f3.same Wn5
 have K5 := K2.wr Wn5 (Or.inl (List.mem_of_getElem? (i := 0) rfl))
 have N5 := Fr.snoc X5 N2 (by omega)
 have f6 := (f4.wr Wn5)
 have f7 := (Fn2.other Wn5 (Or.inr (slot_ne (Or.inr (oW hw 115 rfl)) (Or.inr (oW hw 117 rfl)) (by decide) (t := .boolean) (t' := .int) (by decide) (by decide))))
 exact Wk.leave X5 (v := none) (fun _ => rfl) hlk e5 ⟨rfl, N5, K5, f6, f7, Fn5⟩ (by decide) (by decide) (fun fs hr => X5.returnOut hx Bd.returns (hD d6_14) hr)
def Q_rmOf (Z : State) (p1 : Int32) (h0 : Heap) (n0 : Nat) (v : Option Value) (h : Heap) (L : List Loc) : Prop := ∃ (r : Addr), v = some (.ref r) ∧ Fr n0 L ∧ Keep h0 h [] ∧ Exa Z h r "java/util/OptionalInt" ∧ Fld Z h r "java/util/OptionalInt" "isPresent" "Z" (.int (1 : Int32)) ∧ Fld Z h r "java/util/OptionalInt" "value" "I" (.int p1)
theorem ef_rmOf (m : MethodId) (x0 : Int32) : entryFrame m #[(.int x0)] 1 = mkF m 0 #[.val (.int x0)] [] := by first | (simp [entryFrame, mkF, argsToLocals, Value.category]; done) | rfl
theorem d7_0 : decode B7_ 0 = .ok (.new 8, 3) := by decide +kernel
theorem d7_3 : decode B7_ 3 = .ok (.dup, 1) := by decide +kernel
theorem d7_4 : decode B7_ 4 = .ok (.iload_n 0, 1) := by decide +kernel
theorem d7_5 : decode B7_ 5 = .ok (.invokespecial 21, 3) := by decide +kernel
theorem pd_1 : parseMethodDescriptor "(I)V" = some ⟨[.int], none⟩ := by decide +kernel
theorem d7_8 : decode B7_ 8 = .ok (.areturn, 1) := by decide +kernel
theorem rmOf (hw : HW a0 Z) (ws : List Jvm.Cond) (p1 : Int32) (h0 : Heap) (n0 : Nat) (Z0 : n0 ≤ h0.size) : MetN l Z mn7 jdk_2649_method_4_code 1 (some (.object "java/util/OptionalInt")) ws (rM 2 1 2 26) #[(.int p1)] h0 (Q_rmOf Z p1 h0 n0) := by
 refine enterN (plainFor_of_name pn_java_util_OptionalInt) (fun m => ef_rmOf m _) fun p e s m below meth c s₁ Bd hZ hx hD hlk hml hown hnm X0 e0 => ?_
 have N0 := Fr.nil n0
 have K0 := Keep.refl h0 []
 refine Wk.newO X0 hx hZ hown (oW hw 107 rfl) (oW hw 108 rfl) (oW hw 105 rfl) e0 (hD d7_0) (n := 3) rfl (by decide) (by decide) fun T1 H1 b1 gn1 X1 e1 Ex1 An1 Dn1 Yn1 => ?_
 have gn1 := nx gn1
 have sz1 := Ex1.1
 have lt1 := ny An1.lt
 have K1 := K0.ext Ex1
 have Fn1_isPresent : Fld Z H1 b1 "java/util/OptionalInt" "isPresent" "Z" (.int (0 : Int32)) := Dn1 (Or.inr (oW hw 115 rfl)) (ty := .boolean) (by decide)
 have Fn1_value : Fld Z H1 b1 "java/util/OptionalInt" "value" "I" (.int (0 : Int32)) := Dn1 (Or.inr (oW hw 117 rfl)) (ty := .int) (by decide)
 refine Wk.dup X1 hx (hD d7_3) (n := 4) rfl rfl ?_
 refine Wk.iloadN X1 hx (hD d7_4) (n := 5) rfl rfl ?_
 have cl2_ := fun Ls (hLs : LsOk c Ls) => X1.specialBack hx (y := mn6) rfl hown (mW hZ hw 109 rfl) (mW hZ hw 110 rfl) (mW hZ hw 112 rfl) (by decide) (backOf (W := 1) (rmOIni l Z a0 hw [] b1 p1 (.int (0 : Int32)) (.int (0 : Int32)) H1 n0 (by omega) An1 Fn1_isPresent Fn1_value (by omega)) hZ (oW hw 112 rfl) (oW hw 105 rfl) (by decide) (by decide)) (g := mkF m 5 Ls [(.int p1), (.ref b1), (.ref b1)]) rfl hLs (Steps.refl _) (a := b1) (argsL := [(.int p1)]) (rest := [(.ref b1)]) (lenOf pd_1 rfl) rfl (leq0 rfl) (hD d7_5) (fun _ _ => ⟨rfl, e1, (by decide : 1 + 0 ≤ _), (by decide : 2 + 0 ≤ _)⟩)
 refine Wk.back (n := 8) (rc := 0) (rs := 0) (Q := Q_rmOIni Z b1 p1 (.int (0 : Int32)) (.int (0 : Int32)) H1 n0) (cl2_ _ (lsok hml rfl)) fun vn2 T2 L2 X2 hQ2 => ?_
 clear cl2_
 obtain ⟨rfl, M2, J2, p2_0, p2_1, p2_2⟩ := hQ2
 have N2 := Fr.app N0 M2
 have sz2 := J2.1
 have K2 := K1.trans J2 (allS (Or.inr (by omega)) all0)
 have lt_p2_0 := ny p2_0.lt
 show Wk p e below _ T2 (mkF m 8 _ [(.ref b1)])
 exact Wk.leave X2 (v := some (.ref b1)) (fun h => by rw [Bd.returns] at h; cases h) hlk rfl ⟨b1, rfl, N2, K2, p2_0, p2_1, p2_2⟩ (by decide) (by decide) (fun fs hr => retA X2 hx rfl Bd.returns rfl (hD d7_8) hr)
def Q_rmEmp (Z : State) (w1 : Addr) (h0 : Heap) (n0 : Nat) (v : Option Value) (h : Heap) (L : List Loc) : Prop := v = some (.ref w1) ∧ Fr n0 L ∧ h = h0
theorem ef_rmEmp (m : MethodId)  : entryFrame m #[] 0 = mkF m 0 #[] [] := by first | (simp [entryFrame, mkF, argsToLocals, Value.category]; done) | rfl
theorem d8_0 : decode B8_ 0 = .ok (.getstatic 17, 3) := by decide +kernel
theorem d8_3 : decode B8_ 3 = .ok (.areturn, 1) := by decide +kernel
theorem rmEmp (hw : HW a0 Z) (ws : List Jvm.Cond) (w1 : Addr) (h0 : Heap) (n0 : Nat) (Z0 : n0 ≤ h0.size) (S1 : Sta Z Z.heap "java/util/OptionalInt" "EMPTY" "Ljava/util/OptionalInt;" (.ref w1)) (O1 : Old Z n0 h0) : MetN l Z mn8 jdk_2649_method_2_code 0 (some (.object "java/util/OptionalInt")) ws (rM 0 0 0 0) #[] h0 (Q_rmEmp Z w1 h0 n0) := by
 refine enterN (plainFor_of_name pn_java_util_OptionalInt) (fun m => ef_rmEmp m) fun p e s m below meth c s₁ Bd hZ hx hD hlk hml hown hnm X0 e0 => ?_
 have N0 := Fr.nil n0
 have K0 := Keep.refl h0 []
 refine Wk.getS X0 hx hZ hown (host := "") (Or.inl (oW hw 131 rfl)) Via.refl e0 (Sta.ext O1.2 S1) (hD d8_0) (n := 3) rfl fun T1 X1 e1 => ?_
 exact Wk.leave X1 (v := some (.ref w1)) (fun h => by rw [Bd.returns] at h; cases h) hlk e1 ⟨rfl, N0, rfl⟩ (by decide) (by decide) (fun fs hr => retA X1 hx rfl Bd.returns rfl (hD d8_3) hr)
def Q_rmLin (Z : State) (a1 : Addr) (p1 : Int32) (w1 : Addr) (h0 : Heap) (n0 : Nat) (v : Option Value) (h : Heap) (L : List Loc) : Prop := ∃ (r : Addr) (iv : Int32) (vv : Int32), v = some (.ref r) ∧ Fr n0 L ∧ Keep h0 h [] ∧ Exa Z h r "java/util/OptionalInt" ∧ Fld Z h r "java/util/OptionalInt" "isPresent" "Z" (.int iv) ∧ Fld Z h r "java/util/OptionalInt" "value" "I" (.int vv) ∧ (p1 < (0 : Int32) → iv = (0 : Int32)) ∧ (¬ p1 < (0 : Int32) → iv = (1 : Int32) ∧ vv = p1)
theorem ef_rmLin (m : MethodId) (x0 : Addr) : entryFrame m #[(.ref x0)] 1 = mkF m 0 #[.val (.ref x0)] [] := by first | (simp [entryFrame, mkF, argsToLocals, Value.category]; done) | rfl
theorem d9_0 : decode B9_ 0 = .ok (.aload_n 0, 1) := by decide +kernel
theorem d9_1 : decode B9_ 1 = .ok (.getfield 7, 3) := by decide +kernel
theorem d9_4 : decode B9_ 4 = .ok (.ifCond .ge 9, 3) := by decide +kernel
theorem d9_7 : decode B9_ 7 = .ok (.invokestatic 13, 3) := by decide +kernel
theorem pd_2 : parseMethodDescriptor "()Ljava/util/OptionalInt;" = some ⟨[], some (.object "java/util/OptionalInt")⟩ := by decide +kernel
theorem d9_10 : decode B9_ 10 = .ok (.goto 10, 3) := by decide +kernel
theorem d9_20 : decode B9_ 20 = .ok (.areturn, 1) := by decide +kernel
theorem d9_13 : decode B9_ 13 = .ok (.aload_n 0, 1) := by decide +kernel
theorem d9_14 : decode B9_ 14 = .ok (.getfield 7, 3) := by decide +kernel
theorem d9_17 : decode B9_ 17 = .ok (.invokestatic 19, 3) := by decide +kernel
theorem pd_3 : parseMethodDescriptor "(I)Ljava/util/OptionalInt;" = some ⟨[.int], some (.object "java/util/OptionalInt")⟩ := by decide +kernel
theorem rmLin (hw : HW a0 Z) (ws : List Jvm.Cond) (a1 : Addr) (p1 : Int32) (w1 : Addr) (h0 : Heap) (n0 : Nat) (Z0 : n0 ≤ h0.size) (F1 : Fld Z h0 a1 "com/example/net_thirty/netthirty/invoice/DiscountTooLargeException" "line" "I" (.int p1)) (S1 : Sta Z Z.heap "java/util/OptionalInt" "EMPTY" "Ljava/util/OptionalInt;" (.ref w1)) (E2 : Exa Z Z.heap w1 "java/util/OptionalInt") (G1 : Fld Z Z.heap w1 "java/util/OptionalInt" "isPresent" "Z" (.int (0 : Int32))) (G2 : Fld Z Z.heap w1 "java/util/OptionalInt" "value" "I" (.int (0 : Int32))) (O1 : Old Z n0 h0) : MetN l Z mn9 prog_17_method_2_code 1 (some (.object "java/util/OptionalInt")) ws (rM 3 1 2 38) #[(.ref a1)] h0 (Q_rmLin Z a1 p1 w1 h0 n0) := by
 refine enterN (plainFor_of_name pn_com_example_net_thirty_netthirty_invoice_DiscountTooLargeException) (fun m => ef_rmLin m _) fun p e s m below meth c s₁ Bd hZ hx hD hlk hml hown hnm X0 e0 => ?_
 have N0 := Fr.nil n0
 have K0 := Keep.refl h0 []
 have lt_F1 := ny F1.lt
 refine Wk.aloadN X0 hx (hD d9_0) (n := 1) rfl rfl rfl ?_
 refine Wk.getF X0 hx hZ hown (host := "") (Or.inl (oW hw 96 rfl)) Via.refl e0 F1 (hD d9_1) (n := 4) rfl fun T1 X1 e1 => ?_
 by_cases hc4 : p1 < (0 : Int32)
 ·
  refine Wk.ifNo X1 hx (hD d9_4) (n := 7) rfl ((if0 _ _).trans (tlt hc4).2.1) ?_
  have cl2_ := fun Ls (hLs : LsOk c Ls) => Jvm.LawKit.callS X1 hx (y := mn8) hown (mW hZ hw 128 rfl) (mW hZ hw 129 rfl) (mW hZ hw 105 rfl) (mW hZ hw 130 rfl) (by decide) (backOf (W := 0) (rmEmp l Z a0 hw [] w1 h0 n0 (by omega) S1 O1) hZ (oW hw 130 rfl) (oW hw 105 rfl) (by decide) (by decide)) (g := mkF m 7 Ls []) rfl hLs (argsL := []) (rest := []) (lenOf pd_2 rfl) rfl (leq0 rfl) (hD d9_7) (fun _ _ => ⟨rfl, e1, (by decide : 0 + 0 ≤ _), (by decide : 0 + 0 ≤ _)⟩)
  refine Wk.backS (n := 10) (rc := 0) (rs := 0) (Q := Q_rmEmp Z w1 h0 n0) (cl2_ _ (lsok hml rfl)) fun vn2 T2 L2 X2 hQ2 => ?_
  clear cl2_
  obtain ⟨rfl, M2, e2⟩ := hQ2
  have N2 := Fr.app N0 M2
  show Wk p e below _ T2 (mkF m 10 _ [(.ref w1)])
  refine Wk.goto X2 hx (hD d9_10) (by decide) (n := 20) (by decide) ?_
  have f3 := E2.ext O1.2
  have f4 := G1.ext O1.2
  have f5 := G2.ext O1.2
  exact Wk.leave X2 (v := some (.ref w1)) (fun h => by rw [Bd.returns] at h; cases h) hlk e2 ⟨w1, (0 : Int32), (0 : Int32), rfl, N2, K0, f3, f4, f5, (fun _ => rfl), (fun q => absurd hc4 q)⟩ (by decide) (by decide) (fun fs hr => retA X2 hx rfl Bd.returns rfl (hD d9_20) hr)
 ·
  refine Wk.ifYes X1 hx (hD d9_4) ((if0 _ _).trans (flt hc4).2.1) (by decide) (n := 13) (by decide) ?_
  refine Wk.aloadN X1 hx (hD d9_13) (n := 14) rfl rfl rfl ?_
  refine Wk.getF X1 hx hZ hown (host := "") (Or.inl (oW hw 96 rfl)) Via.refl e1 F1 (hD d9_14) (n := 17) rfl fun T6 X6 e6 => ?_
  have cl7_ := fun Ls (hLs : LsOk c Ls) => Jvm.LawKit.callS X6 hx (y := mn7) hown (mW hZ hw 103 rfl) (mW hZ hw 104 rfl) (mW hZ hw 105 rfl) (mW hZ hw 106 rfl) (by decide) (backOf (W := 0) (rmOf l Z a0 hw [] p1 h0 n0 (by omega)) hZ (oW hw 106 rfl) (oW hw 105 rfl) (by decide) (by decide)) (g := mkF m 17 Ls [(.int p1)]) rfl hLs (argsL := [(.int p1)]) (rest := []) (lenOf pd_3 rfl) rfl (leq0 rfl) (hD d9_17) (fun _ _ => ⟨rfl, e6, (by decide : 0 + 1 ≤ _), (by decide : 0 + 2 ≤ _)⟩)
  refine Wk.backS (n := 20) (rc := 1) (rs := 2) (Q := Q_rmOf Z p1 h0 n0) (cl7_ _ (lsok hml rfl)) fun vn7 T7 L7 X7 hQ7 => ?_
  clear cl7_
  obtain ⟨r_7, rfl, M7, J7, p7_0, p7_1, p7_2⟩ := hQ7
  have N7 := Fr.app N0 M7
  have sz7 := J7.1
  have K7 := K0.trans J7 (fun x hx => nomatch hx)
  have lt_p7_0 := ny p7_0.lt
  show Wk p e below _ T7 (mkF m 20 _ [(.ref r_7)])
  exact Wk.leave X7 (v := some (.ref r_7)) (fun h => by rw [Bd.returns] at h; cases h) hlk rfl ⟨r_7, (1 : Int32), p1, rfl, N7, K7, p7_0, p7_1, p7_2, (fun q => absurd q hc4), (fun _ => ⟨rfl, rfl⟩)⟩ (by decide) (by decide) (fun fs hr => retA X7 hx rfl Bd.returns rfl (hD d9_20) hr)
def Q_rmIsP (Z : State) (a1 : Addr) (w1 : Int32) (h0 : Heap) (n0 : Nat) (v : Option Value) (h : Heap) (L : List Loc) : Prop := v = some (.int w1) ∧ Fr n0 L ∧ h = h0
theorem ef_rmIsP (m : MethodId) (x0 : Addr) : entryFrame m #[(.ref x0)] 1 = mkF m 0 #[.val (.ref x0)] [] := by first | (simp [entryFrame, mkF, argsToLocals, Value.category]; done) | rfl
theorem d10_0 : decode B10_ 0 = .ok (.aload_n 0, 1) := by decide +kernel
theorem d10_1 : decode B10_ 1 = .ok (.getfield 7, 3) := by decide +kernel
theorem d10_4 : decode B10_ 4 = .ok (.ireturn, 1) := by decide +kernel
theorem rmIsP (hw : HW a0 Z) (ws : List Jvm.Cond) (a1 : Addr) (w1 : Int32) (h0 : Heap) (n0 : Nat) (Z0 : n0 ≤ h0.size) (F1 : Fld Z h0 a1 "java/util/OptionalInt" "isPresent" "Z" (.int w1)) (hb1 : nar .boolean w1 = w1) : MetN l Z mn10 jdk_2649_method_6_code 1 (some .boolean) ws (rM 0 0 0 0) #[(.ref a1)] h0 (Q_rmIsP Z a1 w1 h0 n0) := by
 refine enterN (plainFor_of_name pn_java_util_OptionalInt) (fun m => ef_rmIsP m _) fun p e s m below meth c s₁ Bd hZ hx hD hlk hml hown hnm X0 e0 => ?_
 have N0 := Fr.nil n0
 have K0 := Keep.refl h0 []
 have lt_F1 := ny F1.lt
 refine Wk.aloadN X0 hx (hD d10_0) (n := 1) rfl rfl rfl ?_
 refine Wk.getF X0 hx hZ hown (host := "") (Or.inl (oW hw 114 rfl)) Via.refl e0 F1 (hD d10_1) (n := 4) rfl fun T1 X1 e1 => ?_
 exact Wk.leave X1 (v := some (.int w1)) (fun h => by rw [Bd.returns] at h; cases h) hlk e1 ⟨rfl, N0, rfl⟩ (by decide) (by decide) (fun fs hr => retNz X1 hx (t := .boolean) hb1 Bd.returns (by simp) (hD d10_4) hr)
def Q_rmGet (Z : State) (a1 : Addr) (w1 : Int32) (p1 : Int32) (h0 : Heap) (n0 : Nat) (v : Option Value) (h : Heap) (L : List Loc) : Prop := v = some (.int p1) ∧ Fr n0 L ∧ h = h0
theorem ef_rmGet (m : MethodId) (x0 : Addr) : entryFrame m #[(.ref x0)] 1 = mkF m 0 #[.val (.ref x0)] [] := by first | (simp [entryFrame, mkF, argsToLocals, Value.category]; done) | rfl
theorem d11_0 : decode B11_ 0 = .ok (.aload_n 0, 1) := by decide +kernel
theorem d11_1 : decode B11_ 1 = .ok (.getfield 7, 3) := by decide +kernel
theorem d11_4 : decode B11_ 4 = .ok (.ifCond .ne 13, 3) := by decide +kernel
theorem d11_17 : decode B11_ 17 = .ok (.aload_n 0, 1) := by decide +kernel
theorem d11_18 : decode B11_ 18 = .ok (.getfield 13, 3) := by decide +kernel
theorem d11_21 : decode B11_ 21 = .ok (.ireturn, 1) := by decide +kernel
theorem rmGet (hw : HW a0 Z) (ws : List Jvm.Cond) (a1 : Addr) (w1 : Int32) (p1 : Int32) (h0 : Heap) (n0 : Nat) (Z0 : n0 ≤ h0.size) (F1 : Fld Z h0 a1 "java/util/OptionalInt" "isPresent" "Z" (.int w1)) (F2 : Fld Z h0 a1 "java/util/OptionalInt" "value" "I" (.int p1)) (hb1 : ¬ w1 = (0 : Int32)) : MetN l Z mn11 jdk_2649_method_5_code 1 (some .int) ws (rM 0 0 0 0) #[(.ref a1)] h0 (Q_rmGet Z a1 w1 p1 h0 n0) := by
 refine enterN (plainFor_of_name pn_java_util_OptionalInt) (fun m => ef_rmGet m _) fun p e s m below meth c s₁ Bd hZ hx hD hlk hml hown hnm X0 e0 => ?_
 have N0 := Fr.nil n0
 have K0 := Keep.refl h0 []
 have lt_F1 := ny F1.lt
 have lt_F2 := ny F2.lt
 refine Wk.aloadN X0 hx (hD d11_0) (n := 1) rfl rfl rfl ?_
 refine Wk.getF X0 hx hZ hown (host := "") (Or.inl (oW hw 114 rfl)) Via.refl e0 F1 (hD d11_1) (n := 4) rfl fun T1 X1 e1 => ?_
 have hc4_2 : ¬ (w1 = (0 : Int32)) := hb1
 refine Wk.ifYes X1 hx (hD d11_4) ((if0 _ _).trans (feq hc4_2).2) (by decide) (n := 17) (by decide) ?_
 refine Wk.aloadN X1 hx (hD d11_17) (n := 18) rfl rfl rfl ?_
 refine Wk.getF X1 hx hZ hown (host := "") (Or.inl (oW hw 116 rfl)) Via.refl e1 F2 (hD d11_18) (n := 21) rfl fun T3 X3 e3 => ?_
 exact Wk.leave X3 (v := some (.int p1)) (fun h => by rw [Bd.returns] at h; cases h) hlk e3 ⟨rfl, N0, rfl⟩ (by decide) (by decide) (fun fs hr => retI X3 hx Bd.returns (hD d11_21) hr)
def Q_rm0 (Z : State) (p1 : Int32) (p2 : Int32) (p3 : Int32) (w1 : Addr) (zc : Int32) (us : Value) (ut : Value) (h0 : Heap) (n0 : Nat) (v : Option Value) (h : Heap) (L : List Loc) : Prop := v = some (.int (1 : Int32)) ∧ Fr n0 L ∧ Keep h0 h []
theorem ef_rm0 (m : MethodId) (x0 : Int32) (x1 : Int32) (x2 : Int32) : entryFrame m #[(.int x0), (.int x1), (.int x2)] maxLocals = mkF m 0 #[.val (.int x0), .val (.int x1), .val (.int x2), .unset, .unset, .unset, .unset] [] := by first | (simp [entryFrame, mkF, argsToLocals, Value.category, maxLocals]; done) | rfl
theorem pn_com_example_net_thirty_netthirty_invoice_DiscountTooLargeExceptionLinePinLaw : plainName "com/example/net_thirty/netthirty/invoice/DiscountTooLargeExceptionLinePinLaw" = true := by first | (simp [plainName, overriddenIn]; done) | decide +kernel
theorem pd_4 : parseMethodDescriptor "([C)V" = some ⟨[(.array .char)], none⟩ := by decide +kernel
theorem pd_5 : parseMethodDescriptor "(ILjava/lang/String;)V" = some ⟨[.int, (.object "java/lang/String")], none⟩ := by decide +kernel
theorem pd_6 : parseMethodDescriptor "()Z" = some ⟨[], some .boolean⟩ := by decide +kernel
theorem pd_7 : parseMethodDescriptor "()I" = some ⟨[], some .int⟩ := by decide +kernel
theorem rm0 (hw : HW a0 Z) (ws : List Jvm.Cond) (p1 : Int32) (p2 : Int32) (p3 : Int32) (w1 : Addr) (zc : Int32) (us : Value) (ut : Value) (h0 : Heap) (n0 : Nat) (Z0 : n0 ≤ h0.size) (S1 : Sta Z Z.heap "java/util/OptionalInt" "EMPTY" "Ljava/util/OptionalInt;" (.ref w1)) (E2 : Exa Z Z.heap w1 "java/util/OptionalInt") (G1 : Fld Z Z.heap w1 "java/util/OptionalInt" "isPresent" "Z" (.int (0 : Int32))) (G2 : Fld Z Z.heap w1 "java/util/OptionalInt" "value" "I" (.int (0 : Int32))) (O1 : Old Z n0 h0) (S4 : Sta Z Z.heap "java/lang/String" "COMPACT_STRINGS" "Z" (.int zc)) (S2 : Sta Z Z.heap "java/lang/Throwable" "UNASSIGNED_STACK" "[Ljava/lang/StackTraceElement;" us) (S3 : Sta Z Z.heap "java/lang/Throwable" "SUPPRESSED_SENTINEL" "Ljava/util/List;" ut) (hCS : ¬ zc = 0) (hl : l.stackTraces = true) (hus : us.isRef = true) (hut : ut.isRef = true) :
    MetFree l x (head1 (Jvm.Cond.code x code maxLocals ret :: ws) room_1) (fun a U => a = #[(.int p1), (.int p2), (.int p3)] ∧ Z.Warmed39 U.vm ∧ U.heap = h0) (fun _ _ bl s _ => s.vm.MethodsKnown ∧ s.vm.FramesKnown bl) (fun _ U o U' => ∃ v L, o = .returned v ∧ Q_rm0 Z p1 p2 p3 w1 zc us ut h0 n0 v U'.heap L ∧ FrameEnd U o U' L room_1.cells room_1.slots) := by
 refine MetFree.of_bodySF (plainFor_of_name pn_com_example_net_thirty_netthirty_invoice_DiscountTooLargeExceptionLinePinLaw) hisR ?_
 intro p e s m args below meth c s₁ Bd hml0 hP hK
 obtain ⟨rfl, hZ, hh⟩ := hP
 have hx := Bd.exec
 have hby := Bd.bytes
 have hlk := BodyLoose.notSynchronized Bd
 have hml : c.maxLocals = 7 := hml0
 have hown : s.vm.findClass "com/example/net_thirty/netthirty/invoice/DiscountTooLargeExceptionLinePinLaw" = some m.cls := findClass_of_methodNamed Bd.named
 have hnm := (name_of_methodNamed Bd.named Bd.method).1
 have X0 : Stand p l e room_1 s m #[(.int p1), (.int p2), (.int p3)] below meth c s₁ [] 0 0 := Stand.of_body Bd
 have e0 : s₁.heap = h0 := by rw [← hh, Bd.state]; rfl
 have N0 := Fr.nil n0
 have K0 := Keep.refl h0 []
 clear hh
 show Wk p e below (EndN s (Q_rm0 Z p1 p2 p3 w1 zc us ut h0 n0) room_1.cells room_1.slots) s₁ (entryFrame m #[(.int p1), (.int p2), (.int p3)] maxLocals)
 rw [ef_rm0]
 have hD := fun {pc : Nat} {i : _} (q : decode code pc = i) => hb hby q
 refine Wk.iconst X0 hx (hD at_0) (n := 1) rfl (z := (2 : Int32)) rfl ?_
 refine Wk.newP X0 hx hZ (oW hw 0 rfl) e0 (hD at_1) (n := 3) rfl (by decide) (cap := 2) (by decide) (by decide) (by decide) (by decide) fun T1 H1 b1 k1 gn1 X1 e1 Ex1 An1 => ?_
 have gn1 := nx gn1
 have sz1 := Ex1.1
 have K1 := K0.ext Ex1
 have Vn1 : Arv Z H1 b1 k1 .char (2 : Int32) [(.int (0 : Int32)), (.int (0 : Int32))] (.int (0 : Int32)) := (Arv.new An1 (by decide)).pad (pad_rep [] (.int (0 : Int32)) 2)
 have lt1 := ny Vn1.lt
 refine Wk.astoreN X1 hx (hD at_3) (n := 4) rfl rfl (L' := #[.val (.int p1), .val (.int p2), .val (.int p3), .val (.ref b1), .unset, .unset, .unset]) rfl ?_
 refine Wk.aloadN X1 hx (hD at_4) (n := 5) rfl rfl rfl ?_
 refine Wk.iconst X1 hx (hD at_5) (n := 6) rfl (z := (0 : Int32)) rfl ?_
 refine Wk.iloadN X1 hx (hD at_6) (n := 7) rfl rfl ?_
 refine Wk.sipush X1 hx (hD at_7) (n := 10) rfl (z := (255 : Int32)) rfl ?_
 refine Wk.iand X1 hx (hD at_10) (n := 11) rfl ?_
 obtain ⟨c0, q_c0⟩ : ∃ z : Int32, z = ((p2 &&& (255 : Int32)).toUInt32.toUInt16.toUInt32.toInt32) := ⟨_, rfl⟩
 have n_c0 : nar .char c0 = c0 := by rw [q_c0]; exact own_c255 _
 have r_c0 : ¬ c0 < 0 ∧ ¬ (255 : Int32) < c0 := by rw [q_c0]; exact own_r255 _
 refine Wk.i2c X1 hx (hD at_11) (n := 12) rfl q_c0.symm ?_
 obtain ⟨cl2, Ar2, qn2, Sz2, N_2, H_2, Gn2⟩ := id Vn1
 have hin2 : ¬ ((0 : Int32) < 0 ∨ cl2.slots.size ≤ ((0 : Int32)).toNatClampNeg) := inb_of Sz2 ⟨by decide, by decide⟩
 refine Wk.stC X1 hx hZ e1 Ar2 hin2 (hD at_12) (n := 13) rfl fun T2 H2 X2 e2 Wn2 => ?_
 have Vn2 := Arv.set Ar2 qn2 Sz2 N_2 H_2 Gn2 (fits_nar_char _) Wn2 0 rfl (Nat.le_of_ble_eq_true rfl)
 have Un2 : Arv Z H2 b1 k1 .char (2 : Int32) [(.int c0), (.int (0 : Int32))] (.int (0 : Int32)) := by have q := Vn2; rw [n_c0] at q; exact q
 have sz2 := Wn2.size
 have K2 := K1.wr Wn2 (Or.inr (by omega))
 have N2 := Fr.snoc X2 N0 (by omega)
 refine Wk.aloadN X2 hx (hD at_13) (n := 14) rfl rfl rfl ?_
 refine Wk.iconst X2 hx (hD at_14) (n := 15) rfl (z := (1 : Int32)) rfl ?_
 refine Wk.iloadN X2 hx (hD at_15) (n := 16) rfl rfl ?_
 refine Wk.sipush X2 hx (hD at_16) (n := 19) rfl (z := (255 : Int32)) rfl ?_
 refine Wk.iand X2 hx (hD at_19) (n := 20) rfl ?_
 obtain ⟨c1, q_c1⟩ : ∃ z : Int32, z = ((p3 &&& (255 : Int32)).toUInt32.toUInt16.toUInt32.toInt32) := ⟨_, rfl⟩
 have n_c1 : nar .char c1 = c1 := by rw [q_c1]; exact own_c255 _
 have r_c1 : ¬ c1 < 0 ∧ ¬ (255 : Int32) < c1 := by rw [q_c1]; exact own_r255 _
 refine Wk.i2c X2 hx (hD at_20) (n := 21) rfl q_c1.symm ?_
 obtain ⟨cl3, Ar3, qn3, Sz3, N_3, H_3, Gn3⟩ := id Un2
 have hin3 : ¬ ((1 : Int32) < 0 ∨ cl3.slots.size ≤ ((1 : Int32)).toNatClampNeg) := inb_of Sz3 ⟨by decide, by decide⟩
 refine Wk.stC X2 hx hZ e2 Ar3 hin3 (hD at_21) (n := 22) rfl fun T3 H3 X3 e3 Wn3 => ?_
 have Vn3 := Arv.set Ar3 qn3 Sz3 N_3 H_3 Gn3 (fits_nar_char _) Wn3 1 rfl (Nat.le_of_ble_eq_true rfl)
 have Un3 : Arv Z H3 b1 k1 .char (2 : Int32) [(.int c0), (.int c1)] (.int (0 : Int32)) := by have q := Vn3; rw [n_c1] at q; exact q
 have sz3 := Wn3.size
 have K3 := K2.wr Wn3 (Or.inr (by omega))
 have N3 := Fr.snoc X3 N2 (by omega)
 refine Wk.newO X3 hx hZ hown (oW hw 1 rfl) (oW hw 2 rfl) (oW hw 3 rfl) e3 (hD at_22) (n := 25) rfl (by decide) (by decide) fun T4 H4 b4 gn4 X4 e4 Ex4 An4 Dn4 Yn4 => ?_
 have gn4 := nx gn4
 have sz4 := Ex4.1
 have lt4 := ny An4.lt
 have K4 := K3.ext Ex4
 have Fn4_coder : Fld Z H4 b4 "java/lang/String" "coder" "B" (.int (0 : Int32)) := Dn4 (Or.inr (oW hw 27 rfl)) (ty := .byte) (by decide)
 have Fn4_value : Fld Z H4 b4 "java/lang/String" "value" "[B" .null := Dn4 (Or.inr (oW hw 29 rfl)) (ty := (.array .byte)) (by decide)
 refine Wk.dup X4 hx (hD at_25) (n := 26) rfl rfl ?_
 refine Wk.aloadN X4 hx (hD at_26) (n := 27) rfl rfl rfl ?_
 have f6 := (Un3.ext Ex4)
 have f7 := ((((O1.ext Ex1).wr Wn2 (by omega)).wr Wn3 (by omega)).ext Ex4)
 have hp8 : ∀ c ∈ ([c0, c1] : List Int32), ¬ c < 0 ∧ ¬ (255 : Int32) < c := List.forall_mem_cons.mpr ⟨r_c0, List.forall_mem_cons.mpr ⟨r_c1, (fun _ q => nomatch q)⟩⟩
 have cl5_ := fun Ls (hLs : LsOk c Ls) => X4.specialBack hx (y := mn12) rfl hown (mW hZ hw 4 rfl) (mW hZ hw 5 rfl) (mW hZ hw 6 rfl) (by decide) (StrChars.Road.backV (n0 := n0) (h := H4) (x := b4) (W := 1) hZ (fun d hd => hw d (own_ws d hd)) (kI := 4) (oW hw 2 rfl) (cs := [c0, c1]) (bs := (([c0, c1] : List Int32).map (fun c => c.toInt8.toInt32))) (n := 2) (by omega) (by omega) An4 Fn4_value Fn4_coder f6 (Sta.ext f7.2 S4) hCS rfl rfl (by decide) (by decide) hp8 rfl (by decide) (by decide)) (g := mkF m 27 Ls [(.ref b1), (.ref b4), (.ref b4)]) rfl hLs (Steps.refl _) (a := b4) (argsL := [(.ref b1)]) (rest := [(.ref b4)]) (lenOf pd_4 rfl) rfl (leq0 rfl) (hD at_27) (fun _ _ => ⟨rfl, e4, (by decide : 2 + 1 ≤ _), (by decide : 6 + 2 ≤ _)⟩)
 refine Wk.back (n := 30) (rc := 1) (rs := 2) (Q := StrChars.Road.QV Z b4 (2 : Int32) (([c0, c1] : List Int32).map (fun c => c.toInt8.toInt32)) H4 n0) (cl5_ _ (lsok hml rfl)) fun vn5 T5 L5 X5 hQ5 => ?_
 clear cl5_
 obtain ⟨rfl, M5, J5, p5_0, p5_1, t_5, kb_5, _, ge_5, nt_5, p5_2, p5_3⟩ := hQ5
 have nt_5 := nw nt_5
 have N5 := Fr.app N3 M5
 have sz5 := J5.1
 have K5 := K4.trans J5 (allS (Or.inr (by omega)) all0)
 have lt_p5 := ny p5_3.lt
 show Wk p e below _ T5 (mkF m 30 _ [(.ref b4)])
 refine Wk.astore X5 hx (hD at_30) (n := 32) rfl rfl (L' := #[.val (.int p1), .val (.int p2), .val (.int p3), .val (.ref b1), .val (.ref b4), .unset, .unset]) rfl ?_
 refine Wk.newO X5 hx hZ hown (oW hw 30 rfl) (oW hw 31 rfl) (oW hw 32 rfl) rfl (hD at_32) (n := 35) rfl (by decide) (by decide) fun T9 H9 b9 gn9 X9 e9 Ex9 An9 Dn9 Yn9 => ?_
 have gn9 := nx gn9
 have sz9 := Ex9.1
 have lt9 := ny An9.lt
 have K9 := K5.ext Ex9
 have Fn9_cause : Fld Z H9 b9 "java/lang/Throwable" "cause" "Ljava/lang/Throwable;" .null := Dn9 (Or.inl (oW hw 61 rfl)) (ty := (.object "java/lang/Throwable")) (by decide)
 have Fn9_stackTrace : Fld Z H9 b9 "java/lang/Throwable" "stackTrace" "[Ljava/lang/StackTraceElement;" .null := Dn9 (Or.inl (oW hw 64 rfl)) (ty := (.array (.object "java/lang/StackTraceElement"))) (by decide)
 have Fn9_suppressedExceptions : Fld Z H9 b9 "java/lang/Throwable" "suppressedExceptions" "Ljava/util/List;" .null := Dn9 (Or.inl (oW hw 67 rfl)) (ty := (.object "java/util/List")) (by decide)
 have Fn9_detailMessage : Fld Z H9 b9 "java/lang/Throwable" "detailMessage" "Ljava/lang/String;" .null := Dn9 (Or.inl (oW hw 91 rfl)) (ty := (.object "java/lang/String")) (by decide)
 have Fn9_backtrace : Fld Z H9 b9 "java/lang/Throwable" "backtrace" "Ljava/lang/Object;" .null := Dn9 (Or.inl (oW hw 92 rfl)) (ty := (.object "java/lang/Object")) (by decide)
 have Fn9_depth : Fld Z H9 b9 "java/lang/Throwable" "depth" "I" (.int (0 : Int32)) := Dn9 (Or.inl (oW hw 93 rfl)) (ty := .int) (by decide)
 have Fn9_line : Fld Z H9 b9 "com/example/net_thirty/netthirty/invoice/DiscountTooLargeException" "line" "I" (.int (0 : Int32)) := Dn9 (Or.inr (oW hw 97 rfl)) (ty := .int) (by decide)
 refine Wk.dup X9 hx (hD at_35) (n := 36) rfl rfl ?_
 refine Wk.iloadN X9 hx (hD at_36) (n := 37) rfl rfl ?_
 refine Wk.aload X9 hx (hD at_37) (n := 39) rfl rfl rfl ?_
 have f10 := ((f7.keep J5 (allS (by omega) all0)).ext Ex9)
 have cl11_ := fun Ls (hLs : LsOk c Ls) => X9.specialBack hx (y := mn5) rfl hown (mW hZ hw 33 rfl) (mW hZ hw 34 rfl) (mW hZ hw 35 rfl) (by decide) (backOfKL (W := 1) (rmIni l Z a0 hw [] b9 p1 b4 (.int (0 : Int32)) us ut H9 n0 (by omega) An9 Fn9_line Fn9_backtrace Fn9_detailMessage Fn9_cause Fn9_stackTrace Fn9_suppressedExceptions Yn9 f10 S2 S3 (by omega) hl hus hut) hZ (oW hw 35 rfl) (oW hw 32 rfl) (by decide) (by decide) hK.1 hK.2) (g := mkF m 39 Ls [(.ref b4), (.int p1), (.ref b9), (.ref b9)]) rfl hLs (Steps.refl _) (a := b9) (argsL := [(.int p1), (.ref b4)]) (rest := [(.ref b9)]) (lenOf pd_5 rfl) rfl (leq0 rfl) (hD at_39) (fun _ _ => ⟨rfl, e9, (by decide : 4 + 1 ≤ _), (by decide : 15 + 2752 ≤ _)⟩)
 refine Wk.back (n := 42) (rc := 1) (rs := 2752) (Q := Q_rmIni Z b9 p1 b4 (.int (0 : Int32)) us ut H9 n0) (cl11_ _ (lsok hml rfl)) fun vn11 T11 L11 X11 hQ11 => ?_
 clear cl11_
 obtain ⟨rfl, M11, J11, p11_0, p11_1⟩ := hQ11
 have N11 := Fr.app N5 M11
 have sz11 := J11.1
 have K11 := K9.trans J11 (allS (Or.inr (by omega)) all0)
 have lt_p11_0 := ny p11_0.lt
 show Wk p e below _ T11 (mkF m 42 _ [(.ref b9)])
 refine Wk.astore X11 hx (hD at_42) (n := 44) rfl rfl (L' := #[.val (.int p1), .val (.int p2), .val (.int p3), .val (.ref b1), .val (.ref b4), .val (.ref b9), .unset]) rfl ?_
 refine Wk.aload X11 hx (hD at_44) (n := 46) rfl rfl rfl ?_
 have f12 := (f10.keep J11 (allS (by omega) all0))
 obtain ⟨cq13, kq13, qn13a, qn13b, qn13c⟩ := isOf hZ rfl p11_0
 have cl13_ := fun Ls (hLs : LsOk c Ls) => X11.virtualBack hx (y := mn9) (z := mn9) hown (mW hZ hw 98 rfl) (mW hZ hw 99 rfl) (notFace_of_selects (args := #[]) (mW hZ hw 101 rfl)) (mW hZ hw 101 rfl) (mW hZ hw 100 rfl) (by decide) (backOf (W := 0) (rmLin l Z a0 hw [] b9 p1 w1 T11.heap n0 (by omega) p11_1 S1 E2 G1 G2 f12) hZ (oW hw 102 rfl) (oW hw 32 rfl) (by decide) (by decide)) qn13a qn13c (g := mkF m 46 Ls [(.ref b9)]) rfl hLs (Steps.refl _) (argsL := []) (rest := []) (lenOf pd_2 rfl) rfl (leq0 rfl) (hD at_46) (fun _ _ => ⟨rfl, rfl, (by decide : 5 + 1 ≤ _), (by decide : 2767 + 2 ≤ _)⟩)
 refine Wk.back (n := 49) (rc := 1) (rs := 2) (Q := Q_rmLin Z b9 p1 w1 T11.heap n0) (cl13_ _ (lsok hml rfl)) fun vn13 T13 L13 X13 hQ13 => ?_
 clear cl13_
 obtain ⟨r_13, iv_13, vv_13, rfl, M13, J13, p13_0, p13_1, p13_2, hz_13, hn_13⟩ := hQ13
 have N13 := Fr.app N11 M13
 have sz13 := J13.1
 have K13 := K11.trans J13 (fun x hx => nomatch hx)
 have lt_p13_0 := ny p13_0.lt
 show Wk p e below _ T13 (mkF m 49 _ [(.ref r_13)])
 refine Wk.astore X13 hx (hD at_49) (n := 51) rfl rfl (L' := #[.val (.int p1), .val (.int p2), .val (.int p3), .val (.ref b1), .val (.ref b4), .val (.ref b9), .val (.ref r_13)]) rfl ?_
 refine Wk.iloadN X13 hx (hD at_51) (n := 52) rfl rfl ?_
 by_cases hc52 : p1 < (0 : Int32)
 ·
  refine Wk.ifYes X13 hx (hD at_52) ((if0 _ _).trans (tlt hc52).1) (by decide) (n := 78) (by decide) ?_
  refine Wk.aload X13 hx (hD at_78) (n := 80) rfl rfl rfl ?_
  obtain ⟨cq14, kq14, qn14a, qn14b, qn14c⟩ := isOf hZ rfl p13_0
  have cl14_ := fun Ls (hLs : LsOk c Ls) => X13.virtualBack hx (y := mn10) (z := mn10) hown (mW hZ hw 118 rfl) (mW hZ hw 119 rfl) (notFace_of_selects (args := #[]) (mW hZ hw 121 rfl)) (mW hZ hw 121 rfl) (mW hZ hw 120 rfl) (by decide) (backOf (W := 0) (rmIsP l Z a0 hw [] r_13 iv_13 T13.heap n0 (by omega) p13_1 (by rw [hz_13 hc52]; rfl)) hZ (oW hw 122 rfl) (oW hw 105 rfl) (by decide) (by decide)) qn14a qn14c (g := mkF m 80 Ls [(.ref r_13)]) rfl hLs (Steps.refl _) (argsL := []) (rest := []) (lenOf pd_6 rfl) rfl (leq0 rfl) (hD at_80) (fun _ _ => ⟨rfl, rfl, (by decide : 6 + 0 ≤ _), (by decide : 2769 + 0 ≤ _)⟩)
  refine Wk.back (n := 83) (rc := 0) (rs := 0) (Q := Q_rmIsP Z r_13 iv_13 T13.heap n0) (cl14_ _ (lsok hml rfl)) fun vn14 T14 L14 X14 hQ14 => ?_
  clear cl14_
  obtain ⟨rfl, M14, e14⟩ := hQ14
  have N14 := Fr.app N13 M14
  show Wk p e below _ T14 (mkF m 83 _ [(.int iv_13)])
  have hc83_15 : iv_13 = (0 : Int32) := hz_13 hc52
  refine Wk.ifNo X14 hx (hD at_83) (n := 86) rfl ((if0 _ _).trans (teq hc83_15).2) ?_
  refine Wk.iconst X14 hx (hD at_86) (n := 87) rfl (z := (1 : Int32)) rfl ?_
  refine Wk.goto X14 hx (hD at_87) (by decide) (n := 91) (by decide) ?_
  exact Wk.leave X14 (v := some (.int (1 : Int32))) (fun h => by rw [Bd.returns] at h; cases h) hlk e14 ⟨rfl, N14, K13⟩ (by decide) (by decide) (fun fs hr => retNz X14 hx (t := .boolean) rfl Bd.returns (by simp) (hD at_91) hr)
 ·
  refine Wk.ifNo X13 hx (hD at_52) (n := 55) rfl ((if0 _ _).trans (flt hc52).1) ?_
  refine Wk.aload X13 hx (hD at_55) (n := 57) rfl rfl rfl ?_
  obtain ⟨cq16, kq16, qn16a, qn16b, qn16c⟩ := isOf hZ rfl p13_0
  have cl16_ := fun Ls (hLs : LsOk c Ls) => X13.virtualBack hx (y := mn10) (z := mn10) hown (mW hZ hw 118 rfl) (mW hZ hw 119 rfl) (notFace_of_selects (args := #[]) (mW hZ hw 121 rfl)) (mW hZ hw 121 rfl) (mW hZ hw 120 rfl) (by decide) (backOf (W := 0) (rmIsP l Z a0 hw [] r_13 iv_13 T13.heap n0 (by omega) p13_1 (by rw [(hn_13 hc52).1]; rfl)) hZ (oW hw 122 rfl) (oW hw 105 rfl) (by decide) (by decide)) qn16a qn16c (g := mkF m 57 Ls [(.ref r_13)]) rfl hLs (Steps.refl _) (argsL := []) (rest := []) (lenOf pd_6 rfl) rfl (leq0 rfl) (hD at_57) (fun _ _ => ⟨rfl, rfl, (by decide : 6 + 0 ≤ _), (by decide : 2769 + 0 ≤ _)⟩)
  refine Wk.back (n := 60) (rc := 0) (rs := 0) (Q := Q_rmIsP Z r_13 iv_13 T13.heap n0) (cl16_ _ (lsok hml rfl)) fun vn16 T16 L16 X16 hQ16 => ?_
  clear cl16_
  obtain ⟨rfl, M16, e16⟩ := hQ16
  have N16 := Fr.app N13 M16
  show Wk p e below _ T16 (mkF m 60 _ [(.int iv_13)])
  have hc60_17 : ¬ (iv_13 = (0 : Int32)) := by rw [(hn_13 hc52).1]; decide
  refine Wk.ifNo X16 hx (hD at_60) (n := 63) rfl ((if0 _ _).trans (feq hc60_17).1) ?_
  refine Wk.aload X16 hx (hD at_63) (n := 65) rfl rfl rfl ?_
  obtain ⟨cq18, kq18, qn18a, qn18b, qn18c⟩ := isOf hZ e16 p13_0
  have cl18_ := fun Ls (hLs : LsOk c Ls) => X16.virtualBack hx (y := mn11) (z := mn11) hown (mW hZ hw 123 rfl) (mW hZ hw 124 rfl) (notFace_of_selects (args := #[]) (mW hZ hw 126 rfl)) (mW hZ hw 126 rfl) (mW hZ hw 125 rfl) (by decide) (backOf (W := 0) (rmGet l Z a0 hw [] r_13 iv_13 vv_13 T13.heap n0 (by omega) p13_1 p13_2 (by rw [(hn_13 hc52).1]; decide)) hZ (oW hw 127 rfl) (oW hw 105 rfl) (by decide) (by decide)) qn18a qn18c (g := mkF m 65 Ls [(.ref r_13)]) rfl hLs (Steps.refl _) (argsL := []) (rest := []) (lenOf pd_7 rfl) rfl (leq0 rfl) (hD at_65) (fun _ _ => ⟨rfl, e16, (by decide : 6 + 0 ≤ _), (by decide : 2769 + 0 ≤ _)⟩)
  refine Wk.back (n := 68) (rc := 0) (rs := 0) (Q := Q_rmGet Z r_13 iv_13 vv_13 T13.heap n0) (cl18_ _ (lsok hml rfl)) fun vn18 T18 L18 X18 hQ18 => ?_
  clear cl18_
  obtain ⟨rfl, M18, e18⟩ := hQ18
  have N18 := Fr.app N16 M18
  show Wk p e below _ T18 (mkF m 68 _ [(.int vv_13)])
  refine Wk.iloadN X18 hx (hD at_68) (n := 69) rfl rfl ?_
  have hc69_19 : vv_13 = p1 := (hn_13 hc52).2
  refine Wk.icmpNo X18 hx (hD at_69) (n := 72) rfl (teq hc69_19).2 ?_
  refine Wk.iconst X18 hx (hD at_72) (n := 73) rfl (z := (1 : Int32)) rfl ?_
  refine Wk.goto X18 hx (hD at_73) (by decide) (n := 77) (by decide) ?_
  exact Wk.leave X18 (v := some (.int (1 : Int32))) (fun h => by rw [Bd.returns] at h; cases h) hlk e18 ⟨rfl, N18, K13⟩ (by decide) (by decide) (fun fs hr => retNz X18 hx (t := .boolean) rfl Bd.returns (by simp) (hD at_77) hr)
end Walks
theorem comes_1 {Post : Tables → Env → Array Value → State → Outcome → State → Prop} (hpost : ∀ tb e args s v u, (limb_1_1.after args s (.returned v) u = true ∧ limb_1_2.after args s (.returned v) u = true ∧ True) → FrameEnd s (.returned v) u (Jvm.fieldLocs frame_1_writes args s ++ Jvm.arrayLocs frame_1_arrays args s ++ Jvm.staticLocs frame_1_statics s) 24 5632 → Post tb e args s (.returned v) u) :
    ArmFor flags0 classFile x code maxLocals ret World_1 tables_1 room_1 Calls_1 rest_1 Pre_1 Post := by
  intro l hfl _ _ p e ha hc hk s m args below hf hA hF happ hP
  obtain ⟨hcalls, hrest, hpre⟩ := hP
  obtain ⟨-, -, -, hnamed, -, -, -, hat⟩ := (Spec.applies_iff hf).mp happ
  obtain ⟨hg, hn⟩ := and_e (Cond.before_iff.mp (show (Jvm.Cond.and given_1 narrow_1).before args s = true from hpre))
  obtain ⟨gc, gr⟩ := and_e hg
  obtain ⟨w0, w1, w2, rfl⟩ : ∃ w0 w1 w2 : Value, args = #[w0, w1, w2] := by
    have hs : args.size = 3 := by simpa [Cond.value, given_1] using gc
    obtain ⟨L⟩ := args
    match L, hs with
    | [w0, w1, w2], _ => exact ⟨w0, w1, w2, rfl⟩
  have hw := fun d (hd : d ∈ tables_1) => atoms_spec (ws := Jvm.Cond.code x code maxLocals ret :: tables_1) hat d (List.mem_cons_of_mem _ hd)
  have hfit : Fit s := fun {y c} hc i hi => by
    obtain ⟨ha, rfl⟩ := Array.getElem?_eq_some_iff.mp hc
    have q := List.all_eq_true.mp ((Array.all_eq_true_iff_forall_mem.mp hF) _ (Array.getElem_mem ha)) i (List.mem_range.mpr hi)
    simpa [Array.getElem?_eq_getElem hi] using q
  obtain ⟨hsets, hown0⟩ := atoms_of _ (rest_1_c_eq ▸ (show rest_1_c.before _ s = true from hrest))
  have hr0 := Cond.before_iff.mp hown0
  obtain ⟨g0, gr⟩ := and_e gr
  obtain ⟨i0, ei0⟩ := is_v g0
  obtain rfl : w0 = (.int i0) := Option.some.inj ei0
  obtain ⟨g1, gr⟩ := and_e gr
  obtain ⟨i1, ei1⟩ := is_v g1
  obtain rfl : w1 = (.int i1) := Option.some.inj ei1
  obtain ⟨i2, ei2⟩ := is_v gr
  obtain rfl : w2 = (.int i2) := Option.some.inj ei2
  obtain ⟨w1, ew⟩ := exa_v (Cond.before_iff.mp (hsets _ (List.mem_of_getElem? (i := 31) rfl)))
  have S1 := Sta.start ew (Or.inl (hsets _ (List.mem_of_getElem? (i := 30) rfl)))
  have E2 := Exa.start ew (Cond.before_iff.mp (hsets _ (List.mem_of_getElem? (i := 31) rfl)))
  have G1 := own_fld ew (Term.int_eval (0)) (Cond.before_iff.mp (hsets _ (List.mem_of_getElem? (i := 32) rfl)))
  have G2 := own_fld ew (Term.int_eval (0)) (Cond.before_iff.mp (hsets _ (List.mem_of_getElem? (i := 33) rfl)))
  obtain ⟨zc, ez⟩ := is_v (Cond.before_iff.mp (hsets _ (List.mem_of_getElem? (i := 1) rfl)))
  have S4 := Sta.start ez (Or.inl (hsets _ (List.mem_of_getElem? (i := 0) rfl)))
  have hCS : ¬ zc = 0 := own_ne0 ez (Cond.before_iff.mp (hsets _ (List.mem_of_getElem? (i := 2) rfl)))
  have hl : l.stackTraces = true := by simp [Launch.stackTraces, hfl]; decide
  obtain ⟨us, eus, rus⟩ := isR_v (Cond.before_iff.mp (hsets _ (List.mem_of_getElem? (i := 16) rfl)))
  have S2 := Sta.start eus (Or.inl (hsets _ (List.mem_of_getElem? (i := 15) rfl)))
  obtain ⟨ut, eut, rut⟩ := isR_v (Cond.before_iff.mp (hsets _ (List.mem_of_getElem? (i := 21) rfl)))
  have S3 := Sta.start eut (Or.inl (hsets _ (List.mem_of_getElem? (i := 20) rfl)))
  obtain ⟨n, o, h1, h2, h3, _, L, rfl, ⟨rfl, N, -⟩, hq⟩ := rm0 l s _ hw tables_1 i0 i1 i2 w1 zc us ut s.heap s.heap.size (Nat.le_refl _) S1 E2 G1 G2 (Old.start s) S4 S2 S3 hCS hl rus rut p e ha hc hk s m _ below hf ((Spec.applies_iff_loose hf).mp happ).1 ⟨rfl, State.Warmed39.refl s, rfl⟩ ⟨MethodsKnown_of_tablesKnown hcalls.2.1, FramesKnown_of_framesKnown hcalls.1 hf⟩
  refine ⟨n, _, h1, h2, h3, hpost _ _ _ _ _ _ ⟨Cond.after_iff.mpr rfl, Cond.after_iff.mpr (eq_i res_at (Term.int_eval (1)) rfl), trivial⟩ ⟨hq.1, hq.2.1, (hq.2.2.sift fun y hy => Or.inr (N y hy)).mono (by decide) (by decide)⟩⟩
theorem main_1_1 : Claimed_1_1 := comes_1 fun _ _ _ _ _ _ h hF => ⟨h.1, hF⟩
theorem main_1_2 : Claimed_1_2 := comes_1 fun _ _ _ _ _ _ h hF => ⟨h.2.1, hF⟩
end Jvm.Pilot.@@N@@
namespace Jvm.Pilot.@@N@@
open Jvm Jvm.ClassFile Sem Op Lib Jvm.Free Jvm.Stand Jvm.Pilot.@@N@@.Jvm.D
/-! MADE BY PROGRAM (witnessworld.py) out of the Statement's table words and the real class files: 38 classes; the members and pool entries that the words name. The judged class is class 1, her method 1. -/
namespace start1
open Jvm.ClassFile
def u (s : String) : CpInfo := .utf8 (stringToUtf16 s)
/-- a pool by its gaps: so many unusable entries, then the entry; so many at the end -/
def gap : Nat → List CpInfo → List CpInfo
  | 0, r => r
  | n + 1, r => .unusable :: gap n r
def poolList (es : List (Nat × CpInfo)) (last : Nat) : List CpInfo := es.foldr (fun e r => gap e.1 (e.2 :: r)) (gap last [])
def pool (es : List (Nat × CpInfo)) (last : Nat) : Array CpInfo := ⟨poolList es last⟩
def fileOf (pool : Array CpInfo) (this : Nat) (attrs : Array Attribute := #[]) (ms : Array MethodInfo := #[]) (fl : Nat := 33) (sup : Nat := 0) (ifs : Array Nat := #[]) (fds : Array FieldInfo := #[]) : ClassFile where
  minorVersion := 0
  majorVersion := 65
  constantPool := pool
  accessFlags := fl
  thisClass := this
  superClass := sup
  interfaces := ifs
  fields := fds
  methods := ms
  attributes := attrs
def plain (name : String) (sup : Option ClassId) : Class where
  name := name
  kind := .ordinary
  loader := none
  accessFlags := 33
  super := sup
  interfaces := #[]
  cf := none
  fields := #[]
  methods := #[]
  instanceTypes := #[]
  staticTypes := #[]
  resolved := #[]
  callSites := []
  init := .initialized
  statics := none
  mirror := none

def pool0 : Array CpInfo := pool [(5, u "<init>"), (0, u "()V"), (1, .class_ 10), (1, u "java/lang/Object")] 113

def k0c0 : Code := { maxStack := 0, maxLocals := 1, code := object_method_1_code, exceptionTable := #[], attributes := #[] }
def k0m0 : Method := { name := "<init>", desc := "()V", sig := { parameters := [], returnType := none }, accessFlags := 1, code := some k0c0 }
/-- java/lang/Object -/
def k0 : Class := { plain "java/lang/Object" none with
  accessFlags := 33
  interfaces := #[]
  cf := some (fileOf pool0 8 #[] #[{ accessFlags := 1, nameIndex := 5, descriptorIndex := 6, attributes := #[] }] 33 0 #[] #[])
  fields := #[]
  methods := #[k0m0]
  instanceTypes := #[]
  staticTypes := #[]
  resolved := Array.replicate 124 none
  statics := none }

def pool1 : Array CpInfo := pool [(2, .class_ 4), (1, u "java/lang/Object"), (0, u "<init>"), (0, u "()V"), (0, .class_ 8), (0, u "java/lang/String"), (0, .methodref 7 10), (0, .nameAndType 5 11), (0, u "([C)V"), (0, .class_ 13), (0, u "com/example/net_thirty/netthirty/invoice/DiscountTooLargeException"), (0, .methodref 12 15), (0, .nameAndType 5 16), (0, u "(ILjava/lang/String;)V"), (0, .methodref 12 18), (0, .nameAndType 19 20), (0, u "line"), (0, u "()Ljava/util/OptionalInt;"), (0, .methodref 22 23), (0, .class_ 24), (0, .nameAndType 25 26), (0, u "java/util/OptionalInt"), (0, u "isPresent"), (0, u "()Z"), (0, .methodref 22 28), (0, .nameAndType 29 30), (0, u "getAsInt"), (0, u "()I"), (0, .class_ 32), (0, u "com/example/net_thirty/netthirty/invoice/DiscountTooLargeExceptionLinePinLaw"), (2, u "law"), (0, u "(III)Z")] 5

def k1m0 : Method := { name := "<init>", desc := "()V", sig := { parameters := [], returnType := none }, accessFlags := 1, code := none }
def k1c1 : Code := { maxStack := 4, maxLocals := 7, code := code, exceptionTable := #[], attributes := #[] }
def k1m1 : Method := { name := "law", desc := "(III)Z", sig := { parameters := [.int, .int, .int], returnType := some .boolean }, accessFlags := 9, code := some k1c1 }
/-- com/example/net_thirty/netthirty/invoice/DiscountTooLargeExceptionLinePinLaw -/
def k1 : Class := { plain "com/example/net_thirty/netthirty/invoice/DiscountTooLargeExceptionLinePinLaw" (some 0) with
  accessFlags := 49
  interfaces := #[]
  cf := some (fileOf pool1 31 #[] #[{ accessFlags := 1, nameIndex := 5, descriptorIndex := 6, attributes := #[] }, { accessFlags := 9, nameIndex := 35, descriptorIndex := 36, attributes := #[] }] 49 2 #[] #[])
  fields := #[]
  methods := #[k1m0, k1m1]
  instanceTypes := #[]
  staticTypes := #[]
  resolved := Array.replicate 42 none
  statics := none }

def pool2 : Array CpInfo := pool [(1, .class_ 2), (0, u "java/io/Serializable"), (0, .class_ 4), (0, u "java/lang/Object")] 2

/-- java/io/Serializable -/
def k2 : Class := { plain "java/io/Serializable" (some 0) with
  accessFlags := 1537
  interfaces := #[]
  cf := some (fileOf pool2 1 #[] #[] 1537 3 #[] #[])
  fields := #[]
  methods := #[]
  instanceTypes := #[]
  staticTypes := #[]
  resolved := Array.replicate 7 none
  statics := none }

def pool3 : Array CpInfo := pool [(1, .class_ 2), (0, u "java/lang/Comparable"), (0, .class_ 4), (0, u "java/lang/Object")] 7

/-- java/lang/Comparable -/
def k3 : Class := { plain "java/lang/Comparable" (some 0) with
  accessFlags := 1537
  interfaces := #[]
  cf := some (fileOf pool3 1 #[] #[] 1537 3 #[] #[])
  fields := #[]
  methods := #[]
  instanceTypes := #[]
  staticTypes := #[]
  resolved := Array.replicate 12 none
  statics := none }

def pool4 : Array CpInfo := pool [(2, .class_ 4), (1, u "java/lang/CharSequence"), (42, .class_ 48), (0, u "java/lang/CharSequence$1CodePointIterator"), (10, .class_ 60), (0, u "java/lang/CharSequence$1CharIterator"), (5, .class_ 67), (0, u "java/lang/Object")] 63

/-- java/lang/CharSequence -/
def k4 : Class := { plain "java/lang/CharSequence" (some 0) with
  accessFlags := 1537
  interfaces := #[]
  cf := some (fileOf pool4 2 #[.nestMembers #[47, 59]] #[] 1537 66 #[] #[])
  fields := #[]
  methods := #[]
  instanceTypes := #[]
  staticTypes := #[]
  resolved := Array.replicate 131 none
  statics := none }

def pool5 : Array CpInfo := pool [(1, .class_ 2), (0, u "java/lang/constant/Constable"), (0, .class_ 4), (0, u "java/lang/Object")] 6

/-- java/lang/constant/Constable -/
def k5 : Class := { plain "java/lang/constant/Constable" (some 0) with
  accessFlags := 1537
  interfaces := #[]
  cf := some (fileOf pool5 1 #[] #[] 1537 3 #[] #[])
  fields := #[]
  methods := #[]
  instanceTypes := #[]
  staticTypes := #[]
  resolved := Array.replicate 11 none
  statics := none }

def pool6 : Array CpInfo := pool [(1, .class_ 2), (0, u "java/lang/constant/ConstantDesc"), (0, .class_ 4), (0, u "java/lang/Object")] 32

/-- java/lang/constant/ConstantDesc -/
def k6 : Class := { plain "java/lang/constant/ConstantDesc" (some 0) with
  accessFlags := 1537
  interfaces := #[]
  cf := some (fileOf pool6 1 #[] #[] 1537 3 #[] #[])
  fields := #[]
  methods := #[]
  instanceTypes := #[]
  staticTypes := #[]
  resolved := Array.replicate 37 none
  statics := none }

def pool7 : Array CpInfo := pool [(1, .methodref 2 3), (0, .class_ 4), (0, .nameAndType 5 6), (0, u "java/lang/Object"), (0, u "<init>"), (0, u "()V"), (2, .fieldref 10 11), (0, .class_ 12), (0, .nameAndType 13 14), (0, u "java/lang/String"), (0, u "value"), (0, u "[B"), (0, .fieldref 10 16), (0, .nameAndType 17 18), (0, u "coder"), (0, u "B"), (2, u "hash"), (0, u "I"), (2, u "hashIsZero"), (0, u "Z"), (0, .methodref 10 28), (0, .nameAndType 5 29), (0, u "([CIILjava/lang/Void;)V"), (8, .fieldref 10 39), (0, .nameAndType 40 26), (0, u "COMPACT_STRINGS"), (1, .class_ 44), (1, u "java/lang/StringUTF16"), (0, u "compress"), (1, .methodref 42 48), (0, .nameAndType 49 50), (0, u "coderFromArrayLen"), (0, u "([BI)B"), (126, .methodref 42 178), (0, .nameAndType 45 179), (0, u "([CII)[B"), (395, .class_ 576), (0, u "java/lang/CharSequence"), (22, u "CASE_INSENSITIVE_ORDER"), (0, u "Ljava/util/Comparator;"), (409, u "([C)V"), (90, u "serialPersistentFields"), (0, u "[Ljava/io/ObjectStreamField;"), (0, .class_ 1104), (0, u "java/lang/String$CaseInsensitiveComparator"), (1, .class_ 1107), (0, u "java/io/Serializable"), (0, .class_ 1109), (0, u "java/lang/Comparable"), (0, .class_ 1111), (0, u "java/lang/constant/Constable"), (0, .class_ 1113), (0, u "java/lang/constant/ConstantDesc"), (2, u "serialVersionUID"), (0, u "J"), (3, u "REPL"), (0, u "C"), (2, u "LATIN1"), (1, u "UTF16")] 323

def k7m0 : Method := { name := "<init>", desc := "()V", sig := { parameters := [], returnType := none }, accessFlags := 1, code := none }
def k7c1 : Code := { maxStack := 5, maxLocals := 2, code := jdk_42_method_3_code, exceptionTable := #[], attributes := #[] }
def k7m1 : Method := { name := "<init>", desc := "([C)V", sig := { parameters := [(.array .char)], returnType := none }, accessFlags := 1, code := some k7c1 }
def k7c2 : Code := { maxStack := 4, maxLocals := 6, code := jdk_42_method_149_code, exceptionTable := #[], attributes := #[] }
def k7m2 : Method := { name := "<init>", desc := "([CIILjava/lang/Void;)V", sig := { parameters := [(.array .char), .int, .int, (.object "java/lang/Void")], returnType := none }, accessFlags := 2, code := some k7c2 }
/-- java/lang/String -/
def k7 : Class := { plain "java/lang/String" (some 0) with
  accessFlags := 49
  interfaces := #[2, 3, 4, 5, 6]
  cf := some (fileOf pool7 10 #[.nestMembers #[1103]] #[{ accessFlags := 1, nameIndex := 5, descriptorIndex := 6, attributes := #[] }, { accessFlags := 1, nameIndex := 5, descriptorIndex := 1010, attributes := #[] }, { accessFlags := 2, nameIndex := 5, descriptorIndex := 29, attributes := #[] }] 49 2 #[1106, 1108, 575, 1110, 1112] #[{ accessFlags := 18, nameIndex := 13, descriptorIndex := 14, attributes := #[] }, { accessFlags := 18, nameIndex := 17, descriptorIndex := 18, attributes := #[] }, { accessFlags := 2, nameIndex := 21, descriptorIndex := 22, attributes := #[] }, { accessFlags := 2, nameIndex := 25, descriptorIndex := 26, attributes := #[] }, { accessFlags := 26, nameIndex := 1116, descriptorIndex := 1117, attributes := #[] }, { accessFlags := 24, nameIndex := 40, descriptorIndex := 26, attributes := #[] }, { accessFlags := 26, nameIndex := 1101, descriptorIndex := 1102, attributes := #[] }, { accessFlags := 26, nameIndex := 1121, descriptorIndex := 1122, attributes := #[] }, { accessFlags := 25, nameIndex := 599, descriptorIndex := 600, attributes := #[] }, { accessFlags := 24, nameIndex := 1125, descriptorIndex := 18, attributes := #[] }, { accessFlags := 24, nameIndex := 1127, descriptorIndex := 18, attributes := #[] }])
  fields := #[{ name := "value", type := (.array .byte), accessFlags := 18, slot := 0, constantValue := 0 }, { name := "coder", type := .byte, accessFlags := 18, slot := 1, constantValue := 0 }, { name := "hash", type := .int, accessFlags := 2, slot := 2, constantValue := 0 }, { name := "hashIsZero", type := .boolean, accessFlags := 2, slot := 3, constantValue := 0 }, { name := "serialVersionUID", type := .long, accessFlags := 26, slot := 0, constantValue := 0 }, { name := "COMPACT_STRINGS", type := .boolean, accessFlags := 24, slot := 1, constantValue := 0 }, { name := "serialPersistentFields", type := (.array (.object "java/io/ObjectStreamField")), accessFlags := 26, slot := 2, constantValue := 0 }, { name := "REPL", type := .char, accessFlags := 26, slot := 3, constantValue := 0 }, { name := "CASE_INSENSITIVE_ORDER", type := (.object "java/util/Comparator"), accessFlags := 25, slot := 4, constantValue := 0 }, { name := "LATIN1", type := .byte, accessFlags := 24, slot := 5, constantValue := 0 }, { name := "UTF16", type := .byte, accessFlags := 24, slot := 6, constantValue := 0 }]
  methods := #[k7m0, k7m1, k7m2]
  instanceTypes := #[(.array .byte), .byte, .int, .boolean]
  staticTypes := #[.long, .boolean, (.array (.object "java/io/ObjectStreamField")), .char, (.object "java/util/Comparator"), .byte, .byte]
  resolved := Array.replicate 1451 none
  statics := some 0 }

def pool8 : Array CpInfo := pool [(6, .class_ 8), (1, u "java/lang/Object"), (0, u "<init>"), (0, u "()V"), (1, .class_ 14), (1, u "java/lang/StringUTF16"), (31, u "$assertionsDisabled"), (0, u "Z"), (13, u "HI_BYTE_SHIFT"), (0, u "I"), (2, u "LO_BYTE_SHIFT"), (49, .methodref 12 116), (0, .nameAndType 117 118), (0, u "compress"), (0, u "([CI[BII)I"), (3, u "([CII)[B"), (138, u "coderFromArrayLen"), (0, u "([BI)B"), (106, .class_ 371), (1, u "java/lang/StringUTF16$LinesSpliterator"), (58, u "MAX_LENGTH"), (196, .class_ 628), (0, u "java/lang/StringUTF16$CodePointsSpliterator"), (0, .class_ 630), (0, u "java/lang/StringUTF16$CharsSpliterator")] 4

def k8m0 : Method := { name := "<init>", desc := "()V", sig := { parameters := [], returnType := none }, accessFlags := 0, code := none }
def k8c1 : Code := { maxStack := 2, maxLocals := 2, code := jdk_52_method_15_code, exceptionTable := #[], attributes := #[] }
def k8m1 : Method := { name := "coderFromArrayLen", desc := "([BI)B", sig := { parameters := [(.array .byte), .int], returnType := some .byte }, accessFlags := 8, code := some k8c1 }
def k8c2 : Code := { maxStack := 5, maxLocals := 6, code := jdk_52_method_16_code, exceptionTable := #[], attributes := #[] }
def k8m2 : Method := { name := "compress", desc := "([CII)[B", sig := { parameters := [(.array .char), .int, .int], returnType := some (.array .byte) }, accessFlags := 9, code := some k8c2 }
def k8c3 : Code := { maxStack := 3, maxLocals := 7, code := jdk_52_method_21_code, exceptionTable := #[], attributes := #[] }
def k8m3 : Method := { name := "compress", desc := "([CI[BII)I", sig := { parameters := [(.array .char), .int, (.array .byte), .int, .int], returnType := some .int }, accessFlags := 9, code := some k8c3 }
/-- java/lang/StringUTF16 -/
def k8 : Class := { plain "java/lang/StringUTF16" (some 0) with
  accessFlags := 48
  interfaces := #[]
  cf := some (fileOf pool8 12 #[.nestMembers #[627, 629, 369]] #[{ accessFlags := 0, nameIndex := 9, descriptorIndex := 10, attributes := #[] }, { accessFlags := 8, nameIndex := 261, descriptorIndex := 262, attributes := #[] }, { accessFlags := 9, nameIndex := 117, descriptorIndex := 122, attributes := #[] }, { accessFlags := 9, nameIndex := 117, descriptorIndex := 118, attributes := #[] }] 48 6 #[] #[{ accessFlags := 26, nameIndex := 61, descriptorIndex := 62, attributes := #[] }, { accessFlags := 26, nameIndex := 65, descriptorIndex := 62, attributes := #[] }, { accessFlags := 24, nameIndex := 430, descriptorIndex := 62, attributes := #[] }, { accessFlags := 4120, nameIndex := 46, descriptorIndex := 47, attributes := #[] }])
  fields := #[{ name := "HI_BYTE_SHIFT", type := .int, accessFlags := 26, slot := 0, constantValue := 0 }, { name := "LO_BYTE_SHIFT", type := .int, accessFlags := 26, slot := 1, constantValue := 0 }, { name := "MAX_LENGTH", type := .int, accessFlags := 24, slot := 2, constantValue := 0 }, { name := "$assertionsDisabled", type := .boolean, accessFlags := 4120, slot := 3, constantValue := 0 }]
  methods := #[k8m0, k8m1, k8m2, k8m3]
  instanceTypes := #[]
  staticTypes := #[.int, .int, .int, .boolean]
  resolved := Array.replicate 635 none
  statics := none }

def pool9 : Array CpInfo := pool [(1, .methodref 2 3), (0, .class_ 4), (0, .nameAndType 5 6), (0, u "java/lang/Object"), (0, u "<init>"), (0, u "()V"), (0, .fieldref 8 9), (0, .class_ 10), (0, .nameAndType 11 12), (0, u "java/lang/Throwable"), (0, u "cause"), (0, u "Ljava/lang/Throwable;"), (0, .fieldref 8 14), (0, .nameAndType 15 16), (0, u "UNASSIGNED_STACK"), (0, u "[Ljava/lang/StackTraceElement;"), (0, .fieldref 8 18), (0, .nameAndType 19 16), (0, u "stackTrace"), (0, .fieldref 8 21), (0, .nameAndType 22 23), (0, u "SUPPRESSED_SENTINEL"), (0, u "Ljava/util/List;"), (0, .fieldref 8 25), (0, .nameAndType 26 23), (0, u "suppressedExceptions"), (0, .methodref 8 28), (0, .nameAndType 29 30), (0, u "fillInStackTrace"), (0, u "()Ljava/lang/Throwable;"), (0, .fieldref 8 32), (0, .nameAndType 33 34), (0, u "detailMessage"), (0, u "Ljava/lang/String;"), (58, .class_ 94), (0, u "java/lang/Throwable$WrappedPrintStream"), (6, .class_ 103), (1, u "java/lang/Throwable$PrintStreamOrWriter"), (61, u "$assertionsDisabled"), (0, u "Z"), (26, .class_ 194), (0, u "java/lang/Throwable$WrappedPrintWriter"), (3, .fieldref 8 199), (0, .nameAndType 200 201), (0, u "backtrace"), (0, u "Ljava/lang/Object;"), (0, .methodref 8 203), (0, .nameAndType 29 204), (0, u "(I)Ljava/lang/Throwable;"), (6, u "depth"), (0, u "I"), (10, u "(Ljava/lang/String;)V"), (45, .class_ 271), (1, u "java/lang/Throwable$SentinelHolder"), (32, u "EMPTY_THROWABLE_ARRAY"), (0, u "[Ljava/lang/Throwable;"), (12, .class_ 319), (0, u "java/io/Serializable"), (0, u "serialVersionUID"), (0, u "J"), (5, u "NULL_CAUSE_MESSAGE"), (0, u "SELF_SUPPRESSION_MESSAGE"), (0, u "CAUSE_CAPTION"), (0, u "SUPPRESSED_CAPTION")] 73

def k9c0 : Code := { maxStack := 2, maxLocals := 1, code := jdk_78_method_1_code, exceptionTable := #[], attributes := #[] }
def k9m0 : Method := { name := "<init>", desc := "()V", sig := { parameters := [], returnType := none }, accessFlags := 1, code := some k9c0 }
def k9c1 : Code := { maxStack := 2, maxLocals := 2, code := jdk_78_method_2_code, exceptionTable := #[], attributes := #[] }
def k9m1 : Method := { name := "<init>", desc := "(Ljava/lang/String;)V", sig := { parameters := [(.object "java/lang/String")], returnType := none }, accessFlags := 1, code := some k9c1 }
def k9c2 : Code := { maxStack := 2, maxLocals := 1, code := ⟨#[0x2a, 0xb4, 0x00, 0x11, 0xc7, 0x00, 0x0a, 0x2a, 0xb4, 0x00, 0xc6, 0xc6, 0x00, 0x10, 0x2a, 0x03, 0xb6, 0x00, 0xca, 0x57, 0x2a, 0xb2, 0x00, 0x0d, 0xb5, 0x00, 0x11, 0x2a, 0xb0]⟩, exceptionTable := #[], attributes := #[] }
def k9m2 : Method := { name := "fillInStackTrace", desc := "()Ljava/lang/Throwable;", sig := { parameters := [], returnType := some (.object "java/lang/Throwable") }, accessFlags := 33, code := some k9c2 }
def k9m3 : Method := { name := "fillInStackTrace", desc := "(I)Ljava/lang/Throwable;", sig := { parameters := [.int], returnType := some (.object "java/lang/Throwable") }, accessFlags := 258, code := none }
/-- java/lang/Throwable -/
def k9 : Class := { plain "java/lang/Throwable" (some 0) with
  accessFlags := 33
  interfaces := #[2]
  cf := some (fileOf pool9 8 #[.nestMembers #[193, 93, 101, 269]] #[{ accessFlags := 1, nameIndex := 5, descriptorIndex := 6, attributes := #[] }, { accessFlags := 1, nameIndex := 5, descriptorIndex := 223, attributes := #[] }, { accessFlags := 33, nameIndex := 29, descriptorIndex := 30, attributes := #[] }, { accessFlags := 258, nameIndex := 29, descriptorIndex := 204, attributes := #[] }] 33 2 #[318] #[{ accessFlags := 26, nameIndex := 320, descriptorIndex := 321, attributes := #[] }, { accessFlags := 130, nameIndex := 200, descriptorIndex := 201, attributes := #[] }, { accessFlags := 2, nameIndex := 33, descriptorIndex := 34, attributes := #[] }, { accessFlags := 26, nameIndex := 15, descriptorIndex := 16, attributes := #[] }, { accessFlags := 2, nameIndex := 11, descriptorIndex := 12, attributes := #[] }, { accessFlags := 2, nameIndex := 19, descriptorIndex := 16, attributes := #[] }, { accessFlags := 130, nameIndex := 211, descriptorIndex := 212, attributes := #[] }, { accessFlags := 26, nameIndex := 22, descriptorIndex := 23, attributes := #[] }, { accessFlags := 2, nameIndex := 26, descriptorIndex := 23, attributes := #[] }, { accessFlags := 26, nameIndex := 327, descriptorIndex := 34, attributes := #[] }, { accessFlags := 26, nameIndex := 328, descriptorIndex := 34, attributes := #[] }, { accessFlags := 26, nameIndex := 329, descriptorIndex := 34, attributes := #[] }, { accessFlags := 26, nameIndex := 330, descriptorIndex := 34, attributes := #[] }, { accessFlags := 26, nameIndex := 304, descriptorIndex := 305, attributes := #[] }, { accessFlags := 4120, nameIndex := 165, descriptorIndex := 166, attributes := #[] }])
  fields := #[{ name := "serialVersionUID", type := .long, accessFlags := 26, slot := 0, constantValue := 0 }, { name := "backtrace", type := (.object "java/lang/Object"), accessFlags := 130, slot := 0, constantValue := 0 }, { name := "detailMessage", type := (.object "java/lang/String"), accessFlags := 2, slot := 1, constantValue := 0 }, { name := "UNASSIGNED_STACK", type := (.array (.object "java/lang/StackTraceElement")), accessFlags := 26, slot := 1, constantValue := 0 }, { name := "cause", type := (.object "java/lang/Throwable"), accessFlags := 2, slot := 2, constantValue := 0 }, { name := "stackTrace", type := (.array (.object "java/lang/StackTraceElement")), accessFlags := 2, slot := 3, constantValue := 0 }, { name := "depth", type := .int, accessFlags := 130, slot := 4, constantValue := 0 }, { name := "SUPPRESSED_SENTINEL", type := (.object "java/util/List"), accessFlags := 26, slot := 2, constantValue := 0 }, { name := "suppressedExceptions", type := (.object "java/util/List"), accessFlags := 2, slot := 5, constantValue := 0 }, { name := "NULL_CAUSE_MESSAGE", type := (.object "java/lang/String"), accessFlags := 26, slot := 3, constantValue := 0 }, { name := "SELF_SUPPRESSION_MESSAGE", type := (.object "java/lang/String"), accessFlags := 26, slot := 4, constantValue := 0 }, { name := "CAUSE_CAPTION", type := (.object "java/lang/String"), accessFlags := 26, slot := 5, constantValue := 0 }, { name := "SUPPRESSED_CAPTION", type := (.object "java/lang/String"), accessFlags := 26, slot := 6, constantValue := 0 }, { name := "EMPTY_THROWABLE_ARRAY", type := (.array (.object "java/lang/Throwable")), accessFlags := 26, slot := 7, constantValue := 0 }, { name := "$assertionsDisabled", type := .boolean, accessFlags := 4120, slot := 8, constantValue := 0 }]
  methods := #[k9m0, k9m1, k9m2, k9m3]
  instanceTypes := #[(.object "java/lang/Object"), (.object "java/lang/String"), (.object "java/lang/Throwable"), (.array (.object "java/lang/StackTraceElement")), .int, (.object "java/util/List")]
  staticTypes := #[.long, (.array (.object "java/lang/StackTraceElement")), (.object "java/util/List"), (.object "java/lang/String"), (.object "java/lang/String"), (.object "java/lang/String"), (.object "java/lang/String"), (.array (.object "java/lang/Throwable")), .boolean]
  resolved := Array.replicate 404 none
  statics := some 1 }

def pool10 : Array CpInfo := pool [(2, .class_ 4), (1, u "java/lang/Throwable"), (0, u "<init>"), (0, u "()V"), (0, .methodref 2 8), (0, .nameAndType 5 9), (0, u "(Ljava/lang/String;)V"), (9, .class_ 20), (0, u "java/lang/Exception"), (0, u "serialVersionUID"), (0, u "J")] 17

def k10m0 : Method := { name := "<init>", desc := "()V", sig := { parameters := [], returnType := none }, accessFlags := 1, code := none }
def k10c1 : Code := { maxStack := 2, maxLocals := 2, code := jdk_59_method_2_code, exceptionTable := #[], attributes := #[] }
def k10m1 : Method := { name := "<init>", desc := "(Ljava/lang/String;)V", sig := { parameters := [(.object "java/lang/String")], returnType := none }, accessFlags := 1, code := some k10c1 }
/-- java/lang/Exception -/
def k10 : Class := { plain "java/lang/Exception" (some 9) with
  accessFlags := 33
  interfaces := #[]
  cf := some (fileOf pool10 19 #[] #[{ accessFlags := 1, nameIndex := 5, descriptorIndex := 6, attributes := #[] }, { accessFlags := 1, nameIndex := 5, descriptorIndex := 9, attributes := #[] }] 33 2 #[] #[{ accessFlags := 24, nameIndex := 21, descriptorIndex := 22, attributes := #[] }])
  fields := #[{ name := "serialVersionUID", type := .long, accessFlags := 24, slot := 0, constantValue := 0 }]
  methods := #[k10m0, k10m1]
  instanceTypes := #[(.object "java/lang/Object"), (.object "java/lang/String"), (.object "java/lang/Throwable"), (.array (.object "java/lang/StackTraceElement")), .int, (.object "java/util/List")]
  staticTypes := #[.long]
  resolved := Array.replicate 40 none
  statics := none }

def pool11 : Array CpInfo := pool [(2, .class_ 4), (1, u "java/lang/Exception"), (0, u "<init>"), (0, u "()V"), (0, .methodref 2 8), (0, .nameAndType 5 9), (0, u "(Ljava/lang/String;)V"), (9, .class_ 20), (0, u "java/lang/RuntimeException"), (0, u "serialVersionUID"), (0, u "J")] 17

def k11m0 : Method := { name := "<init>", desc := "()V", sig := { parameters := [], returnType := none }, accessFlags := 1, code := none }
def k11c1 : Code := { maxStack := 2, maxLocals := 2, code := jdk_58_method_2_code, exceptionTable := #[], attributes := #[] }
def k11m1 : Method := { name := "<init>", desc := "(Ljava/lang/String;)V", sig := { parameters := [(.object "java/lang/String")], returnType := none }, accessFlags := 1, code := some k11c1 }
/-- java/lang/RuntimeException -/
def k11 : Class := { plain "java/lang/RuntimeException" (some 10) with
  accessFlags := 33
  interfaces := #[]
  cf := some (fileOf pool11 19 #[] #[{ accessFlags := 1, nameIndex := 5, descriptorIndex := 6, attributes := #[] }, { accessFlags := 1, nameIndex := 5, descriptorIndex := 9, attributes := #[] }] 33 2 #[] #[{ accessFlags := 24, nameIndex := 21, descriptorIndex := 22, attributes := #[] }])
  fields := #[{ name := "serialVersionUID", type := .long, accessFlags := 24, slot := 0, constantValue := 0 }]
  methods := #[k11m0, k11m1]
  instanceTypes := #[(.object "java/lang/Object"), (.object "java/lang/String"), (.object "java/lang/Throwable"), (.array (.object "java/lang/StackTraceElement")), .int, (.object "java/util/List")]
  staticTypes := #[.long]
  resolved := Array.replicate 40 none
  statics := none }

def pool12 : Array CpInfo := pool [(2, .class_ 4), (1, u "java/lang/RuntimeException"), (0, u "<init>"), (0, u "()V"), (0, .methodref 2 8), (0, .nameAndType 5 9), (0, u "(Ljava/lang/String;)V"), (6, .class_ 17), (0, u "java/lang/IllegalArgumentException"), (0, u "serialVersionUID"), (0, u "J")] 15

def k12m0 : Method := { name := "<init>", desc := "()V", sig := { parameters := [], returnType := none }, accessFlags := 1, code := none }
def k12c1 : Code := { maxStack := 2, maxLocals := 2, code := jdk_57_method_2_code, exceptionTable := #[], attributes := #[] }
def k12m1 : Method := { name := "<init>", desc := "(Ljava/lang/String;)V", sig := { parameters := [(.object "java/lang/String")], returnType := none }, accessFlags := 1, code := some k12c1 }
/-- java/lang/IllegalArgumentException -/
def k12 : Class := { plain "java/lang/IllegalArgumentException" (some 11) with
  accessFlags := 33
  interfaces := #[]
  cf := some (fileOf pool12 16 #[] #[{ accessFlags := 1, nameIndex := 5, descriptorIndex := 6, attributes := #[] }, { accessFlags := 1, nameIndex := 5, descriptorIndex := 9, attributes := #[] }] 33 2 #[] #[{ accessFlags := 26, nameIndex := 18, descriptorIndex := 19, attributes := #[] }])
  fields := #[{ name := "serialVersionUID", type := .long, accessFlags := 26, slot := 0, constantValue := 0 }]
  methods := #[k12m0, k12m1]
  instanceTypes := #[(.object "java/lang/Object"), (.object "java/lang/String"), (.object "java/lang/Throwable"), (.array (.object "java/lang/StackTraceElement")), .int, (.object "java/util/List")]
  staticTypes := #[.long]
  resolved := Array.replicate 35 none
  statics := none }

def pool13 : Array CpInfo := pool [(1, .methodref 2 3), (0, .class_ 4), (0, .nameAndType 5 6), (0, u "java/lang/IllegalArgumentException"), (0, u "<init>"), (0, u "(Ljava/lang/String;)V"), (0, .fieldref 8 9), (0, .class_ 10), (0, .nameAndType 11 12), (0, u "com/example/net_thirty/netthirty/invoice/DiscountTooLargeException"), (0, u "line"), (0, u "I"), (0, .methodref 14 15), (0, .class_ 16), (0, .nameAndType 17 18), (0, u "java/util/OptionalInt"), (0, u "empty"), (0, u "()Ljava/util/OptionalInt;"), (0, .methodref 14 20), (0, .nameAndType 21 22), (0, u "of"), (0, u "(I)Ljava/util/OptionalInt;"), (0, u "serialVersionUID"), (0, u "J"), (3, u "(ILjava/lang/String;)V")] 5

def k13c0 : Code := { maxStack := 2, maxLocals := 3, code := prog_17_method_1_code, exceptionTable := #[], attributes := #[] }
def k13m0 : Method := { name := "<init>", desc := "(ILjava/lang/String;)V", sig := { parameters := [.int, (.object "java/lang/String")], returnType := none }, accessFlags := 0, code := some k13c0 }
def k13c1 : Code := { maxStack := 1, maxLocals := 1, code := prog_17_method_2_code, exceptionTable := #[], attributes := #[] }
def k13m1 : Method := { name := "line", desc := "()Ljava/util/OptionalInt;", sig := { parameters := [], returnType := some (.object "java/util/OptionalInt") }, accessFlags := 1, code := some k13c1 }
/-- com/example/net_thirty/netthirty/invoice/DiscountTooLargeException -/
def k13 : Class := { plain "com/example/net_thirty/netthirty/invoice/DiscountTooLargeException" (some 12) with
  accessFlags := 49
  interfaces := #[]
  cf := some (fileOf pool13 8 #[] #[{ accessFlags := 0, nameIndex := 5, descriptorIndex := 28, attributes := #[] }, { accessFlags := 1, nameIndex := 11, descriptorIndex := 18, attributes := #[] }] 49 2 #[] #[{ accessFlags := 26, nameIndex := 23, descriptorIndex := 24, attributes := #[] }, { accessFlags := 18, nameIndex := 11, descriptorIndex := 12, attributes := #[] }])
  fields := #[{ name := "serialVersionUID", type := .long, accessFlags := 26, slot := 0, constantValue := 0 }, { name := "line", type := .int, accessFlags := 18, slot := 6, constantValue := 0 }]
  methods := #[k13m0, k13m1]
  instanceTypes := #[(.object "java/lang/Object"), (.object "java/lang/String"), (.object "java/lang/Throwable"), (.array (.object "java/lang/StackTraceElement")), .int, (.object "java/util/List"), .int]
  staticTypes := #[.long]
  resolved := Array.replicate 34 none
  statics := none }

def pool14 : Array CpInfo := pool [(1, .methodref 2 3), (0, .class_ 4), (0, .nameAndType 5 6), (0, u "java/lang/Object"), (0, u "<init>"), (0, u "()V"), (0, .fieldref 8 9), (0, .class_ 10), (0, .nameAndType 11 12), (0, u "java/util/OptionalInt"), (0, u "isPresent"), (0, u "Z"), (0, .fieldref 8 14), (0, .nameAndType 15 16), (0, u "value"), (0, u "I"), (0, .fieldref 8 18), (0, .nameAndType 19 20), (0, u "EMPTY"), (0, u "Ljava/util/OptionalInt;"), (0, .methodref 8 22), (0, .nameAndType 5 23), (0, u "(I)V"), (21, u "of"), (3, u "empty"), (5, u "getAsInt"), (0, u "()I"), (39, u "()Ljava/util/OptionalInt;"), (0, u "(I)Ljava/util/OptionalInt;"), (1, u "()Z")] 36

def k14m0 : Method := { name := "<init>", desc := "()V", sig := { parameters := [], returnType := none }, accessFlags := 2, code := none }
def k14c1 : Code := { maxStack := 1, maxLocals := 0, code := jdk_2649_method_2_code, exceptionTable := #[], attributes := #[] }
def k14m1 : Method := { name := "empty", desc := "()Ljava/util/OptionalInt;", sig := { parameters := [], returnType := some (.object "java/util/OptionalInt") }, accessFlags := 9, code := some k14c1 }
def k14c2 : Code := { maxStack := 2, maxLocals := 2, code := jdk_2649_method_3_code, exceptionTable := #[], attributes := #[] }
def k14m2 : Method := { name := "<init>", desc := "(I)V", sig := { parameters := [.int], returnType := none }, accessFlags := 2, code := some k14c2 }
def k14c3 : Code := { maxStack := 3, maxLocals := 1, code := jdk_2649_method_4_code, exceptionTable := #[], attributes := #[] }
def k14m3 : Method := { name := "of", desc := "(I)Ljava/util/OptionalInt;", sig := { parameters := [.int], returnType := some (.object "java/util/OptionalInt") }, accessFlags := 9, code := some k14c3 }
def k14c4 : Code := { maxStack := 3, maxLocals := 1, code := jdk_2649_method_5_code, exceptionTable := #[], attributes := #[] }
def k14m4 : Method := { name := "getAsInt", desc := "()I", sig := { parameters := [], returnType := some .int }, accessFlags := 1, code := some k14c4 }
def k14c5 : Code := { maxStack := 1, maxLocals := 1, code := jdk_2649_method_6_code, exceptionTable := #[], attributes := #[] }
def k14m5 : Method := { name := "isPresent", desc := "()Z", sig := { parameters := [], returnType := some .boolean }, accessFlags := 1, code := some k14c5 }
/-- java/util/OptionalInt -/
def k14 : Class := { plain "java/util/OptionalInt" (some 0) with
  accessFlags := 49
  interfaces := #[]
  cf := some (fileOf pool14 8 #[] #[{ accessFlags := 2, nameIndex := 5, descriptorIndex := 6, attributes := #[] }, { accessFlags := 9, nameIndex := 49, descriptorIndex := 96, attributes := #[] }, { accessFlags := 2, nameIndex := 5, descriptorIndex := 23, attributes := #[] }, { accessFlags := 9, nameIndex := 45, descriptorIndex := 97, attributes := #[] }, { accessFlags := 1, nameIndex := 55, descriptorIndex := 56, attributes := #[] }, { accessFlags := 1, nameIndex := 11, descriptorIndex := 99, attributes := #[] }] 49 2 #[] #[{ accessFlags := 26, nameIndex := 19, descriptorIndex := 20, attributes := #[] }, { accessFlags := 18, nameIndex := 11, descriptorIndex := 12, attributes := #[] }, { accessFlags := 18, nameIndex := 15, descriptorIndex := 16, attributes := #[] }])
  fields := #[{ name := "EMPTY", type := (.object "java/util/OptionalInt"), accessFlags := 26, slot := 0, constantValue := 0 }, { name := "isPresent", type := .boolean, accessFlags := 18, slot := 0, constantValue := 0 }, { name := "value", type := .int, accessFlags := 18, slot := 1, constantValue := 0 }]
  methods := #[k14m0, k14m1, k14m2, k14m3, k14m4, k14m5]
  instanceTypes := #[.boolean, .int]
  staticTypes := #[(.object "java/util/OptionalInt")]
  resolved := Array.replicate 136 none
  statics := some 2 }

def pool15 : Array CpInfo := pool [(4, .class_ 6), (1, u "java/lang/Object"), (0, u "<init>"), (0, u "()V"), (5, .class_ 16), (1, u "java/lang/StringLatin1"), (104, u "$assertionsDisabled"), (0, u "Z"), (98, .class_ 223), (1, u "java/lang/StringLatin1$LinesSpliterator"), (166, .class_ 391), (0, u "java/lang/StringLatin1$CharsSpliterator")] 3

def k15m0 : Method := { name := "<init>", desc := "()V", sig := { parameters := [], returnType := none }, accessFlags := 0, code := none }
/-- java/lang/StringLatin1 -/
def k15 : Class := { plain "java/lang/StringLatin1" (some 0) with
  accessFlags := 48
  interfaces := #[]
  cf := some (fileOf pool15 14 #[.nestMembers #[390, 221]] #[{ accessFlags := 0, nameIndex := 7, descriptorIndex := 8, attributes := #[] }] 48 4 #[] #[{ accessFlags := 4120, nameIndex := 121, descriptorIndex := 122, attributes := #[] }])
  fields := #[{ name := "$assertionsDisabled", type := .boolean, accessFlags := 4120, slot := 0, constantValue := 0 }]
  methods := #[k15m0]
  instanceTypes := #[]
  staticTypes := #[.boolean]
  resolved := Array.replicate 395 none
  statics := none }

def pool16 : Array CpInfo := pool [(2, .class_ 4), (1, u "java/lang/Object"), (0, u "<init>"), (0, u "()V"), (17, .class_ 26), (1, u "jdk/internal/util/Preconditions"), (28, .class_ 56), (0, u "jdk/internal/util/Preconditions$4"), (57, .class_ 115), (0, u "jdk/internal/util/Preconditions$1"), (7, u "SIOOBE_FORMATTER"), (0, u "Ljava/util/function/BiFunction;"), (0, .class_ 126), (0, u "jdk/internal/util/Preconditions$2"), (3, u "AIOOBE_FORMATTER"), (0, .class_ 132), (0, u "jdk/internal/util/Preconditions$3"), (3, u "IOOBE_FORMATTER")] 57

def k16m0 : Method := { name := "<init>", desc := "()V", sig := { parameters := [], returnType := none }, accessFlags := 1, code := none }
/-- jdk/internal/util/Preconditions -/
def k16 : Class := { plain "jdk/internal/util/Preconditions" (some 0) with
  accessFlags := 33
  interfaces := #[]
  cf := some (fileOf pool16 24 #[.nestMembers #[55, 131, 125, 114]] #[{ accessFlags := 1, nameIndex := 5, descriptorIndex := 6, attributes := #[] }] 33 2 #[] #[{ accessFlags := 25, nameIndex := 123, descriptorIndex := 124, attributes := #[] }, { accessFlags := 25, nameIndex := 130, descriptorIndex := 124, attributes := #[] }, { accessFlags := 25, nameIndex := 136, descriptorIndex := 124, attributes := #[] }])
  fields := #[{ name := "SIOOBE_FORMATTER", type := (.object "java/util/function/BiFunction"), accessFlags := 25, slot := 0, constantValue := 0 }, { name := "AIOOBE_FORMATTER", type := (.object "java/util/function/BiFunction"), accessFlags := 25, slot := 1, constantValue := 0 }, { name := "IOOBE_FORMATTER", type := (.object "java/util/function/BiFunction"), accessFlags := 25, slot := 2, constantValue := 0 }]
  methods := #[k16m0]
  instanceTypes := #[]
  staticTypes := #[(.object "java/util/function/BiFunction"), (.object "java/util/function/BiFunction"), (.object "java/util/function/BiFunction")]
  resolved := Array.replicate 194 none
  statics := some 3 }

def pool17 : Array CpInfo := pool [(9, u "<init>"), (6, .class_ 18), (1, u "java/lang/Object"), (0, u "()V"), (1, .class_ 23), (1, u "jdk/internal/util/ArraysSupport"), (0, u "LOG2_ARRAY_LONG_INDEX_SCALE"), (0, u "I"), (2, u "U"), (0, u "Ljdk/internal/misc/Unsafe;"), (8, u "BIG_ENDIAN"), (0, u "Z"), (8, u "LOG2_BYTE_BIT_SIZE"), (4, u "LOG2_ARRAY_INT_INDEX_SCALE"), (54, u "JLA"), (0, u "Ljdk/internal/access/JavaLangAccess;"), (11, u "LOG2_ARRAY_BOOLEAN_INDEX_SCALE"), (9, u "LOG2_ARRAY_BYTE_INDEX_SCALE"), (5, u "LOG2_ARRAY_CHAR_INDEX_SCALE"), (5, u "LOG2_ARRAY_SHORT_INDEX_SCALE"), (18, u "LOG2_ARRAY_FLOAT_INDEX_SCALE"), (24, u "LOG2_ARRAY_DOUBLE_INDEX_SCALE"), (89, u "T_BOOLEAN"), (2, u "T_CHAR"), (1, u "T_FLOAT"), (1, u "T_DOUBLE"), (1, u "T_BYTE"), (1, u "T_SHORT"), (1, u "T_INT"), (1, u "T_LONG"), (1, u "SOFT_MAX_ARRAY_LENGTH")] 83

def k17m0 : Method := { name := "<init>", desc := "()V", sig := { parameters := [], returnType := none }, accessFlags := 2, code := none }
/-- jdk/internal/util/ArraysSupport -/
def k17 : Class := { plain "jdk/internal/util/ArraysSupport" (some 0) with
  accessFlags := 33
  interfaces := #[]
  cf := some (fileOf pool17 21 #[] #[{ accessFlags := 2, nameIndex := 9, descriptorIndex := 19, attributes := #[] }] 33 16 #[] #[{ accessFlags := 24, nameIndex := 28, descriptorIndex := 29, attributes := #[] }, { accessFlags := 26, nameIndex := 38, descriptorIndex := 39, attributes := #[] }, { accessFlags := 25, nameIndex := 121, descriptorIndex := 25, attributes := #[] }, { accessFlags := 25, nameIndex := 131, descriptorIndex := 25, attributes := #[] }, { accessFlags := 25, nameIndex := 137, descriptorIndex := 25, attributes := #[] }, { accessFlags := 25, nameIndex := 143, descriptorIndex := 25, attributes := #[] }, { accessFlags := 25, nameIndex := 53, descriptorIndex := 25, attributes := #[] }, { accessFlags := 25, nameIndex := 24, descriptorIndex := 25, attributes := #[] }, { accessFlags := 25, nameIndex := 162, descriptorIndex := 25, attributes := #[] }, { accessFlags := 25, nameIndex := 187, descriptorIndex := 25, attributes := #[] }, { accessFlags := 26, nameIndex := 48, descriptorIndex := 25, attributes := #[] }, { accessFlags := 25, nameIndex := 277, descriptorIndex := 25, attributes := #[] }, { accessFlags := 25, nameIndex := 280, descriptorIndex := 25, attributes := #[] }, { accessFlags := 25, nameIndex := 282, descriptorIndex := 25, attributes := #[] }, { accessFlags := 25, nameIndex := 284, descriptorIndex := 25, attributes := #[] }, { accessFlags := 25, nameIndex := 286, descriptorIndex := 25, attributes := #[] }, { accessFlags := 25, nameIndex := 288, descriptorIndex := 25, attributes := #[] }, { accessFlags := 25, nameIndex := 290, descriptorIndex := 25, attributes := #[] }, { accessFlags := 25, nameIndex := 292, descriptorIndex := 25, attributes := #[] }, { accessFlags := 26, nameIndex := 108, descriptorIndex := 109, attributes := #[] }, { accessFlags := 25, nameIndex := 294, descriptorIndex := 25, attributes := #[] }])
  fields := #[{ name := "U", type := (.object "jdk/internal/misc/Unsafe"), accessFlags := 24, slot := 0, constantValue := 0 }, { name := "BIG_ENDIAN", type := .boolean, accessFlags := 26, slot := 1, constantValue := 0 }, { name := "LOG2_ARRAY_BOOLEAN_INDEX_SCALE", type := .int, accessFlags := 25, slot := 2, constantValue := 0 }, { name := "LOG2_ARRAY_BYTE_INDEX_SCALE", type := .int, accessFlags := 25, slot := 3, constantValue := 0 }, { name := "LOG2_ARRAY_CHAR_INDEX_SCALE", type := .int, accessFlags := 25, slot := 4, constantValue := 0 }, { name := "LOG2_ARRAY_SHORT_INDEX_SCALE", type := .int, accessFlags := 25, slot := 5, constantValue := 0 }, { name := "LOG2_ARRAY_INT_INDEX_SCALE", type := .int, accessFlags := 25, slot := 6, constantValue := 0 }, { name := "LOG2_ARRAY_LONG_INDEX_SCALE", type := .int, accessFlags := 25, slot := 7, constantValue := 0 }, { name := "LOG2_ARRAY_FLOAT_INDEX_SCALE", type := .int, accessFlags := 25, slot := 8, constantValue := 0 }, { name := "LOG2_ARRAY_DOUBLE_INDEX_SCALE", type := .int, accessFlags := 25, slot := 9, constantValue := 0 }, { name := "LOG2_BYTE_BIT_SIZE", type := .int, accessFlags := 26, slot := 10, constantValue := 0 }, { name := "T_BOOLEAN", type := .int, accessFlags := 25, slot := 11, constantValue := 0 }, { name := "T_CHAR", type := .int, accessFlags := 25, slot := 12, constantValue := 0 }, { name := "T_FLOAT", type := .int, accessFlags := 25, slot := 13, constantValue := 0 }, { name := "T_DOUBLE", type := .int, accessFlags := 25, slot := 14, constantValue := 0 }, { name := "T_BYTE", type := .int, accessFlags := 25, slot := 15, constantValue := 0 }, { name := "T_SHORT", type := .int, accessFlags := 25, slot := 16, constantValue := 0 }, { name := "T_INT", type := .int, accessFlags := 25, slot := 17, constantValue := 0 }, { name := "T_LONG", type := .int, accessFlags := 25, slot := 18, constantValue := 0 }, { name := "JLA", type := (.object "jdk/internal/access/JavaLangAccess"), accessFlags := 26, slot := 19, constantValue := 0 }, { name := "SOFT_MAX_ARRAY_LENGTH", type := .int, accessFlags := 25, slot := 20, constantValue := 0 }]
  methods := #[k17m0]
  instanceTypes := #[]
  staticTypes := #[(.object "jdk/internal/misc/Unsafe"), .boolean, .int, .int, .int, .int, .int, .int, .int, .int, .int, .int, .int, .int, .int, .int, .int, .int, .int, (.object "jdk/internal/access/JavaLangAccess"), .int]
  resolved := Array.replicate 378 none
  statics := none }

def pool18 : Array CpInfo := pool [(2, .class_ 4), (1, u "java/lang/Object"), (0, u "<init>"), (0, u "()V"), (12, .class_ 20), (0, u "java/util/Collections"), (63, u "r"), (0, u "Ljava/util/Random;"), (80, .class_ 167), (0, u "java/util/Collections$UnmodifiableCollection"), (6, .class_ 175), (0, u "java/util/Collections$UnmodifiableSequencedCollection"), (6, .class_ 183), (0, u "java/util/Collections$UnmodifiableSet"), (6, .class_ 191), (0, u "java/util/Collections$UnmodifiableSequencedSet"), (6, .class_ 199), (0, u "java/util/Collections$UnmodifiableSortedSet"), (6, .class_ 207), (0, u "java/util/Collections$UnmodifiableNavigableSet"), (4, .class_ 213), (0, u "java/util/Collections$UnmodifiableList"), (1, .class_ 216), (0, u "java/util/Collections$UnmodifiableRandomAccessList"), (6, .class_ 224), (0, u "java/util/Collections$UnmodifiableMap"), (6, .class_ 232), (0, u "java/util/Collections$UnmodifiableSequencedMap"), (4, .class_ 238), (0, u "java/util/Collections$UnmodifiableSortedMap"), (6, .class_ 246), (0, u "java/util/Collections$UnmodifiableNavigableMap"), (3, .class_ 251), (0, u "java/util/Collections$SynchronizedCollection"), (4, .class_ 257), (0, u "java/util/Collections$SynchronizedSet"), (4, .class_ 263), (0, u "java/util/Collections$SynchronizedSortedSet"), (1, .class_ 266), (0, u "java/util/Collections$SynchronizedNavigableSet"), (1, .class_ 269), (0, u "java/util/Collections$SynchronizedRandomAccessList"), (1, .class_ 272), (0, u "java/util/Collections$SynchronizedList"), (5, .class_ 279), (0, u "java/util/Collections$SynchronizedMap"), (1, .class_ 282), (0, u "java/util/Collections$SynchronizedSortedMap"), (1, .class_ 285), (0, u "java/util/Collections$SynchronizedNavigableMap"), (1, .class_ 288), (0, u "java/util/Collections$CheckedCollection"), (11, .class_ 301), (0, u "java/util/Collections$CheckedQueue"), (3, .class_ 306), (0, u "java/util/Collections$CheckedSet"), (3, .class_ 311), (0, u "java/util/Collections$CheckedSortedSet"), (3, .class_ 316), (0, u "java/util/Collections$CheckedNavigableSet"), (3, .class_ 321), (0, u "java/util/Collections$CheckedRandomAccessList"), (3, .class_ 326), (0, u "java/util/Collections$CheckedList"), (1, .class_ 329), (0, u "java/util/Collections$CheckedMap"), (3, .class_ 334), (0, u "java/util/Collections$CheckedSortedMap"), (3, .class_ 339), (0, u "java/util/Collections$CheckedNavigableMap"), (4, .class_ 346), (1, u "java/util/Collections$EmptyIterator"), (3, .class_ 352), (1, u "java/util/Collections$EmptyListIterator"), (2, .class_ 357), (1, u "java/util/Collections$EmptyEnumeration"), (4, u "EMPTY_SET"), (0, u "Ljava/util/Set;"), (6, u "EMPTY_LIST"), (0, u "Ljava/util/List;"), (2, u "EMPTY_MAP"), (0, u "Ljava/util/Map;"), (4, .class_ 381), (0, u "java/util/Collections$SingletonSet"), (2, .class_ 385), (0, u "java/util/Collections$1"), (1, .class_ 388), (0, u "java/util/Collections$2"), (1, .class_ 391), (0, u "java/util/Collections$SingletonList"), (1, .class_ 394), (0, u "java/util/Collections$SingletonMap"), (22, .class_ 418), (0, u "java/util/Collections$CopiesList"), (4, .class_ 425), (1, u "java/util/Collections$ReverseComparator"), (8, .class_ 435), (0, u "java/util/Collections$ReverseComparator2"), (6, .class_ 443), (0, u "java/util/Collections$3"), (25, .class_ 470), (0, u "java/util/Collections$SetFromMap"), (2, .class_ 474), (0, u "java/util/Collections$SequencedSetFromMap"), (3, .class_ 479), (0, u "java/util/Collections$AsLIFOQueue"), (11, .class_ 492), (0, u "java/util/Collections$EmptySet"), (1, .class_ 495), (0, u "java/util/Collections$EmptyList"), (1, .class_ 498), (0, u "java/util/Collections$EmptyMap"), (1, u "BINARYSEARCH_THRESHOLD"), (0, u "I"), (2, u "REVERSE_THRESHOLD"), (1, u "SHUFFLE_THRESHOLD"), (1, u "FILL_THRESHOLD"), (1, u "ROTATE_THRESHOLD"), (1, u "COPY_THRESHOLD"), (1, u "REPLACEALL_THRESHOLD"), (1, u "INDEXOFSUBLIST_THRESHOLD"), (333, .class_ 851), (0, u "java/util/Collections$CheckedMap$CheckedEntrySet"), (0, .class_ 853), (0, u "java/util/Collections$CheckedMap$CheckedEntrySet$CheckedEntry"), (0, .class_ 855), (0, u "java/util/Collections$CheckedMap$CheckedEntrySet$1"), (0, .class_ 857), (0, u "java/util/Collections$CheckedList$1"), (0, .class_ 859), (0, u "java/util/Collections$CheckedCollection$1"), (0, .class_ 861), (0, u "java/util/Collections$UnmodifiableNavigableMap$EmptyNavigableMap"), (0, .class_ 863), (0, u "java/util/Collections$UnmodifiableMap$UnmodifiableEntrySet"), (0, .class_ 865), (0, u "java/util/Collections$UnmodifiableMap$UnmodifiableEntrySet$UnmodifiableEntry"), (0, .class_ 867), (0, u "java/util/Collections$UnmodifiableMap$UnmodifiableEntrySet$UnmodifiableEntrySetSpliterator"), (0, .class_ 869), (0, u "java/util/Collections$UnmodifiableMap$UnmodifiableEntrySet$1"), (0, .class_ 871), (0, u "java/util/Collections$UnmodifiableList$1"), (0, .class_ 873), (0, u "java/util/Collections$UnmodifiableNavigableSet$EmptyNavigableSet"), (0, .class_ 875), (0, u "java/util/Collections$UnmodifiableCollection$1")] 57

def k18m0 : Method := { name := "<init>", desc := "()V", sig := { parameters := [], returnType := none }, accessFlags := 2, code := none }
/-- java/util/Collections -/
def k18 : Class := { plain "java/util/Collections" (some 0) with
  accessFlags := 33
  interfaces := #[]
  cf := some (fileOf pool18 19 #[.nestMembers #[478, 473, 469, 434, 423, 417, 393, 390, 380, 497, 494, 491, 355, 350, 344, 338, 333, 328, 850, 852, 854, 320, 325, 856, 315, 310, 305, 300, 287, 858, 284, 281, 278, 268, 271, 265, 262, 256, 250, 245, 860, 237, 231, 223, 862, 864, 866, 868, 215, 212, 870, 206, 872, 198, 190, 182, 174, 166, 874, 442, 387, 384]] #[{ accessFlags := 2, nameIndex := 5, descriptorIndex := 6, attributes := #[] }] 33 2 #[] #[{ accessFlags := 26, nameIndex := 500, descriptorIndex := 501, attributes := #[] }, { accessFlags := 26, nameIndex := 504, descriptorIndex := 501, attributes := #[] }, { accessFlags := 26, nameIndex := 506, descriptorIndex := 501, attributes := #[] }, { accessFlags := 26, nameIndex := 508, descriptorIndex := 501, attributes := #[] }, { accessFlags := 26, nameIndex := 510, descriptorIndex := 501, attributes := #[] }, { accessFlags := 26, nameIndex := 512, descriptorIndex := 501, attributes := #[] }, { accessFlags := 26, nameIndex := 514, descriptorIndex := 501, attributes := #[] }, { accessFlags := 26, nameIndex := 516, descriptorIndex := 501, attributes := #[] }, { accessFlags := 10, nameIndex := 84, descriptorIndex := 85, attributes := #[] }, { accessFlags := 25, nameIndex := 362, descriptorIndex := 363, attributes := #[] }, { accessFlags := 25, nameIndex := 370, descriptorIndex := 371, attributes := #[] }, { accessFlags := 25, nameIndex := 374, descriptorIndex := 375, attributes := #[] }])
  fields := #[{ name := "BINARYSEARCH_THRESHOLD", type := .int, accessFlags := 26, slot := 0, constantValue := 0 }, { name := "REVERSE_THRESHOLD", type := .int, accessFlags := 26, slot := 1, constantValue := 0 }, { name := "SHUFFLE_THRESHOLD", type := .int, accessFlags := 26, slot := 2, constantValue := 0 }, { name := "FILL_THRESHOLD", type := .int, accessFlags := 26, slot := 3, constantValue := 0 }, { name := "ROTATE_THRESHOLD", type := .int, accessFlags := 26, slot := 4, constantValue := 0 }, { name := "COPY_THRESHOLD", type := .int, accessFlags := 26, slot := 5, constantValue := 0 }, { name := "REPLACEALL_THRESHOLD", type := .int, accessFlags := 26, slot := 6, constantValue := 0 }, { name := "INDEXOFSUBLIST_THRESHOLD", type := .int, accessFlags := 26, slot := 7, constantValue := 0 }, { name := "r", type := (.object "java/util/Random"), accessFlags := 10, slot := 8, constantValue := 0 }, { name := "EMPTY_SET", type := (.object "java/util/Set"), accessFlags := 25, slot := 9, constantValue := 0 }, { name := "EMPTY_LIST", type := (.object "java/util/List"), accessFlags := 25, slot := 10, constantValue := 0 }, { name := "EMPTY_MAP", type := (.object "java/util/Map"), accessFlags := 25, slot := 11, constantValue := 0 }]
  methods := #[k18m0]
  instanceTypes := #[]
  staticTypes := #[.int, .int, .int, .int, .int, .int, .int, .int, (.object "java/util/Random"), (.object "java/util/Set"), (.object "java/util/List"), (.object "java/util/Map")]
  resolved := Array.replicate 933 none
  statics := some 4 }

def pool19 : Array CpInfo := pool [(8, .class_ 10), (1, u "java/lang/Iterable"), (24, .class_ 36), (0, u "java/lang/Object")] 25

/-- java/lang/Iterable -/
def k19 : Class := { plain "java/lang/Iterable" (some 0) with
  accessFlags := 1537
  interfaces := #[]
  cf := some (fileOf pool19 8 #[] #[] 1537 35 #[] #[])
  fields := #[]
  methods := #[]
  instanceTypes := #[]
  staticTypes := #[]
  resolved := Array.replicate 62 none
  statics := none }

def pool20 : Array CpInfo := pool [(10, .class_ 12), (1, u "java/util/Collection"), (47, .class_ 61), (0, u "java/lang/Object"), (0, .class_ 63), (0, u "java/lang/Iterable")] 51

/-- java/util/Collection -/
def k20 : Class := { plain "java/util/Collection" (some 0) with
  accessFlags := 1537
  interfaces := #[19]
  cf := some (fileOf pool20 10 #[] #[] 1537 60 #[62] #[])
  fields := #[]
  methods := #[]
  instanceTypes := #[]
  staticTypes := #[]
  resolved := Array.replicate 115 none
  statics := none }

def pool21 : Array CpInfo := pool [(2, .class_ 4), (1, u "java/lang/Object"), (0, u "<init>"), (0, u "()V"), (1, .class_ 10), (1, u "java/util/AbstractCollection"), (66, .class_ 78), (0, u "java/util/Collection")] 81

def k21m0 : Method := { name := "<init>", desc := "()V", sig := { parameters := [], returnType := none }, accessFlags := 4, code := none }
/-- java/util/AbstractCollection -/
def k21 : Class := { plain "java/util/AbstractCollection" (some 0) with
  accessFlags := 1057
  interfaces := #[20]
  cf := some (fileOf pool21 8 #[] #[{ accessFlags := 4, nameIndex := 5, descriptorIndex := 6, attributes := #[] }] 1057 2 #[77] #[])
  fields := #[]
  methods := #[k21m0]
  instanceTypes := #[]
  staticTypes := #[]
  resolved := Array.replicate 160 none
  statics := none }

def pool22 : Array CpInfo := pool [(8, .class_ 10), (1, u "java/util/SequencedCollection"), (15, .class_ 27), (0, u "java/lang/Object"), (0, .class_ 29), (0, u "java/util/Collection")] 27

/-- java/util/SequencedCollection -/
def k22 : Class := { plain "java/util/SequencedCollection" (some 0) with
  accessFlags := 1537
  interfaces := #[20]
  cf := some (fileOf pool22 8 #[] #[] 1537 26 #[28] #[])
  fields := #[]
  methods := #[]
  instanceTypes := #[]
  staticTypes := #[]
  resolved := Array.replicate 57 none
  statics := none }

def pool23 : Array CpInfo := pool [(8, .class_ 10), (1, u "java/util/List"), (92, .class_ 104), (0, u "java/lang/Object"), (15, .class_ 121), (0, u "java/util/SequencedCollection")] 129

/-- java/util/List -/
def k23 : Class := { plain "java/util/List" (some 0) with
  accessFlags := 1537
  interfaces := #[22]
  cf := some (fileOf pool23 8 #[] #[] 1537 103 #[120] #[])
  fields := #[]
  methods := #[]
  instanceTypes := #[]
  staticTypes := #[]
  resolved := Array.replicate 251 none
  statics := none }

def pool24 : Array CpInfo := pool [(2, .class_ 4), (1, u "java/util/AbstractCollection"), (0, u "<init>"), (0, u "()V"), (1, .class_ 10), (1, u "java/util/AbstractList"), (0, u "modCount"), (0, u "I"), (64, .class_ 78), (0, u "java/util/AbstractList$Itr"), (3, .class_ 83), (0, u "java/util/AbstractList$ListItr"), (9, .class_ 94), (0, u "java/util/AbstractList$RandomAccessSubList"), (3, .class_ 99), (0, u "java/util/AbstractList$SubList"), (33, .class_ 134), (0, u "java/util/List"), (73, .class_ 209), (0, u "java/util/AbstractList$SubList$1"), (0, .class_ 211), (0, u "java/util/AbstractList$RandomAccessSpliterator")] 6

def k24m0 : Method := { name := "<init>", desc := "()V", sig := { parameters := [], returnType := none }, accessFlags := 4, code := none }
/-- java/util/AbstractList -/
def k24 : Class := { plain "java/util/AbstractList" (some 21) with
  accessFlags := 1057
  interfaces := #[23]
  cf := some (fileOf pool24 8 #[.nestMembers #[93, 98, 208, 210, 82, 77]] #[{ accessFlags := 4, nameIndex := 5, descriptorIndex := 6, attributes := #[] }] 1057 2 #[133] #[{ accessFlags := 132, nameIndex := 11, descriptorIndex := 12, attributes := #[] }])
  fields := #[{ name := "modCount", type := .int, accessFlags := 132, slot := 0, constantValue := 0 }]
  methods := #[k24m0]
  instanceTypes := #[.int]
  staticTypes := #[]
  resolved := Array.replicate 218 none
  statics := none }

def pool25 : Array CpInfo := pool [(1, .class_ 2), (0, u "java/util/RandomAccess"), (0, .class_ 4), (0, u "java/lang/Object")] 2

/-- java/util/RandomAccess -/
def k25 : Class := { plain "java/util/RandomAccess" (some 0) with
  accessFlags := 1537
  interfaces := #[]
  cf := some (fileOf pool25 1 #[] #[] 1537 3 #[] #[])
  fields := #[]
  methods := #[]
  instanceTypes := #[]
  staticTypes := #[]
  resolved := Array.replicate 7 none
  statics := none }

def pool26 : Array CpInfo := pool [(2, .class_ 4), (1, u "java/util/AbstractList"), (0, u "<init>"), (0, u "()V"), (1, .class_ 10), (1, u "java/util/Collections"), (54, .class_ 66), (0, u "java/util/Collections$EmptyList"), (0, .class_ 68), (0, u "java/util/RandomAccess"), (0, .class_ 70), (0, u "java/io/Serializable"), (0, u "serialVersionUID"), (0, u "J")] 77

def k26m0 : Method := { name := "<init>", desc := "()V", sig := { parameters := [], returnType := none }, accessFlags := 2, code := none }
/-- java/util/Collections$EmptyList -/
def k26 : Class := { plain "java/util/Collections$EmptyList" (some 24) with
  accessFlags := 32
  interfaces := #[25, 2]
  cf := some (fileOf pool26 65 #[.nestHost 8] #[{ accessFlags := 2, nameIndex := 5, descriptorIndex := 6, attributes := #[] }] 32 2 #[67, 69] #[{ accessFlags := 26, nameIndex := 71, descriptorIndex := 72, attributes := #[] }])
  fields := #[{ name := "serialVersionUID", type := .long, accessFlags := 26, slot := 0, constantValue := 0 }]
  methods := #[k26m0]
  instanceTypes := #[.int]
  staticTypes := #[.long]
  resolved := Array.replicate 150 none
  statics := none }

def pool27 : Array CpInfo := pool [(2, .class_ 4), (1, u "java/lang/StackTraceElement"), (0, u "<init>"), (2, .class_ 10), (1, u "java/lang/Object"), (0, u "()V"), (2, u "format"), (0, u "B"), (2, u "classLoaderName"), (0, u "Ljava/lang/String;"), (2, u "moduleName"), (2, u "moduleVersion"), (12, u "declaringClass"), (4, u "methodName"), (2, u "fileName"), (2, u "lineNumber"), (0, u "I"), (65, u "declaringClassObject"), (0, u "Ljava/lang/Class;"), (33, .class_ 153), (1, u "java/lang/StackTraceElement$HashedModules"), (17, .class_ 172), (0, u "java/io/Serializable"), (0, u "NATIVE_METHOD"), (1, u "UNKNOWN_SOURCE"), (2, u "BUILTIN_CLASS_LOADER"), (1, u "JDK_NON_UPGRADEABLE_MODULE"), (1, u "serialVersionUID"), (0, u "J")] 51

def k27m0 : Method := { name := "<init>", desc := "()V", sig := { parameters := [], returnType := none }, accessFlags := 2, code := none }
/-- java/lang/StackTraceElement -/
def k27 : Class := { plain "java/lang/StackTraceElement" (some 0) with
  accessFlags := 49
  interfaces := #[2]
  cf := some (fileOf pool27 2 #[.nestMembers #[151]] #[{ accessFlags := 2, nameIndex := 5, descriptorIndex := 11, attributes := #[] }] 49 8 #[171] #[{ accessFlags := 26, nameIndex := 173, descriptorIndex := 19, attributes := #[] }, { accessFlags := 26, nameIndex := 175, descriptorIndex := 19, attributes := #[] }, { accessFlags := 130, nameIndex := 116, descriptorIndex := 117, attributes := #[] }, { accessFlags := 2, nameIndex := 18, descriptorIndex := 19, attributes := #[] }, { accessFlags := 2, nameIndex := 22, descriptorIndex := 19, attributes := #[] }, { accessFlags := 2, nameIndex := 25, descriptorIndex := 19, attributes := #[] }, { accessFlags := 2, nameIndex := 38, descriptorIndex := 19, attributes := #[] }, { accessFlags := 2, nameIndex := 43, descriptorIndex := 19, attributes := #[] }, { accessFlags := 2, nameIndex := 46, descriptorIndex := 19, attributes := #[] }, { accessFlags := 2, nameIndex := 49, descriptorIndex := 50, attributes := #[] }, { accessFlags := 2, nameIndex := 14, descriptorIndex := 15, attributes := #[] }, { accessFlags := 26, nameIndex := 178, descriptorIndex := 15, attributes := #[] }, { accessFlags := 26, nameIndex := 180, descriptorIndex := 15, attributes := #[] }, { accessFlags := 26, nameIndex := 182, descriptorIndex := 183, attributes := #[] }])
  fields := #[{ name := "NATIVE_METHOD", type := (.object "java/lang/String"), accessFlags := 26, slot := 0, constantValue := 0 }, { name := "UNKNOWN_SOURCE", type := (.object "java/lang/String"), accessFlags := 26, slot := 1, constantValue := 0 }, { name := "declaringClassObject", type := (.object "java/lang/Class"), accessFlags := 130, slot := 0, constantValue := 0 }, { name := "classLoaderName", type := (.object "java/lang/String"), accessFlags := 2, slot := 1, constantValue := 0 }, { name := "moduleName", type := (.object "java/lang/String"), accessFlags := 2, slot := 2, constantValue := 0 }, { name := "moduleVersion", type := (.object "java/lang/String"), accessFlags := 2, slot := 3, constantValue := 0 }, { name := "declaringClass", type := (.object "java/lang/String"), accessFlags := 2, slot := 4, constantValue := 0 }, { name := "methodName", type := (.object "java/lang/String"), accessFlags := 2, slot := 5, constantValue := 0 }, { name := "fileName", type := (.object "java/lang/String"), accessFlags := 2, slot := 6, constantValue := 0 }, { name := "lineNumber", type := .int, accessFlags := 2, slot := 7, constantValue := 0 }, { name := "format", type := .byte, accessFlags := 2, slot := 8, constantValue := 0 }, { name := "BUILTIN_CLASS_LOADER", type := .byte, accessFlags := 26, slot := 2, constantValue := 0 }, { name := "JDK_NON_UPGRADEABLE_MODULE", type := .byte, accessFlags := 26, slot := 3, constantValue := 0 }, { name := "serialVersionUID", type := .long, accessFlags := 26, slot := 4, constantValue := 0 }]
  methods := #[k27m0]
  instanceTypes := #[(.object "java/lang/Class"), (.object "java/lang/String"), (.object "java/lang/String"), (.object "java/lang/String"), (.object "java/lang/String"), (.object "java/lang/String"), (.object "java/lang/String"), .int, .byte]
  staticTypes := #[(.object "java/lang/String"), (.object "java/lang/String"), .byte, .byte, .long]
  resolved := Array.replicate 235 none
  statics := none }

def pool28 : Array CpInfo := pool [(1, u "java/lang/Cloneable"), (0, .class_ 1), (0, u "java/lang/Object"), (0, .class_ 3)] 3

/-- java/lang/Cloneable -/
def k28 : Class := { plain "java/lang/Cloneable" (some 0) with
  accessFlags := 1537
  interfaces := #[]
  cf := some (fileOf pool28 2 #[] #[] 1537 4 #[] #[])
  fields := #[]
  methods := #[]
  instanceTypes := #[]
  staticTypes := #[]
  resolved := Array.replicate 8 none
  statics := none }

/-- the primitive byte -/
def k29 : Class := { plain "byte" none with kind := .primitive 'B', accessFlags := 0x411 }
/-- [B -/
def k30 : Class := { plain "[B" (some 0) with kind := .array 29 .byte, interfaces := #[28, 2], accessFlags := 1041 }

/-- the primitive char -/
def k31 : Class := { plain "char" none with kind := .primitive 'C', accessFlags := 0x411 }
/-- [C -/
def k32 : Class := { plain "[C" (some 0) with kind := .array 31 .char, interfaces := #[28, 2], accessFlags := 1041 }

/-- the primitive int -/
def k33 : Class := { plain "int" none with kind := .primitive 'I', accessFlags := 0x411 }
/-- [I -/
def k34 : Class := { plain "[I" (some 0) with kind := .array 33 .int, interfaces := #[28, 2], accessFlags := 1041 }

/-- [Ljava/lang/Object; -/
def k35 : Class := { plain "[Ljava/lang/Object;" (some 0) with kind := .array 0 (.object "java/lang/Object"), interfaces := #[28, 2], accessFlags := 1041 }

/-- [Ljava/lang/StackTraceElement; -/
def k36 : Class := { plain "[Ljava/lang/StackTraceElement;" (some 0) with kind := .array 27 (.object "java/lang/StackTraceElement"), interfaces := #[28, 2], accessFlags := 1041 }

/-- [Ljava/lang/Throwable; -/
def k37 : Class := { plain "[Ljava/lang/Throwable;" (some 0) with kind := .array 9 (.object "java/lang/Throwable"), interfaces := #[28, 2], accessFlags := 1041 }

def heap : Heap := #[{ cls := 7, slots := #[.long 0, .int 1, .null, .int 0, .null, .int 0, .int 0], vm := .statics 7 },
  { cls := 9, slots := #[.long 0, .ref 5, .ref 6, .null, .null, .null, .null, .ref 7, .int 1], vm := .statics 9 },
  { cls := 14, slots := #[.ref 8], vm := .statics 14 },
  { cls := 16, slots := #[.null, .null, .null], vm := .statics 16 },
  { cls := 18, slots := #[.int 0, .int 0, .int 0, .int 0, .int 0, .int 0, .int 0, .int 0, .null, .null, .ref 6, .null], vm := .statics 18 },
  { cls := 36, slots := #[], vm := .none },
  { cls := 26, slots := #[.int 0], vm := .none },
  { cls := 37, slots := #[], vm := .none },
  { cls := 14, slots := #[.int 0, .int 0], vm := .none }]
def classes : Array Class := #[k0, k1, k2, k3, k4, k5, k6, k7, k8, k9, k10, k11, k12, k13, k14, k15, k16, k17, k18, k19, k20, k21, k22, k23, k24, k25, k26, k27, k28, k29, k30, k31, k32, k33, k34, k35, k36, k37]
def interned : List (Array UInt16 × Addr) := []
def slotsUsed : Nat := 35
def theMethod : MethodId := ⟨1, 1⟩
def args0 : Array Value := #[.int 6, .int 7, .int 8]
def aboutOver (below : List Frame) : State where
  vm := { classes := classes, interned := interned.toArray }
  heap := heap
  slotsUsed := slotsUsed
  threads := #[{ frames := .invoking theMethod args0 :: below }]
def below0 : List Frame := [.native { method := ⟨0, 0⟩, args := #[] }]
def about1 : State := aboutOver below0
def p0 : Program := .bare "" "" ""
def e0 : Env := launch0.env 0 0 0
theorem w_frames : about1.frames = Frame.invoking theMethod args0 :: below0 := rfl
set_option maxRecDepth 65536 in
theorem w_args : argsFit about1.vm theMethod args0 = true := by decide +kernel
set_option maxRecDepth 65536 in
theorem w_heap : heapFits about1 = true := by decide +kernel
set_option maxRecDepth 65536 in
theorem w_runnable : about1.curStatus? = some .runnable := by decide +kernel
set_option maxRecDepth 65536 in
theorem w_alone : about1.alone = true := by decide +kernel
set_option maxRecDepth 65536 in
theorem w_named : about1.methodNamed? x = some theMethod := by decide +kernel
set_option maxRecDepth 65536 in
theorem w_hears : about1.hears theMethod below0 = true := by decide +kernel
set_option maxRecDepth 65536 in
theorem w_ripe : about1.ripe theMethod args0 below0 = true := by decide +kernel
theorem w_running : about1.status = .running := rfl
set_option maxRecDepth 65536 in
theorem w_room : about1.hasRoom e0.platform room_1 = true :=
  launch0.hasRoom_least _ room_1 (by decide +kernel) (by decide +kernel) (by decide +kernel) (by decide +kernel) (by decide +kernel) (by decide +kernel)
theorem allAtoms_all (ts : List Jvm.Cond) (a : Array Jvm.Value) (st : Jvm.State) : (allAtoms ts).before a st = ts.all (fun c => c.before a st) := by
  induction ts with
  | nil => rfl
  | cons c t ih =>
    show (Jvm.Cond.and c (allAtoms t)).before a st = _
    rw [Jvm.Cond.before_and, ih, List.all_cons]
def words1 : List Jvm.Cond := Jvm.Cond.code x code maxLocals ret :: tables_1
/-- a 'code' word, met by the world's own term for the bytes: nothing is compared byte by byte -/
theorem code_word {y : MethodName} {bytes : ByteArray} {mx : Nat} {rt : Option FieldType} {a : Array Value} {s : State} {m : MethodId} {meth : Method} {c : Code} (h1 : s.methodNamed? y = some m) (h2 : s.vm.method? m = some meth) (h3 : meth.code = some c) (h4 : c.code = bytes)
    (h5 : (c.maxLocals == mx && c.exceptionTable.isEmpty && decide (c.maxStack ≤ mostOperands) && decide (meth.sig.returnType = rt) && !meth.locks && decide (parseMethodDescriptor y.desc = some meth.sig)) = true) : (Jvm.Cond.code y bytes mx rt).before a s = true := by
  simp only [Bool.and_eq_true, beq_iff_eq, Bool.not_eq_true', decide_eq_true_eq] at h5
  obtain ⟨⟨⟨⟨⟨g1, g2⟩, g3⟩, g4⟩, g5⟩, g6⟩ := h5
  simp [Cond.before, Cond.holds, Cond.value, h1, h2, h3, h4, g1, g2, g3, g4, g5, g6]
def isCode : Jvm.Cond → Bool
  | .code _ _ _ _ => true
  | _ => false
theorem all_split {L : List Jvm.Cond} {P : Jvm.Cond → Bool} (h1 : L.all (fun c => isCode c || P c) = true) (h2 : ∀ c ∈ L.filter isCode, P c = true) : L.all P = true := by
  refine List.all_eq_true.mpr fun c hc => ?_
  have h := List.all_eq_true.mp h1 c hc
  rcases Bool.eq_false_or_eq_true (isCode c) with hi | hi
  · exact h2 c (List.mem_filter.mpr ⟨hc, hi⟩)
  · simpa [hi] using h
set_option maxRecDepth 65536 in
theorem w_c0 : (Jvm.Cond.code x code maxLocals ret).before args0 about1 = true := code_word (m := ⟨1, 1⟩) (meth := k1m1) (c := k1c1) (by decide +kernel) rfl rfl rfl (by decide +kernel)
set_option maxRecDepth 65536 in
theorem w_c1 : (Jvm.Cond.code ({ cls := "java/lang/String", name := "<init>", desc := "([C)V" } : Jvm.MethodName) jdk_42_method_3_code (2 : Nat) (Option.none : Option Jvm.ClassFile.FieldType)).before args0 about1 = true := code_word (m := ⟨7, 1⟩) (meth := k7m1) (c := k7c1) (by decide +kernel) rfl rfl rfl (by decide +kernel)
set_option maxRecDepth 65536 in
theorem w_c2 : (Jvm.Cond.code ({ cls := "java/lang/String", name := "<init>", desc := "([CIILjava/lang/Void;)V" } : Jvm.MethodName) jdk_42_method_149_code (6 : Nat) (Option.none : Option Jvm.ClassFile.FieldType)).before args0 about1 = true := code_word (m := ⟨7, 2⟩) (meth := k7m2) (c := k7c2) (by decide +kernel) rfl rfl rfl (by decide +kernel)
set_option maxRecDepth 65536 in
theorem w_c3 : (Jvm.Cond.code ({ cls := "java/lang/Object", name := "<init>", desc := "()V" } : Jvm.MethodName) object_method_1_code (1 : Nat) (Option.none : Option Jvm.ClassFile.FieldType)).before args0 about1 = true := code_word (m := ⟨0, 0⟩) (meth := k0m0) (c := k0c0) (by decide +kernel) rfl rfl rfl (by decide +kernel)
set_option maxRecDepth 65536 in
theorem w_c4 : (Jvm.Cond.code ({ cls := "java/lang/StringUTF16", name := "compress", desc := "([CII)[B" } : Jvm.MethodName) jdk_52_method_16_code (6 : Nat) (Option.some (Jvm.ClassFile.FieldType.array Jvm.ClassFile.FieldType.byte))).before args0 about1 = true := code_word (m := ⟨8, 2⟩) (meth := k8m2) (c := k8c2) (by decide +kernel) rfl rfl rfl (by decide +kernel)
set_option maxRecDepth 65536 in
theorem w_c5 : (Jvm.Cond.code ({ cls := "java/lang/StringUTF16", name := "compress", desc := "([CI[BII)I" } : Jvm.MethodName) jdk_52_method_21_code (7 : Nat) (Option.some Jvm.ClassFile.FieldType.int)).before args0 about1 = true := code_word (m := ⟨8, 3⟩) (meth := k8m3) (c := k8c3) (by decide +kernel) rfl rfl rfl (by decide +kernel)
set_option maxRecDepth 65536 in
theorem w_c6 : (Jvm.Cond.code ({ cls := "java/lang/StringUTF16", name := "coderFromArrayLen", desc := "([BI)B" } : Jvm.MethodName) jdk_52_method_15_code (2 : Nat) (Option.some Jvm.ClassFile.FieldType.byte)).before args0 about1 = true := code_word (m := ⟨8, 1⟩) (meth := k8m1) (c := k8c1) (by decide +kernel) rfl rfl rfl (by decide +kernel)
set_option maxRecDepth 65536 in
theorem w_c7 : (Jvm.Cond.code ({ cls := "com/example/net_thirty/netthirty/invoice/DiscountTooLargeException", name := "<init>", desc := "(ILjava/lang/String;)V" } : Jvm.MethodName) prog_17_method_1_code (3 : Nat) (Option.none : Option Jvm.ClassFile.FieldType)).before args0 about1 = true := code_word (m := ⟨13, 0⟩) (meth := k13m0) (c := k13c0) (by decide +kernel) rfl rfl rfl (by decide +kernel)
set_option maxRecDepth 65536 in
theorem w_c8 : (Jvm.Cond.code ({ cls := "java/lang/IllegalArgumentException", name := "<init>", desc := "(Ljava/lang/String;)V" } : Jvm.MethodName) jdk_57_method_2_code (2 : Nat) (Option.none : Option Jvm.ClassFile.FieldType)).before args0 about1 = true := code_word (m := ⟨12, 1⟩) (meth := k12m1) (c := k12c1) (by decide +kernel) rfl rfl rfl (by decide +kernel)
set_option maxRecDepth 65536 in
theorem w_c9 : (Jvm.Cond.code ({ cls := "java/lang/RuntimeException", name := "<init>", desc := "(Ljava/lang/String;)V" } : Jvm.MethodName) jdk_58_method_2_code (2 : Nat) (Option.none : Option Jvm.ClassFile.FieldType)).before args0 about1 = true := code_word (m := ⟨11, 1⟩) (meth := k11m1) (c := k11c1) (by decide +kernel) rfl rfl rfl (by decide +kernel)
set_option maxRecDepth 65536 in
theorem w_c10 : (Jvm.Cond.code ({ cls := "java/lang/Exception", name := "<init>", desc := "(Ljava/lang/String;)V" } : Jvm.MethodName) jdk_59_method_2_code (2 : Nat) (Option.none : Option Jvm.ClassFile.FieldType)).before args0 about1 = true := code_word (m := ⟨10, 1⟩) (meth := k10m1) (c := k10c1) (by decide +kernel) rfl rfl rfl (by decide +kernel)
set_option maxRecDepth 65536 in
theorem w_c11 : (Jvm.Cond.code ({ cls := "java/lang/Throwable", name := "<init>", desc := "(Ljava/lang/String;)V" } : Jvm.MethodName) jdk_78_method_2_code (2 : Nat) (Option.none : Option Jvm.ClassFile.FieldType)).before args0 about1 = true := code_word (m := ⟨9, 1⟩) (meth := k9m1) (c := k9c1) (by decide +kernel) rfl rfl rfl (by decide +kernel)
set_option maxRecDepth 65536 in
theorem w_c12 : (Jvm.Cond.code ({ cls := "java/lang/Throwable", name := "<init>", desc := "()V" } : Jvm.MethodName) jdk_78_method_1_code (1 : Nat) (Option.none : Option Jvm.ClassFile.FieldType)).before args0 about1 = true := code_word (m := ⟨9, 0⟩) (meth := k9m0) (c := k9c0) (by decide +kernel) rfl rfl rfl (by decide +kernel)
set_option maxRecDepth 65536 in
theorem w_c13 : (Jvm.Cond.code ({ cls := "com/example/net_thirty/netthirty/invoice/DiscountTooLargeException", name := "line", desc := "()Ljava/util/OptionalInt;" } : Jvm.MethodName) prog_17_method_2_code (1 : Nat) (Option.some (Jvm.ClassFile.FieldType.object "java/util/OptionalInt"))).before args0 about1 = true := code_word (m := ⟨13, 1⟩) (meth := k13m1) (c := k13c1) (by decide +kernel) rfl rfl rfl (by decide +kernel)
set_option maxRecDepth 65536 in
theorem w_c14 : (Jvm.Cond.code ({ cls := "java/util/OptionalInt", name := "of", desc := "(I)Ljava/util/OptionalInt;" } : Jvm.MethodName) jdk_2649_method_4_code (1 : Nat) (Option.some (Jvm.ClassFile.FieldType.object "java/util/OptionalInt"))).before args0 about1 = true := code_word (m := ⟨14, 3⟩) (meth := k14m3) (c := k14c3) (by decide +kernel) rfl rfl rfl (by decide +kernel)
set_option maxRecDepth 65536 in
theorem w_c15 : (Jvm.Cond.code ({ cls := "java/util/OptionalInt", name := "<init>", desc := "(I)V" } : Jvm.MethodName) jdk_2649_method_3_code (2 : Nat) (Option.none : Option Jvm.ClassFile.FieldType)).before args0 about1 = true := code_word (m := ⟨14, 2⟩) (meth := k14m2) (c := k14c2) (by decide +kernel) rfl rfl rfl (by decide +kernel)
set_option maxRecDepth 65536 in
theorem w_c16 : (Jvm.Cond.code ({ cls := "java/util/OptionalInt", name := "isPresent", desc := "()Z" } : Jvm.MethodName) jdk_2649_method_6_code (1 : Nat) (Option.some Jvm.ClassFile.FieldType.boolean)).before args0 about1 = true := code_word (m := ⟨14, 5⟩) (meth := k14m5) (c := k14c5) (by decide +kernel) rfl rfl rfl (by decide +kernel)
set_option maxRecDepth 65536 in
theorem w_c17 : (Jvm.Cond.code ({ cls := "java/util/OptionalInt", name := "getAsInt", desc := "()I" } : Jvm.MethodName) jdk_2649_method_5_code (1 : Nat) (Option.some Jvm.ClassFile.FieldType.int)).before args0 about1 = true := code_word (m := ⟨14, 4⟩) (meth := k14m4) (c := k14c4) (by decide +kernel) rfl rfl rfl (by decide +kernel)
set_option maxRecDepth 65536 in
theorem w_c18 : (Jvm.Cond.code ({ cls := "java/util/OptionalInt", name := "empty", desc := "()Ljava/util/OptionalInt;" } : Jvm.MethodName) jdk_2649_method_2_code (0 : Nat) (Option.some (Jvm.ClassFile.FieldType.object "java/util/OptionalInt"))).before args0 about1 = true := code_word (m := ⟨14, 1⟩) (meth := k14m1) (c := k14c1) (by decide +kernel) rfl rfl rfl (by decide +kernel)
def codes1 : List Jvm.Cond := [Jvm.Cond.code x code maxLocals ret, Jvm.Cond.code ({ cls := "java/lang/String", name := "<init>", desc := "([C)V" } : Jvm.MethodName) jdk_42_method_3_code (2 : Nat) (Option.none : Option Jvm.ClassFile.FieldType), Jvm.Cond.code ({ cls := "java/lang/String", name := "<init>", desc := "([CIILjava/lang/Void;)V" } : Jvm.MethodName) jdk_42_method_149_code (6 : Nat) (Option.none : Option Jvm.ClassFile.FieldType), Jvm.Cond.code ({ cls := "java/lang/Object", name := "<init>", desc := "()V" } : Jvm.MethodName) object_method_1_code (1 : Nat) (Option.none : Option Jvm.ClassFile.FieldType), Jvm.Cond.code ({ cls := "java/lang/StringUTF16", name := "compress", desc := "([CII)[B" } : Jvm.MethodName) jdk_52_method_16_code (6 : Nat) (Option.some (Jvm.ClassFile.FieldType.array Jvm.ClassFile.FieldType.byte)), Jvm.Cond.code ({ cls := "java/lang/StringUTF16", name := "compress", desc := "([CI[BII)I" } : Jvm.MethodName) jdk_52_method_21_code (7 : Nat) (Option.some Jvm.ClassFile.FieldType.int), Jvm.Cond.code ({ cls := "java/lang/StringUTF16", name := "coderFromArrayLen", desc := "([BI)B" } : Jvm.MethodName) jdk_52_method_15_code (2 : Nat) (Option.some Jvm.ClassFile.FieldType.byte), Jvm.Cond.code ({ cls := "com/example/net_thirty/netthirty/invoice/DiscountTooLargeException", name := "<init>", desc := "(ILjava/lang/String;)V" } : Jvm.MethodName) prog_17_method_1_code (3 : Nat) (Option.none : Option Jvm.ClassFile.FieldType), Jvm.Cond.code ({ cls := "java/lang/IllegalArgumentException", name := "<init>", desc := "(Ljava/lang/String;)V" } : Jvm.MethodName) jdk_57_method_2_code (2 : Nat) (Option.none : Option Jvm.ClassFile.FieldType), Jvm.Cond.code ({ cls := "java/lang/RuntimeException", name := "<init>", desc := "(Ljava/lang/String;)V" } : Jvm.MethodName) jdk_58_method_2_code (2 : Nat) (Option.none : Option Jvm.ClassFile.FieldType), Jvm.Cond.code ({ cls := "java/lang/Exception", name := "<init>", desc := "(Ljava/lang/String;)V" } : Jvm.MethodName) jdk_59_method_2_code (2 : Nat) (Option.none : Option Jvm.ClassFile.FieldType), Jvm.Cond.code ({ cls := "java/lang/Throwable", name := "<init>", desc := "(Ljava/lang/String;)V" } : Jvm.MethodName) jdk_78_method_2_code (2 : Nat) (Option.none : Option Jvm.ClassFile.FieldType), Jvm.Cond.code ({ cls := "java/lang/Throwable", name := "<init>", desc := "()V" } : Jvm.MethodName) jdk_78_method_1_code (1 : Nat) (Option.none : Option Jvm.ClassFile.FieldType), Jvm.Cond.code ({ cls := "com/example/net_thirty/netthirty/invoice/DiscountTooLargeException", name := "line", desc := "()Ljava/util/OptionalInt;" } : Jvm.MethodName) prog_17_method_2_code (1 : Nat) (Option.some (Jvm.ClassFile.FieldType.object "java/util/OptionalInt")), Jvm.Cond.code ({ cls := "java/util/OptionalInt", name := "of", desc := "(I)Ljava/util/OptionalInt;" } : Jvm.MethodName) jdk_2649_method_4_code (1 : Nat) (Option.some (Jvm.ClassFile.FieldType.object "java/util/OptionalInt")), Jvm.Cond.code ({ cls := "java/util/OptionalInt", name := "<init>", desc := "(I)V" } : Jvm.MethodName) jdk_2649_method_3_code (2 : Nat) (Option.none : Option Jvm.ClassFile.FieldType), Jvm.Cond.code ({ cls := "java/util/OptionalInt", name := "isPresent", desc := "()Z" } : Jvm.MethodName) jdk_2649_method_6_code (1 : Nat) (Option.some Jvm.ClassFile.FieldType.boolean), Jvm.Cond.code ({ cls := "java/util/OptionalInt", name := "getAsInt", desc := "()I" } : Jvm.MethodName) jdk_2649_method_5_code (1 : Nat) (Option.some Jvm.ClassFile.FieldType.int), Jvm.Cond.code ({ cls := "java/util/OptionalInt", name := "empty", desc := "()Ljava/util/OptionalInt;" } : Jvm.MethodName) jdk_2649_method_2_code (0 : Nat) (Option.some (Jvm.ClassFile.FieldType.object "java/util/OptionalInt"))]
set_option maxRecDepth 65536 in
theorem codes_eq : words1.filter isCode = codes1 := rfl
theorem w_codes : ∀ c ∈ words1.filter isCode, c.before args0 about1 = true := by
  rw [codes_eq]
  intro c hc
  simp only [codes1, List.mem_cons, List.not_mem_nil, or_false] at hc
  rcases hc with rfl | rfl | rfl | rfl | rfl | rfl | rfl | rfl | rfl | rfl | rfl | rfl | rfl | rfl | rfl | rfl | rfl | rfl | rfl
  · exact w_c0
  · exact w_c1
  · exact w_c2
  · exact w_c3
  · exact w_c4
  · exact w_c5
  · exact w_c6
  · exact w_c7
  · exact w_c8
  · exact w_c9
  · exact w_c10
  · exact w_c11
  · exact w_c12
  · exact w_c13
  · exact w_c14
  · exact w_c15
  · exact w_c16
  · exact w_c17
  · exact w_c18
set_option maxRecDepth 65536 in
theorem w_t1 : (words1.take 24).all (fun c => isCode c || c.before args0 about1) = true := by decide +kernel
set_option maxRecDepth 65536 in
theorem w_t2 : ((words1.drop 24).take 24).all (fun c => isCode c || c.before args0 about1) = true := by decide +kernel
set_option maxRecDepth 65536 in
theorem w_t3 : (((words1.drop 24).drop 24).take 24).all (fun c => isCode c || c.before args0 about1) = true := by decide +kernel
set_option maxRecDepth 65536 in
theorem w_t4 : ((((words1.drop 24).drop 24).drop 24).take 24).all (fun c => isCode c || c.before args0 about1) = true := by decide +kernel
set_option maxRecDepth 65536 in
theorem w_t5 : (((((words1.drop 24).drop 24).drop 24).drop 24).take 24).all (fun c => isCode c || c.before args0 about1) = true := by decide +kernel
set_option maxRecDepth 65536 in
theorem w_t6 : (((((words1.drop 24).drop 24).drop 24).drop 24).drop 24).all (fun c => isCode c || c.before args0 about1) = true := by decide +kernel
theorem w_tables : (allAtoms (Jvm.Cond.code x code maxLocals ret :: tables_1)).before args0 about1 = true := by
  rw [allAtoms_all]
  show words1.all (fun c => c.before args0 about1) = true
  refine all_split ?_ w_codes
  rw [← List.take_append_drop 24 words1, List.all_append, w_t1, ← List.take_append_drop 24 (words1.drop 24), List.all_append, w_t2, ← List.take_append_drop 24 ((words1.drop 24).drop 24), List.all_append, w_t3, ← List.take_append_drop 24 (((words1.drop 24).drop 24).drop 24), List.all_append, w_t4, ← List.take_append_drop 24 ((((words1.drop 24).drop 24).drop 24).drop 24), List.all_append, w_t5, w_t6]
  rfl
set_option maxRecDepth 65536 in
theorem w_rest : rest_1_c.before args0 about1 = true := by decide +kernel
set_option maxRecDepth 65536 in
theorem w_case : (Jvm.Cond.and given_1 narrow_1).before args0 about1 = true := by decide +kernel
theorem w_applies : (headSpec (Jvm.Cond.code x code maxLocals ret :: tables_1) room_1).applies x e0.platform about1 = true :=
  (Spec.applies_iff w_frames).mpr ⟨w_running, w_runnable, w_alone, w_named, w_hears, w_ripe, w_room, w_tables⟩
theorem atStart : AtStart classFile x code maxLocals ret World_1 tables_1 room_1 Calls_1 rest_1 Pre_1 launch0 p0 e0 about1 theMethod args0 below0 :=
  ⟨lists_1, trivial, launch0.admits_env _ _ _, launch0.least_env, fairChoices_fair.cas, fairChoices_fair.clock, w_frames, w_args, w_heap, w_applies, ⟨(by decide +kernel : framesKnown about1 = true), ⟨(by decide +kernel : tablesKnown about1 = true), trivial⟩⟩, w_rest, w_case⟩
end start1
theorem witness_1 : WitnessClaimed_1 := ⟨start1.p0, start1.e0, start1.about1, start1.theMethod, start1.args0, start1.below0, start1.atStart⟩
end Jvm.Pilot.@@N@@
