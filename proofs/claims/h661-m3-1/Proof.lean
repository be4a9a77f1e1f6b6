import JvmDerived
import JvmDerived.Pilot.@@N@@Statement
import JvmDerived.Pilot.@@N@@Code
set_option linter.unusedVariables false
set_option linter.unusedSimpArgs false
namespace Jvm.Pilot.@@N@@
open Jvm Jvm.ClassFile Sem Op Lib Jvm.Free Jvm.Stand Jvm.LawKit Jvm.RoadKit Bundle Jvm.Pilot.@@N@@.Jvm.D
section OwnLayer
variable {p : Program} {l : Launch} {e : Env} {R : Room} {s : State} {m : MethodId} {args : Array Value} {below : List Frame} {meth : Method} {c : Code} {T : State} {locs : List Loc} {cells slots : Nat} {Z : State} {y : MethodName} {bs : ByteArray} {maxL : Nat} {rt : Option FieldType} {ce sl : Nat} {Q : Option Value → Heap → List Loc → Prop} {G : Outcome → State → Prop} {pc : Nat} {Ls : Array Slot} {st rest : List Value} {h : Heap} {a0 : Array Value}
/-- from S the body runs on, returns, and Q says what it leaves -/
def OwnEnds (p : Program) (e : Env) (below : List Frame) (G : Outcome → State → Prop) (S : State) : Prop :=
  ∃ s₂ o, Steps p.tables e below S s₂ ∧ s₂.status = .running ∧ Ended s₂ below o ∧ G o s₂
def OwnG (s : State) (ce sl : Nat) (Q : Option Value → Heap → List Loc → Prop) : Outcome → State → Prop := fun o s₂ => ∃ v L, o = .returned v ∧ Q v s₂.heap L ∧ FrameEnd s o s₂ L ce sl
/-- what stands throughout a body's walk -/
def OwnCx (p : Program) (s : State) (m : MethodId) (meth : Method) (c : Code) (Z : State) (y : MethodName) (bs : ByteArray) (maxL : Nat) (rt : Option FieldType) : Prop :=
  p.tables.exec = Jvm.exec ∧ Z.Warmed39 s.vm ∧ s.vm.findClass y.cls = some m.cls ∧ c.code = bs ∧ c.maxLocals = maxL ∧ meth.sig.returnType = rt ∧ meth.locks = false ∧ meth.name = y.name
/-- a body's contract over the heap h at these arguments -/
def OwnMet (l : Launch) (Z : State) (y : MethodName) (bs : ByteArray) (maxL : Nat) (rt : Option FieldType) (ws : List Jvm.Cond) (rm : Room) (as' : Array Value) (h : Heap) (Q : Option Value → Heap → List Loc → Prop) : Prop :=
  MetFree l y (head1 (Jvm.Cond.code y bs maxL rt :: ws) rm) (fun a U => a = as' ∧ Z.Warmed39 U.vm ∧ U.heap = h) (fun _ _ _ _ _ => True) (fun _ U o U' => ∃ v L, o = .returned v ∧ Q v U'.heap L ∧ FrameEnd U o U' L rm.cells rm.slots)
theorem own_st {S S' : State} (k : ∀ t, Steps p.tables e below S' t → Steps p.tables e below S t) (r : OwnEnds p e below G S') : OwnEnds p e below G S := by
  obtain ⟨s₂, o, h1, r⟩ := r
  exact ⟨s₂, o, k _ h1, r⟩
theorem own_tr {S S' : State} (k : Steps p.tables e below S S') (r : OwnEnds p e below G S') : OwnEnds p e below G S := own_st (fun _ q => k.trans q) r
theorem own_enter {ws : List Jvm.Cond} {rm : Room} {as' : Array Value} {f0 : MethodId → JFrame} (hp : plainFor y = true) (hf : ∀ m, entryFrame m as' maxL = f0 m)
    (H : ∀ p e s m below meth c T, Stand p l e rm s m as' below meth c T [] 0 0 → OwnCx p s m meth c Z y bs maxL rt → T.heap = h → OwnEnds p e below (OwnG s rm.cells rm.slots Q) (T.setTop (f0 m))) : OwnMet l Z y bs maxL rt ws rm as' h Q := by
  refine MetFree.of_bodySF hp hisR ?_
  intro p e s m args below meth c s₁ Bd hml0 hP hK
  obtain ⟨rfl, hZ, hh⟩ := hP
  have k := H p e s m below meth c s₁ (Stand.of_body Bd) ⟨Bd.exec, hZ, findClass_of_methodNamed Bd.named, Bd.bytes, hml0, Bd.returns, Bd.notSynchronized, (name_of_methodNamed Bd.named Bd.method).1⟩ (by rw [← hh, Bd.state]; rfl)
  rw [← hf m] at k
  exact k
theorem own_mono {ws : List Jvm.Cond} {rm : Room} {as' : Array Value} {Q' : Option Value → Heap → List Loc → Prop} (H : OwnMet l Z y bs maxL rt ws rm as' h Q) (q : ∀ v h' L, Q v h' L → Q' v h' L) : OwnMet l Z y bs maxL rt ws rm as' h Q' := by
  intro p e ha hc hk s m args below hf happ hP hK
  obtain ⟨n, o, h1, h2, h3, v, L, h4, h5, h6⟩ := H p e ha hc hk s m args below hf happ hP hK
  exact ⟨n, o, h1, h2, h3, v, L, h4, q _ _ _ h5, h6⟩
theorem own_iload (X : Stand p l e R s m args below meth c T locs cells slots) (C : OwnCx p s m meth c Z y bs maxL rt) {k : Nat} {v : Int32} (hd : decode bs pc = .ok (.iload k, 2)) (pc' : Nat) (hp : pc + 2 = pc') (hl : Ls[k]? = some (.val (.int v)))
    (hr : OwnEnds p e below G (T.setTop (mkF m pc' Ls (.int v :: st)))) : OwnEnds p e below G (T.setTop (mkF m pc Ls st)) := by
  subst hp; exact own_st (fun _ q => XS.iload X.here C.1 rfl (hb C.2.2.2.1 hd) hl q) hr
theorem own_lload (X : Stand p l e R s m args below meth c T locs cells slots) (C : OwnCx p s m meth c Z y bs maxL rt) {k : Nat} {v : Int64} (hd : decode bs pc = .ok (.lload k, 2)) (pc' : Nat) (hp : pc + 2 = pc') (hl : Ls[k]? = some (.val (.long v)))
    (hr : OwnEnds p e below G (T.setTop (mkF m pc' Ls (.long v :: st)))) : OwnEnds p e below G (T.setTop (mkF m pc Ls st)) := by
  subst hp; exact own_st (fun _ q => XS.lload X.here C.1 rfl (hb C.2.2.2.1 hd) hl q) hr
theorem own_iload_n (X : Stand p l e R s m args below meth c T locs cells slots) (C : OwnCx p s m meth c Z y bs maxL rt) {k : Fin 4} {v : Int32} (hd : decode bs pc = .ok (.iload_n k, 1)) (pc' : Nat) (hp : pc + 1 = pc') (hl : Ls[k.val]? = some (.val (.int v)))
    (hr : OwnEnds p e below G (T.setTop (mkF m pc' Ls (.int v :: st)))) : OwnEnds p e below G (T.setTop (mkF m pc Ls st)) := by
  subst hp; exact own_st (fun _ q => XS.iloadN X.here C.1 rfl (hb C.2.2.2.1 hd) hl q) hr
theorem own_lload_n (X : Stand p l e R s m args below meth c T locs cells slots) (C : OwnCx p s m meth c Z y bs maxL rt) {k : Fin 4} {v : Int64} (hd : decode bs pc = .ok (.lload_n k, 1)) (pc' : Nat) (hp : pc + 1 = pc') (hl : Ls[k.val]? = some (.val (.long v)))
    (hr : OwnEnds p e below G (T.setTop (mkF m pc' Ls (.long v :: st)))) : OwnEnds p e below G (T.setTop (mkF m pc Ls st)) := by
  subst hp; exact own_st (fun _ q => XS.lloadN X.here C.1 rfl (hb C.2.2.2.1 hd) hl q) hr
theorem own_aload (X : Stand p l e R s m args below meth c T locs cells slots) (C : OwnCx p s m meth c Z y bs maxL rt) {k : Nat} {v : Value} (hd : decode bs pc = .ok (.aload k, 2)) (pc' : Nat) (hp : pc + 2 = pc') (hl : Ls[k]? = some (.val v)) (hv : v.isRef = true)
    (hr : OwnEnds p e below G (T.setTop (mkF m pc' Ls (v :: st)))) : OwnEnds p e below G (T.setTop (mkF m pc Ls st)) := by
  subst hp; exact own_st (fun _ q => XS.aload X.here C.1 rfl (hb C.2.2.2.1 hd) hl hv q) hr
theorem own_aload_n (X : Stand p l e R s m args below meth c T locs cells slots) (C : OwnCx p s m meth c Z y bs maxL rt) {k : Fin 4} {v : Value} (hd : decode bs pc = .ok (.aload_n k, 1)) (pc' : Nat) (hp : pc + 1 = pc') (hl : Ls[k.val]? = some (.val v)) (hv : v.isRef = true)
    (hr : OwnEnds p e below G (T.setTop (mkF m pc' Ls (v :: st)))) : OwnEnds p e below G (T.setTop (mkF m pc Ls st)) := by
  subst hp; exact own_st (fun _ q => XS.aloadN X.here C.1 rfl (hb C.2.2.2.1 hd) hl hv q) hr
theorem own_istore (X : Stand p l e R s m args below meth c T locs cells slots) (C : OwnCx p s m meth c Z y bs maxL rt) {k : Nat} {v : Int32} (hd : decode bs pc = .ok (.istore k, 2)) (pc' : Nat) (hp : pc + 2 = pc') (L' : Array Slot) (hl : storeLocals Ls k (.int v) = some L')
    (hr : OwnEnds p e below G (T.setTop (mkF m pc' L' st))) : OwnEnds p e below G (T.setTop (mkF m pc Ls (.int v :: st))) := by
  subst hp; exact own_st (fun _ q => XS.istore X.here C.1 rfl (hb C.2.2.2.1 hd) rfl hl q) hr
theorem own_lstore (X : Stand p l e R s m args below meth c T locs cells slots) (C : OwnCx p s m meth c Z y bs maxL rt) {k : Nat} {v : Int64} (hd : decode bs pc = .ok (.lstore k, 2)) (pc' : Nat) (hp : pc + 2 = pc') (L' : Array Slot) (hl : storeLocals Ls k (.long v) = some L')
    (hr : OwnEnds p e below G (T.setTop (mkF m pc' L' st))) : OwnEnds p e below G (T.setTop (mkF m pc Ls (.long v :: st))) := by
  subst hp; exact own_st (fun _ q => XS.lstore X.here C.1 rfl (hb C.2.2.2.1 hd) rfl hl q) hr
theorem own_istore_n (X : Stand p l e R s m args below meth c T locs cells slots) (C : OwnCx p s m meth c Z y bs maxL rt) {k : Fin 4} {v : Int32} (hd : decode bs pc = .ok (.istore_n k, 1)) (pc' : Nat) (hp : pc + 1 = pc') (L' : Array Slot) (hl : storeLocals Ls k.val (.int v) = some L')
    (hr : OwnEnds p e below G (T.setTop (mkF m pc' L' st))) : OwnEnds p e below G (T.setTop (mkF m pc Ls (.int v :: st))) := by
  subst hp; exact own_st (fun _ q => XS.istoreN X.here C.1 rfl (hb C.2.2.2.1 hd) rfl hl q) hr
theorem own_lstore_n (X : Stand p l e R s m args below meth c T locs cells slots) (C : OwnCx p s m meth c Z y bs maxL rt) {k : Fin 4} {v : Int64} (hd : decode bs pc = .ok (.lstore_n k, 1)) (pc' : Nat) (hp : pc + 1 = pc') (L' : Array Slot) (hl : storeLocals Ls k.val (.long v) = some L')
    (hr : OwnEnds p e below G (T.setTop (mkF m pc' L' st))) : OwnEnds p e below G (T.setTop (mkF m pc Ls (.long v :: st))) := by
  subst hp; exact own_st (fun _ q => XS.lstoreN X.here C.1 rfl (hb C.2.2.2.1 hd) rfl hl q) hr
theorem own_astore (X : Stand p l e R s m args below meth c T locs cells slots) (C : OwnCx p s m meth c Z y bs maxL rt) {k : Nat} {v : Value} (hd : decode bs pc = .ok (.astore k, 2)) (pc' : Nat) (hp : pc + 2 = pc') (hv : v.isRef = true) (L' : Array Slot) (hl : storeLocals Ls k v = some L')
    (hr : OwnEnds p e below G (T.setTop (mkF m pc' L' st))) : OwnEnds p e below G (T.setTop (mkF m pc Ls (v :: st))) := by
  subst hp; exact own_st (fun _ q => XS.astore X.here C.1 rfl (hb C.2.2.2.1 hd) rfl hv hl q) hr
theorem own_astore_n (X : Stand p l e R s m args below meth c T locs cells slots) (C : OwnCx p s m meth c Z y bs maxL rt) {k : Fin 4} {v : Value} (hd : decode bs pc = .ok (.astore_n k, 1)) (pc' : Nat) (hp : pc + 1 = pc') (hv : v.isRef = true) (L' : Array Slot) (hl : storeLocals Ls k.val v = some L')
    (hr : OwnEnds p e below G (T.setTop (mkF m pc' L' st))) : OwnEnds p e below G (T.setTop (mkF m pc Ls (v :: st))) := by
  subst hp; exact own_st (fun _ q => XS.astoreN X.here C.1 rfl (hb C.2.2.2.1 hd) rfl hv hl q) hr
theorem own_iinc (X : Stand p l e R s m args below meth c T locs cells slots) (C : OwnCx p s m meth c Z y bs maxL rt) {k : Nat} {cst : Int} {v : Int32} (hd : decode bs pc = .ok (.iinc k cst, 3)) (pc' : Nat) (hp : pc + 3 = pc') (hl : Ls[k]? = some (.val (.int v))) (w : Int32) (hw : Int32.ofInt cst = w) (F : Int32 → Array Slot) (hl' : ∀ z, storeLocals Ls k (.int z) = some (F z))
    (hr : ∀ z, z = v + w → OwnEnds p e below G (T.setTop (mkF m pc' (F z) st))) : OwnEnds p e below G (T.setTop (mkF m pc Ls st)) := by
  subst hp hw; exact own_st (fun _ q => XS.iinc X.here C.1 rfl (hb C.2.2.2.1 hd) hl (hl' _) q) (hr _ rfl)
theorem own_iconst (X : Stand p l e R s m args below meth c T locs cells slots) (C : OwnCx p s m meth c Z y bs maxL rt) {i : Int} (hd : decode bs pc = .ok (.iconst i, 1)) (pc' : Nat) (hp : pc + 1 = pc') (k : Int32) (hk : Int32.ofInt i = k)
    (hr : OwnEnds p e below G (T.setTop (mkF m pc' Ls (.int k :: st)))) : OwnEnds p e below G (T.setTop (mkF m pc Ls st)) := by
  subst hp hk; exact own_st (fun _ q => XS.iconst X.here C.1 rfl (hb C.2.2.2.1 hd) q) hr
theorem own_bipush (X : Stand p l e R s m args below meth c T locs cells slots) (C : OwnCx p s m meth c Z y bs maxL rt) {i : Int} (hd : decode bs pc = .ok (.bipush i, 2)) (pc' : Nat) (hp : pc + 2 = pc') (k : Int32) (hk : (Int8.ofInt i).toInt32 = k)
    (hr : OwnEnds p e below G (T.setTop (mkF m pc' Ls (.int k :: st)))) : OwnEnds p e below G (T.setTop (mkF m pc Ls st)) := by
  subst hp hk; exact own_st (fun _ q => XS.bipush X.here C.1 rfl (hb C.2.2.2.1 hd) q) hr
theorem own_sipush (X : Stand p l e R s m args below meth c T locs cells slots) (C : OwnCx p s m meth c Z y bs maxL rt) {i : Int} (hd : decode bs pc = .ok (.sipush i, 3)) (pc' : Nat) (hp : pc + 3 = pc') (k : Int32) (hk : (Int16.ofInt i).toInt32 = k)
    (hr : OwnEnds p e below G (T.setTop (mkF m pc' Ls (.int k :: st)))) : OwnEnds p e below G (T.setTop (mkF m pc Ls st)) := by
  subst hp hk; exact own_st (fun _ q => XS.sipush X.here C.1 rfl (hb C.2.2.2.1 hd) q) hr
theorem own_lconst (X : Stand p l e R s m args below meth c T locs cells slots) (C : OwnCx p s m meth c Z y bs maxL rt) {i : Fin 2} (hd : decode bs pc = .ok (.lconst i, 1)) (pc' : Nat) (hp : pc + 1 = pc') (k : Int64) (hk : Int64.ofNat i = k)
    (hr : OwnEnds p e below G (T.setTop (mkF m pc' Ls (.long k :: st)))) : OwnEnds p e below G (T.setTop (mkF m pc Ls st)) := by
  subst hp hk; exact own_st (fun _ q => XS.lconst X.here C.1 rfl (hb C.2.2.2.1 hd) q) hr
theorem own_aconst_null (X : Stand p l e R s m args below meth c T locs cells slots) (C : OwnCx p s m meth c Z y bs maxL rt) (hd : decode bs pc = .ok (.aconst_null, 1)) (pc' : Nat) (hp : pc + 1 = pc')
    (hr : OwnEnds p e below G (T.setTop (mkF m pc' Ls (.null :: st)))) : OwnEnds p e below G (T.setTop (mkF m pc Ls st)) := by
  subst hp; exact own_st (fun _ q => XS.aconstNull X.here C.1 rfl (hb C.2.2.2.1 hd) q) hr
theorem own_ldc (X : Stand p l e R s m args below meth c T locs cells slots) (C : OwnCx p s m meth c Z y bs maxL rt) {i : Nat} {v : Int32} (w : (Jvm.Cond.constant y.cls i v).before a0 Z = true) (hd : decode bs pc = .ok (.ldc i, 2)) (pc' : Nat) (hp : pc + 2 = pc')
    (hr : OwnEnds p e below G (T.setTop (mkF m pc' Ls (.int v :: st)))) : OwnEnds p e below G (T.setTop (mkF m pc Ls st)) := by
  subst hp; exact own_st (X.ldcInt C.1 C.2.2.1 (mvT C.2.1 w) (g := mkF m pc Ls st) rfl (hb C.2.2.2.1 hd)) hr
theorem own_ldcw (X : Stand p l e R s m args below meth c T locs cells slots) (C : OwnCx p s m meth c Z y bs maxL rt) {i : Nat} {v : Int32} (w : (Jvm.Cond.constant y.cls i v).before a0 Z = true) (hd : decode bs pc = .ok (.ldc_w i, 3)) (pc' : Nat) (hp : pc + 3 = pc')
    (hr : OwnEnds p e below G (T.setTop (mkF m pc' Ls (.int v :: st)))) : OwnEnds p e below G (T.setTop (mkF m pc Ls st)) := by
  subst hp; exact own_st (X.ldcwInt C.1 C.2.2.1 (mvT C.2.1 w) (g := mkF m pc Ls st) rfl (hb C.2.2.2.1 hd)) hr
theorem own_ldc2 (X : Stand p l e R s m args below meth c T locs cells slots) (C : OwnCx p s m meth c Z y bs maxL rt) {i : Nat} {v : Int64} (w : (Jvm.Cond.constantLong y.cls i v).before a0 Z = true) (hd : decode bs pc = .ok (.ldc2_w i, 3)) (pc' : Nat) (hp : pc + 3 = pc')
    (hr : OwnEnds p e below G (T.setTop (mkF m pc' Ls (.long v :: st)))) : OwnEnds p e below G (T.setTop (mkF m pc Ls st)) := by
  subst hp; exact own_st (X.ldc2Long C.1 C.2.2.1 (mvT C.2.1 w) (g := mkF m pc Ls st) rfl (hb C.2.2.2.1 hd)) hr
theorem own_iadd (X : Stand p l e R s m args below meth c T locs cells slots) (C : OwnCx p s m meth c Z y bs maxL rt) {a b : Int32} (hd : decode bs pc = .ok (.iadd, 1)) (pc' : Nat) (hp : pc + 1 = pc')
    (hr : ∀ z, z = a + b → OwnEnds p e below G (T.setTop (mkF m pc' Ls (.int z :: st)))) : OwnEnds p e below G (T.setTop (mkF m pc Ls (.int b :: .int a :: st))) := by
  subst hp; exact own_st (fun _ q => XS.iadd X.here C.1 rfl (hb C.2.2.2.1 hd) rfl q) (hr _ rfl)
theorem own_isub (X : Stand p l e R s m args below meth c T locs cells slots) (C : OwnCx p s m meth c Z y bs maxL rt) {a b : Int32} (hd : decode bs pc = .ok (.isub, 1)) (pc' : Nat) (hp : pc + 1 = pc')
    (hr : ∀ z, z = a - b → OwnEnds p e below G (T.setTop (mkF m pc' Ls (.int z :: st)))) : OwnEnds p e below G (T.setTop (mkF m pc Ls (.int b :: .int a :: st))) := by
  subst hp; exact own_st (fun _ q => XS.isub X.here C.1 rfl (hb C.2.2.2.1 hd) rfl q) (hr _ rfl)
theorem own_imul (X : Stand p l e R s m args below meth c T locs cells slots) (C : OwnCx p s m meth c Z y bs maxL rt) {a b : Int32} (hd : decode bs pc = .ok (.imul, 1)) (pc' : Nat) (hp : pc + 1 = pc')
    (hr : ∀ z, z = a * b → OwnEnds p e below G (T.setTop (mkF m pc' Ls (.int z :: st)))) : OwnEnds p e below G (T.setTop (mkF m pc Ls (.int b :: .int a :: st))) := by
  subst hp; exact own_st (fun _ q => XS.imul X.here C.1 rfl (hb C.2.2.2.1 hd) rfl q) (hr _ rfl)
theorem own_iand (X : Stand p l e R s m args below meth c T locs cells slots) (C : OwnCx p s m meth c Z y bs maxL rt) {a b : Int32} (hd : decode bs pc = .ok (.iand, 1)) (pc' : Nat) (hp : pc + 1 = pc')
    (hr : ∀ z, z = a &&& b → OwnEnds p e below G (T.setTop (mkF m pc' Ls (.int z :: st)))) : OwnEnds p e below G (T.setTop (mkF m pc Ls (.int b :: .int a :: st))) := by
  subst hp; exact own_st (fun _ q => XS.iand X.here C.1 rfl (hb C.2.2.2.1 hd) rfl q) (hr _ rfl)
theorem own_ior (X : Stand p l e R s m args below meth c T locs cells slots) (C : OwnCx p s m meth c Z y bs maxL rt) {a b : Int32} (hd : decode bs pc = .ok (.ior, 1)) (pc' : Nat) (hp : pc + 1 = pc')
    (hr : ∀ z, z = a ||| b → OwnEnds p e below G (T.setTop (mkF m pc' Ls (.int z :: st)))) : OwnEnds p e below G (T.setTop (mkF m pc Ls (.int b :: .int a :: st))) := by
  subst hp; exact own_st (fun _ q => XS.ior X.here C.1 rfl (hb C.2.2.2.1 hd) rfl q) (hr _ rfl)
theorem own_ixor (X : Stand p l e R s m args below meth c T locs cells slots) (C : OwnCx p s m meth c Z y bs maxL rt) {a b : Int32} (hd : decode bs pc = .ok (.ixor, 1)) (pc' : Nat) (hp : pc + 1 = pc')
    (hr : ∀ z, z = a ^^^ b → OwnEnds p e below G (T.setTop (mkF m pc' Ls (.int z :: st)))) : OwnEnds p e below G (T.setTop (mkF m pc Ls (.int b :: .int a :: st))) := by
  subst hp; exact own_st (fun _ q => XS.ixor X.here C.1 rfl (hb C.2.2.2.1 hd) rfl q) (hr _ rfl)
theorem own_idiv (X : Stand p l e R s m args below meth c T locs cells slots) (C : OwnCx p s m meth c Z y bs maxL rt) {a b : Int32} (hd : decode bs pc = .ok (.idiv, 1)) (pc' : Nat) (hp : pc + 1 = pc') (hz : b ≠ 0)
    (hr : ∀ z, z = a / b → OwnEnds p e below G (T.setTop (mkF m pc' Ls (.int z :: st)))) : OwnEnds p e below G (T.setTop (mkF m pc Ls (.int b :: .int a :: st))) := by
  subst hp; exact own_st (fun _ q => XS.idiv X.here C.1 rfl (hb C.2.2.2.1 hd) rfl hz q) (hr _ rfl)
theorem own_ladd (X : Stand p l e R s m args below meth c T locs cells slots) (C : OwnCx p s m meth c Z y bs maxL rt) {a b : Int64} (hd : decode bs pc = .ok (.ladd, 1)) (pc' : Nat) (hp : pc + 1 = pc')
    (hr : ∀ z, z = a + b → OwnEnds p e below G (T.setTop (mkF m pc' Ls (.long z :: st)))) : OwnEnds p e below G (T.setTop (mkF m pc Ls (.long b :: .long a :: st))) := by
  subst hp; exact own_st (fun _ q => XS.ladd X.here C.1 rfl (hb C.2.2.2.1 hd) rfl q) (hr _ rfl)
theorem own_lsub (X : Stand p l e R s m args below meth c T locs cells slots) (C : OwnCx p s m meth c Z y bs maxL rt) {a b : Int64} (hd : decode bs pc = .ok (.lsub, 1)) (pc' : Nat) (hp : pc + 1 = pc')
    (hr : ∀ z, z = a - b → OwnEnds p e below G (T.setTop (mkF m pc' Ls (.long z :: st)))) : OwnEnds p e below G (T.setTop (mkF m pc Ls (.long b :: .long a :: st))) := by
  subst hp; exact own_st (fun _ q => XS.lsub X.here C.1 rfl (hb C.2.2.2.1 hd) rfl q) (hr _ rfl)
theorem own_lmul (X : Stand p l e R s m args below meth c T locs cells slots) (C : OwnCx p s m meth c Z y bs maxL rt) {a b : Int64} (hd : decode bs pc = .ok (.lmul, 1)) (pc' : Nat) (hp : pc + 1 = pc')
    (hr : ∀ z, z = a * b → OwnEnds p e below G (T.setTop (mkF m pc' Ls (.long z :: st)))) : OwnEnds p e below G (T.setTop (mkF m pc Ls (.long b :: .long a :: st))) := by
  subst hp; exact own_st (fun _ q => XS.lmul X.here C.1 rfl (hb C.2.2.2.1 hd) rfl q) (hr _ rfl)
theorem own_land (X : Stand p l e R s m args below meth c T locs cells slots) (C : OwnCx p s m meth c Z y bs maxL rt) {a b : Int64} (hd : decode bs pc = .ok (.land, 1)) (pc' : Nat) (hp : pc + 1 = pc')
    (hr : ∀ z, z = a &&& b → OwnEnds p e below G (T.setTop (mkF m pc' Ls (.long z :: st)))) : OwnEnds p e below G (T.setTop (mkF m pc Ls (.long b :: .long a :: st))) := by
  subst hp; exact own_st (fun _ q => XS.land X.here C.1 rfl (hb C.2.2.2.1 hd) rfl q) (hr _ rfl)
theorem own_lor (X : Stand p l e R s m args below meth c T locs cells slots) (C : OwnCx p s m meth c Z y bs maxL rt) {a b : Int64} (hd : decode bs pc = .ok (.lor, 1)) (pc' : Nat) (hp : pc + 1 = pc')
    (hr : ∀ z, z = a ||| b → OwnEnds p e below G (T.setTop (mkF m pc' Ls (.long z :: st)))) : OwnEnds p e below G (T.setTop (mkF m pc Ls (.long b :: .long a :: st))) := by
  subst hp; exact own_st (fun _ q => XS.lor X.here C.1 rfl (hb C.2.2.2.1 hd) rfl q) (hr _ rfl)
theorem own_lxor (X : Stand p l e R s m args below meth c T locs cells slots) (C : OwnCx p s m meth c Z y bs maxL rt) {a b : Int64} (hd : decode bs pc = .ok (.lxor, 1)) (pc' : Nat) (hp : pc + 1 = pc')
    (hr : ∀ z, z = a ^^^ b → OwnEnds p e below G (T.setTop (mkF m pc' Ls (.long z :: st)))) : OwnEnds p e below G (T.setTop (mkF m pc Ls (.long b :: .long a :: st))) := by
  subst hp; exact own_st (fun _ q => XS.lxor X.here C.1 rfl (hb C.2.2.2.1 hd) rfl q) (hr _ rfl)
theorem own_ldiv (X : Stand p l e R s m args below meth c T locs cells slots) (C : OwnCx p s m meth c Z y bs maxL rt) {a b : Int64} (hd : decode bs pc = .ok (.ldiv, 1)) (pc' : Nat) (hp : pc + 1 = pc') (hz : b ≠ 0)
    (hr : ∀ z, z = a / b → OwnEnds p e below G (T.setTop (mkF m pc' Ls (.long z :: st)))) : OwnEnds p e below G (T.setTop (mkF m pc Ls (.long b :: .long a :: st))) := by
  subst hp; exact own_st (fun _ q => XS.ldiv X.here C.1 rfl (hb C.2.2.2.1 hd) rfl hz q) (hr _ rfl)
theorem own_irem (X : Stand p l e R s m args below meth c T locs cells slots) (C : OwnCx p s m meth c Z y bs maxL rt) {a b : Int32} (hd : decode bs pc = .ok (.irem, 1)) (pc' : Nat) (hp : pc + 1 = pc') (hz : b ≠ 0)
    (hr : ∀ z, z = a % b → OwnEnds p e below G (T.setTop (mkF m pc' Ls (.int z :: st)))) : OwnEnds p e below G (T.setTop (mkF m pc Ls (.int b :: .int a :: st))) := by
  subst hp; exact own_st (fun _ q => iremM X C.1 rfl (hb C.2.2.2.1 hd) rfl hz q) (hr _ rfl)
theorem own_lrem (X : Stand p l e R s m args below meth c T locs cells slots) (C : OwnCx p s m meth c Z y bs maxL rt) {a b : Int64} (hd : decode bs pc = .ok (.lrem, 1)) (pc' : Nat) (hp : pc + 1 = pc') (hz : b ≠ 0)
    (hr : ∀ z, z = a % b → OwnEnds p e below G (T.setTop (mkF m pc' Ls (.long z :: st)))) : OwnEnds p e below G (T.setTop (mkF m pc Ls (.long b :: .long a :: st))) := by
  subst hp; exact own_st (fun _ q => XS.lrem X.here C.1 rfl (hb C.2.2.2.1 hd) rfl hz q) (hr _ (lrem_mod a b))
theorem own_ishl (X : Stand p l e R s m args below meth c T locs cells slots) (C : OwnCx p s m meth c Z y bs maxL rt) {a : Int32} {b : Int32} (hd : decode bs pc = .ok (.ishl, 1)) (pc' : Nat) (hp : pc + 1 = pc')
    (hr : ∀ z, z = (a <<< (b &&& 31)) → OwnEnds p e below G (T.setTop (mkF m pc' Ls (.int z :: st)))) : OwnEnds p e below G (T.setTop (mkF m pc Ls (.int b :: .int a :: st))) := by
  subst hp; exact own_st (fun _ q => XS.ishl X.here C.1 rfl (hb C.2.2.2.1 hd) rfl q) (hr _ rfl)
theorem own_ishr (X : Stand p l e R s m args below meth c T locs cells slots) (C : OwnCx p s m meth c Z y bs maxL rt) {a : Int32} {b : Int32} (hd : decode bs pc = .ok (.ishr, 1)) (pc' : Nat) (hp : pc + 1 = pc')
    (hr : ∀ z, z = (a >>> (b &&& 31)) → OwnEnds p e below G (T.setTop (mkF m pc' Ls (.int z :: st)))) : OwnEnds p e below G (T.setTop (mkF m pc Ls (.int b :: .int a :: st))) := by
  subst hp; exact own_st (fun _ q => XS.ishr X.here C.1 rfl (hb C.2.2.2.1 hd) rfl q) (hr _ rfl)
theorem own_iushr (X : Stand p l e R s m args below meth c T locs cells slots) (C : OwnCx p s m meth c Z y bs maxL rt) {a : Int32} {b : Int32} (hd : decode bs pc = .ok (.iushr, 1)) (pc' : Nat) (hp : pc + 1 = pc')
    (hr : ∀ z, z = ((a.toUInt32 >>> (b &&& 31).toUInt32).toInt32) → OwnEnds p e below G (T.setTop (mkF m pc' Ls (.int z :: st)))) : OwnEnds p e below G (T.setTop (mkF m pc Ls (.int b :: .int a :: st))) := by
  subst hp; exact own_st (fun _ q => XS.iushr X.here C.1 rfl (hb C.2.2.2.1 hd) rfl q) (hr _ rfl)
theorem own_lshl (X : Stand p l e R s m args below meth c T locs cells slots) (C : OwnCx p s m meth c Z y bs maxL rt) {a : Int64} {b : Int32} (hd : decode bs pc = .ok (.lshl, 1)) (pc' : Nat) (hp : pc + 1 = pc')
    (hr : ∀ z, z = (a <<< (b &&& 0x3f).toInt64) → OwnEnds p e below G (T.setTop (mkF m pc' Ls (.long z :: st)))) : OwnEnds p e below G (T.setTop (mkF m pc Ls (.int b :: .long a :: st))) := by
  subst hp; exact own_st (fun _ q => XS.lshl X.here C.1 rfl (hb C.2.2.2.1 hd) rfl q) (hr _ rfl)
theorem own_lshr (X : Stand p l e R s m args below meth c T locs cells slots) (C : OwnCx p s m meth c Z y bs maxL rt) {a : Int64} {b : Int32} (hd : decode bs pc = .ok (.lshr, 1)) (pc' : Nat) (hp : pc + 1 = pc')
    (hr : ∀ z, z = (a >>> (b &&& 0x3f).toInt64) → OwnEnds p e below G (T.setTop (mkF m pc' Ls (.long z :: st)))) : OwnEnds p e below G (T.setTop (mkF m pc Ls (.int b :: .long a :: st))) := by
  subst hp; exact own_st (fun _ q => XS.lshr X.here C.1 rfl (hb C.2.2.2.1 hd) rfl q) (hr _ rfl)
theorem own_lushr (X : Stand p l e R s m args below meth c T locs cells slots) (C : OwnCx p s m meth c Z y bs maxL rt) {a : Int64} {b : Int32} (hd : decode bs pc = .ok (.lushr, 1)) (pc' : Nat) (hp : pc + 1 = pc')
    (hr : ∀ z, z = ((a.toUInt64 >>> (b &&& 0x3f).toInt64.toUInt64).toInt64) → OwnEnds p e below G (T.setTop (mkF m pc' Ls (.long z :: st)))) : OwnEnds p e below G (T.setTop (mkF m pc Ls (.int b :: .long a :: st))) := by
  subst hp; exact own_st (fun _ q => XS.lushr X.here C.1 rfl (hb C.2.2.2.1 hd) rfl q) (hr _ rfl)
theorem own_ineg (X : Stand p l e R s m args below meth c T locs cells slots) (C : OwnCx p s m meth c Z y bs maxL rt) {a : Int32} (hd : decode bs pc = .ok (.ineg, 1)) (pc' : Nat) (hp : pc + 1 = pc')
    (hr : ∀ z, z = -a → OwnEnds p e below G (T.setTop (mkF m pc' Ls (.int z :: st)))) : OwnEnds p e below G (T.setTop (mkF m pc Ls (.int a :: st))) := by
  subst hp; exact own_st (fun _ q => XS.ineg X.here C.1 rfl (hb C.2.2.2.1 hd) rfl q) (hr _ rfl)
theorem own_lneg (X : Stand p l e R s m args below meth c T locs cells slots) (C : OwnCx p s m meth c Z y bs maxL rt) {a : Int64} (hd : decode bs pc = .ok (.lneg, 1)) (pc' : Nat) (hp : pc + 1 = pc')
    (hr : ∀ z, z = -a → OwnEnds p e below G (T.setTop (mkF m pc' Ls (.long z :: st)))) : OwnEnds p e below G (T.setTop (mkF m pc Ls (.long a :: st))) := by
  subst hp; exact own_st (fun _ q => XS.lneg X.here C.1 rfl (hb C.2.2.2.1 hd) rfl q) (hr _ rfl)
theorem own_i2l (X : Stand p l e R s m args below meth c T locs cells slots) (C : OwnCx p s m meth c Z y bs maxL rt) {a : Int32} (hd : decode bs pc = .ok (.i2l, 1)) (pc' : Nat) (hp : pc + 1 = pc')
    (hr : ∀ z, z = a.toInt64 → OwnEnds p e below G (T.setTop (mkF m pc' Ls (.long z :: st)))) : OwnEnds p e below G (T.setTop (mkF m pc Ls (.int a :: st))) := by
  subst hp; exact own_st (fun _ q => XS.i2l X.here C.1 rfl (hb C.2.2.2.1 hd) rfl q) (hr _ rfl)
theorem own_l2i (X : Stand p l e R s m args below meth c T locs cells slots) (C : OwnCx p s m meth c Z y bs maxL rt) {a : Int64} (hd : decode bs pc = .ok (.l2i, 1)) (pc' : Nat) (hp : pc + 1 = pc')
    (hr : ∀ z, z = a.toInt32 → OwnEnds p e below G (T.setTop (mkF m pc' Ls (.int z :: st)))) : OwnEnds p e below G (T.setTop (mkF m pc Ls (.long a :: st))) := by
  subst hp; exact own_st (fun _ q => XS.l2i X.here C.1 rfl (hb C.2.2.2.1 hd) rfl q) (hr _ rfl)
theorem own_i2b (X : Stand p l e R s m args below meth c T locs cells slots) (C : OwnCx p s m meth c Z y bs maxL rt) {a : Int32} (hd : decode bs pc = .ok (.i2b, 1)) (pc' : Nat) (hp : pc + 1 = pc')
    (hr : ∀ z, z = a.toInt8.toInt32 → OwnEnds p e below G (T.setTop (mkF m pc' Ls (.int z :: st)))) : OwnEnds p e below G (T.setTop (mkF m pc Ls (.int a :: st))) := by
  subst hp; exact own_st (fun _ q => XS.i2b X.here C.1 rfl (hb C.2.2.2.1 hd) rfl q) (hr _ rfl)
theorem own_i2s (X : Stand p l e R s m args below meth c T locs cells slots) (C : OwnCx p s m meth c Z y bs maxL rt) {a : Int32} (hd : decode bs pc = .ok (.i2s, 1)) (pc' : Nat) (hp : pc + 1 = pc')
    (hr : ∀ z, z = a.toInt16.toInt32 → OwnEnds p e below G (T.setTop (mkF m pc' Ls (.int z :: st)))) : OwnEnds p e below G (T.setTop (mkF m pc Ls (.int a :: st))) := by
  subst hp; exact own_st (fun _ q => XS.i2s X.here C.1 rfl (hb C.2.2.2.1 hd) rfl q) (hr _ rfl)
theorem own_i2c (X : Stand p l e R s m args below meth c T locs cells slots) (C : OwnCx p s m meth c Z y bs maxL rt) {a : Int32} (hd : decode bs pc = .ok (.i2c, 1)) (pc' : Nat) (hp : pc + 1 = pc')
    (hr : ∀ z, z = a.toUInt32.toUInt16.toUInt32.toInt32 → OwnEnds p e below G (T.setTop (mkF m pc' Ls (.int z :: st)))) : OwnEnds p e below G (T.setTop (mkF m pc Ls (.int a :: st))) := by
  subst hp; exact own_st (fun _ q => XS.i2c X.here C.1 rfl (hb C.2.2.2.1 hd) rfl q) (hr _ rfl)
theorem own_lcmp (X : Stand p l e R s m args below meth c T locs cells slots) (C : OwnCx p s m meth c Z y bs maxL rt) {a b : Int64} (hd : decode bs pc = .ok (.lcmp, 1)) (pc' : Nat) (hp : pc + 1 = pc')
    (hr : ∀ z : Int32, (a.toInt < b.toInt → z.toInt = -1) → (a.toInt = b.toInt → z.toInt = 0) → (b.toInt < a.toInt → z.toInt = 1) → OwnEnds p e below G (T.setTop (mkF m pc' Ls (.int z :: st)))) : OwnEnds p e below G (T.setTop (mkF m pc Ls (.long b :: .long a :: st))) := by
  subst hp; exact own_st (fun _ q => XS.lcmp X.here C.1 rfl (hb C.2.2.2.1 hd) rfl q) (hr _ (c_lcmp a b).1 (c_lcmp a b).2.1 (c_lcmp a b).2.2)
theorem own_dup (X : Stand p l e R s m args below meth c T locs cells slots) (C : OwnCx p s m meth c Z y bs maxL rt) {v : Value} (hd : decode bs pc = .ok (.dup, 1)) (pc' : Nat) (hp : pc + 1 = pc') (hc : v.category = 1)
    (hr : OwnEnds p e below G (T.setTop (mkF m pc' Ls (v :: v :: st)))) : OwnEnds p e below G (T.setTop (mkF m pc Ls (v :: st))) := by
  subst hp; exact own_st (fun _ q => XS.dup X.here C.1 rfl (hb C.2.2.2.1 hd) rfl hc q) hr
theorem own_dup_x1 (X : Stand p l e R s m args below meth c T locs cells slots) (C : OwnCx p s m meth c Z y bs maxL rt) {v w : Value} (hd : decode bs pc = .ok (.dup_x1, 1)) (pc' : Nat) (hp : pc + 1 = pc') (hc : v.category = 1) (hc' : w.category = 1)
    (hr : OwnEnds p e below G (T.setTop (mkF m pc' Ls (v :: w :: v :: st)))) : OwnEnds p e below G (T.setTop (mkF m pc Ls (v :: w :: st))) := by
  subst hp; exact own_st (fun _ q => XS.dupX1 X.here C.1 rfl (hb C.2.2.2.1 hd) rfl hc hc' q) hr
theorem own_pop (X : Stand p l e R s m args below meth c T locs cells slots) (C : OwnCx p s m meth c Z y bs maxL rt) {v : Value} (hd : decode bs pc = .ok (.pop, 1)) (pc' : Nat) (hp : pc + 1 = pc') (hc : v.category = 1)
    (hr : OwnEnds p e below G (T.setTop (mkF m pc' Ls st))) : OwnEnds p e below G (T.setTop (mkF m pc Ls (v :: st))) := by
  subst hp; exact own_st (fun _ q => XS.pop X.here C.1 rfl (hb C.2.2.2.1 hd) rfl hc q) hr
theorem own_dup2 (X : Stand p l e R s m args below meth c T locs cells slots) (C : OwnCx p s m meth c Z y bs maxL rt) {v w : Value} (hd : decode bs pc = .ok (.dup2, 1)) (pc' : Nat) (hp : pc + 1 = pc') (hc : v.category = 1) (hc' : w.category = 1)
    (hr : OwnEnds p e below G (T.setTop (mkF m pc' Ls (v :: w :: v :: w :: st)))) : OwnEnds p e below G (T.setTop (mkF m pc Ls (v :: w :: st))) := by
  subst hp; exact own_st (fun _ q => XT.dup2 X.here C.1 rfl (hb C.2.2.2.1 hd) rfl hc hc' q) hr
theorem own_goto (X : Stand p l e R s m args below meth c T locs cells slots) (C : OwnCx p s m meth c Z y bs maxL rt) {o : Int} (hd : decode bs pc = .ok (.goto o, 3)) (pc' : Nat) (ho : 0 ≤ (pc : Int) + o) (hp : ((pc : Int) + o).toNat = pc')
    (hr : OwnEnds p e below G (T.setTop (mkF m pc' Ls st))) : OwnEnds p e below G (T.setTop (mkF m pc Ls st)) :=
  own_st (fun _ q => XS.goto X.here C.1 rfl rfl (hb C.2.2.2.1 hd) ho hp q) hr
theorem own_icmplt (X : Stand p l e R s m args below meth c T locs cells slots) (C : OwnCx p s m meth c Z y bs maxL rt) {x' y' : Int32} {o : Int} (hd : decode bs pc = .ok (.if_icmp .lt o, 3)) (pn pc' : Nat) (hpn : pc + 3 = pn) (ho : 0 ≤ (pc : Int) + o) (hp : ((pc : Int) + o).toNat = pc') {i : Int} (hi : x'.toInt = i) {j : Int} (hj : y'.toInt = j) 
    (hy : i < j → OwnEnds p e below G (T.setTop (mkF m pc' Ls st))) (hn : j ≤ i → OwnEnds p e below G (T.setTop (mkF m pn Ls st))) : OwnEnds p e below G (T.setTop (mkF m pc Ls (.int y' :: .int x' :: st))) := by
  subst hpn
  by_cases k : x' < y'
  · exact own_st (fun _ q => XS.icmpYes X.here C.1 rfl rfl (hb C.2.2.2.1 hd) rfl (((tlt k).1)) ho hp q) (hy (by rw [Int32.lt_iff_toInt_lt] at k; have q : y'.toInt = j := hj; omega))
  · exact own_st (fun _ q => XS.icmpNo X.here C.1 rfl (hb C.2.2.2.1 hd) rfl (((flt k).1)) q) (hn (by rw [Int32.lt_iff_toInt_lt] at k; have q : y'.toInt = j := hj; omega))
theorem own_icmpge (X : Stand p l e R s m args below meth c T locs cells slots) (C : OwnCx p s m meth c Z y bs maxL rt) {x' y' : Int32} {o : Int} (hd : decode bs pc = .ok (.if_icmp .ge o, 3)) (pn pc' : Nat) (hpn : pc + 3 = pn) (ho : 0 ≤ (pc : Int) + o) (hp : ((pc : Int) + o).toNat = pc') {i : Int} (hi : x'.toInt = i) {j : Int} (hj : y'.toInt = j) 
    (hy : j ≤ i → OwnEnds p e below G (T.setTop (mkF m pc' Ls st))) (hn : i < j → OwnEnds p e below G (T.setTop (mkF m pn Ls st))) : OwnEnds p e below G (T.setTop (mkF m pc Ls (.int y' :: .int x' :: st))) := by
  subst hpn
  by_cases k : x' < y'
  · exact own_st (fun _ q => XS.icmpNo X.here C.1 rfl (hb C.2.2.2.1 hd) rfl (((tlt k).2.1)) q) (hn (by rw [Int32.lt_iff_toInt_lt] at k; have q : y'.toInt = j := hj; omega))
  · exact own_st (fun _ q => XS.icmpYes X.here C.1 rfl rfl (hb C.2.2.2.1 hd) rfl (((flt k).2.1)) ho hp q) (hy (by rw [Int32.lt_iff_toInt_lt] at k; have q : y'.toInt = j := hj; omega))
theorem own_icmpgt (X : Stand p l e R s m args below meth c T locs cells slots) (C : OwnCx p s m meth c Z y bs maxL rt) {x' y' : Int32} {o : Int} (hd : decode bs pc = .ok (.if_icmp .gt o, 3)) (pn pc' : Nat) (hpn : pc + 3 = pn) (ho : 0 ≤ (pc : Int) + o) (hp : ((pc : Int) + o).toNat = pc') {i : Int} (hi : x'.toInt = i) {j : Int} (hj : y'.toInt = j) 
    (hy : j < i → OwnEnds p e below G (T.setTop (mkF m pc' Ls st))) (hn : i ≤ j → OwnEnds p e below G (T.setTop (mkF m pn Ls st))) : OwnEnds p e below G (T.setTop (mkF m pc Ls (.int y' :: .int x' :: st))) := by
  subst hpn
  by_cases k : y' < x'
  · exact own_st (fun _ q => XS.icmpYes X.here C.1 rfl rfl (hb C.2.2.2.1 hd) rfl (((tlt k).2.2.1)) ho hp q) (hy (by rw [Int32.lt_iff_toInt_lt] at k; have q : y'.toInt = j := hj; omega))
  · exact own_st (fun _ q => XS.icmpNo X.here C.1 rfl (hb C.2.2.2.1 hd) rfl (((flt k).2.2.1)) q) (hn (by rw [Int32.lt_iff_toInt_lt] at k; have q : y'.toInt = j := hj; omega))
theorem own_icmple (X : Stand p l e R s m args below meth c T locs cells slots) (C : OwnCx p s m meth c Z y bs maxL rt) {x' y' : Int32} {o : Int} (hd : decode bs pc = .ok (.if_icmp .le o, 3)) (pn pc' : Nat) (hpn : pc + 3 = pn) (ho : 0 ≤ (pc : Int) + o) (hp : ((pc : Int) + o).toNat = pc') {i : Int} (hi : x'.toInt = i) {j : Int} (hj : y'.toInt = j) 
    (hy : i ≤ j → OwnEnds p e below G (T.setTop (mkF m pc' Ls st))) (hn : j < i → OwnEnds p e below G (T.setTop (mkF m pn Ls st))) : OwnEnds p e below G (T.setTop (mkF m pc Ls (.int y' :: .int x' :: st))) := by
  subst hpn
  by_cases k : y' < x'
  · exact own_st (fun _ q => XS.icmpNo X.here C.1 rfl (hb C.2.2.2.1 hd) rfl (((tlt k).2.2.2)) q) (hn (by rw [Int32.lt_iff_toInt_lt] at k; have q : y'.toInt = j := hj; omega))
  · exact own_st (fun _ q => XS.icmpYes X.here C.1 rfl rfl (hb C.2.2.2.1 hd) rfl (((flt k).2.2.2)) ho hp q) (hy (by rw [Int32.lt_iff_toInt_lt] at k; have q : y'.toInt = j := hj; omega))
theorem own_icmpeq (X : Stand p l e R s m args below meth c T locs cells slots) (C : OwnCx p s m meth c Z y bs maxL rt) {x' y' : Int32} {o : Int} (hd : decode bs pc = .ok (.if_icmp .eq o, 3)) (pn pc' : Nat) (hpn : pc + 3 = pn) (ho : 0 ≤ (pc : Int) + o) (hp : ((pc : Int) + o).toNat = pc') {i : Int} (hi : x'.toInt = i) {j : Int} (hj : y'.toInt = j) 
    (hy : i = j → OwnEnds p e below G (T.setTop (mkF m pc' Ls st))) (hn : i ≠ j → OwnEnds p e below G (T.setTop (mkF m pn Ls st))) : OwnEnds p e below G (T.setTop (mkF m pc Ls (.int y' :: .int x' :: st))) := by
  subst hpn
  by_cases k : x' = y'
  · exact own_st (fun _ q => XS.icmpYes X.here C.1 rfl rfl (hb C.2.2.2.1 hd) rfl (((teq k).1)) ho hp q) (hy (by subst k; exact hi.symm.trans hj))
  · exact own_st (fun _ q => XS.icmpNo X.here C.1 rfl (hb C.2.2.2.1 hd) rfl (((feq k).1)) q) (hn (fun q => k (Int32.toInt_inj.mp (hi.trans (q.trans hj.symm)))))
theorem own_icmpne (X : Stand p l e R s m args below meth c T locs cells slots) (C : OwnCx p s m meth c Z y bs maxL rt) {x' y' : Int32} {o : Int} (hd : decode bs pc = .ok (.if_icmp .ne o, 3)) (pn pc' : Nat) (hpn : pc + 3 = pn) (ho : 0 ≤ (pc : Int) + o) (hp : ((pc : Int) + o).toNat = pc') {i : Int} (hi : x'.toInt = i) {j : Int} (hj : y'.toInt = j) 
    (hy : i ≠ j → OwnEnds p e below G (T.setTop (mkF m pc' Ls st))) (hn : i = j → OwnEnds p e below G (T.setTop (mkF m pn Ls st))) : OwnEnds p e below G (T.setTop (mkF m pc Ls (.int y' :: .int x' :: st))) := by
  subst hpn
  by_cases k : x' = y'
  · exact own_st (fun _ q => XS.icmpNo X.here C.1 rfl (hb C.2.2.2.1 hd) rfl (((teq k).2)) q) (hn (by subst k; exact hi.symm.trans hj))
  · exact own_st (fun _ q => XS.icmpYes X.here C.1 rfl rfl (hb C.2.2.2.1 hd) rfl (((feq k).2)) ho hp q) (hy (fun q => k (Int32.toInt_inj.mp (hi.trans (q.trans hj.symm)))))
theorem own_iflt (X : Stand p l e R s m args below meth c T locs cells slots) (C : OwnCx p s m meth c Z y bs maxL rt) {x' : Int32} {o : Int} (hd : decode bs pc = .ok (.ifCond .lt o, 3)) (pn pc' : Nat) (hpn : pc + 3 = pn) (ho : 0 ≤ (pc : Int) + o) (hp : ((pc : Int) + o).toNat = pc') {i : Int} (hi : x'.toInt = i) 
    (hy : i < 0 → OwnEnds p e below G (T.setTop (mkF m pc' Ls st))) (hn : 0 ≤ i → OwnEnds p e below G (T.setTop (mkF m pn Ls st))) : OwnEnds p e below G (T.setTop (mkF m pc Ls (.int x' :: st))) := by
  subst hpn
  by_cases k : x' < (0 : Int32)
  · exact own_st (fun _ q => XS.ifYes X.here C.1 rfl rfl (hb C.2.2.2.1 hd) rfl ((if0 _ _).trans ((tlt k).1)) ho hp q) (hy (by rw [Int32.lt_iff_toInt_lt] at k; have q : (0 : Int32).toInt = 0 := (rfl : (0 : Int32).toInt = 0); omega))
  · exact own_st (fun _ q => XS.ifNo X.here C.1 rfl (hb C.2.2.2.1 hd) rfl ((if0 _ _).trans ((flt k).1)) q) (hn (by rw [Int32.lt_iff_toInt_lt] at k; have q : (0 : Int32).toInt = 0 := (rfl : (0 : Int32).toInt = 0); omega))
theorem own_ifge (X : Stand p l e R s m args below meth c T locs cells slots) (C : OwnCx p s m meth c Z y bs maxL rt) {x' : Int32} {o : Int} (hd : decode bs pc = .ok (.ifCond .ge o, 3)) (pn pc' : Nat) (hpn : pc + 3 = pn) (ho : 0 ≤ (pc : Int) + o) (hp : ((pc : Int) + o).toNat = pc') {i : Int} (hi : x'.toInt = i) 
    (hy : 0 ≤ i → OwnEnds p e below G (T.setTop (mkF m pc' Ls st))) (hn : i < 0 → OwnEnds p e below G (T.setTop (mkF m pn Ls st))) : OwnEnds p e below G (T.setTop (mkF m pc Ls (.int x' :: st))) := by
  subst hpn
  by_cases k : x' < (0 : Int32)
  · exact own_st (fun _ q => XS.ifNo X.here C.1 rfl (hb C.2.2.2.1 hd) rfl ((if0 _ _).trans ((tlt k).2.1)) q) (hn (by rw [Int32.lt_iff_toInt_lt] at k; have q : (0 : Int32).toInt = 0 := (rfl : (0 : Int32).toInt = 0); omega))
  · exact own_st (fun _ q => XS.ifYes X.here C.1 rfl rfl (hb C.2.2.2.1 hd) rfl ((if0 _ _).trans ((flt k).2.1)) ho hp q) (hy (by rw [Int32.lt_iff_toInt_lt] at k; have q : (0 : Int32).toInt = 0 := (rfl : (0 : Int32).toInt = 0); omega))
theorem own_ifgt (X : Stand p l e R s m args below meth c T locs cells slots) (C : OwnCx p s m meth c Z y bs maxL rt) {x' : Int32} {o : Int} (hd : decode bs pc = .ok (.ifCond .gt o, 3)) (pn pc' : Nat) (hpn : pc + 3 = pn) (ho : 0 ≤ (pc : Int) + o) (hp : ((pc : Int) + o).toNat = pc') {i : Int} (hi : x'.toInt = i) 
    (hy : 0 < i → OwnEnds p e below G (T.setTop (mkF m pc' Ls st))) (hn : i ≤ 0 → OwnEnds p e below G (T.setTop (mkF m pn Ls st))) : OwnEnds p e below G (T.setTop (mkF m pc Ls (.int x' :: st))) := by
  subst hpn
  by_cases k : (0 : Int32) < x'
  · exact own_st (fun _ q => XS.ifYes X.here C.1 rfl rfl (hb C.2.2.2.1 hd) rfl ((if0 _ _).trans ((tlt k).2.2.1)) ho hp q) (hy (by rw [Int32.lt_iff_toInt_lt] at k; have q : (0 : Int32).toInt = 0 := (rfl : (0 : Int32).toInt = 0); omega))
  · exact own_st (fun _ q => XS.ifNo X.here C.1 rfl (hb C.2.2.2.1 hd) rfl ((if0 _ _).trans ((flt k).2.2.1)) q) (hn (by rw [Int32.lt_iff_toInt_lt] at k; have q : (0 : Int32).toInt = 0 := (rfl : (0 : Int32).toInt = 0); omega))
theorem own_ifle (X : Stand p l e R s m args below meth c T locs cells slots) (C : OwnCx p s m meth c Z y bs maxL rt) {x' : Int32} {o : Int} (hd : decode bs pc = .ok (.ifCond .le o, 3)) (pn pc' : Nat) (hpn : pc + 3 = pn) (ho : 0 ≤ (pc : Int) + o) (hp : ((pc : Int) + o).toNat = pc') {i : Int} (hi : x'.toInt = i) 
    (hy : i ≤ 0 → OwnEnds p e below G (T.setTop (mkF m pc' Ls st))) (hn : 0 < i → OwnEnds p e below G (T.setTop (mkF m pn Ls st))) : OwnEnds p e below G (T.setTop (mkF m pc Ls (.int x' :: st))) := by
  subst hpn
  by_cases k : (0 : Int32) < x'
  · exact own_st (fun _ q => XS.ifNo X.here C.1 rfl (hb C.2.2.2.1 hd) rfl ((if0 _ _).trans ((tlt k).2.2.2)) q) (hn (by rw [Int32.lt_iff_toInt_lt] at k; have q : (0 : Int32).toInt = 0 := (rfl : (0 : Int32).toInt = 0); omega))
  · exact own_st (fun _ q => XS.ifYes X.here C.1 rfl rfl (hb C.2.2.2.1 hd) rfl ((if0 _ _).trans ((flt k).2.2.2)) ho hp q) (hy (by rw [Int32.lt_iff_toInt_lt] at k; have q : (0 : Int32).toInt = 0 := (rfl : (0 : Int32).toInt = 0); omega))
theorem own_ifeq (X : Stand p l e R s m args below meth c T locs cells slots) (C : OwnCx p s m meth c Z y bs maxL rt) {x' : Int32} {o : Int} (hd : decode bs pc = .ok (.ifCond .eq o, 3)) (pn pc' : Nat) (hpn : pc + 3 = pn) (ho : 0 ≤ (pc : Int) + o) (hp : ((pc : Int) + o).toNat = pc') {i : Int} (hi : x'.toInt = i) 
    (hy : i = 0 → OwnEnds p e below G (T.setTop (mkF m pc' Ls st))) (hn : i ≠ 0 → OwnEnds p e below G (T.setTop (mkF m pn Ls st))) : OwnEnds p e below G (T.setTop (mkF m pc Ls (.int x' :: st))) := by
  subst hpn
  by_cases k : x' = (0 : Int32)
  · exact own_st (fun _ q => XS.ifYes X.here C.1 rfl rfl (hb C.2.2.2.1 hd) rfl ((if0 _ _).trans ((teq k).1)) ho hp q) (hy (by subst k; exact hi.symm.trans (rfl : (0 : Int32).toInt = 0)))
  · exact own_st (fun _ q => XS.ifNo X.here C.1 rfl (hb C.2.2.2.1 hd) rfl ((if0 _ _).trans ((feq k).1)) q) (hn (fun q => k (Int32.toInt_inj.mp (hi.trans (q.trans (rfl : (0 : Int32).toInt = 0).symm)))))
theorem own_ifne (X : Stand p l e R s m args below meth c T locs cells slots) (C : OwnCx p s m meth c Z y bs maxL rt) {x' : Int32} {o : Int} (hd : decode bs pc = .ok (.ifCond .ne o, 3)) (pn pc' : Nat) (hpn : pc + 3 = pn) (ho : 0 ≤ (pc : Int) + o) (hp : ((pc : Int) + o).toNat = pc') {i : Int} (hi : x'.toInt = i) 
    (hy : i ≠ 0 → OwnEnds p e below G (T.setTop (mkF m pc' Ls st))) (hn : i = 0 → OwnEnds p e below G (T.setTop (mkF m pn Ls st))) : OwnEnds p e below G (T.setTop (mkF m pc Ls (.int x' :: st))) := by
  subst hpn
  by_cases k : x' = (0 : Int32)
  · exact own_st (fun _ q => XS.ifNo X.here C.1 rfl (hb C.2.2.2.1 hd) rfl ((if0 _ _).trans ((teq k).2)) q) (hn (by subst k; exact hi.symm.trans (rfl : (0 : Int32).toInt = 0)))
  · exact own_st (fun _ q => XS.ifYes X.here C.1 rfl rfl (hb C.2.2.2.1 hd) rfl ((if0 _ _).trans ((feq k).2)) ho hp q) (hy (fun q => k (Int32.toInt_inj.mp (hi.trans (q.trans (rfl : (0 : Int32).toInt = 0).symm)))))
theorem own_ifnonnull_y (X : Stand p l e R s m args below meth c T locs cells slots) (C : OwnCx p s m meth c Z y bs maxL rt) {b : Addr} {o : Int} (hd : decode bs pc = .ok (.ifnonnull o, 3)) (pc' : Nat) (ho : 0 ≤ (pc : Int) + o) (hp : ((pc : Int) + o).toNat = pc')
    (hr : OwnEnds p e below G (T.setTop (mkF m pc' Ls st))) : OwnEnds p e below G (T.setTop (mkF m pc Ls (.ref b :: st))) :=
  own_st (fun _ q => XS.ifnonnullYes X.here C.1 rfl rfl (hb C.2.2.2.1 hd) rfl ho hp q) hr
theorem own_ifnull_n (X : Stand p l e R s m args below meth c T locs cells slots) (C : OwnCx p s m meth c Z y bs maxL rt) {b : Addr} {o : Int} (hd : decode bs pc = .ok (.ifnull o, 3)) (pn : Nat) (hp : pc + 3 = pn)
    (hr : OwnEnds p e below G (T.setTop (mkF m pn Ls st))) : OwnEnds p e below G (T.setTop (mkF m pc Ls (.ref b :: st))) := by
  subst hp; exact own_st (fun _ q => XS.ifnullNo X.here C.1 rfl (hb C.2.2.2.1 hd) rfl q) hr
theorem own_ifnull_y (X : Stand p l e R s m args below meth c T locs cells slots) (C : OwnCx p s m meth c Z y bs maxL rt) {o : Int} (hd : decode bs pc = .ok (.ifnull o, 3)) (pc' : Nat) (ho : 0 ≤ (pc : Int) + o) (hp : ((pc : Int) + o).toNat = pc')
    (hr : OwnEnds p e below G (T.setTop (mkF m pc' Ls st))) : OwnEnds p e below G (T.setTop (mkF m pc Ls (.null :: st))) :=
  own_st (fun _ q => XS.ifnullYes X.here C.1 rfl rfl (hb C.2.2.2.1 hd) rfl ho hp q) hr
theorem own_ifnonnull_n (X : Stand p l e R s m args below meth c T locs cells slots) (C : OwnCx p s m meth c Z y bs maxL rt) {o : Int} (hd : decode bs pc = .ok (.ifnonnull o, 3)) (pn : Nat) (hp : pc + 3 = pn)
    (hr : OwnEnds p e below G (T.setTop (mkF m pn Ls st))) : OwnEnds p e below G (T.setTop (mkF m pc Ls (.null :: st))) := by
  subst hp; exact own_st (fun _ q => XS.ifnonnullNo X.here C.1 rfl (hb C.2.2.2.1 hd) rfl q) hr
theorem own_acmpeq (X : Stand p l e R s m args below meth c T locs cells slots) (C : OwnCx p s m meth c Z y bs maxL rt) {a b : Addr} {o : Int} (hd : decode bs pc = .ok (.if_acmp .eq o, 3)) (pn pc' : Nat) (hpn : pc + 3 = pn) (ho : 0 ≤ (pc : Int) + o) (hp : ((pc : Int) + o).toNat = pc')
    (hy : a = b → OwnEnds p e below G (T.setTop (mkF m pc' Ls st))) (hn : a ≠ b → OwnEnds p e below G (T.setTop (mkF m pn Ls st))) : OwnEnds p e below G (T.setTop (mkF m pc Ls (.ref b :: .ref a :: st))) := by
  subst hpn
  by_cases k : a = b
  · exact own_st (fun _ q => XS.acmpYes X.here C.1 rfl rfl (hb C.2.2.2.1 hd) rfl (by simp [if_acmp.holds, k]) ho hp q) (hy k)
  · exact own_st (fun _ q => XS.acmpNo X.here C.1 rfl (hb C.2.2.2.1 hd) rfl (by simp [if_acmp.holds, k]) q) (hn k)
theorem own_acmpne (X : Stand p l e R s m args below meth c T locs cells slots) (C : OwnCx p s m meth c Z y bs maxL rt) {a b : Addr} {o : Int} (hd : decode bs pc = .ok (.if_acmp .ne o, 3)) (pn pc' : Nat) (hpn : pc + 3 = pn) (ho : 0 ≤ (pc : Int) + o) (hp : ((pc : Int) + o).toNat = pc')
    (hy : a ≠ b → OwnEnds p e below G (T.setTop (mkF m pc' Ls st))) (hn : a = b → OwnEnds p e below G (T.setTop (mkF m pn Ls st))) : OwnEnds p e below G (T.setTop (mkF m pc Ls (.ref b :: .ref a :: st))) := by
  subst hpn
  by_cases k : a = b
  · exact own_st (fun _ q => XS.acmpNo X.here C.1 rfl (hb C.2.2.2.1 hd) rfl (by simp [if_acmp.holds, k]) q) (hn k)
  · exact own_st (fun _ q => XS.acmpYes X.here C.1 rfl rfl (hb C.2.2.2.1 hd) rfl (by simp [if_acmp.holds, k]) ho hp q) (hy k)
theorem own_leave (X : Stand p l e R s m args below meth c T locs cells slots) (C : OwnCx p s m meth c Z y bs maxL rt) (v : Option Value) (hv : meth.sig.returnType = none → v = none) (hce : cells ≤ ce) (hsl : slots ≤ sl) (hQ : Q v T.heap locs) {S : State}
    (k : ∀ fs, (∀ (f : JFrame) (acts : List Action), f.method = m → f.locked = none → f.entered = [] → (doReturn e (T.setTop f) acts v).1 = T.setFrames fs) → Steps p.tables e below S (T.setFrames fs)) : OwnEnds p e below (OwnG s ce sl Q) S := by
  obtain ⟨fs, hr, hrun, hended, hW, hsame⟩ := X.leave (v := v) hv C.2.2.2.2.2.2.1
  exact ⟨_, _, k fs hr, hrun, hended, _, _, rfl, hQ, ⟨_, rfl⟩, hW, hsame.mono hce hsl⟩
theorem own_return (X : Stand p l e R s m args below meth c T locs cells slots) (C : OwnCx p s m meth c Z y bs maxL rt) (hrt : rt = none) (hd : decode bs pc = .ok (.return_, 1)) (hce : cells ≤ ce) (hsl : slots ≤ sl) (hQ : Q none T.heap locs) : OwnEnds p e below (OwnG s ce sl Q) (T.setTop (mkF m pc Ls [])) := by
  subst hrt
  exact own_leave X C none (fun _ => rfl) hce hsl hQ fun fs hr => X.returnOut C.1 C.2.2.2.2.2.1 (hb C.2.2.2.1 hd) hr
theorem own_iretN (X : Stand p l e R s m args below meth c T locs cells slots) (C : OwnCx p s m meth c Z y bs maxL rt) {z : Int32} (t : FieldType) (hrt : rt = some t) (ht : t = .boolean ∨ t = .byte ∨ t = .char ∨ t = .short) (hd : decode bs pc = .ok (.ireturn, 1)) (hce : cells ≤ ce) (hsl : slots ≤ sl) (w : Int32) (hw : nar t z = w) (hQ : Q (some (.int w)) T.heap locs) : OwnEnds p e below (OwnG s ce sl Q) (T.setTop (mkF m pc Ls (.int z :: st))) := by
  subst hrt hw
  exact own_leave X C (some (.int (nar t z))) (fun q => by rw [C.2.2.2.2.2.1] at q; cases q) hce hsl hQ fun fs hr => retN X C.1 C.2.2.2.2.2.1 ht (hb C.2.2.2.1 hd) hr
theorem own_ireturn (X : Stand p l e R s m args below meth c T locs cells slots) (C : OwnCx p s m meth c Z y bs maxL rt) {z : Int32} (hrt : rt = some .int) (hd : decode bs pc = .ok (.ireturn, 1)) (hce : cells ≤ ce) (hsl : slots ≤ sl) (hQ : Q (some (.int z)) T.heap locs) : OwnEnds p e below (OwnG s ce sl Q) (T.setTop (mkF m pc Ls (.int z :: st))) := by
  subst hrt
  exact own_leave X C (some (.int z)) (fun q => by rw [C.2.2.2.2.2.1] at q; cases q) hce hsl hQ fun fs hr => retOut X C.1 C.2.2.2.2.2.1 rfl (Or.inl ⟨rfl, Or.inl rfl, z, rfl⟩) (hb C.2.2.2.1 hd) hr
theorem own_lreturn (X : Stand p l e R s m args below meth c T locs cells slots) (C : OwnCx p s m meth c Z y bs maxL rt) {z : Int64} (hrt : rt = some .long) (hd : decode bs pc = .ok (.lreturn, 1)) (hce : cells ≤ ce) (hsl : slots ≤ sl) (hQ : Q (some (.long z)) T.heap locs) : OwnEnds p e below (OwnG s ce sl Q) (T.setTop (mkF m pc Ls (.long z :: st))) := by
  subst hrt
  exact own_leave X C (some (.long z)) (fun q => by rw [C.2.2.2.2.2.1] at q; cases q) hce hsl hQ fun fs hr => retOut X C.1 C.2.2.2.2.2.1 rfl (Or.inr (Or.inl ⟨rfl, rfl, z, rfl⟩)) (hb C.2.2.2.1 hd) hr
theorem own_areturn (X : Stand p l e R s m args below meth c T locs cells slots) (C : OwnCx p s m meth c Z y bs maxL rt) {z : Value} (t : FieldType) (hrt : rt = some t) (ht : t.isReference = true) (hz : z.isRef = true) (hn : narrow t z = z) (hd : decode bs pc = .ok (.areturn, 1)) (hce : cells ≤ ce) (hsl : slots ≤ sl) (hQ : Q (some z) T.heap locs) : OwnEnds p e below (OwnG s ce sl Q) (T.setTop (mkF m pc Ls (z :: st))) := by
  subst hrt
  exact own_leave X C (some z) (fun q => by rw [C.2.2.2.2.2.1] at q; cases q) hce hsl hQ fun fs hr => retOut X C.1 C.2.2.2.2.2.1 hn (Or.inr (Or.inr (Or.inr (Or.inr ⟨rfl, ht, hz⟩)))) (hb C.2.2.2.1 hd) hr
theorem own_callS (X : Stand p l e R s m args below meth c T locs cells slots) (C : OwnCx p s m meth c Z y bs maxL rt) {idx : Nat} {y' : MethodName} {bs' : ByteArray} {maxL' : Nat} {rt' : Option FieldType} {rm : Room} {as' : Array Value} {Q' : Option Value → Heap → List Loc → Prop}
    (w1 : (Jvm.Cond.methodLink y.cls idx y').before a0 Z = true) (w2 : (Jvm.Cond.static y').before a0 Z = true) (w3 : (Jvm.Cond.initialized y'.cls).before a0 Z = true) (w4 : (Jvm.Cond.code y' bs' maxL' rt').before a0 Z = true) (hy : y'.cls ≠ "java/lang/invoke/MethodHandle" ∧ y'.cls ≠ "java/lang/invoke/VarHandle")
    (hM : OwnMet l Z y' bs' maxL' rt' [] rm as' h Q') (eT : T.heap = h) {ps : List FieldType} {r : Option FieldType} (hpd : parseMethodDescriptor y'.desc = some ⟨ps, r⟩) (argsL : List Value) (has : argsL.toArray = as') (hlen : argsL.length = ps.length) (hst : st = argsL.reverse ++ rest) (hsz : Ls.size = maxL)
    (W : Nat) (hW : (rest.map fun v => v.category).sum = W) (hf : rm.frames + 1 ≤ R.frames) (hlo : W + (maxL' + 11) + rm.locals ≤ R.locals) (hce : cells + rm.cells ≤ R.cells) (hsl : slots + rm.slots ≤ R.slots) (hd : decode bs pc = .ok (.invokestatic idx, 3)) (pc' : Nat) (hp : pc + 3 = pc')
    (hr : ∀ T' L v, Stand p l e R s m args below meth c T' (locs ++ L) (cells + rm.cells) (slots + rm.slots) → Q' v T'.heap L → OwnEnds p e below G (T'.setTop (mkF m pc' Ls (v.toList ++ rest)))) : OwnEnds p e below G (T.setTop (mkF m pc Ls st)) := by
  subst hp has hW
  obtain ⟨v, _, ⟨T', L, k, n⟩, -, X', ⟨L', hQ, l1, l2, l3⟩, stp⟩ := Jvm.LawKit.callS X C.1 C.2.2.1 (mvT C.2.1 w1) (mvT C.2.1 w2) (mvT C.2.1 w3) (mvT C.2.1 w4) hy (backOf (len := 3) (W := (rest.map fun v => v.category).sum) hM C.2.1 w4 w3 hf hlo) (g := mkF m pc Ls st) rfl (by rw [C.2.2.2.2.1]; exact hsz) (argsL := argsL) (rest := rest) (lenOf hpd hlen) hst (by show 2 * 0 + _ ≤ _; omega) (hb C.2.2.2.1 hd) (fun _ _ => ⟨rfl, eT, hce, hsl⟩)
  dsimp only [Pt.U, Pt.locs, Pt.cells, Pt.slots] at X' l1 l2 l3 stp hQ
  subst l1 l2 l3
  exact own_st stp (hr T' L' v X' hQ)
/-- a callee that returns w and leaves the heap alone -/
def OwnPure (w : Value) (h : Heap) : Option Value → Heap → List Loc → Prop := fun v h' L => v = some w ∧ h' = h ∧ L = []
theorem own_conv {ws : List Jvm.Cond} {rm : Room} {as' : Array Value} {w w' : Value} (H : OwnMet l Z y bs maxL rt ws rm as' h (OwnPure w h)) (q : w = w') : OwnMet l Z y bs maxL rt ws rm as' h (OwnPure w' h) := q ▸ H
theorem own_callP (X : Stand p l e R s m args below meth c T locs cells slots) (C : OwnCx p s m meth c Z y bs maxL rt) {idx : Nat} {y' : MethodName} {bs' : ByteArray} {maxL' : Nat} {rt' : Option FieldType} {rm : Room} {as' : Array Value} {w : Value}
    (w1 : (Jvm.Cond.methodLink y.cls idx y').before a0 Z = true) (w2 : (Jvm.Cond.static y').before a0 Z = true) (w3 : (Jvm.Cond.initialized y'.cls).before a0 Z = true) (w4 : (Jvm.Cond.code y' bs' maxL' rt').before a0 Z = true) (hy : y'.cls ≠ "java/lang/invoke/MethodHandle" ∧ y'.cls ≠ "java/lang/invoke/VarHandle")
    (hM : OwnMet l Z y' bs' maxL' rt' [] rm as' h (OwnPure w h)) (eT : T.heap = h) {ps : List FieldType} {r : Option FieldType} (hpd : parseMethodDescriptor y'.desc = some ⟨ps, r⟩) (argsL : List Value) (has : argsL.toArray = as') (hlen : argsL.length = ps.length) (hst : st = argsL.reverse ++ rest) (hsz : Ls.size = maxL)
    (W : Nat) (hW : (rest.map fun v => v.category).sum = W) (hf : rm.frames + 1 ≤ R.frames) (hlo : W + (maxL' + 11) + rm.locals ≤ R.locals) (hce : rm.cells = 0) (hsl : rm.slots = 0) (hc0 : cells ≤ R.cells) (hs0 : slots ≤ R.slots) (hd : decode bs pc = .ok (.invokestatic idx, 3)) (pc' : Nat) (hp : pc + 3 = pc')
    (hr : ∀ T', Stand p l e R s m args below meth c T' locs cells slots → T'.heap = h → OwnEnds p e below G (T'.setTop (mkF m pc' Ls (w :: rest)))) : OwnEnds p e below G (T.setTop (mkF m pc Ls st)) := by
  refine own_callS X C w1 w2 w3 w4 hy hM eT hpd argsL has hlen hst hsz W hW hf hlo (by omega) (by omega) hd pc' hp ?_
  rintro T' L v X' ⟨rfl, e, rfl⟩
  rw [List.append_nil, hce, hsl] at X'
  exact hr T' X' e
/-- a callee that leaves the heap alone and returns a value of which Pw says something -/
def OwnSome (Pw : Value → Prop) (h : Heap) : Option Value → Heap → List Loc → Prop := fun v h' L => (∃ w, v = some w ∧ Pw w) ∧ h' = h ∧ L = []
theorem own_callE (X : Stand p l e R s m args below meth c T locs cells slots) (C : OwnCx p s m meth c Z y bs maxL rt) {idx : Nat} {y' : MethodName} {bs' : ByteArray} {maxL' : Nat} {rt' : Option FieldType} {rm : Room} {as' : Array Value} {Pw : Value → Prop}
    (w1 : (Jvm.Cond.methodLink y.cls idx y').before a0 Z = true) (w2 : (Jvm.Cond.static y').before a0 Z = true) (w3 : (Jvm.Cond.initialized y'.cls).before a0 Z = true) (w4 : (Jvm.Cond.code y' bs' maxL' rt').before a0 Z = true) (hy : y'.cls ≠ "java/lang/invoke/MethodHandle" ∧ y'.cls ≠ "java/lang/invoke/VarHandle")
    (hM : OwnMet l Z y' bs' maxL' rt' [] rm as' h (OwnSome Pw h)) (eT : T.heap = h) {ps : List FieldType} {r : Option FieldType} (hpd : parseMethodDescriptor y'.desc = some ⟨ps, r⟩) (argsL : List Value) (has : argsL.toArray = as') (hlen : argsL.length = ps.length) (hst : st = argsL.reverse ++ rest) (hsz : Ls.size = maxL)
    (W : Nat) (hW : (rest.map fun v => v.category).sum = W) (hf : rm.frames + 1 ≤ R.frames) (hlo : W + (maxL' + 11) + rm.locals ≤ R.locals) (hce : rm.cells = 0) (hsl : rm.slots = 0) (hc0 : cells ≤ R.cells) (hs0 : slots ≤ R.slots) (hd : decode bs pc = .ok (.invokestatic idx, 3)) (pc' : Nat) (hp : pc + 3 = pc')
    (hr : ∀ T' w, Pw w → Stand p l e R s m args below meth c T' locs cells slots → T'.heap = h → OwnEnds p e below G (T'.setTop (mkF m pc' Ls (w :: rest)))) : OwnEnds p e below G (T.setTop (mkF m pc Ls st)) := by
  refine own_callS X C w1 w2 w3 w4 hy hM eT hpd argsL has hlen hst hsz W hW hf hlo (by omega) (by omega) hd pc' hp ?_
  rintro T' L v X' ⟨⟨w, rfl, hw⟩, e, rfl⟩
  rw [List.append_nil, hce, hsl] at X'
  exact hr T' w hw X' e
end OwnLayer
theorem own_w {Z : State} {a0 : Array Value} (hw : ∀ d ∈ tables_1, d.before a0 Z = true) (k : Nat) {d : Jvm.Cond} (q : tables_1[k]? = some d) : d.before a0 Z = true := hw _ (List.mem_of_getElem? q)
def own_bit (f : Int32) (k : Nat) : Bool := f.toBitVec.getLsbD k
def own_parts (f : Int32) : Int32 := (if own_bit f 4 then 4 else 0) + (if own_bit f 3 then 64 else 0)
theorem own_and (f : Int32) (k : Nat) (w : Int32) (hw : w.toBitVec = BitVec.twoPow 32 k) : f &&& w = if own_bit f k then w else 0 := by
  apply Int32.toBitVec_inj.mp
  rw [Int32.toBitVec_and, hw, BitVec.and_twoPow, own_bit]
  split
  · exact hw.symm
  · rfl
theorem own_sh (f : Int32) (k : Nat) (w : Int32) (hk : ((w &&& 31).toUInt32).toBitVec = BitVec.ofNat 32 k) (hk2 : k < 32) : ((f.toUInt32 >>> (w &&& 31).toUInt32).toInt32) &&& 1 = if own_bit f k then 1 else 0 := by
  rw [own_and _ 0 1 (by decide)]
  have e : own_bit ((f.toUInt32 >>> (w &&& 31).toUInt32).toInt32) 0 = own_bit f k := by
    show ((f.toUInt32 >>> (w &&& 31).toUInt32).toBitVec).getLsbD 0 = _
    rw [UInt32.toBitVec_shiftRight, hk]
    simp [own_bit, Nat.mod_eq_of_lt, hk2]
  rw [e]
theorem own_same (f o : Int32) : own_parts (f ^^^ (o &&& -25)) = own_parts f := by
  have e : ∀ k, (-25 : Int32).toBitVec.getLsbD k = false → own_bit (f ^^^ (o &&& -25)) k = own_bit f k := fun k q => by
    simp only [own_bit, Int32.toBitVec_xor, Int32.toBitVec_and, BitVec.getLsbD_xor, BitVec.getLsbD_and]
    rw [show (-25 : Int32).toBitVec.getLsbD k = false from q]; simp
  rw [own_parts, own_parts, e 4 (by decide), e 3 (by decide)]
theorem own_pn_FrameContent : plainName "com/example/frugal_frame/frugalframe/FrameContent" = true := by first | (simp [plainName, overriddenIn]; done) | decide +kernel
theorem own_pd_I_R_I : parseMethodDescriptor "(I)I" = some ⟨[.int], some .int⟩ := by decide +kernel
theorem own_d_prog_22_method_26_code_0 : decode prog_22_method_26_code 0 = .ok (.iconst 0, 1) := by decide +kernel
theorem own_d_prog_22_method_26_code_1 : decode prog_22_method_26_code 1 = .ok (.istore_n 1, 1) := by decide +kernel
theorem own_d_prog_22_method_26_code_2 : decode prog_22_method_26_code 2 = .ok (.iload_n 0, 1) := by decide +kernel
theorem own_d_prog_22_method_26_code_3 : decode prog_22_method_26_code 3 = .ok (.bipush 16, 2) := by decide +kernel
theorem own_d_prog_22_method_26_code_5 : decode prog_22_method_26_code 5 = .ok (.iand, 1) := by decide +kernel
theorem own_d_prog_22_method_26_code_6 : decode prog_22_method_26_code 6 = .ok (.ifCond .eq 6, 3) := by decide +kernel
theorem own_d_prog_22_method_26_code_9 : decode prog_22_method_26_code 9 = .ok (.iinc 1 4, 3) := by decide +kernel
theorem own_d_prog_22_method_26_code_12 : decode prog_22_method_26_code 12 = .ok (.iload_n 0, 1) := by decide +kernel
theorem own_d_prog_22_method_26_code_13 : decode prog_22_method_26_code 13 = .ok (.bipush 8, 2) := by decide +kernel
theorem own_d_prog_22_method_26_code_15 : decode prog_22_method_26_code 15 = .ok (.iand, 1) := by decide +kernel
theorem own_d_prog_22_method_26_code_16 : decode prog_22_method_26_code 16 = .ok (.ifCond .eq 6, 3) := by decide +kernel
theorem own_d_prog_22_method_26_code_19 : decode prog_22_method_26_code 19 = .ok (.iinc 1 64, 3) := by decide +kernel
theorem own_d_prog_22_method_26_code_22 : decode prog_22_method_26_code 22 = .ok (.iload_n 1, 1) := by decide +kernel
theorem own_d_prog_22_method_26_code_23 : decode prog_22_method_26_code 23 = .ok (.ireturn, 1) := by decide +kernel
set_option maxRecDepth 65536 in
set_option maxHeartbeats 4000000 in
theorem own_ef_own_rm_partsSize (m : MethodId) (ia0 : Int32) : entryFrame m #[(.int ia0)] 2 = (mkF m 0 #[.val (.int ia0), .unset] []) := by first | (simp [entryFrame, mkF, argsToLocals, Value.category]; done) | rfl
set_option maxRecDepth 65536 in
set_option maxHeartbeats 4000000 in
theorem own_rm_partsSize (l : Launch) (Z : State) (a0 : Array Value) (hw : ∀ d ∈ tables_1, d.before a0 Z = true) (ia0 : Int32) (h : Heap)  :
    OwnMet l Z (⟨"com/example/frugal_frame/frugalframe/FrameContent", "partsSize", "(I)I"⟩ : MethodName) prog_22_method_26_code 2 (some .int) [] ({ frames := 0, cells := 0, slots := 0, locals := 0 } : Room) #[(.int ia0)] h (OwnPure (.int (own_parts ia0)) h) := by
  refine own_enter (f0 := fun m => mkF m 0 #[.val (.int ia0), .unset] []) (plainFor_of_name own_pn_FrameContent) (fun m => own_ef_own_rm_partsSize m ia0) ?_
  intro p e s m below meth c T0 X0 C e0
  refine own_iconst X0 C own_d_prog_22_method_26_code_0 1 rfl (0) rfl ?_
  refine own_istore_n X0 C own_d_prog_22_method_26_code_1 2 rfl #[.val (.int ia0), .val (.int (0 : Int32))] rfl ?_
  refine own_iload_n X0 C own_d_prog_22_method_26_code_2 3 rfl rfl ?_
  refine own_bipush X0 C own_d_prog_22_method_26_code_3 5 rfl (16) rfl ?_
  refine own_iand X0 C own_d_prog_22_method_26_code_5 6 rfl (fun v1 ev1 => ?_)
  rw [own_and ia0 4 16 (by decide)] at ev1
  refine own_ifeq X0 C own_d_prog_22_method_26_code_6 9 12 rfl (by decide) (by decide) (i := v1.toInt) rfl (fun b1 => ?_) (fun b1 => ?_)
  · refine own_iload_n X0 C own_d_prog_22_method_26_code_12 13 rfl rfl ?_
    refine own_bipush X0 C own_d_prog_22_method_26_code_13 15 rfl (8) rfl ?_
    refine own_iand X0 C own_d_prog_22_method_26_code_15 16 rfl (fun v2 ev2 => ?_)
    rw [own_and ia0 3 8 (by decide)] at ev2
    refine own_ifeq X0 C own_d_prog_22_method_26_code_16 19 22 rfl (by decide) (by decide) (i := v2.toInt) rfl (fun b2 => ?_) (fun b2 => ?_)
    · refine own_iload_n X0 C own_d_prog_22_method_26_code_22 23 rfl rfl ?_
      refine own_ireturn X0 C rfl own_d_prog_22_method_26_code_23 (by decide) (by decide) ?_
      refine ⟨?_, e0, rfl⟩
      cases k4 : own_bit ia0 4 <;> cases k3 : own_bit ia0 3 <;> simp_all [own_parts]
    · refine own_iinc X0 C own_d_prog_22_method_26_code_19 22 rfl rfl (64) rfl (fun z => #[.val (.int ia0), .val (.int z)]) (fun z => rfl) (fun v3 ev3 => ?_)
      refine own_iload_n X0 C own_d_prog_22_method_26_code_22 23 rfl rfl ?_
      refine own_ireturn X0 C rfl own_d_prog_22_method_26_code_23 (by decide) (by decide) ?_
      refine ⟨?_, e0, rfl⟩
      cases k4 : own_bit ia0 4 <;> cases k3 : own_bit ia0 3 <;> simp_all [own_parts]
  · refine own_iinc X0 C own_d_prog_22_method_26_code_9 12 rfl rfl (4) rfl (fun z => #[.val (.int ia0), .val (.int z)]) (fun z => rfl) (fun v4 ev4 => ?_)
    refine own_iload_n X0 C own_d_prog_22_method_26_code_12 13 rfl rfl ?_
    refine own_bipush X0 C own_d_prog_22_method_26_code_13 15 rfl (8) rfl ?_
    refine own_iand X0 C own_d_prog_22_method_26_code_15 16 rfl (fun v5 ev5 => ?_)
    rw [own_and ia0 3 8 (by decide)] at ev5
    refine own_ifeq X0 C own_d_prog_22_method_26_code_16 19 22 rfl (by decide) (by decide) (i := v5.toInt) rfl (fun b3 => ?_) (fun b3 => ?_)
    · refine own_iload_n X0 C own_d_prog_22_method_26_code_22 23 rfl rfl ?_
      refine own_ireturn X0 C rfl own_d_prog_22_method_26_code_23 (by decide) (by decide) ?_
      refine ⟨?_, e0, rfl⟩
      cases k4 : own_bit ia0 4 <;> cases k3 : own_bit ia0 3 <;> simp_all [own_parts]
    · refine own_iinc X0 C own_d_prog_22_method_26_code_19 22 rfl rfl (64) rfl (fun z => #[.val (.int ia0), .val (.int z)]) (fun z => rfl) (fun v6 ev6 => ?_)
      refine own_iload_n X0 C own_d_prog_22_method_26_code_22 23 rfl rfl ?_
      refine own_ireturn X0 C rfl own_d_prog_22_method_26_code_23 (by decide) (by decide) ?_
      refine ⟨?_, e0, rfl⟩
      cases k4 : own_bit ia0 4 <;> cases k3 : own_bit ia0 3 <;> simp_all [own_parts]
theorem own_pn_FrameContentPartsSizePinLaw : plainName "com/example/frugal_frame/frugalframe/FrameContentPartsSizePinLaw" = true := by first | (simp [plainName, overriddenIn]; done) | decide +kernel
theorem own_pd_II_R_Z : parseMethodDescriptor "(II)Z" = some ⟨[.int, .int], some .boolean⟩ := by decide +kernel
set_option maxRecDepth 65536 in
set_option maxHeartbeats 4000000 in
theorem own_ef_own_rm_law (m : MethodId) (ia0 : Int32) (ia1 : Int32) : entryFrame m #[(.int ia0), (.int ia1)] maxLocals = (mkF m 0 #[.val (.int ia0), .val (.int ia1), .unset, .unset, .unset, .unset, .unset, .unset] []) := by first | (simp [entryFrame, mkF, argsToLocals, Value.category, maxLocals]; done) | rfl
set_option maxRecDepth 65536 in
set_option maxHeartbeats 4000000 in
theorem own_rm_law (l : Launch) (Z : State) (a0 : Array Value) (hw : ∀ d ∈ tables_1, d.before a0 Z = true) (ia0 : Int32) (ia1 : Int32) (h : Heap) (n0 : Nat) :
    OwnMet l Z x code maxLocals ret tables_1 room_1 #[(.int ia0), (.int ia1)] h (fun v h' L => v = some (.int 1) ∧ Fr n0 L) := by
  refine own_enter (f0 := fun m => mkF m 0 #[.val (.int ia0), .val (.int ia1), .unset, .unset, .unset, .unset, .unset, .unset] []) (plainFor_of_name own_pn_FrameContentPartsSizePinLaw) (fun m => own_ef_own_rm_law m ia0 ia1) ?_
  intro p e s m below meth c T0 X0 C e0
  refine own_iload_n X0 C at_0 1 rfl rfl ?_
  refine own_iconst X0 C at_1 2 rfl (4) rfl ?_
  refine own_iushr X0 C at_2 3 rfl (fun v1 ev1 => ?_)
  refine own_iconst X0 C at_3 4 rfl (1) rfl ?_
  refine own_iand X0 C at_4 5 rfl (fun v2 ev2 => ?_)
  refine own_istore_n X0 C at_5 6 rfl #[.val (.int ia0), .val (.int ia1), .val (.int v2), .unset, .unset, .unset, .unset, .unset] rfl ?_
  refine own_iload_n X0 C at_6 7 rfl rfl ?_
  refine own_iconst X0 C at_7 8 rfl (3) rfl ?_
  refine own_iushr X0 C at_8 9 rfl (fun v3 ev3 => ?_)
  refine own_iconst X0 C at_9 10 rfl (1) rfl ?_
  refine own_iand X0 C at_10 11 rfl (fun v4 ev4 => ?_)
  refine own_istore_n X0 C at_11 12 rfl #[.val (.int ia0), .val (.int ia1), .val (.int v2), .val (.int v4), .unset, .unset, .unset, .unset] rfl ?_
  refine own_iload_n X0 C at_12 13 rfl rfl ?_
  refine own_iconst X0 C at_13 14 rfl (4) rfl ?_
  refine own_imul X0 C at_14 15 rfl (fun v5 ev5 => ?_)
  refine own_iload_n X0 C at_15 16 rfl rfl ?_
  refine own_bipush X0 C at_16 18 rfl (64) rfl ?_
  refine own_imul X0 C at_18 19 rfl (fun v6 ev6 => ?_)
  refine own_iadd X0 C at_19 20 rfl (fun v7 ev7 => ?_)
  refine own_istore X0 C at_20 22 rfl #[.val (.int ia0), .val (.int ia1), .val (.int v2), .val (.int v4), .val (.int v7), .unset, .unset, .unset] rfl ?_
  refine own_iload_n X0 C at_22 23 rfl rfl ?_
  refine own_callP X0 C (own_w hw 0 rfl) (own_w hw 1 rfl) (own_w hw 2 rfl) (own_w hw 3 rfl) (by decide) (own_rm_partsSize l Z a0 hw ia0 h) e0 own_pd_I_R_I [(.int ia0)] rfl rfl rfl rfl 0 rfl (by decide) (by decide) rfl rfl (by decide) (by decide) at_23 26 rfl (fun T1 X1 e1 => ?_)
  refine own_istore X1 C at_26 28 rfl #[.val (.int ia0), .val (.int ia1), .val (.int v2), .val (.int v4), .val (.int v7), .val (.int (own_parts ia0)), .unset, .unset] rfl ?_
  refine own_iload_n X1 C at_28 29 rfl rfl ?_
  refine own_iload_n X1 C at_29 30 rfl rfl ?_
  refine own_bipush X1 C at_30 32 rfl (-25) rfl ?_
  refine own_iand X1 C at_32 33 rfl (fun v8 ev8 => ?_)
  refine own_ixor X1 C at_33 34 rfl (fun v9 ev9 => ?_)
  refine own_istore X1 C at_34 36 rfl #[.val (.int ia0), .val (.int ia1), .val (.int v2), .val (.int v4), .val (.int v7), .val (.int (own_parts ia0)), .val (.int v9), .unset] rfl ?_
  refine own_iload X1 C at_36 38 rfl rfl ?_
  refine own_callP X1 C (own_w hw 0 rfl) (own_w hw 1 rfl) (own_w hw 2 rfl) (own_w hw 3 rfl) (by decide) (own_rm_partsSize l Z a0 hw v9 h) e1 own_pd_I_R_I [(.int v9)] rfl rfl rfl rfl 0 rfl (by decide) (by decide) rfl rfl (by decide) (by decide) at_38 41 rfl (fun T2 X2 e2 => ?_)
  refine own_istore X2 C at_41 43 rfl #[.val (.int ia0), .val (.int ia1), .val (.int v2), .val (.int v4), .val (.int v7), .val (.int (own_parts ia0)), .val (.int v9), .val (.int (own_parts v9))] rfl ?_
  have k1 : own_parts ia0 = v7 := by
    rw [ev7, ev5, ev6, ev4, ev2, ev3, ev1]
    rw [own_sh ia0 4 4 (by decide) (by decide), own_sh ia0 3 3 (by decide) (by decide), own_parts]
    cases own_bit ia0 4 <;> cases own_bit ia0 3 <;> rfl
  have k2 : own_parts v9 = v7 := by rw [ev9, ev8, own_same]; exact k1
  refine own_iload X2 C at_43 45 rfl rfl ?_
  refine own_iload X2 C at_45 47 rfl rfl ?_
  refine own_icmpne X2 C at_47 50 61 rfl (by decide) (by decide) (i := (own_parts ia0).toInt) rfl (j := v7.toInt) rfl (fun b3 => ?_) (fun b3 => ?_)
  · exfalso
    simp_all
  · refine own_iload X2 C at_50 52 rfl rfl ?_
    refine own_iload X2 C at_52 54 rfl rfl ?_
    refine own_icmpne X2 C at_54 57 61 rfl (by decide) (by decide) (i := (own_parts v9).toInt) rfl (j := v7.toInt) rfl (fun b4 => ?_) (fun b4 => ?_)
    · exfalso
      simp_all
    · refine own_iconst X2 C at_57 58 rfl (1) rfl ?_
      refine own_goto X2 C at_58 62 (by decide) (by decide) ?_
      refine own_iretN X2 C .boolean rfl (by simp) at_62 (by decide) (by decide) (1) (by decide) ?_
      exact ⟨rfl, Fr.nil _⟩
set_option maxRecDepth 65536 in
set_option maxHeartbeats 4000000 in
theorem own_comes_1 {Post : Tables → Env → Array Value → State → Outcome → State → Prop} (hpost : ∀ tb e args s v u, (limb_1_1.after args s (.returned v) u = true ∧ limb_1_2.after args s (.returned v) u = true ∧ True) → FrameEnd s (.returned v) u (Jvm.fieldLocs frame_1_writes args s ++ Jvm.arrayLocs frame_1_arrays args s ++ Jvm.staticLocs frame_1_statics s) 0 0 → Post tb e args s (.returned v) u) :
    ArmFor flags0 classFile x code maxLocals ret World_1 tables_1 room_1 Calls_1 rest_1 Pre_1 Post := by
  intro l hfl _ _ p e ha hc hk s m args below hf hA hF happ hP
  obtain ⟨hcalls, hrest, hpre⟩ := hP
  obtain ⟨-, -, -, hnamed, -, -, -, hat⟩ := (Spec.applies_iff hf).mp happ
  obtain ⟨hg, hn⟩ := and_e (Cond.before_iff.mp (show (Jvm.Cond.and given_1 narrow_1).before args s = true from hpre))
  obtain ⟨g0, g0r⟩ := and_e hg
  obtain ⟨g1, g1r⟩ := and_e g0r
  obtain ⟨w0, w1, rfl⟩ : ∃ w0 w1 : Value, args = #[w0, w1] := by
    have hs : args.size = 2 := by simpa [Cond.value, given_1] using g0
    obtain ⟨L⟩ := args
    match L, hs with
    | [w0, w1], _ => exact ⟨w0, w1, rfl⟩
  have hw := fun d (hd : d ∈ tables_1) => atoms_spec (ws := Jvm.Cond.code x code maxLocals ret :: tables_1) hat d (List.mem_cons_of_mem _ hd)
  have hfit : Fit s := fun {y c} hc i hi => by
    obtain ⟨ha, rfl⟩ := Array.getElem?_eq_some_iff.mp hc
    have q := List.all_eq_true.mp ((Array.all_eq_true_iff_forall_mem.mp hF) _ (Array.getElem_mem ha)) i (List.mem_range.mpr hi)
    simpa [Array.getElem?_eq_getElem hi] using q
  obtain ⟨i0, q0⟩ := is_v g1
  obtain rfl : w0 = (.int i0) := Option.some.inj q0
  obtain ⟨i1, q1⟩ := is_v g1r
  obtain rfl : w1 = (.int i1) := Option.some.inj q1
  obtain ⟨n, o, h1, h2, h3, _, L, rfl, ⟨rfl, N⟩, hq⟩ := own_rm_law l s _ hw i0 i1 s.heap s.heap.size p e ha hc hk s m _ below hf ((Spec.applies_iff_loose hf).mp happ).1 ⟨rfl, State.Warmed39.refl s, rfl⟩ trivial
  refine ⟨n, _, h1, h2, h3, hpost _ _ _ _ _ _ ⟨Cond.after_iff.mpr rfl, Cond.after_iff.mpr (eq_i res_at (Term.int_eval (1)) rfl), trivial⟩ ⟨hq.1, hq.2.1, (hq.2.2.sift fun y hy => Or.inr (N y hy)).mono (by decide) (by decide)⟩⟩
theorem main_1_1 : Claimed_1_1 := own_comes_1 fun _ _ _ _ _ _ h hF => ⟨h.1, hF⟩
theorem main_1_2 : Claimed_1_2 := own_comes_1 fun _ _ _ _ _ _ h hF => ⟨h.2.1, hF⟩
end Jvm.Pilot.@@N@@
namespace Jvm.Pilot.@@N@@
open Jvm Jvm.ClassFile Sem Op Lib Jvm.Free Jvm.Stand Jvm.Pilot.@@N@@.Jvm.D
/-! MADE BY PROGRAM (witnessworld.py) out of the Statement's table words and the real class files: 9 classes; the members and pool entries that the words name. The judged class is class 1, her method 1. -/
namespace start1
open Jvm.ClassFile
def u (s : String) : CpInfo := .utf8 (stringToUtf16 s)
/-- a pool by its gaps: so many unusable entries, then the entry; so many at the end -/
def gap : Nat → List CpInfo → List CpInfo
  | 0, r => r
  | n + 1, r => .unusable :: gap n r
def poolList (es : List (Nat × CpInfo)) (last : Nat) : List CpInfo := es.foldr (fun e r => gap e.1 (e.2 :: r)) (gap last [])
def pool (es : List (Nat × CpInfo)) (last : Nat) : Array CpInfo := ⟨poolList es last⟩
def fileOf (pool : Array CpInfo) (this : Nat) (attrs : Array Attribute := #[]) (ms : Array MethodInfo := #[]) (fl : Nat := 33) (sup : Nat := 0) (ifs : Array Nat := #[]) (fds : Array FieldInfo := #[]) : ClassFile where
  minorVersion := 0
  majorVersion := 65
  constantPool := pool
  accessFlags := fl
  thisClass := this
  superClass := sup
  interfaces := ifs
  fields := fds
  methods := ms
  attributes := attrs
def plain (name : String) (sup : Option ClassId) : Class where
  name := name
  kind := .ordinary
  loader := none
  accessFlags := 33
  super := sup
  interfaces := #[]
  cf := none
  fields := #[]
  methods := #[]
  instanceTypes := #[]
  staticTypes := #[]
  resolved := #[]
  callSites := []
  init := .initialized
  statics := none
  mirror := none

def pool0 : Array CpInfo := pool [(5, u "<init>"), (0, u "()V"), (1, .class_ 10), (1, u "java/lang/Object")] 113

def k0m0 : Method := { name := "<init>", desc := "()V", sig := { parameters := [], returnType := none }, accessFlags := 1, code := none }
/-- java/lang/Object -/
def k0 : Class := { plain "java/lang/Object" none with
  accessFlags := 33
  interfaces := #[]
  cf := some (fileOf pool0 8 #[] #[{ accessFlags := 1, nameIndex := 5, descriptorIndex := 6, attributes := #[] }] 33 0 #[] #[])
  fields := #[]
  methods := #[k0m0]
  instanceTypes := #[]
  staticTypes := #[]
  resolved := Array.replicate 124 none
  statics := none }

def pool1 : Array CpInfo := pool [(2, .class_ 4), (1, u "java/lang/Object"), (0, u "<init>"), (0, u "()V"), (0, .methodref 8 9), (0, .class_ 10), (0, .nameAndType 11 12), (0, u "com/example/frugal_frame/frugalframe/FrameContent"), (0, u "partsSize"), (0, u "(I)I"), (0, .class_ 14), (0, u "com/example/frugal_frame/frugalframe/FrameContentPartsSizePinLaw"), (2, u "law"), (0, u "(II)Z")] 3

def k1m0 : Method := { name := "<init>", desc := "()V", sig := { parameters := [], returnType := none }, accessFlags := 2, code := none }
def k1c1 : Code := { maxStack := 3, maxLocals := 8, code := code, exceptionTable := #[], attributes := #[] }
def k1m1 : Method := { name := "law", desc := "(II)Z", sig := { parameters := [.int, .int], returnType := some .boolean }, accessFlags := 9, code := some k1c1 }
/-- com/example/frugal_frame/frugalframe/FrameContentPartsSizePinLaw -/
def k1 : Class := { plain "com/example/frugal_frame/frugalframe/FrameContentPartsSizePinLaw" (some 0) with
  accessFlags := 49
  interfaces := #[]
  cf := some (fileOf pool1 13 #[] #[{ accessFlags := 2, nameIndex := 5, descriptorIndex := 6, attributes := #[] }, { accessFlags := 9, nameIndex := 17, descriptorIndex := 18, attributes := #[] }] 49 2 #[] #[])
  fields := #[]
  methods := #[k1m0, k1m1]
  instanceTypes := #[]
  staticTypes := #[]
  resolved := Array.replicate 22 none
  statics := none }

def pool2 : Array CpInfo := pool [(1, .class_ 2), (0, u "com/example/frugal_frame/frugalframe/FrameContent"), (11, u "[B"), (7, .class_ 24), (1, u "java/lang/Object"), (3, u "orderNumber"), (0, u "J"), (2, u "identityDigest"), (2, u "hardwareDigest"), (2, u "payload"), (2, u "payloadOffset"), (0, u "I"), (31, u "partsSize"), (0, u "(I)I"), (151, u "ORDER_NUMBER_SIZE"), (2, u "DIGEST_SIZE"), (1, u "IDENTITY_SIZE"), (1, u "MAX_PAYLOAD_SIZE"), (0, u "MAX_SIZE"), (1, u "LAYOUT_FLAGS"), (1, u "TOO_SHORT"), (0, u "Ljava/lang/String;"), (0, u "MAX_ORDER_NUMBER"), (0, u "NO_ORDER_NUMBER")] 40

def k2c0 : Code := { maxStack := 2, maxLocals := 2, code := prog_22_method_26_code, exceptionTable := #[], attributes := #[] }
def k2m0 : Method := { name := "partsSize", desc := "(I)I", sig := { parameters := [.int], returnType := some .int }, accessFlags := 8, code := some k2c0 }
/-- com/example/frugal_frame/frugalframe/FrameContent -/
def k2 : Class := { plain "com/example/frugal_frame/frugalframe/FrameContent" (some 0) with
  accessFlags := 49
  interfaces := #[]
  cf := some (fileOf pool2 1 #[] #[{ accessFlags := 8, nameIndex := 74, descriptorIndex := 75, attributes := #[] }] 49 22 #[] #[{ accessFlags := 25, nameIndex := 227, descriptorIndex := 42, attributes := #[] }, { accessFlags := 25, nameIndex := 230, descriptorIndex := 42, attributes := #[] }, { accessFlags := 25, nameIndex := 232, descriptorIndex := 42, attributes := #[] }, { accessFlags := 25, nameIndex := 234, descriptorIndex := 42, attributes := #[] }, { accessFlags := 25, nameIndex := 235, descriptorIndex := 42, attributes := #[] }, { accessFlags := 25, nameIndex := 237, descriptorIndex := 42, attributes := #[] }, { accessFlags := 24, nameIndex := 239, descriptorIndex := 240, attributes := #[] }, { accessFlags := 26, nameIndex := 241, descriptorIndex := 29, attributes := #[] }, { accessFlags := 26, nameIndex := 242, descriptorIndex := 29, attributes := #[] }, { accessFlags := 18, nameIndex := 28, descriptorIndex := 29, attributes := #[] }, { accessFlags := 18, nameIndex := 32, descriptorIndex := 14, attributes := #[] }, { accessFlags := 18, nameIndex := 35, descriptorIndex := 14, attributes := #[] }, { accessFlags := 18, nameIndex := 38, descriptorIndex := 14, attributes := #[] }, { accessFlags := 18, nameIndex := 41, descriptorIndex := 42, attributes := #[] }])
  fields := #[{ name := "ORDER_NUMBER_SIZE", type := .int, accessFlags := 25, slot := 0, constantValue := 0 }, { name := "DIGEST_SIZE", type := .int, accessFlags := 25, slot := 1, constantValue := 0 }, { name := "IDENTITY_SIZE", type := .int, accessFlags := 25, slot := 2, constantValue := 0 }, { name := "MAX_PAYLOAD_SIZE", type := .int, accessFlags := 25, slot := 3, constantValue := 0 }, { name := "MAX_SIZE", type := .int, accessFlags := 25, slot := 4, constantValue := 0 }, { name := "LAYOUT_FLAGS", type := .int, accessFlags := 25, slot := 5, constantValue := 0 }, { name := "TOO_SHORT", type := (.object "java/lang/String"), accessFlags := 24, slot := 6, constantValue := 0 }, { name := "MAX_ORDER_NUMBER", type := .long, accessFlags := 26, slot := 7, constantValue := 0 }, { name := "NO_ORDER_NUMBER", type := .long, accessFlags := 26, slot := 8, constantValue := 0 }, { name := "orderNumber", type := .long, accessFlags := 18, slot := 0, constantValue := 0 }, { name := "identityDigest", type := (.array .byte), accessFlags := 18, slot := 1, constantValue := 0 }, { name := "hardwareDigest", type := (.array .byte), accessFlags := 18, slot := 2, constantValue := 0 }, { name := "payload", type := (.array .byte), accessFlags := 18, slot := 3, constantValue := 0 }, { name := "payloadOffset", type := .int, accessFlags := 18, slot := 4, constantValue := 0 }]
  methods := #[k2m0]
  instanceTypes := #[.long, (.array .byte), (.array .byte), (.array .byte), .int]
  staticTypes := #[.int, .int, .int, .int, .int, .int, (.object "java/lang/String"), .long, .long]
  resolved := Array.replicate 283 none
  statics := none }

def pool3 : Array CpInfo := pool [(1, u "java/lang/Cloneable"), (0, .class_ 1), (0, u "java/lang/Object"), (0, .class_ 3)] 3

/-- java/lang/Cloneable -/
def k3 : Class := { plain "java/lang/Cloneable" (some 0) with
  accessFlags := 1537
  interfaces := #[]
  cf := some (fileOf pool3 2 #[] #[] 1537 4 #[] #[])
  fields := #[]
  methods := #[]
  instanceTypes := #[]
  staticTypes := #[]
  resolved := Array.replicate 8 none
  statics := none }

def pool4 : Array CpInfo := pool [(1, u "java/io/Serializable"), (0, .class_ 1), (0, u "java/lang/Object"), (0, .class_ 3)] 3

/-- java/io/Serializable -/
def k4 : Class := { plain "java/io/Serializable" (some 0) with
  accessFlags := 1537
  interfaces := #[]
  cf := some (fileOf pool4 2 #[] #[] 1537 4 #[] #[])
  fields := #[]
  methods := #[]
  instanceTypes := #[]
  staticTypes := #[]
  resolved := Array.replicate 8 none
  statics := none }

/-- the primitive byte -/
def k5 : Class := { plain "byte" none with kind := .primitive 'B', accessFlags := 0x411 }
/-- [B -/
def k6 : Class := { plain "[B" (some 0) with kind := .array 5 .byte, interfaces := #[3, 4], accessFlags := 1041 }

/-- the primitive int -/
def k7 : Class := { plain "int" none with kind := .primitive 'I', accessFlags := 0x411 }
/-- [I -/
def k8 : Class := { plain "[I" (some 0) with kind := .array 7 .int, interfaces := #[3, 4], accessFlags := 1041 }

def heap : Heap := #[]
def classes : Array Class := #[k0, k1, k2, k3, k4, k5, k6, k7, k8]
def interned : List (Array UInt16 × Addr) := []
def slotsUsed : Nat := 0
def theMethod : MethodId := ⟨1, 1⟩
def args0 : Array Value := #[.int 24, .int 3]
def aboutOver (below : List Frame) : State where
  vm := { classes := classes, interned := interned.toArray }
  heap := heap
  slotsUsed := slotsUsed
  threads := #[{ frames := .invoking theMethod args0 :: below }]
def below0 : List Frame := [.native { method := ⟨0, 0⟩, args := #[] }]
def about1 : State := aboutOver below0
def p0 : Program := .bare "" "" ""
def e0 : Env := launch0.env 0 0 0
theorem w_frames : about1.frames = Frame.invoking theMethod args0 :: below0 := rfl
set_option maxRecDepth 65536 in
theorem w_args : argsFit about1.vm theMethod args0 = true := by decide +kernel
set_option maxRecDepth 65536 in
theorem w_heap : heapFits about1 = true := by decide +kernel
set_option maxRecDepth 65536 in
theorem w_runnable : about1.curStatus? = some .runnable := by decide +kernel
set_option maxRecDepth 65536 in
theorem w_alone : about1.alone = true := by decide +kernel
set_option maxRecDepth 65536 in
theorem w_named : about1.methodNamed? x = some theMethod := by decide +kernel
set_option maxRecDepth 65536 in
theorem w_hears : about1.hears theMethod below0 = true := by decide +kernel
set_option maxRecDepth 65536 in
theorem w_ripe : about1.ripe theMethod args0 below0 = true := by decide +kernel
theorem w_running : about1.status = .running := rfl
set_option maxRecDepth 65536 in
theorem w_room : about1.hasRoom e0.platform room_1 = true :=
  launch0.hasRoom_least _ room_1 (by decide +kernel) (by decide +kernel) (by decide +kernel) (by decide +kernel) (by decide +kernel) (by decide +kernel)
theorem allAtoms_all (ts : List Jvm.Cond) (a : Array Jvm.Value) (st : Jvm.State) : (allAtoms ts).before a st = ts.all (fun c => c.before a st) := by
  induction ts with
  | nil => rfl
  | cons c t ih =>
    show (Jvm.Cond.and c (allAtoms t)).before a st = _
    rw [Jvm.Cond.before_and, ih, List.all_cons]
def words1 : List Jvm.Cond := Jvm.Cond.code x code maxLocals ret :: tables_1
/-- a 'code' word, met by the world's own term for the bytes: nothing is compared byte by byte -/
theorem code_word {y : MethodName} {bytes : ByteArray} {mx : Nat} {rt : Option FieldType} {a : Array Value} {s : State} {m : MethodId} {meth : Method} {c : Code} (h1 : s.methodNamed? y = some m) (h2 : s.vm.method? m = some meth) (h3 : meth.code = some c) (h4 : c.code = bytes)
    (h5 : (c.maxLocals == mx && c.exceptionTable.isEmpty && decide (c.maxStack ≤ mostOperands) && decide (meth.sig.returnType = rt) && !meth.locks && decide (parseMethodDescriptor y.desc = some meth.sig)) = true) : (Jvm.Cond.code y bytes mx rt).before a s = true := by
  simp only [Bool.and_eq_true, beq_iff_eq, Bool.not_eq_true', decide_eq_true_eq] at h5
  obtain ⟨⟨⟨⟨⟨g1, g2⟩, g3⟩, g4⟩, g5⟩, g6⟩ := h5
  simp [Cond.before, Cond.holds, Cond.value, h1, h2, h3, h4, g1, g2, g3, g4, g5, g6]
def isCode : Jvm.Cond → Bool
  | .code _ _ _ _ => true
  | _ => false
theorem all_split {L : List Jvm.Cond} {P : Jvm.Cond → Bool} (h1 : L.all (fun c => isCode c || P c) = true) (h2 : ∀ c ∈ L.filter isCode, P c = true) : L.all P = true := by
  refine List.all_eq_true.mpr fun c hc => ?_
  have h := List.all_eq_true.mp h1 c hc
  rcases Bool.eq_false_or_eq_true (isCode c) with hi | hi
  · exact h2 c (List.mem_filter.mpr ⟨hc, hi⟩)
  · simpa [hi] using h
set_option maxRecDepth 65536 in
theorem w_c0 : (Jvm.Cond.code x code maxLocals ret).before args0 about1 = true := code_word (m := ⟨1, 1⟩) (meth := k1m1) (c := k1c1) (by decide +kernel) rfl rfl rfl (by decide +kernel)
set_option maxRecDepth 65536 in
theorem w_c1 : (Jvm.Cond.code ({ cls := "com/example/frugal_frame/frugalframe/FrameContent", name := "partsSize", desc := "(I)I" } : Jvm.MethodName) prog_22_method_26_code (2 : Nat) (Option.some Jvm.ClassFile.FieldType.int)).before args0 about1 = true := code_word (m := ⟨2, 0⟩) (meth := k2m0) (c := k2c0) (by decide +kernel) rfl rfl rfl (by decide +kernel)
def codes1 : List Jvm.Cond := [Jvm.Cond.code x code maxLocals ret, Jvm.Cond.code ({ cls := "com/example/frugal_frame/frugalframe/FrameContent", name := "partsSize", desc := "(I)I" } : Jvm.MethodName) prog_22_method_26_code (2 : Nat) (Option.some Jvm.ClassFile.FieldType.int)]
set_option maxRecDepth 65536 in
theorem codes_eq : words1.filter isCode = codes1 := rfl
theorem w_codes : ∀ c ∈ words1.filter isCode, c.before args0 about1 = true := by
  rw [codes_eq]
  intro c hc
  simp only [codes1, List.mem_cons, List.not_mem_nil, or_false] at hc
  rcases hc with rfl | rfl
  · exact w_c0
  · exact w_c1
set_option maxRecDepth 65536 in
theorem w_t1 : words1.all (fun c => isCode c || c.before args0 about1) = true := by decide +kernel
theorem w_tables : (allAtoms (Jvm.Cond.code x code maxLocals ret :: tables_1)).before args0 about1 = true := by
  rw [allAtoms_all]
  show words1.all (fun c => c.before args0 about1) = true
  refine all_split ?_ w_codes
  rw [w_t1]
set_option maxRecDepth 65536 in
theorem w_case : (Jvm.Cond.and given_1 narrow_1).before args0 about1 = true := by decide +kernel
theorem w_applies : (headSpec (Jvm.Cond.code x code maxLocals ret :: tables_1) room_1).applies x e0.platform about1 = true :=
  (Spec.applies_iff w_frames).mpr ⟨w_running, w_runnable, w_alone, w_named, w_hears, w_ripe, w_room, w_tables⟩
theorem atStart : AtStart classFile x code maxLocals ret World_1 tables_1 room_1 Calls_1 rest_1 Pre_1 launch0 p0 e0 about1 theMethod args0 below0 :=
  ⟨lists_1, trivial, launch0.admits_env _ _ _, launch0.least_env, fairChoices_fair.cas, fairChoices_fair.clock, w_frames, w_args, w_heap, w_applies, trivial, trivial, w_case⟩
end start1
theorem witness_1 : WitnessClaimed_1 := ⟨start1.p0, start1.e0, start1.about1, start1.theMethod, start1.args0, start1.below0, start1.atStart⟩
end Jvm.Pilot.@@N@@
