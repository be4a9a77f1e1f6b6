import JvmDerived
import JvmDerived.Pilot.@@N@@Statement
import JvmDerived.Pilot.@@N@@Code
set_option linter.unusedVariables false
set_option linter.unusedSimpArgs false
namespace Jvm.Pilot.@@N@@
open Jvm Jvm.ClassFile Sem Op Lib Jvm.Free Jvm.Stand Jvm.LawKit Jvm.RoadKit Bundle Jvm.Pilot.@@N@@.Jvm.D
section OwnLayer
variable {p : Program} {l : Launch} {e : Env} {R : Room} {s : State} {m : MethodId} {args : Array Value} {below : List Frame} {meth : Method} {c : Code} {T : State} {locs : List Loc} {cells slots : Nat} {Z : State} {y : MethodName} {bs : ByteArray} {maxL : Nat} {rt : Option FieldType} {ce sl : Nat} {Q : Option Value → Heap → List Loc → Prop} {G : Outcome → State → Prop} {pc : Nat} {Ls : Array Slot} {st rest : List Value} {h : Heap} {a0 : Array Value}
/-- from S the body runs on, returns, and Q says what it leaves -/
def OwnEnds (p : Program) (e : Env) (below : List Frame) (G : Outcome → State → Prop) (S : State) : Prop :=
  ∃ s₂ o, Steps p.tables e below S s₂ ∧ s₂.status = .running ∧ Ended s₂ below o ∧ G o s₂
def OwnG (s : State) (ce sl : Nat) (Q : Option Value → Heap → List Loc → Prop) : Outcome → State → Prop := fun o s₂ => ∃ v L, o = .returned v ∧ Q v s₂.heap L ∧ FrameEnd s o s₂ L ce sl
/-- what stands throughout a body's walk -/
def OwnCx (p : Program) (s : State) (m : MethodId) (meth : Method) (c : Code) (Z : State) (y : MethodName) (bs : ByteArray) (maxL : Nat) (rt : Option FieldType) : Prop :=
  p.tables.exec = Jvm.exec ∧ Z.Warmed39 s.vm ∧ s.vm.findClass y.cls = some m.cls ∧ c.code = bs ∧ c.maxLocals = maxL ∧ meth.sig.returnType = rt ∧ meth.locks = false ∧ meth.name = y.name
/-- a body's contract over the heap h at these arguments -/
def OwnMet (l : Launch) (Z : State) (y : MethodName) (bs : ByteArray) (maxL : Nat) (rt : Option FieldType) (ws : List Jvm.Cond) (rm : Room) (as' : Array Value) (h : Heap) (Q : Option Value → Heap → List Loc → Prop) : Prop :=
  MetFree l y (head1 (Jvm.Cond.code y bs maxL rt :: ws) rm) (fun a U => a = as' ∧ Z.Warmed39 U.vm ∧ U.heap = h) (fun _ _ _ _ _ => True) (fun _ U o U' => ∃ v L, o = .returned v ∧ Q v U'.heap L ∧ FrameEnd U o U' L rm.cells rm.slots)
theorem own_nz32 {d : Int32} (q : d.toInt ≠ 0) : d ≠ 0 := fun r => q (by rw [r]; rfl)
theorem own_nz64 {d : Int64} (q : d.toInt ≠ 0) : d ≠ 0 := fun r => q (by rw [r]; rfl)
theorem own_st {S S' : State} (k : ∀ t, Steps p.tables e below S' t → Steps p.tables e below S t) (r : OwnEnds p e below G S') : OwnEnds p e below G S := by
  obtain ⟨s₂, o, h1, r⟩ := r
  exact ⟨s₂, o, k _ h1, r⟩
theorem own_tr {S S' : State} (k : Steps p.tables e below S S') (r : OwnEnds p e below G S') : OwnEnds p e below G S := own_st (fun _ q => k.trans q) r
theorem own_enter {ws : List Jvm.Cond} {rm : Room} {as' : Array Value} {f0 : MethodId → JFrame} (hp : plainFor y = true) (hf : ∀ m, entryFrame m as' maxL = f0 m)
    (H : ∀ p e s m below meth c T, Stand p l e rm s m as' below meth c T [] 0 0 → OwnCx p s m meth c Z y bs maxL rt → T.heap = h → OwnEnds p e below (OwnG s rm.cells rm.slots Q) (T.setTop (f0 m))) : OwnMet l Z y bs maxL rt ws rm as' h Q := by
  refine MetFree.of_bodySF hp hisR ?_
  intro p e s m args below meth c s₁ Bd hml0 hP hK
  obtain ⟨rfl, hZ, hh⟩ := hP
  have k := H p e s m below meth c s₁ (Stand.of_body Bd) ⟨Bd.exec, hZ, findClass_of_methodNamed Bd.named, Bd.bytes, hml0, Bd.returns, Bd.notSynchronized, (name_of_methodNamed Bd.named Bd.method).1⟩ (by rw [← hh, Bd.state]; rfl)
  rw [← hf m] at k
  exact k
theorem own_mono {ws : List Jvm.Cond} {rm : Room} {as' : Array Value} {Q' : Option Value → Heap → List Loc → Prop} (H : OwnMet l Z y bs maxL rt ws rm as' h Q) (q : ∀ v h' L, Q v h' L → Q' v h' L) : OwnMet l Z y bs maxL rt ws rm as' h Q' := by
  intro p e ha hc hk s m args below hf happ hP hK
  obtain ⟨n, o, h1, h2, h3, v, L, h4, h5, h6⟩ := H p e ha hc hk s m args below hf happ hP hK
  exact ⟨n, o, h1, h2, h3, v, L, h4, q _ _ _ h5, h6⟩
theorem own_iload (X : Stand p l e R s m args below meth c T locs cells slots) (C : OwnCx p s m meth c Z y bs maxL rt) {k : Nat} {v : Int32} (hd : decode bs pc = .ok (.iload k, 2)) (pc' : Nat) (hp : pc + 2 = pc') (hl : Ls[k]? = some (.val (.int v)))
    (hr : OwnEnds p e below G (T.setTop (mkF m pc' Ls (.int v :: st)))) : OwnEnds p e below G (T.setTop (mkF m pc Ls st)) := by
  subst hp; exact own_st (fun _ q => XS.iload X.here C.1 rfl (hb C.2.2.2.1 hd) hl q) hr
theorem own_lload (X : Stand p l e R s m args below meth c T locs cells slots) (C : OwnCx p s m meth c Z y bs maxL rt) {k : Nat} {v : Int64} (hd : decode bs pc = .ok (.lload k, 2)) (pc' : Nat) (hp : pc + 2 = pc') (hl : Ls[k]? = some (.val (.long v)))
    (hr : OwnEnds p e below G (T.setTop (mkF m pc' Ls (.long v :: st)))) : OwnEnds p e below G (T.setTop (mkF m pc Ls st)) := by
  subst hp; exact own_st (fun _ q => XS.lload X.here C.1 rfl (hb C.2.2.2.1 hd) hl q) hr
theorem own_iload_n (X : Stand p l e R s m args below meth c T locs cells slots) (C : OwnCx p s m meth c Z y bs maxL rt) {k : Fin 4} {v : Int32} (hd : decode bs pc = .ok (.iload_n k, 1)) (pc' : Nat) (hp : pc + 1 = pc') (hl : Ls[k.val]? = some (.val (.int v)))
    (hr : OwnEnds p e below G (T.setTop (mkF m pc' Ls (.int v :: st)))) : OwnEnds p e below G (T.setTop (mkF m pc Ls st)) := by
  subst hp; exact own_st (fun _ q => XS.iloadN X.here C.1 rfl (hb C.2.2.2.1 hd) hl q) hr
theorem own_lload_n (X : Stand p l e R s m args below meth c T locs cells slots) (C : OwnCx p s m meth c Z y bs maxL rt) {k : Fin 4} {v : Int64} (hd : decode bs pc = .ok (.lload_n k, 1)) (pc' : Nat) (hp : pc + 1 = pc') (hl : Ls[k.val]? = some (.val (.long v)))
    (hr : OwnEnds p e below G (T.setTop (mkF m pc' Ls (.long v :: st)))) : OwnEnds p e below G (T.setTop (mkF m pc Ls st)) := by
  subst hp; exact own_st (fun _ q => XS.lloadN X.here C.1 rfl (hb C.2.2.2.1 hd) hl q) hr
theorem own_aload (X : Stand p l e R s m args below meth c T locs cells slots) (C : OwnCx p s m meth c Z y bs maxL rt) {k : Nat} {v : Value} (hd : decode bs pc = .ok (.aload k, 2)) (pc' : Nat) (hp : pc + 2 = pc') (hl : Ls[k]? = some (.val v)) (hv : v.isRef = true)
    (hr : OwnEnds p e below G (T.setTop (mkF m pc' Ls (v :: st)))) : OwnEnds p e below G (T.setTop (mkF m pc Ls st)) := by
  subst hp; exact own_st (fun _ q => XS.aload X.here C.1 rfl (hb C.2.2.2.1 hd) hl hv q) hr
theorem own_aload_n (X : Stand p l e R s m args below meth c T locs cells slots) (C : OwnCx p s m meth c Z y bs maxL rt) {k : Fin 4} {v : Value} (hd : decode bs pc = .ok (.aload_n k, 1)) (pc' : Nat) (hp : pc + 1 = pc') (hl : Ls[k.val]? = some (.val v)) (hv : v.isRef = true)
    (hr : OwnEnds p e below G (T.setTop (mkF m pc' Ls (v :: st)))) : OwnEnds p e below G (T.setTop (mkF m pc Ls st)) := by
  subst hp; exact own_st (fun _ q => XS.aloadN X.here C.1 rfl (hb C.2.2.2.1 hd) hl hv q) hr
theorem own_istore (X : Stand p l e R s m args below meth c T locs cells slots) (C : OwnCx p s m meth c Z y bs maxL rt) {k : Nat} {v : Int32} (hd : decode bs pc = .ok (.istore k, 2)) (pc' : Nat) (hp : pc + 2 = pc') (L' : Array Slot) (hl : storeLocals Ls k (.int v) = some L')
    (hr : OwnEnds p e below G (T.setTop (mkF m pc' L' st))) : OwnEnds p e below G (T.setTop (mkF m pc Ls (.int v :: st))) := by
  subst hp; exact own_st (fun _ q => XS.istore X.here C.1 rfl (hb C.2.2.2.1 hd) rfl hl q) hr
theorem own_lstore (X : Stand p l e R s m args below meth c T locs cells slots) (C : OwnCx p s m meth c Z y bs maxL rt) {k : Nat} {v : Int64} (hd : decode bs pc = .ok (.lstore k, 2)) (pc' : Nat) (hp : pc + 2 = pc') (L' : Array Slot) (hl : storeLocals Ls k (.long v) = some L')
    (hr : OwnEnds p e below G (T.setTop (mkF m pc' L' st))) : OwnEnds p e below G (T.setTop (mkF m pc Ls (.long v :: st))) := by
  subst hp; exact own_st (fun _ q => XS.lstore X.here C.1 rfl (hb C.2.2.2.1 hd) rfl hl q) hr
theorem own_istore_n (X : Stand p l e R s m args below meth c T locs cells slots) (C : OwnCx p s m meth c Z y bs maxL rt) {k : Fin 4} {v : Int32} (hd : decode bs pc = .ok (.istore_n k, 1)) (pc' : Nat) (hp : pc + 1 = pc') (L' : Array Slot) (hl : storeLocals Ls k.val (.int v) = some L')
    (hr : OwnEnds p e below G (T.setTop (mkF m pc' L' st))) : OwnEnds p e below G (T.setTop (mkF m pc Ls (.int v :: st))) := by
  subst hp; exact own_st (fun _ q => XS.istoreN X.here C.1 rfl (hb C.2.2.2.1 hd) rfl hl q) hr
theorem own_lstore_n (X : Stand p l e R s m args below meth c T locs cells slots) (C : OwnCx p s m meth c Z y bs maxL rt) {k : Fin 4} {v : Int64} (hd : decode bs pc = .ok (.lstore_n k, 1)) (pc' : Nat) (hp : pc + 1 = pc') (L' : Array Slot) (hl : storeLocals Ls k.val (.long v) = some L')
    (hr : OwnEnds p e below G (T.setTop (mkF m pc' L' st))) : OwnEnds p e below G (T.setTop (mkF m pc Ls (.long v :: st))) := by
  subst hp; exact own_st (fun _ q => XS.lstoreN X.here C.1 rfl (hb C.2.2.2.1 hd) rfl hl q) hr
theorem own_astore (X : Stand p l e R s m args below meth c T locs cells slots) (C : OwnCx p s m meth c Z y bs maxL rt) {k : Nat} {v : Value} (hd : decode bs pc = .ok (.astore k, 2)) (pc' : Nat) (hp : pc + 2 = pc') (hv : v.isRef = true) (L' : Array Slot) (hl : storeLocals Ls k v = some L')
    (hr : OwnEnds p e below G (T.setTop (mkF m pc' L' st))) : OwnEnds p e below G (T.setTop (mkF m pc Ls (v :: st))) := by
  subst hp; exact own_st (fun _ q => XS.astore X.here C.1 rfl (hb C.2.2.2.1 hd) rfl hv hl q) hr
theorem own_astore_n (X : Stand p l e R s m args below meth c T locs cells slots) (C : OwnCx p s m meth c Z y bs maxL rt) {k : Fin 4} {v : Value} (hd : decode bs pc = .ok (.astore_n k, 1)) (pc' : Nat) (hp : pc + 1 = pc') (hv : v.isRef = true) (L' : Array Slot) (hl : storeLocals Ls k.val v = some L')
    (hr : OwnEnds p e below G (T.setTop (mkF m pc' L' st))) : OwnEnds p e below G (T.setTop (mkF m pc Ls (v :: st))) := by
  subst hp; exact own_st (fun _ q => XS.astoreN X.here C.1 rfl (hb C.2.2.2.1 hd) rfl hv hl q) hr
theorem own_iinc (X : Stand p l e R s m args below meth c T locs cells slots) (C : OwnCx p s m meth c Z y bs maxL rt) {k : Nat} {cst : Int} {v : Int32} (hd : decode bs pc = .ok (.iinc k cst, 3)) (pc' : Nat) (hp : pc + 3 = pc') (hl : Ls[k]? = some (.val (.int v))) (w : Int32) (hw : Int32.ofInt cst = w) (F : Int32 → Array Slot) (hl' : ∀ z, storeLocals Ls k (.int z) = some (F z))
    (hr : ∀ z, z = v + w → OwnEnds p e below G (T.setTop (mkF m pc' (F z) st))) : OwnEnds p e below G (T.setTop (mkF m pc Ls st)) := by
  subst hp hw; exact own_st (fun _ q => XS.iinc X.here C.1 rfl (hb C.2.2.2.1 hd) hl (hl' _) q) (hr _ rfl)
theorem own_iconst (X : Stand p l e R s m args below meth c T locs cells slots) (C : OwnCx p s m meth c Z y bs maxL rt) {i : Int} (hd : decode bs pc = .ok (.iconst i, 1)) (pc' : Nat) (hp : pc + 1 = pc') (k : Int32) (hk : Int32.ofInt i = k)
    (hr : OwnEnds p e below G (T.setTop (mkF m pc' Ls (.int k :: st)))) : OwnEnds p e below G (T.setTop (mkF m pc Ls st)) := by
  subst hp hk; exact own_st (fun _ q => XS.iconst X.here C.1 rfl (hb C.2.2.2.1 hd) q) hr
theorem own_bipush (X : Stand p l e R s m args below meth c T locs cells slots) (C : OwnCx p s m meth c Z y bs maxL rt) {i : Int} (hd : decode bs pc = .ok (.bipush i, 2)) (pc' : Nat) (hp : pc + 2 = pc') (k : Int32) (hk : (Int8.ofInt i).toInt32 = k)
    (hr : OwnEnds p e below G (T.setTop (mkF m pc' Ls (.int k :: st)))) : OwnEnds p e below G (T.setTop (mkF m pc Ls st)) := by
  subst hp hk; exact own_st (fun _ q => XS.bipush X.here C.1 rfl (hb C.2.2.2.1 hd) q) hr
theorem own_sipush (X : Stand p l e R s m args below meth c T locs cells slots) (C : OwnCx p s m meth c Z y bs maxL rt) {i : Int} (hd : decode bs pc = .ok (.sipush i, 3)) (pc' : Nat) (hp : pc + 3 = pc') (k : Int32) (hk : (Int16.ofInt i).toInt32 = k)
    (hr : OwnEnds p e below G (T.setTop (mkF m pc' Ls (.int k :: st)))) : OwnEnds p e below G (T.setTop (mkF m pc Ls st)) := by
  subst hp hk; exact own_st (fun _ q => XS.sipush X.here C.1 rfl (hb C.2.2.2.1 hd) q) hr
theorem own_lconst (X : Stand p l e R s m args below meth c T locs cells slots) (C : OwnCx p s m meth c Z y bs maxL rt) {i : Fin 2} (hd : decode bs pc = .ok (.lconst i, 1)) (pc' : Nat) (hp : pc + 1 = pc') (k : Int64) (hk : Int64.ofNat i = k)
    (hr : OwnEnds p e below G (T.setTop (mkF m pc' Ls (.long k :: st)))) : OwnEnds p e below G (T.setTop (mkF m pc Ls st)) := by
  subst hp hk; exact own_st (fun _ q => XS.lconst X.here C.1 rfl (hb C.2.2.2.1 hd) q) hr
theorem own_aconst_null (X : Stand p l e R s m args below meth c T locs cells slots) (C : OwnCx p s m meth c Z y bs maxL rt) (hd : decode bs pc = .ok (.aconst_null, 1)) (pc' : Nat) (hp : pc + 1 = pc')
    (hr : OwnEnds p e below G (T.setTop (mkF m pc' Ls (.null :: st)))) : OwnEnds p e below G (T.setTop (mkF m pc Ls st)) := by
  subst hp; exact own_st (fun _ q => XS.aconstNull X.here C.1 rfl (hb C.2.2.2.1 hd) q) hr
theorem own_ldc (X : Stand p l e R s m args below meth c T locs cells slots) (C : OwnCx p s m meth c Z y bs maxL rt) {i : Nat} {v : Int32} (w : (Jvm.Cond.constant y.cls i v).before a0 Z = true) (hd : decode bs pc = .ok (.ldc i, 2)) (pc' : Nat) (hp : pc + 2 = pc')
    (hr : OwnEnds p e below G (T.setTop (mkF m pc' Ls (.int v :: st)))) : OwnEnds p e below G (T.setTop (mkF m pc Ls st)) := by
  subst hp; exact own_st (X.ldcInt C.1 C.2.2.1 (mvT C.2.1 w) (g := mkF m pc Ls st) rfl (hb C.2.2.2.1 hd)) hr
theorem own_ldcw (X : Stand p l e R s m args below meth c T locs cells slots) (C : OwnCx p s m meth c Z y bs maxL rt) {i : Nat} {v : Int32} (w : (Jvm.Cond.constant y.cls i v).before a0 Z = true) (hd : decode bs pc = .ok (.ldc_w i, 3)) (pc' : Nat) (hp : pc + 3 = pc')
    (hr : OwnEnds p e below G (T.setTop (mkF m pc' Ls (.int v :: st)))) : OwnEnds p e below G (T.setTop (mkF m pc Ls st)) := by
  subst hp; exact own_st (X.ldcwInt C.1 C.2.2.1 (mvT C.2.1 w) (g := mkF m pc Ls st) rfl (hb C.2.2.2.1 hd)) hr
theorem own_ldc2 (X : Stand p l e R s m args below meth c T locs cells slots) (C : OwnCx p s m meth c Z y bs maxL rt) {i : Nat} {v : Int64} (w : (Jvm.Cond.constantLong y.cls i v).before a0 Z = true) (hd : decode bs pc = .ok (.ldc2_w i, 3)) (pc' : Nat) (hp : pc + 3 = pc')
    (hr : OwnEnds p e below G (T.setTop (mkF m pc' Ls (.long v :: st)))) : OwnEnds p e below G (T.setTop (mkF m pc Ls st)) := by
  subst hp; exact own_st (X.ldc2Long C.1 C.2.2.1 (mvT C.2.1 w) (g := mkF m pc Ls st) rfl (hb C.2.2.2.1 hd)) hr
theorem own_iadd (X : Stand p l e R s m args below meth c T locs cells slots) (C : OwnCx p s m meth c Z y bs maxL rt) {a b : Int32} (hd : decode bs pc = .ok (.iadd, 1)) (pc' : Nat) (hp : pc + 1 = pc')
    (hr : ∀ z, z = a + b → OwnEnds p e below G (T.setTop (mkF m pc' Ls (.int z :: st)))) : OwnEnds p e below G (T.setTop (mkF m pc Ls (.int b :: .int a :: st))) := by
  subst hp; exact own_st (fun _ q => XS.iadd X.here C.1 rfl (hb C.2.2.2.1 hd) rfl q) (hr _ rfl)
theorem own_isub (X : Stand p l e R s m args below meth c T locs cells slots) (C : OwnCx p s m meth c Z y bs maxL rt) {a b : Int32} (hd : decode bs pc = .ok (.isub, 1)) (pc' : Nat) (hp : pc + 1 = pc')
    (hr : ∀ z, z = a - b → OwnEnds p e below G (T.setTop (mkF m pc' Ls (.int z :: st)))) : OwnEnds p e below G (T.setTop (mkF m pc Ls (.int b :: .int a :: st))) := by
  subst hp; exact own_st (fun _ q => XS.isub X.here C.1 rfl (hb C.2.2.2.1 hd) rfl q) (hr _ rfl)
theorem own_imul (X : Stand p l e R s m args below meth c T locs cells slots) (C : OwnCx p s m meth c Z y bs maxL rt) {a b : Int32} (hd : decode bs pc = .ok (.imul, 1)) (pc' : Nat) (hp : pc + 1 = pc')
    (hr : ∀ z, z = a * b → OwnEnds p e below G (T.setTop (mkF m pc' Ls (.int z :: st)))) : OwnEnds p e below G (T.setTop (mkF m pc Ls (.int b :: .int a :: st))) := by
  subst hp; exact own_st (fun _ q => XS.imul X.here C.1 rfl (hb C.2.2.2.1 hd) rfl q) (hr _ rfl)
theorem own_iand (X : Stand p l e R s m args below meth c T locs cells slots) (C : OwnCx p s m meth c Z y bs maxL rt) {a b : Int32} (hd : decode bs pc = .ok (.iand, 1)) (pc' : Nat) (hp : pc + 1 = pc')
    (hr : ∀ z, z = a &&& b → OwnEnds p e below G (T.setTop (mkF m pc' Ls (.int z :: st)))) : OwnEnds p e below G (T.setTop (mkF m pc Ls (.int b :: .int a :: st))) := by
  subst hp; exact own_st (fun _ q => XS.iand X.here C.1 rfl (hb C.2.2.2.1 hd) rfl q) (hr _ rfl)
theorem own_ior (X : Stand p l e R s m args below meth c T locs cells slots) (C : OwnCx p s m meth c Z y bs maxL rt) {a b : Int32} (hd : decode bs pc = .ok (.ior, 1)) (pc' : Nat) (hp : pc + 1 = pc')
    (hr : ∀ z, z = a ||| b → OwnEnds p e below G (T.setTop (mkF m pc' Ls (.int z :: st)))) : OwnEnds p e below G (T.setTop (mkF m pc Ls (.int b :: .int a :: st))) := by
  subst hp; exact own_st (fun _ q => XS.ior X.here C.1 rfl (hb C.2.2.2.1 hd) rfl q) (hr _ rfl)
theorem own_ixor (X : Stand p l e R s m args below meth c T locs cells slots) (C : OwnCx p s m meth c Z y bs maxL rt) {a b : Int32} (hd : decode bs pc = .ok (.ixor, 1)) (pc' : Nat) (hp : pc + 1 = pc')
    (hr : ∀ z, z = a ^^^ b → OwnEnds p e below G (T.setTop (mkF m pc' Ls (.int z :: st)))) : OwnEnds p e below G (T.setTop (mkF m pc Ls (.int b :: .int a :: st))) := by
  subst hp; exact own_st (fun _ q => XS.ixor X.here C.1 rfl (hb C.2.2.2.1 hd) rfl q) (hr _ rfl)
theorem own_idiv (X : Stand p l e R s m args below meth c T locs cells slots) (C : OwnCx p s m meth c Z y bs maxL rt) {a b : Int32} (hd : decode bs pc = .ok (.idiv, 1)) (pc' : Nat) (hp : pc + 1 = pc') (hz : b ≠ 0)
    (hr : ∀ z, z = a / b → OwnEnds p e below G (T.setTop (mkF m pc' Ls (.int z :: st)))) : OwnEnds p e below G (T.setTop (mkF m pc Ls (.int b :: .int a :: st))) := by
  subst hp; exact own_st (fun _ q => XS.idiv X.here C.1 rfl (hb C.2.2.2.1 hd) rfl hz q) (hr _ rfl)
theorem own_ladd (X : Stand p l e R s m args below meth c T locs cells slots) (C : OwnCx p s m meth c Z y bs maxL rt) {a b : Int64} (hd : decode bs pc = .ok (.ladd, 1)) (pc' : Nat) (hp : pc + 1 = pc')
    (hr : ∀ z, z = a + b → OwnEnds p e below G (T.setTop (mkF m pc' Ls (.long z :: st)))) : OwnEnds p e below G (T.setTop (mkF m pc Ls (.long b :: .long a :: st))) := by
  subst hp; exact own_st (fun _ q => XS.ladd X.here C.1 rfl (hb C.2.2.2.1 hd) rfl q) (hr _ rfl)
theorem own_lsub (X : Stand p l e R s m args below meth c T locs cells slots) (C : OwnCx p s m meth c Z y bs maxL rt) {a b : Int64} (hd : decode bs pc = .ok (.lsub, 1)) (pc' : Nat) (hp : pc + 1 = pc')
    (hr : ∀ z, z = a - b → OwnEnds p e below G (T.setTop (mkF m pc' Ls (.long z :: st)))) : OwnEnds p e below G (T.setTop (mkF m pc Ls (.long b :: .long a :: st))) := by
  subst hp; exact own_st (fun _ q => XS.lsub X.here C.1 rfl (hb C.2.2.2.1 hd) rfl q) (hr _ rfl)
theorem own_lmul (X : Stand p l e R s m args below meth c T locs cells slots) (C : OwnCx p s m meth c Z y bs maxL rt) {a b : Int64} (hd : decode bs pc = .ok (.lmul, 1)) (pc' : Nat) (hp : pc + 1 = pc')
    (hr : ∀ z, z = a * b → OwnEnds p e below G (T.setTop (mkF m pc' Ls (.long z :: st)))) : OwnEnds p e below G (T.setTop (mkF m pc Ls (.long b :: .long a :: st))) := by
  subst hp; exact own_st (fun _ q => XS.lmul X.here C.1 rfl (hb C.2.2.2.1 hd) rfl q) (hr _ rfl)
theorem own_land (X : Stand p l e R s m args below meth c T locs cells slots) (C : OwnCx p s m meth c Z y bs maxL rt) {a b : Int64} (hd : decode bs pc = .ok (.land, 1)) (pc' : Nat) (hp : pc + 1 = pc')
    (hr : ∀ z, z = a &&& b → OwnEnds p e below G (T.setTop (mkF m pc' Ls (.long z :: st)))) : OwnEnds p e below G (T.setTop (mkF m pc Ls (.long b :: .long a :: st))) := by
  subst hp; exact own_st (fun _ q => XS.land X.here C.1 rfl (hb C.2.2.2.1 hd) rfl q) (hr _ rfl)
theorem own_lor (X : Stand p l e R s m args below meth c T locs cells slots) (C : OwnCx p s m meth c Z y bs maxL rt) {a b : Int64} (hd : decode bs pc = .ok (.lor, 1)) (pc' : Nat) (hp : pc + 1 = pc')
    (hr : ∀ z, z = a ||| b → OwnEnds p e below G (T.setTop (mkF m pc' Ls (.long z :: st)))) : OwnEnds p e below G (T.setTop (mkF m pc Ls (.long b :: .long a :: st))) := by
  subst hp; exact own_st (fun _ q => XS.lor X.here C.1 rfl (hb C.2.2.2.1 hd) rfl q) (hr _ rfl)
theorem own_lxor (X : Stand p l e R s m args below meth c T locs cells slots) (C : OwnCx p s m meth c Z y bs maxL rt) {a b : Int64} (hd : decode bs pc = .ok (.lxor, 1)) (pc' : Nat) (hp : pc + 1 = pc')
    (hr : ∀ z, z = a ^^^ b → OwnEnds p e below G (T.setTop (mkF m pc' Ls (.long z :: st)))) : OwnEnds p e below G (T.setTop (mkF m pc Ls (.long b :: .long a :: st))) := by
  subst hp; exact own_st (fun _ q => XS.lxor X.here C.1 rfl (hb C.2.2.2.1 hd) rfl q) (hr _ rfl)
theorem own_ldiv (X : Stand p l e R s m args below meth c T locs cells slots) (C : OwnCx p s m meth c Z y bs maxL rt) {a b : Int64} (hd : decode bs pc = .ok (.ldiv, 1)) (pc' : Nat) (hp : pc + 1 = pc') (hz : b ≠ 0)
    (hr : ∀ z, z = a / b → OwnEnds p e below G (T.setTop (mkF m pc' Ls (.long z :: st)))) : OwnEnds p e below G (T.setTop (mkF m pc Ls (.long b :: .long a :: st))) := by
  subst hp; exact own_st (fun _ q => XS.ldiv X.here C.1 rfl (hb C.2.2.2.1 hd) rfl hz q) (hr _ rfl)
theorem own_irem (X : Stand p l e R s m args below meth c T locs cells slots) (C : OwnCx p s m meth c Z y bs maxL rt) {a b : Int32} (hd : decode bs pc = .ok (.irem, 1)) (pc' : Nat) (hp : pc + 1 = pc') (hz : b ≠ 0)
    (hr : ∀ z, z = a % b → OwnEnds p e below G (T.setTop (mkF m pc' Ls (.int z :: st)))) : OwnEnds p e below G (T.setTop (mkF m pc Ls (.int b :: .int a :: st))) := by
  subst hp; exact own_st (fun _ q => iremM X C.1 rfl (hb C.2.2.2.1 hd) rfl hz q) (hr _ rfl)
theorem own_lrem (X : Stand p l e R s m args below meth c T locs cells slots) (C : OwnCx p s m meth c Z y bs maxL rt) {a b : Int64} (hd : decode bs pc = .ok (.lrem, 1)) (pc' : Nat) (hp : pc + 1 = pc') (hz : b ≠ 0)
    (hr : ∀ z, z = a % b → OwnEnds p e below G (T.setTop (mkF m pc' Ls (.long z :: st)))) : OwnEnds p e below G (T.setTop (mkF m pc Ls (.long b :: .long a :: st))) := by
  subst hp; exact own_st (fun _ q => XS.lrem X.here C.1 rfl (hb C.2.2.2.1 hd) rfl hz q) (hr _ (lrem_mod a b))
theorem own_ishl (X : Stand p l e R s m args below meth c T locs cells slots) (C : OwnCx p s m meth c Z y bs maxL rt) {a : Int32} {b : Int32} (hd : decode bs pc = .ok (.ishl, 1)) (pc' : Nat) (hp : pc + 1 = pc')
    (hr : ∀ z, z = (a <<< (b &&& 31)) → OwnEnds p e below G (T.setTop (mkF m pc' Ls (.int z :: st)))) : OwnEnds p e below G (T.setTop (mkF m pc Ls (.int b :: .int a :: st))) := by
  subst hp; exact own_st (fun _ q => XS.ishl X.here C.1 rfl (hb C.2.2.2.1 hd) rfl q) (hr _ rfl)
theorem own_ishr (X : Stand p l e R s m args below meth c T locs cells slots) (C : OwnCx p s m meth c Z y bs maxL rt) {a : Int32} {b : Int32} (hd : decode bs pc = .ok (.ishr, 1)) (pc' : Nat) (hp : pc + 1 = pc')
    (hr : ∀ z, z = (a >>> (b &&& 31)) → OwnEnds p e below G (T.setTop (mkF m pc' Ls (.int z :: st)))) : OwnEnds p e below G (T.setTop (mkF m pc Ls (.int b :: .int a :: st))) := by
  subst hp; exact own_st (fun _ q => XS.ishr X.here C.1 rfl (hb C.2.2.2.1 hd) rfl q) (hr _ rfl)
theorem own_iushr (X : Stand p l e R s m args below meth c T locs cells slots) (C : OwnCx p s m meth c Z y bs maxL rt) {a : Int32} {b : Int32} (hd : decode bs pc = .ok (.iushr, 1)) (pc' : Nat) (hp : pc + 1 = pc')
    (hr : ∀ z, z = ((a.toUInt32 >>> (b &&& 31).toUInt32).toInt32) → OwnEnds p e below G (T.setTop (mkF m pc' Ls (.int z :: st)))) : OwnEnds p e below G (T.setTop (mkF m pc Ls (.int b :: .int a :: st))) := by
  subst hp; exact own_st (fun _ q => XS.iushr X.here C.1 rfl (hb C.2.2.2.1 hd) rfl q) (hr _ rfl)
theorem own_lshl (X : Stand p l e R s m args below meth c T locs cells slots) (C : OwnCx p s m meth c Z y bs maxL rt) {a : Int64} {b : Int32} (hd : decode bs pc = .ok (.lshl, 1)) (pc' : Nat) (hp : pc + 1 = pc')
    (hr : ∀ z, z = (a <<< (b &&& 0x3f).toInt64) → OwnEnds p e below G (T.setTop (mkF m pc' Ls (.long z :: st)))) : OwnEnds p e below G (T.setTop (mkF m pc Ls (.int b :: .long a :: st))) := by
  subst hp; exact own_st (fun _ q => XS.lshl X.here C.1 rfl (hb C.2.2.2.1 hd) rfl q) (hr _ rfl)
theorem own_lshr (X : Stand p l e R s m args below meth c T locs cells slots) (C : OwnCx p s m meth c Z y bs maxL rt) {a : Int64} {b : Int32} (hd : decode bs pc = .ok (.lshr, 1)) (pc' : Nat) (hp : pc + 1 = pc')
    (hr : ∀ z, z = (a >>> (b &&& 0x3f).toInt64) → OwnEnds p e below G (T.setTop (mkF m pc' Ls (.long z :: st)))) : OwnEnds p e below G (T.setTop (mkF m pc Ls (.int b :: .long a :: st))) := by
  subst hp; exact own_st (fun _ q => XS.lshr X.here C.1 rfl (hb C.2.2.2.1 hd) rfl q) (hr _ rfl)
theorem own_lushr (X : Stand p l e R s m args below meth c T locs cells slots) (C : OwnCx p s m meth c Z y bs maxL rt) {a : Int64} {b : Int32} (hd : decode bs pc = .ok (.lushr, 1)) (pc' : Nat) (hp : pc + 1 = pc')
    (hr : ∀ z, z = ((a.toUInt64 >>> (b &&& 0x3f).toInt64.toUInt64).toInt64) → OwnEnds p e below G (T.setTop (mkF m pc' Ls (.long z :: st)))) : OwnEnds p e below G (T.setTop (mkF m pc Ls (.int b :: .long a :: st))) := by
  subst hp; exact own_st (fun _ q => XS.lushr X.here C.1 rfl (hb C.2.2.2.1 hd) rfl q) (hr _ rfl)
theorem own_ineg (X : Stand p l e R s m args below meth c T locs cells slots) (C : OwnCx p s m meth c Z y bs maxL rt) {a : Int32} (hd : decode bs pc = .ok (.ineg, 1)) (pc' : Nat) (hp : pc + 1 = pc')
    (hr : ∀ z, z = -a → OwnEnds p e below G (T.setTop (mkF m pc' Ls (.int z :: st)))) : OwnEnds p e below G (T.setTop (mkF m pc Ls (.int a :: st))) := by
  subst hp; exact own_st (fun _ q => XS.ineg X.here C.1 rfl (hb C.2.2.2.1 hd) rfl q) (hr _ rfl)
theorem own_lneg (X : Stand p l e R s m args below meth c T locs cells slots) (C : OwnCx p s m meth c Z y bs maxL rt) {a : Int64} (hd : decode bs pc = .ok (.lneg, 1)) (pc' : Nat) (hp : pc + 1 = pc')
    (hr : ∀ z, z = -a → OwnEnds p e below G (T.setTop (mkF m pc' Ls (.long z :: st)))) : OwnEnds p e below G (T.setTop (mkF m pc Ls (.long a :: st))) := by
  subst hp; exact own_st (fun _ q => XS.lneg X.here C.1 rfl (hb C.2.2.2.1 hd) rfl q) (hr _ rfl)
theorem own_i2l (X : Stand p l e R s m args below meth c T locs cells slots) (C : OwnCx p s m meth c Z y bs maxL rt) {a : Int32} (hd : decode bs pc = .ok (.i2l, 1)) (pc' : Nat) (hp : pc + 1 = pc')
    (hr : ∀ z, z = a.toInt64 → OwnEnds p e below G (T.setTop (mkF m pc' Ls (.long z :: st)))) : OwnEnds p e below G (T.setTop (mkF m pc Ls (.int a :: st))) := by
  subst hp; exact own_st (fun _ q => XS.i2l X.here C.1 rfl (hb C.2.2.2.1 hd) rfl q) (hr _ rfl)
theorem own_l2i (X : Stand p l e R s m args below meth c T locs cells slots) (C : OwnCx p s m meth c Z y bs maxL rt) {a : Int64} (hd : decode bs pc = .ok (.l2i, 1)) (pc' : Nat) (hp : pc + 1 = pc')
    (hr : ∀ z, z = a.toInt32 → OwnEnds p e below G (T.setTop (mkF m pc' Ls (.int z :: st)))) : OwnEnds p e below G (T.setTop (mkF m pc Ls (.long a :: st))) := by
  subst hp; exact own_st (fun _ q => XS.l2i X.here C.1 rfl (hb C.2.2.2.1 hd) rfl q) (hr _ rfl)
theorem own_i2b (X : Stand p l e R s m args below meth c T locs cells slots) (C : OwnCx p s m meth c Z y bs maxL rt) {a : Int32} (hd : decode bs pc = .ok (.i2b, 1)) (pc' : Nat) (hp : pc + 1 = pc')
    (hr : ∀ z, z = a.toInt8.toInt32 → OwnEnds p e below G (T.setTop (mkF m pc' Ls (.int z :: st)))) : OwnEnds p e below G (T.setTop (mkF m pc Ls (.int a :: st))) := by
  subst hp; exact own_st (fun _ q => XS.i2b X.here C.1 rfl (hb C.2.2.2.1 hd) rfl q) (hr _ rfl)
theorem own_i2s (X : Stand p l e R s m args below meth c T locs cells slots) (C : OwnCx p s m meth c Z y bs maxL rt) {a : Int32} (hd : decode bs pc = .ok (.i2s, 1)) (pc' : Nat) (hp : pc + 1 = pc')
    (hr : ∀ z, z = a.toInt16.toInt32 → OwnEnds p e below G (T.setTop (mkF m pc' Ls (.int z :: st)))) : OwnEnds p e below G (T.setTop (mkF m pc Ls (.int a :: st))) := by
  subst hp; exact own_st (fun _ q => XS.i2s X.here C.1 rfl (hb C.2.2.2.1 hd) rfl q) (hr _ rfl)
theorem own_i2c (X : Stand p l e R s m args below meth c T locs cells slots) (C : OwnCx p s m meth c Z y bs maxL rt) {a : Int32} (hd : decode bs pc = .ok (.i2c, 1)) (pc' : Nat) (hp : pc + 1 = pc')
    (hr : ∀ z, z = a.toUInt32.toUInt16.toUInt32.toInt32 → OwnEnds p e below G (T.setTop (mkF m pc' Ls (.int z :: st)))) : OwnEnds p e below G (T.setTop (mkF m pc Ls (.int a :: st))) := by
  subst hp; exact own_st (fun _ q => XS.i2c X.here C.1 rfl (hb C.2.2.2.1 hd) rfl q) (hr _ rfl)
theorem own_lcmp (X : Stand p l e R s m args below meth c T locs cells slots) (C : OwnCx p s m meth c Z y bs maxL rt) {a b : Int64} (hd : decode bs pc = .ok (.lcmp, 1)) (pc' : Nat) (hp : pc + 1 = pc')
    (hr : ∀ z : Int32, (a.toInt < b.toInt → z.toInt = -1) → (a.toInt = b.toInt → z.toInt = 0) → (b.toInt < a.toInt → z.toInt = 1) → OwnEnds p e below G (T.setTop (mkF m pc' Ls (.int z :: st)))) : OwnEnds p e below G (T.setTop (mkF m pc Ls (.long b :: .long a :: st))) := by
  subst hp; exact own_st (fun _ q => XS.lcmp X.here C.1 rfl (hb C.2.2.2.1 hd) rfl q) (hr _ (c_lcmp a b).1 (c_lcmp a b).2.1 (c_lcmp a b).2.2)
theorem own_dup (X : Stand p l e R s m args below meth c T locs cells slots) (C : OwnCx p s m meth c Z y bs maxL rt) {v : Value} (hd : decode bs pc = .ok (.dup, 1)) (pc' : Nat) (hp : pc + 1 = pc') (hc : v.category = 1)
    (hr : OwnEnds p e below G (T.setTop (mkF m pc' Ls (v :: v :: st)))) : OwnEnds p e below G (T.setTop (mkF m pc Ls (v :: st))) := by
  subst hp; exact own_st (fun _ q => XS.dup X.here C.1 rfl (hb C.2.2.2.1 hd) rfl hc q) hr
theorem own_dup_x1 (X : Stand p l e R s m args below meth c T locs cells slots) (C : OwnCx p s m meth c Z y bs maxL rt) {v w : Value} (hd : decode bs pc = .ok (.dup_x1, 1)) (pc' : Nat) (hp : pc + 1 = pc') (hc : v.category = 1) (hc' : w.category = 1)
    (hr : OwnEnds p e below G (T.setTop (mkF m pc' Ls (v :: w :: v :: st)))) : OwnEnds p e below G (T.setTop (mkF m pc Ls (v :: w :: st))) := by
  subst hp; exact own_st (fun _ q => XS.dupX1 X.here C.1 rfl (hb C.2.2.2.1 hd) rfl hc hc' q) hr
theorem own_pop (X : Stand p l e R s m args below meth c T locs cells slots) (C : OwnCx p s m meth c Z y bs maxL rt) {v : Value} (hd : decode bs pc = .ok (.pop, 1)) (pc' : Nat) (hp : pc + 1 = pc') (hc : v.category = 1)
    (hr : OwnEnds p e below G (T.setTop (mkF m pc' Ls st))) : OwnEnds p e below G (T.setTop (mkF m pc Ls (v :: st))) := by
  subst hp; exact own_st (fun _ q => XS.pop X.here C.1 rfl (hb C.2.2.2.1 hd) rfl hc q) hr
theorem own_dup2 (X : Stand p l e R s m args below meth c T locs cells slots) (C : OwnCx p s m meth c Z y bs maxL rt) {v w : Value} (hd : decode bs pc = .ok (.dup2, 1)) (pc' : Nat) (hp : pc + 1 = pc') (hc : v.category = 1) (hc' : w.category = 1)
    (hr : OwnEnds p e below G (T.setTop (mkF m pc' Ls (v :: w :: v :: w :: st)))) : OwnEnds p e below G (T.setTop (mkF m pc Ls (v :: w :: st))) := by
  subst hp; exact own_st (fun _ q => XT.dup2 X.here C.1 rfl (hb C.2.2.2.1 hd) rfl hc hc' q) hr
theorem own_goto (X : Stand p l e R s m args below meth c T locs cells slots) (C : OwnCx p s m meth c Z y bs maxL rt) {o : Int} (hd : decode bs pc = .ok (.goto o, 3)) (pc' : Nat) (ho : 0 ≤ (pc : Int) + o) (hp : ((pc : Int) + o).toNat = pc')
    (hr : OwnEnds p e below G (T.setTop (mkF m pc' Ls st))) : OwnEnds p e below G (T.setTop (mkF m pc Ls st)) :=
  own_st (fun _ q => XS.goto X.here C.1 rfl rfl (hb C.2.2.2.1 hd) ho hp q) hr
theorem own_icmplt (X : Stand p l e R s m args below meth c T locs cells slots) (C : OwnCx p s m meth c Z y bs maxL rt) {x' y' : Int32} {o : Int} (hd : decode bs pc = .ok (.if_icmp .lt o, 3)) (pn pc' : Nat) (hpn : pc + 3 = pn) (ho : 0 ≤ (pc : Int) + o) (hp : ((pc : Int) + o).toNat = pc') {i : Int} (hi : x'.toInt = i) {j : Int} (hj : y'.toInt = j) 
    (hy : i < j → OwnEnds p e below G (T.setTop (mkF m pc' Ls st))) (hn : j ≤ i → OwnEnds p e below G (T.setTop (mkF m pn Ls st))) : OwnEnds p e below G (T.setTop (mkF m pc Ls (.int y' :: .int x' :: st))) := by
  subst hpn
  by_cases k : x' < y'
  · exact own_st (fun _ q => XS.icmpYes X.here C.1 rfl rfl (hb C.2.2.2.1 hd) rfl (((tlt k).1)) ho hp q) (hy (by rw [Int32.lt_iff_toInt_lt] at k; have q : y'.toInt = j := hj; omega))
  · exact own_st (fun _ q => XS.icmpNo X.here C.1 rfl (hb C.2.2.2.1 hd) rfl (((flt k).1)) q) (hn (by rw [Int32.lt_iff_toInt_lt] at k; have q : y'.toInt = j := hj; omega))
theorem own_icmpge (X : Stand p l e R s m args below meth c T locs cells slots) (C : OwnCx p s m meth c Z y bs maxL rt) {x' y' : Int32} {o : Int} (hd : decode bs pc = .ok (.if_icmp .ge o, 3)) (pn pc' : Nat) (hpn : pc + 3 = pn) (ho : 0 ≤ (pc : Int) + o) (hp : ((pc : Int) + o).toNat = pc') {i : Int} (hi : x'.toInt = i) {j : Int} (hj : y'.toInt = j) 
    (hy : j ≤ i → OwnEnds p e below G (T.setTop (mkF m pc' Ls st))) (hn : i < j → OwnEnds p e below G (T.setTop (mkF m pn Ls st))) : OwnEnds p e below G (T.setTop (mkF m pc Ls (.int y' :: .int x' :: st))) := by
  subst hpn
  by_cases k : x' < y'
  · exact own_st (fun _ q => XS.icmpNo X.here C.1 rfl (hb C.2.2.2.1 hd) rfl (((tlt k).2.1)) q) (hn (by rw [Int32.lt_iff_toInt_lt] at k; have q : y'.toInt = j := hj; omega))
  · exact own_st (fun _ q => XS.icmpYes X.here C.1 rfl rfl (hb C.2.2.2.1 hd) rfl (((flt k).2.1)) ho hp q) (hy (by rw [Int32.lt_iff_toInt_lt] at k; have q : y'.toInt = j := hj; omega))
theorem own_icmpgt (X : Stand p l e R s m args below meth c T locs cells slots) (C : OwnCx p s m meth c Z y bs maxL rt) {x' y' : Int32} {o : Int} (hd : decode bs pc = .ok (.if_icmp .gt o, 3)) (pn pc' : Nat) (hpn : pc + 3 = pn) (ho : 0 ≤ (pc : Int) + o) (hp : ((pc : Int) + o).toNat = pc') {i : Int} (hi : x'.toInt = i) {j : Int} (hj : y'.toInt = j) 
    (hy : j < i → OwnEnds p e below G (T.setTop (mkF m pc' Ls st))) (hn : i ≤ j → OwnEnds p e below G (T.setTop (mkF m pn Ls st))) : OwnEnds p e below G (T.setTop (mkF m pc Ls (.int y' :: .int x' :: st))) := by
  subst hpn
  by_cases k : y' < x'
  · exact own_st (fun _ q => XS.icmpYes X.here C.1 rfl rfl (hb C.2.2.2.1 hd) rfl (((tlt k).2.2.1)) ho hp q) (hy (by rw [Int32.lt_iff_toInt_lt] at k; have q : y'.toInt = j := hj; omega))
  · exact own_st (fun _ q => XS.icmpNo X.here C.1 rfl (hb C.2.2.2.1 hd) rfl (((flt k).2.2.1)) q) (hn (by rw [Int32.lt_iff_toInt_lt] at k; have q : y'.toInt = j := hj; omega))
theorem own_icmple (X : Stand p l e R s m args below meth c T locs cells slots) (C : OwnCx p s m meth c Z y bs maxL rt) {x' y' : Int32} {o : Int} (hd : decode bs pc = .ok (.if_icmp .le o, 3)) (pn pc' : Nat) (hpn : pc + 3 = pn) (ho : 0 ≤ (pc : Int) + o) (hp : ((pc : Int) + o).toNat = pc') {i : Int} (hi : x'.toInt = i) {j : Int} (hj : y'.toInt = j) 
    (hy : i ≤ j → OwnEnds p e below G (T.setTop (mkF m pc' Ls st))) (hn : j < i → OwnEnds p e below G (T.setTop (mkF m pn Ls st))) : OwnEnds p e below G (T.setTop (mkF m pc Ls (.int y' :: .int x' :: st))) := by
  subst hpn
  by_cases k : y' < x'
  · exact own_st (fun _ q => XS.icmpNo X.here C.1 rfl (hb C.2.2.2.1 hd) rfl (((tlt k).2.2.2)) q) (hn (by rw [Int32.lt_iff_toInt_lt] at k; have q : y'.toInt = j := hj; omega))
  · exact own_st (fun _ q => XS.icmpYes X.here C.1 rfl rfl (hb C.2.2.2.1 hd) rfl (((flt k).2.2.2)) ho hp q) (hy (by rw [Int32.lt_iff_toInt_lt] at k; have q : y'.toInt = j := hj; omega))
theorem own_icmpeq (X : Stand p l e R s m args below meth c T locs cells slots) (C : OwnCx p s m meth c Z y bs maxL rt) {x' y' : Int32} {o : Int} (hd : decode bs pc = .ok (.if_icmp .eq o, 3)) (pn pc' : Nat) (hpn : pc + 3 = pn) (ho : 0 ≤ (pc : Int) + o) (hp : ((pc : Int) + o).toNat = pc') {i : Int} (hi : x'.toInt = i) {j : Int} (hj : y'.toInt = j) 
    (hy : i = j → OwnEnds p e below G (T.setTop (mkF m pc' Ls st))) (hn : i ≠ j → OwnEnds p e below G (T.setTop (mkF m pn Ls st))) : OwnEnds p e below G (T.setTop (mkF m pc Ls (.int y' :: .int x' :: st))) := by
  subst hpn
  by_cases k : x' = y'
  · exact own_st (fun _ q => XS.icmpYes X.here C.1 rfl rfl (hb C.2.2.2.1 hd) rfl (((teq k).1)) ho hp q) (hy (by subst k; exact hi.symm.trans hj))
  · exact own_st (fun _ q => XS.icmpNo X.here C.1 rfl (hb C.2.2.2.1 hd) rfl (((feq k).1)) q) (hn (fun q => k (Int32.toInt_inj.mp (hi.trans (q.trans hj.symm)))))
theorem own_icmpne (X : Stand p l e R s m args below meth c T locs cells slots) (C : OwnCx p s m meth c Z y bs maxL rt) {x' y' : Int32} {o : Int} (hd : decode bs pc = .ok (.if_icmp .ne o, 3)) (pn pc' : Nat) (hpn : pc + 3 = pn) (ho : 0 ≤ (pc : Int) + o) (hp : ((pc : Int) + o).toNat = pc') {i : Int} (hi : x'.toInt = i) {j : Int} (hj : y'.toInt = j) 
    (hy : i ≠ j → OwnEnds p e below G (T.setTop (mkF m pc' Ls st))) (hn : i = j → OwnEnds p e below G (T.setTop (mkF m pn Ls st))) : OwnEnds p e below G (T.setTop (mkF m pc Ls (.int y' :: .int x' :: st))) := by
  subst hpn
  by_cases k : x' = y'
  · exact own_st (fun _ q => XS.icmpNo X.here C.1 rfl (hb C.2.2.2.1 hd) rfl (((teq k).2)) q) (hn (by subst k; exact hi.symm.trans hj))
  · exact own_st (fun _ q => XS.icmpYes X.here C.1 rfl rfl (hb C.2.2.2.1 hd) rfl (((feq k).2)) ho hp q) (hy (fun q => k (Int32.toInt_inj.mp (hi.trans (q.trans hj.symm)))))
theorem own_iflt (X : Stand p l e R s m args below meth c T locs cells slots) (C : OwnCx p s m meth c Z y bs maxL rt) {x' : Int32} {o : Int} (hd : decode bs pc = .ok (.ifCond .lt o, 3)) (pn pc' : Nat) (hpn : pc + 3 = pn) (ho : 0 ≤ (pc : Int) + o) (hp : ((pc : Int) + o).toNat = pc') {i : Int} (hi : x'.toInt = i) 
    (hy : i < 0 → OwnEnds p e below G (T.setTop (mkF m pc' Ls st))) (hn : 0 ≤ i → OwnEnds p e below G (T.setTop (mkF m pn Ls st))) : OwnEnds p e below G (T.setTop (mkF m pc Ls (.int x' :: st))) := by
  subst hpn
  by_cases k : x' < (0 : Int32)
  · exact own_st (fun _ q => XS.ifYes X.here C.1 rfl rfl (hb C.2.2.2.1 hd) rfl ((if0 _ _).trans ((tlt k).1)) ho hp q) (hy (by rw [Int32.lt_iff_toInt_lt] at k; have q : (0 : Int32).toInt = 0 := (rfl : (0 : Int32).toInt = 0); omega))
  · exact own_st (fun _ q => XS.ifNo X.here C.1 rfl (hb C.2.2.2.1 hd) rfl ((if0 _ _).trans ((flt k).1)) q) (hn (by rw [Int32.lt_iff_toInt_lt] at k; have q : (0 : Int32).toInt = 0 := (rfl : (0 : Int32).toInt = 0); omega))
theorem own_ifge (X : Stand p l e R s m args below meth c T locs cells slots) (C : OwnCx p s m meth c Z y bs maxL rt) {x' : Int32} {o : Int} (hd : decode bs pc = .ok (.ifCond .ge o, 3)) (pn pc' : Nat) (hpn : pc + 3 = pn) (ho : 0 ≤ (pc : Int) + o) (hp : ((pc : Int) + o).toNat = pc') {i : Int} (hi : x'.toInt = i) 
    (hy : 0 ≤ i → OwnEnds p e below G (T.setTop (mkF m pc' Ls st))) (hn : i < 0 → OwnEnds p e below G (T.setTop (mkF m pn Ls st))) : OwnEnds p e below G (T.setTop (mkF m pc Ls (.int x' :: st))) := by
  subst hpn
  by_cases k : x' < (0 : Int32)
  · exact own_st (fun _ q => XS.ifNo X.here C.1 rfl (hb C.2.2.2.1 hd) rfl ((if0 _ _).trans ((tlt k).2.1)) q) (hn (by rw [Int32.lt_iff_toInt_lt] at k; have q : (0 : Int32).toInt = 0 := (rfl : (0 : Int32).toInt = 0); omega))
  · exact own_st (fun _ q => XS.ifYes X.here C.1 rfl rfl (hb C.2.2.2.1 hd) rfl ((if0 _ _).trans ((flt k).2.1)) ho hp q) (hy (by rw [Int32.lt_iff_toInt_lt] at k; have q : (0 : Int32).toInt = 0 := (rfl : (0 : Int32).toInt = 0); omega))
theorem own_ifgt (X : Stand p l e R s m args below meth c T locs cells slots) (C : OwnCx p s m meth c Z y bs maxL rt) {x' : Int32} {o : Int} (hd : decode bs pc = .ok (.ifCond .gt o, 3)) (pn pc' : Nat) (hpn : pc + 3 = pn) (ho : 0 ≤ (pc : Int) + o) (hp : ((pc : Int) + o).toNat = pc') {i : Int} (hi : x'.toInt = i) 
    (hy : 0 < i → OwnEnds p e below G (T.setTop (mkF m pc' Ls st))) (hn : i ≤ 0 → OwnEnds p e below G (T.setTop (mkF m pn Ls st))) : OwnEnds p e below G (T.setTop (mkF m pc Ls (.int x' :: st))) := by
  subst hpn
  by_cases k : (0 : Int32) < x'
  · exact own_st (fun _ q => XS.ifYes X.here C.1 rfl rfl (hb C.2.2.2.1 hd) rfl ((if0 _ _).trans ((tlt k).2.2.1)) ho hp q) (hy (by rw [Int32.lt_iff_toInt_lt] at k; have q : (0 : Int32).toInt = 0 := (rfl : (0 : Int32).toInt = 0); omega))
  · exact own_st (fun _ q => XS.ifNo X.here C.1 rfl (hb C.2.2.2.1 hd) rfl ((if0 _ _).trans ((flt k).2.2.1)) q) (hn (by rw [Int32.lt_iff_toInt_lt] at k; have q : (0 : Int32).toInt = 0 := (rfl : (0 : Int32).toInt = 0); omega))
theorem own_ifle (X : Stand p l e R s m args below meth c T locs cells slots) (C : OwnCx p s m meth c Z y bs maxL rt) {x' : Int32} {o : Int} (hd : decode bs pc = .ok (.ifCond .le o, 3)) (pn pc' : Nat) (hpn : pc + 3 = pn) (ho : 0 ≤ (pc : Int) + o) (hp : ((pc : Int) + o).toNat = pc') {i : Int} (hi : x'.toInt = i) 
    (hy : i ≤ 0 → OwnEnds p e below G (T.setTop (mkF m pc' Ls st))) (hn : 0 < i → OwnEnds p e below G (T.setTop (mkF m pn Ls st))) : OwnEnds p e below G (T.setTop (mkF m pc Ls (.int x' :: st))) := by
  subst hpn
  by_cases k : (0 : Int32) < x'
  · exact own_st (fun _ q => XS.ifNo X.here C.1 rfl (hb C.2.2.2.1 hd) rfl ((if0 _ _).trans ((tlt k).2.2.2)) q) (hn (by rw [Int32.lt_iff_toInt_lt] at k; have q : (0 : Int32).toInt = 0 := (rfl : (0 : Int32).toInt = 0); omega))
  · exact own_st (fun _ q => XS.ifYes X.here C.1 rfl rfl (hb C.2.2.2.1 hd) rfl ((if0 _ _).trans ((flt k).2.2.2)) ho hp q) (hy (by rw [Int32.lt_iff_toInt_lt] at k; have q : (0 : Int32).toInt = 0 := (rfl : (0 : Int32).toInt = 0); omega))
theorem own_ifeq (X : Stand p l e R s m args below meth c T locs cells slots) (C : OwnCx p s m meth c Z y bs maxL rt) {x' : Int32} {o : Int} (hd : decode bs pc = .ok (.ifCond .eq o, 3)) (pn pc' : Nat) (hpn : pc + 3 = pn) (ho : 0 ≤ (pc : Int) + o) (hp : ((pc : Int) + o).toNat = pc') {i : Int} (hi : x'.toInt = i) 
    (hy : i = 0 → OwnEnds p e below G (T.setTop (mkF m pc' Ls st))) (hn : i ≠ 0 → OwnEnds p e below G (T.setTop (mkF m pn Ls st))) : OwnEnds p e below G (T.setTop (mkF m pc Ls (.int x' :: st))) := by
  subst hpn
  by_cases k : x' = (0 : Int32)
  · exact own_st (fun _ q => XS.ifYes X.here C.1 rfl rfl (hb C.2.2.2.1 hd) rfl ((if0 _ _).trans ((teq k).1)) ho hp q) (hy (by subst k; exact hi.symm.trans (rfl : (0 : Int32).toInt = 0)))
  · exact own_st (fun _ q => XS.ifNo X.here C.1 rfl (hb C.2.2.2.1 hd) rfl ((if0 _ _).trans ((feq k).1)) q) (hn (fun q => k (Int32.toInt_inj.mp (hi.trans (q.trans (rfl : (0 : Int32).toInt = 0).symm)))))
theorem own_ifne (X : Stand p l e R s m args below meth c T locs cells slots) (C : OwnCx p s m meth c Z y bs maxL rt) {x' : Int32} {o : Int} (hd : decode bs pc = .ok (.ifCond .ne o, 3)) (pn pc' : Nat) (hpn : pc + 3 = pn) (ho : 0 ≤ (pc : Int) + o) (hp : ((pc : Int) + o).toNat = pc') {i : Int} (hi : x'.toInt = i) 
    (hy : i ≠ 0 → OwnEnds p e below G (T.setTop (mkF m pc' Ls st))) (hn : i = 0 → OwnEnds p e below G (T.setTop (mkF m pn Ls st))) : OwnEnds p e below G (T.setTop (mkF m pc Ls (.int x' :: st))) := by
  subst hpn
  by_cases k : x' = (0 : Int32)
  · exact own_st (fun _ q => XS.ifNo X.here C.1 rfl (hb C.2.2.2.1 hd) rfl ((if0 _ _).trans ((teq k).2)) q) (hn (by subst k; exact hi.symm.trans (rfl : (0 : Int32).toInt = 0)))
  · exact own_st (fun _ q => XS.ifYes X.here C.1 rfl rfl (hb C.2.2.2.1 hd) rfl ((if0 _ _).trans ((feq k).2)) ho hp q) (hy (fun q => k (Int32.toInt_inj.mp (hi.trans (q.trans (rfl : (0 : Int32).toInt = 0).symm)))))
theorem own_ifnonnull_y (X : Stand p l e R s m args below meth c T locs cells slots) (C : OwnCx p s m meth c Z y bs maxL rt) {b : Addr} {o : Int} (hd : decode bs pc = .ok (.ifnonnull o, 3)) (pc' : Nat) (ho : 0 ≤ (pc : Int) + o) (hp : ((pc : Int) + o).toNat = pc')
    (hr : OwnEnds p e below G (T.setTop (mkF m pc' Ls st))) : OwnEnds p e below G (T.setTop (mkF m pc Ls (.ref b :: st))) :=
  own_st (fun _ q => XS.ifnonnullYes X.here C.1 rfl rfl (hb C.2.2.2.1 hd) rfl ho hp q) hr
theorem own_ifnull_n (X : Stand p l e R s m args below meth c T locs cells slots) (C : OwnCx p s m meth c Z y bs maxL rt) {b : Addr} {o : Int} (hd : decode bs pc = .ok (.ifnull o, 3)) (pn : Nat) (hp : pc + 3 = pn)
    (hr : OwnEnds p e below G (T.setTop (mkF m pn Ls st))) : OwnEnds p e below G (T.setTop (mkF m pc Ls (.ref b :: st))) := by
  subst hp; exact own_st (fun _ q => XS.ifnullNo X.here C.1 rfl (hb C.2.2.2.1 hd) rfl q) hr
theorem own_ifnull_y (X : Stand p l e R s m args below meth c T locs cells slots) (C : OwnCx p s m meth c Z y bs maxL rt) {o : Int} (hd : decode bs pc = .ok (.ifnull o, 3)) (pc' : Nat) (ho : 0 ≤ (pc : Int) + o) (hp : ((pc : Int) + o).toNat = pc')
    (hr : OwnEnds p e below G (T.setTop (mkF m pc' Ls st))) : OwnEnds p e below G (T.setTop (mkF m pc Ls (.null :: st))) :=
  own_st (fun _ q => XS.ifnullYes X.here C.1 rfl rfl (hb C.2.2.2.1 hd) rfl ho hp q) hr
theorem own_ifnonnull_n (X : Stand p l e R s m args below meth c T locs cells slots) (C : OwnCx p s m meth c Z y bs maxL rt) {o : Int} (hd : decode bs pc = .ok (.ifnonnull o, 3)) (pn : Nat) (hp : pc + 3 = pn)
    (hr : OwnEnds p e below G (T.setTop (mkF m pn Ls st))) : OwnEnds p e below G (T.setTop (mkF m pc Ls (.null :: st))) := by
  subst hp; exact own_st (fun _ q => XS.ifnonnullNo X.here C.1 rfl (hb C.2.2.2.1 hd) rfl q) hr
theorem own_acmpeq (X : Stand p l e R s m args below meth c T locs cells slots) (C : OwnCx p s m meth c Z y bs maxL rt) {a b : Addr} {o : Int} (hd : decode bs pc = .ok (.if_acmp .eq o, 3)) (pn pc' : Nat) (hpn : pc + 3 = pn) (ho : 0 ≤ (pc : Int) + o) (hp : ((pc : Int) + o).toNat = pc')
    (hy : a = b → OwnEnds p e below G (T.setTop (mkF m pc' Ls st))) (hn : a ≠ b → OwnEnds p e below G (T.setTop (mkF m pn Ls st))) : OwnEnds p e below G (T.setTop (mkF m pc Ls (.ref b :: .ref a :: st))) := by
  subst hpn
  by_cases k : a = b
  · exact own_st (fun _ q => XS.acmpYes X.here C.1 rfl rfl (hb C.2.2.2.1 hd) rfl (by simp [if_acmp.holds, k]) ho hp q) (hy k)
  · exact own_st (fun _ q => XS.acmpNo X.here C.1 rfl (hb C.2.2.2.1 hd) rfl (by simp [if_acmp.holds, k]) q) (hn k)
theorem own_acmpne (X : Stand p l e R s m args below meth c T locs cells slots) (C : OwnCx p s m meth c Z y bs maxL rt) {a b : Addr} {o : Int} (hd : decode bs pc = .ok (.if_acmp .ne o, 3)) (pn pc' : Nat) (hpn : pc + 3 = pn) (ho : 0 ≤ (pc : Int) + o) (hp : ((pc : Int) + o).toNat = pc')
    (hy : a ≠ b → OwnEnds p e below G (T.setTop (mkF m pc' Ls st))) (hn : a = b → OwnEnds p e below G (T.setTop (mkF m pn Ls st))) : OwnEnds p e below G (T.setTop (mkF m pc Ls (.ref b :: .ref a :: st))) := by
  subst hpn
  by_cases k : a = b
  · exact own_st (fun _ q => XS.acmpNo X.here C.1 rfl (hb C.2.2.2.1 hd) rfl (by simp [if_acmp.holds, k]) q) (hn k)
  · exact own_st (fun _ q => XS.acmpYes X.here C.1 rfl rfl (hb C.2.2.2.1 hd) rfl (by simp [if_acmp.holds, k]) ho hp q) (hy k)
theorem own_leave (X : Stand p l e R s m args below meth c T locs cells slots) (C : OwnCx p s m meth c Z y bs maxL rt) (v : Option Value) (hv : meth.sig.returnType = none → v = none) (hce : cells ≤ ce) (hsl : slots ≤ sl) (hQ : Q v T.heap locs) {S : State}
    (k : ∀ fs, (∀ (f : JFrame) (acts : List Action), f.method = m → f.locked = none → f.entered = [] → (doReturn e (T.setTop f) acts v).1 = T.setFrames fs) → Steps p.tables e below S (T.setFrames fs)) : OwnEnds p e below (OwnG s ce sl Q) S := by
  obtain ⟨fs, hr, hrun, hended, hW, hsame⟩ := X.leave (v := v) hv C.2.2.2.2.2.2.1
  exact ⟨_, _, k fs hr, hrun, hended, _, _, rfl, hQ, ⟨_, rfl⟩, hW, hsame.mono hce hsl⟩
theorem own_return (X : Stand p l e R s m args below meth c T locs cells slots) (C : OwnCx p s m meth c Z y bs maxL rt) (hrt : rt = none) (hd : decode bs pc = .ok (.return_, 1)) (hce : cells ≤ ce) (hsl : slots ≤ sl) (hQ : Q none T.heap locs) : OwnEnds p e below (OwnG s ce sl Q) (T.setTop (mkF m pc Ls [])) := by
  subst hrt
  exact own_leave X C none (fun _ => rfl) hce hsl hQ fun fs hr => X.returnOut C.1 C.2.2.2.2.2.1 (hb C.2.2.2.1 hd) hr
theorem own_iretN (X : Stand p l e R s m args below meth c T locs cells slots) (C : OwnCx p s m meth c Z y bs maxL rt) {z : Int32} (t : FieldType) (hrt : rt = some t) (ht : t = .boolean ∨ t = .byte ∨ t = .char ∨ t = .short) (hd : decode bs pc = .ok (.ireturn, 1)) (hce : cells ≤ ce) (hsl : slots ≤ sl) (w : Int32) (hw : nar t z = w) (hQ : Q (some (.int w)) T.heap locs) : OwnEnds p e below (OwnG s ce sl Q) (T.setTop (mkF m pc Ls (.int z :: st))) := by
  subst hrt hw
  exact own_leave X C (some (.int (nar t z))) (fun q => by rw [C.2.2.2.2.2.1] at q; cases q) hce hsl hQ fun fs hr => retN X C.1 C.2.2.2.2.2.1 ht (hb C.2.2.2.1 hd) hr
theorem own_ireturn (X : Stand p l e R s m args below meth c T locs cells slots) (C : OwnCx p s m meth c Z y bs maxL rt) {z : Int32} (hrt : rt = some .int) (hd : decode bs pc = .ok (.ireturn, 1)) (hce : cells ≤ ce) (hsl : slots ≤ sl) (hQ : Q (some (.int z)) T.heap locs) : OwnEnds p e below (OwnG s ce sl Q) (T.setTop (mkF m pc Ls (.int z :: st))) := by
  subst hrt
  exact own_leave X C (some (.int z)) (fun q => by rw [C.2.2.2.2.2.1] at q; cases q) hce hsl hQ fun fs hr => retOut X C.1 C.2.2.2.2.2.1 rfl (Or.inl ⟨rfl, Or.inl rfl, z, rfl⟩) (hb C.2.2.2.1 hd) hr
theorem own_lreturn (X : Stand p l e R s m args below meth c T locs cells slots) (C : OwnCx p s m meth c Z y bs maxL rt) {z : Int64} (hrt : rt = some .long) (hd : decode bs pc = .ok (.lreturn, 1)) (hce : cells ≤ ce) (hsl : slots ≤ sl) (hQ : Q (some (.long z)) T.heap locs) : OwnEnds p e below (OwnG s ce sl Q) (T.setTop (mkF m pc Ls (.long z :: st))) := by
  subst hrt
  exact own_leave X C (some (.long z)) (fun q => by rw [C.2.2.2.2.2.1] at q; cases q) hce hsl hQ fun fs hr => retOut X C.1 C.2.2.2.2.2.1 rfl (Or.inr (Or.inl ⟨rfl, rfl, z, rfl⟩)) (hb C.2.2.2.1 hd) hr
theorem own_areturn (X : Stand p l e R s m args below meth c T locs cells slots) (C : OwnCx p s m meth c Z y bs maxL rt) {z : Value} (t : FieldType) (hrt : rt = some t) (ht : t.isReference = true) (hz : z.isRef = true) (hn : narrow t z = z) (hd : decode bs pc = .ok (.areturn, 1)) (hce : cells ≤ ce) (hsl : slots ≤ sl) (hQ : Q (some z) T.heap locs) : OwnEnds p e below (OwnG s ce sl Q) (T.setTop (mkF m pc Ls (z :: st))) := by
  subst hrt
  exact own_leave X C (some z) (fun q => by rw [C.2.2.2.2.2.1] at q; cases q) hce hsl hQ fun fs hr => retOut X C.1 C.2.2.2.2.2.1 hn (Or.inr (Or.inr (Or.inr (Or.inr ⟨rfl, ht, hz⟩)))) (hb C.2.2.2.1 hd) hr
theorem own_callS (X : Stand p l e R s m args below meth c T locs cells slots) (C : OwnCx p s m meth c Z y bs maxL rt) {idx : Nat} {y' : MethodName} {bs' : ByteArray} {maxL' : Nat} {rt' : Option FieldType} {rm : Room} {as' : Array Value} {Q' : Option Value → Heap → List Loc → Prop}
    (w1 : (Jvm.Cond.methodLink y.cls idx y').before a0 Z = true) (w2 : (Jvm.Cond.static y').before a0 Z = true) (w3 : (Jvm.Cond.initialized y'.cls).before a0 Z = true) (w4 : (Jvm.Cond.code y' bs' maxL' rt').before a0 Z = true) (hy : y'.cls ≠ "java/lang/invoke/MethodHandle" ∧ y'.cls ≠ "java/lang/invoke/VarHandle")
    (hM : OwnMet l Z y' bs' maxL' rt' [] rm as' h Q') (eT : T.heap = h) {ps : List FieldType} {r : Option FieldType} (hpd : parseMethodDescriptor y'.desc = some ⟨ps, r⟩) (argsL : List Value) (has : argsL.toArray = as') (hlen : argsL.length = ps.length) (hst : st = argsL.reverse ++ rest) (hsz : Ls.size = maxL)
    (W : Nat) (hW : (rest.map fun v => v.category).sum = W) (hf : rm.frames + 1 ≤ R.frames) (hlo : W + (maxL' + 11) + rm.locals ≤ R.locals) (hce : cells + rm.cells ≤ R.cells) (hsl : slots + rm.slots ≤ R.slots) (hd : decode bs pc = .ok (.invokestatic idx, 3)) (pc' : Nat) (hp : pc + 3 = pc')
    (hr : ∀ T' L v, Stand p l e R s m args below meth c T' (locs ++ L) (cells + rm.cells) (slots + rm.slots) → Q' v T'.heap L → OwnEnds p e below G (T'.setTop (mkF m pc' Ls (v.toList ++ rest)))) : OwnEnds p e below G (T.setTop (mkF m pc Ls st)) := by
  subst hp has hW
  obtain ⟨v, _, ⟨T', L, k, n⟩, -, X', ⟨L', hQ, l1, l2, l3⟩, stp⟩ := Jvm.LawKit.callS X C.1 C.2.2.1 (mvT C.2.1 w1) (mvT C.2.1 w2) (mvT C.2.1 w3) (mvT C.2.1 w4) hy (backOf (len := 3) (W := (rest.map fun v => v.category).sum) hM C.2.1 w4 w3 hf hlo) (g := mkF m pc Ls st) rfl (by rw [C.2.2.2.2.1]; exact hsz) (argsL := argsL) (rest := rest) (lenOf hpd hlen) hst (by show 2 * 0 + _ ≤ _; omega) (hb C.2.2.2.1 hd) (fun _ _ => ⟨rfl, eT, hce, hsl⟩)
  dsimp only [Pt.U, Pt.locs, Pt.cells, Pt.slots] at X' l1 l2 l3 stp hQ
  subst l1 l2 l3
  exact own_st stp (hr T' L' v X' hQ)
/-- a callee that returns w and leaves the heap alone -/
def OwnPure (w : Value) (h : Heap) : Option Value → Heap → List Loc → Prop := fun v h' L => v = some w ∧ h' = h ∧ L = []
theorem own_conv {ws : List Jvm.Cond} {rm : Room} {as' : Array Value} {w w' : Value} (H : OwnMet l Z y bs maxL rt ws rm as' h (OwnPure w h)) (q : w = w') : OwnMet l Z y bs maxL rt ws rm as' h (OwnPure w' h) := q ▸ H
theorem own_callP (X : Stand p l e R s m args below meth c T locs cells slots) (C : OwnCx p s m meth c Z y bs maxL rt) {idx : Nat} {y' : MethodName} {bs' : ByteArray} {maxL' : Nat} {rt' : Option FieldType} {rm : Room} {as' : Array Value} {w : Value}
    (w1 : (Jvm.Cond.methodLink y.cls idx y').before a0 Z = true) (w2 : (Jvm.Cond.static y').before a0 Z = true) (w3 : (Jvm.Cond.initialized y'.cls).before a0 Z = true) (w4 : (Jvm.Cond.code y' bs' maxL' rt').before a0 Z = true) (hy : y'.cls ≠ "java/lang/invoke/MethodHandle" ∧ y'.cls ≠ "java/lang/invoke/VarHandle")
    (hM : OwnMet l Z y' bs' maxL' rt' [] rm as' h (OwnPure w h)) (eT : T.heap = h) {ps : List FieldType} {r : Option FieldType} (hpd : parseMethodDescriptor y'.desc = some ⟨ps, r⟩) (argsL : List Value) (has : argsL.toArray = as') (hlen : argsL.length = ps.length) (hst : st = argsL.reverse ++ rest) (hsz : Ls.size = maxL)
    (W : Nat) (hW : (rest.map fun v => v.category).sum = W) (hf : rm.frames + 1 ≤ R.frames) (hlo : W + (maxL' + 11) + rm.locals ≤ R.locals) (hce : rm.cells = 0) (hsl : rm.slots = 0) (hc0 : cells ≤ R.cells) (hs0 : slots ≤ R.slots) (hd : decode bs pc = .ok (.invokestatic idx, 3)) (pc' : Nat) (hp : pc + 3 = pc')
    (hr : ∀ T', Stand p l e R s m args below meth c T' locs cells slots → T'.heap = h → OwnEnds p e below G (T'.setTop (mkF m pc' Ls (w :: rest)))) : OwnEnds p e below G (T.setTop (mkF m pc Ls st)) := by
  refine own_callS X C w1 w2 w3 w4 hy hM eT hpd argsL has hlen hst hsz W hW hf hlo (by omega) (by omega) hd pc' hp ?_
  rintro T' L v X' ⟨rfl, e, rfl⟩
  rw [List.append_nil, hce, hsl] at X'
  exact hr T' X' e
/-- a callee that leaves the heap alone and returns a value of which Pw says something -/
def OwnSome (Pw : Value → Prop) (h : Heap) : Option Value → Heap → List Loc → Prop := fun v h' L => (∃ w, v = some w ∧ Pw w) ∧ h' = h ∧ L = []
theorem own_callE (X : Stand p l e R s m args below meth c T locs cells slots) (C : OwnCx p s m meth c Z y bs maxL rt) {idx : Nat} {y' : MethodName} {bs' : ByteArray} {maxL' : Nat} {rt' : Option FieldType} {rm : Room} {as' : Array Value} {Pw : Value → Prop}
    (w1 : (Jvm.Cond.methodLink y.cls idx y').before a0 Z = true) (w2 : (Jvm.Cond.static y').before a0 Z = true) (w3 : (Jvm.Cond.initialized y'.cls).before a0 Z = true) (w4 : (Jvm.Cond.code y' bs' maxL' rt').before a0 Z = true) (hy : y'.cls ≠ "java/lang/invoke/MethodHandle" ∧ y'.cls ≠ "java/lang/invoke/VarHandle")
    (hM : OwnMet l Z y' bs' maxL' rt' [] rm as' h (OwnSome Pw h)) (eT : T.heap = h) {ps : List FieldType} {r : Option FieldType} (hpd : parseMethodDescriptor y'.desc = some ⟨ps, r⟩) (argsL : List Value) (has : argsL.toArray = as') (hlen : argsL.length = ps.length) (hst : st = argsL.reverse ++ rest) (hsz : Ls.size = maxL)
    (W : Nat) (hW : (rest.map fun v => v.category).sum = W) (hf : rm.frames + 1 ≤ R.frames) (hlo : W + (maxL' + 11) + rm.locals ≤ R.locals) (hce : rm.cells = 0) (hsl : rm.slots = 0) (hc0 : cells ≤ R.cells) (hs0 : slots ≤ R.slots) (hd : decode bs pc = .ok (.invokestatic idx, 3)) (pc' : Nat) (hp : pc + 3 = pc')
    (hr : ∀ T' w, Pw w → Stand p l e R s m args below meth c T' locs cells slots → T'.heap = h → OwnEnds p e below G (T'.setTop (mkF m pc' Ls (w :: rest)))) : OwnEnds p e below G (T.setTop (mkF m pc Ls st)) := by
  refine own_callS X C w1 w2 w3 w4 hy hM eT hpd argsL has hlen hst hsz W hW hf hlo (by omega) (by omega) hd pc' hp ?_
  rintro T' L v X' ⟨⟨w, rfl, hw⟩, e, rfl⟩
  rw [List.append_nil, hce, hsl] at X'
  exact hr T' w hw X' e
end OwnLayer
section OwnHeap
variable {p : Program} {l : Launch} {e : Env} {R : Room} {s : State} {m : MethodId} {args : Array Value} {below : List Frame} {meth : Method} {c : Code} {T : State} {locs : List Loc} {cells slots : Nat} {Z : State} {y : MethodName} {bs : ByteArray} {maxL : Nat} {rt : Option FieldType} {ce sl : Nat} {Q : Option Value → Heap → List Loc → Prop} {G : Outcome → State → Prop} {pc : Nat} {Ls : Array Slot} {st rest : List Value} {h h' : Heap} {a0 : Array Value} {a : Addr}
/-- an array: its length and what lies at each place -/
def OwnAr (Z : State) (h : Heap) (a : Addr) (ty : FieldType) (n : Nat) (f : Nat → Value) : Prop := ∃ cl : Cell, Arr Z h a cl ty ∧ cl.slots.size = n ∧ ∀ i, i < n → cl.slots[i]? = some (f i)
theorem OwnAr.lt {ty : FieldType} {n : Nat} {f : Nat → Value} (F : OwnAr Z h a ty n f) : a < h.size := by obtain ⟨cl, A, -⟩ := F; exact A.lt
theorem OwnAr.ext {ty : FieldType} {n : Nat} {f : Nat → Value} (F : OwnAr Z h a ty n f) (E : Ext h h') : OwnAr Z h' a ty n f := by obtain ⟨cl, A, r⟩ := F; exact ⟨cl, A.ext E, r⟩
theorem OwnAr.other {ty : FieldType} {n : Nat} {f : Nat → Value} {b : Addr} {sl : Nat} {v : Value} (F : OwnAr Z h a ty n f) (W : Wr h h' b sl v) (q : a ≠ b) : OwnAr Z h' a ty n f := by obtain ⟨cl, A, r⟩ := F; exact ⟨cl, A.other W q, r⟩
theorem OwnAr.keep {ty : FieldType} {n : Nat} {f : Nat → Value} {ws : List Addr} (F : OwnAr Z h a ty n f) (K : Keep h h' ws) (q : a ∉ ws) : OwnAr Z h' a ty n f := by obtain ⟨cl, A, r⟩ := F; exact ⟨cl, ⟨K.2.1 a cl A.1 q, A.2⟩, r⟩
theorem OwnAr.eqv {ty : FieldType} {n : Nat} {f g : Nat → Value} (F : OwnAr Z h a ty n f) (q : ∀ i, i < n → f i = g i) : OwnAr Z h a ty n g := by obtain ⟨cl, A, S, r⟩ := F; exact ⟨cl, A, S, fun i hi => by rw [r i hi, q i hi]⟩
theorem OwnAr.set {ty : FieldType} {n : Nat} {f : Nat → Value} {k : Nat} {v : Value} (F : OwnAr Z h a ty n f) (W : Wr h h' a k v) : OwnAr Z h' a ty n (fun i => if i = k then v else f i) := by
  obtain ⟨cl, A, S, r⟩ := F
  obtain ⟨cl', w1, w2, w3, w4⟩ := id W
  cases A.1.symm.trans w1
  refine ⟨cl.setSlot k v, A.same W, by rw [sz_set]; exact S, fun i hi => ?_⟩
  by_cases q : i = k
  · subst q; simp [Cell.setSlot, w3]
  · simp [Cell.setSlot, q, Array.getElem?_setIfInBounds_ne (Ne.symm q), r i hi]
theorem OwnAr.new {ty : FieldType} {n : Int32} {cA : ClassId} (A : Arr Z h a (newA cA ty n) ty) : OwnAr Z h a ty n.toNatClampNeg (fun _ => defaultValue ty) := ⟨_, A, sz_new _ _ _, fun i hi => by simp [newA, hi]⟩
theorem own_fr1 {k : Nat} {L : List Loc} {a : Addr} {sl : Nat} (N : Fr k L) (q : k ≤ a) : Fr k (L ++ [⟨a, sl⟩]) := N.app fun y hy => by cases List.mem_singleton.mp hy; exact q
theorem own_stak {C n d : String} {v : Value} (F : Sta Z h C n d v) (K : Keep h h' []) : Sta Z h' C n d v := by
  obtain ⟨cf, i, k, f, st, cell, h1, h2, h3, h4, h5, r⟩ := F
  exact ⟨cf, i, k, f, st, cell, h1, h2, h3, h4, K.2.1 _ _ h5 nin0, r⟩
theorem own_arl {a : Nat} {ty : FieldType} {n : Nat} {f : Nat → Value} (F : OwnAr Z h a ty n f) : a < h.size := F.lt
theorem own_exl {a : Nat} {K : String} (F : Exa Z h a K) : a < h.size := F.lt
theorem own_iteI {q : Prop} [Decidable q] {a b : Int32} : (if q then Value.int a else Value.int b) = Value.int (if q then a else b) := by split <;> rfl
theorem own_iteL {q : Prop} [Decidable q] {a b : Int64} : (if q then Value.long a else Value.long b) = Value.long (if q then a else b) := by split <;> rfl
theorem own_ne {x y : Nat} (q : x ≠ y) : @Ne Addr x y := q
theorem own_in {j : Int32} {n : Nat} (h0 : 0 ≤ j.toInt) (h1 : j.toInt < n) : ¬ (j < 0 ∨ n ≤ j.toNatClampNeg) := by
  rintro (q | q)
  · rw [Int32.lt_iff_toInt_lt] at q; have : (0 : Int32).toInt = 0 := rfl; omega
  · have e : j.toNatClampNeg = j.toInt.toNat := rfl
    omega
theorem own_len {n : Nat} (h : n < 2147483648) : (n.toInt32).toInt = n := by
  show (Int32.ofNat n).toInt = _
  rw [Int32.toInt_ofNat_of_lt (by omega)]
theorem own_iastore (X : Stand p l e R s m args below meth c T locs cells slots) (C : OwnCx p s m meth c Z y bs maxL rt) {v : Int32} {j : Int32} {n : Nat} {f : Nat → Value} (eT : T.heap = h) (F : OwnAr Z h a .int n f) (h0 : 0 ≤ j.toInt) (h1 : j.toInt < n) (hd : decode bs pc = .ok (.iastore, 1)) (pc' : Nat) (hp : pc + 1 = pc')
    (hr : ∀ T' h', Stand p l e R s m args below meth c T' (locs ++ [⟨a, j.toInt.toNat⟩]) cells slots → T'.heap = h' → Wr h h' a j.toInt.toNat (.int v) → OwnEnds p e below G (T'.setTop (mkF m pc' Ls st))) : OwnEnds p e below G (T.setTop (mkF m pc Ls ((.int v) :: .int j :: .ref a :: st))) := by
  subst hp
  obtain ⟨cl, A, S, r⟩ := F
  obtain ⟨T', h', X', e', W, stp⟩ := stI X C.1 C.2.1 eT A (j := j) (x := v) (by rw [S]; exact own_in h0 h1) (g := mkF m pc Ls _) rfl rfl (hb C.2.2.2.1 hd)
  exact own_st stp (hr T' h' X' e' W)
theorem own_lastore (X : Stand p l e R s m args below meth c T locs cells slots) (C : OwnCx p s m meth c Z y bs maxL rt) {v : Int64} {j : Int32} {n : Nat} {f : Nat → Value} (eT : T.heap = h) (F : OwnAr Z h a .long n f) (h0 : 0 ≤ j.toInt) (h1 : j.toInt < n) (hd : decode bs pc = .ok (.lastore, 1)) (pc' : Nat) (hp : pc + 1 = pc')
    (hr : ∀ T' h', Stand p l e R s m args below meth c T' (locs ++ [⟨a, j.toInt.toNat⟩]) cells slots → T'.heap = h' → Wr h h' a j.toInt.toNat (.long v) → OwnEnds p e below G (T'.setTop (mkF m pc' Ls st))) : OwnEnds p e below G (T.setTop (mkF m pc Ls ((.long v) :: .int j :: .ref a :: st))) := by
  subst hp
  obtain ⟨cl, A, S, r⟩ := F
  obtain ⟨T', h', X', e', W, stp⟩ := stJ X C.1 C.2.1 eT A (j := j) (x := v) (by rw [S]; exact own_in h0 h1) (g := mkF m pc Ls _) rfl rfl (hb C.2.2.2.1 hd)
  exact own_st stp (hr T' h' X' e' W)
theorem own_bastoreB (X : Stand p l e R s m args below meth c T locs cells slots) (C : OwnCx p s m meth c Z y bs maxL rt) {v : Int32} {j : Int32} {n : Nat} {f : Nat → Value} (eT : T.heap = h) (F : OwnAr Z h a .byte n f) (h0 : 0 ≤ j.toInt) (h1 : j.toInt < n) (hd : decode bs pc = .ok (.bastore, 1)) (pc' : Nat) (hp : pc + 1 = pc') (w : Int32) (hw : v.toInt8.toInt32 = w)
    (hr : ∀ T' h', Stand p l e R s m args below meth c T' (locs ++ [⟨a, j.toInt.toNat⟩]) cells slots → T'.heap = h' → Wr h h' a j.toInt.toNat (.int w) → OwnEnds p e below G (T'.setTop (mkF m pc' Ls st))) : OwnEnds p e below G (T.setTop (mkF m pc Ls (.int v :: .int j :: .ref a :: st))) := by
  subst hp hw
  obtain ⟨cl, A, S, r⟩ := F
  obtain ⟨T', h', X', e', W, stp⟩ := stB X C.1 C.2.1 eT A (j := j) (x := v) (by rw [S]; exact own_in h0 h1) (g := mkF m pc Ls _) rfl rfl (hb C.2.2.2.1 hd)
  exact own_st stp (hr T' h' X' e' W)
theorem own_castore (X : Stand p l e R s m args below meth c T locs cells slots) (C : OwnCx p s m meth c Z y bs maxL rt) {v : Int32} {j : Int32} {n : Nat} {f : Nat → Value} (eT : T.heap = h) (F : OwnAr Z h a .char n f) (h0 : 0 ≤ j.toInt) (h1 : j.toInt < n) (hd : decode bs pc = .ok (.castore, 1)) (pc' : Nat) (hp : pc + 1 = pc') (w : Int32) (hw : nar .char v = w)
    (hr : ∀ T' h', Stand p l e R s m args below meth c T' (locs ++ [⟨a, j.toInt.toNat⟩]) cells slots → T'.heap = h' → Wr h h' a j.toInt.toNat (.int w) → OwnEnds p e below G (T'.setTop (mkF m pc' Ls st))) : OwnEnds p e below G (T.setTop (mkF m pc Ls (.int v :: .int j :: .ref a :: st))) := by
  subst hp hw
  obtain ⟨cl, A, S, r⟩ := F
  obtain ⟨T', h', X', e', W, stp⟩ := stC X C.1 C.2.1 eT A (j := j) (x := v) (by rw [S]; exact own_in h0 h1) (g := mkF m pc Ls _) rfl rfl (hb C.2.2.2.1 hd)
  exact own_st stp (hr T' h' X' e' W)
theorem own_bastoreZ (X : Stand p l e R s m args below meth c T locs cells slots) (C : OwnCx p s m meth c Z y bs maxL rt) {v : Int32} {j : Int32} {n : Nat} {f : Nat → Value} (eT : T.heap = h) (F : OwnAr Z h a .boolean n f) (h0 : 0 ≤ j.toInt) (h1 : j.toInt < n) (hd : decode bs pc = .ok (.bastore, 1)) (pc' : Nat) (hp : pc + 1 = pc') (w : Int32) (hw : nar .boolean v = w)
    (hr : ∀ T' h', Stand p l e R s m args below meth c T' (locs ++ [⟨a, j.toInt.toNat⟩]) cells slots → T'.heap = h' → Wr h h' a j.toInt.toNat (.int w) → OwnEnds p e below G (T'.setTop (mkF m pc' Ls st))) : OwnEnds p e below G (T.setTop (mkF m pc Ls (.int v :: .int j :: .ref a :: st))) := by
  subst hp hw
  obtain ⟨cl, A, S, r⟩ := F
  obtain ⟨T', h', X', e', W, stp⟩ := stZ X C.1 C.2.1 eT A (j := j) (x := v) (by rw [S]; exact own_in h0 h1) (g := mkF m pc Ls _) rfl rfl (hb C.2.2.2.1 hd)
  exact own_st stp (hr T' h' X' e' W)
theorem own_iaload (X : Stand p l e R s m args below meth c T locs cells slots) (C : OwnCx p s m meth c Z y bs maxL rt) {j : Int32} {n : Nat} {f : Nat → Value} (eT : T.heap = h) (F : OwnAr Z h a .int n f) (h0 : 0 ≤ j.toInt) (h1 : j.toInt < n) (hd : decode bs pc = .ok (.iaload, 1)) (pc' : Nat) (hp : pc + 1 = pc') (v : Value) (hv : f j.toInt.toNat = v)
    (hr : OwnEnds p e below G (T.setTop (mkF m pc' Ls (v :: st)))) : OwnEnds p e below G (T.setTop (mkF m pc Ls (.int j :: .ref a :: st))) := by
  subst hp hv
  obtain ⟨cl, A, S, r⟩ := F
  exact own_st (fun _ q => X.iaload C.1 (j := j) (v := f j.toInt.toNat) (by rw [eT]; exact A.1) (State.isArrayOf_alike C.2.1.alike A.2.1) A.2.2 (by rw [S]; exact own_in h0 h1) (show cl.slots[j.toNatClampNeg]? = _ from r j.toInt.toNat (by omega)) (g := mkF m pc Ls _) rfl rfl (hb C.2.2.2.1 hd) _ q) hr
theorem own_laload (X : Stand p l e R s m args below meth c T locs cells slots) (C : OwnCx p s m meth c Z y bs maxL rt) {j : Int32} {n : Nat} {f : Nat → Value} (eT : T.heap = h) (F : OwnAr Z h a .long n f) (h0 : 0 ≤ j.toInt) (h1 : j.toInt < n) (hd : decode bs pc = .ok (.laload, 1)) (pc' : Nat) (hp : pc + 1 = pc') (v : Value) (hv : f j.toInt.toNat = v)
    (hr : OwnEnds p e below G (T.setTop (mkF m pc' Ls (v :: st)))) : OwnEnds p e below G (T.setTop (mkF m pc Ls (.int j :: .ref a :: st))) := by
  subst hp hv
  obtain ⟨cl, A, S, r⟩ := F
  exact own_st (fun _ q => X.laload C.1 (j := j) (v := f j.toInt.toNat) (by rw [eT]; exact A.1) (State.isArrayOf_alike C.2.1.alike A.2.1) A.2.2 (by rw [S]; exact own_in h0 h1) (show cl.slots[j.toNatClampNeg]? = _ from r j.toInt.toNat (by omega)) (g := mkF m pc Ls _) rfl rfl (hb C.2.2.2.1 hd) _ q) hr
theorem own_caload (X : Stand p l e R s m args below meth c T locs cells slots) (C : OwnCx p s m meth c Z y bs maxL rt) {j : Int32} {n : Nat} {f : Nat → Value} (eT : T.heap = h) (F : OwnAr Z h a .char n f) (h0 : 0 ≤ j.toInt) (h1 : j.toInt < n) (hd : decode bs pc = .ok (.caload, 1)) (pc' : Nat) (hp : pc + 1 = pc') (v : Value) (hv : f j.toInt.toNat = v)
    (hr : OwnEnds p e below G (T.setTop (mkF m pc' Ls (v :: st)))) : OwnEnds p e below G (T.setTop (mkF m pc Ls (.int j :: .ref a :: st))) := by
  subst hp hv
  obtain ⟨cl, A, S, r⟩ := F
  exact own_st (fun _ q => X.caload C.1 (j := j) (v := f j.toInt.toNat) (by rw [eT]; exact A.1) (State.isArrayOf_alike C.2.1.alike A.2.1) A.2.2 (by rw [S]; exact own_in h0 h1) (show cl.slots[j.toNatClampNeg]? = _ from r j.toInt.toNat (by omega)) (g := mkF m pc Ls _) rfl rfl (hb C.2.2.2.1 hd) _ q) hr
theorem own_baloadB (X : Stand p l e R s m args below meth c T locs cells slots) (C : OwnCx p s m meth c Z y bs maxL rt) {j : Int32} {n : Nat} {f : Nat → Value} (eT : T.heap = h) (F : OwnAr Z h a .byte n f) (h0 : 0 ≤ j.toInt) (h1 : j.toInt < n) (hd : decode bs pc = .ok (.baload, 1)) (pc' : Nat) (hp : pc + 1 = pc') (v : Value) (hv : f j.toInt.toNat = v)
    (hr : OwnEnds p e below G (T.setTop (mkF m pc' Ls (v :: st)))) : OwnEnds p e below G (T.setTop (mkF m pc Ls (.int j :: .ref a :: st))) := by
  subst hp hv
  obtain ⟨cl, A, S, r⟩ := F
  exact own_st (fun _ q => X.baloadBytes C.1 (j := j) (v := f j.toInt.toNat) (by rw [eT]; exact A.1) (State.isArrayOf_alike C.2.1.alike A.2.1) A.2.2 (by rw [S]; exact own_in h0 h1) (show cl.slots[j.toNatClampNeg]? = _ from r j.toInt.toNat (by omega)) (g := mkF m pc Ls _) rfl rfl (hb C.2.2.2.1 hd) _ q) hr
theorem own_baloadZ (X : Stand p l e R s m args below meth c T locs cells slots) (C : OwnCx p s m meth c Z y bs maxL rt) {j : Int32} {n : Nat} {f : Nat → Value} (eT : T.heap = h) (F : OwnAr Z h a .boolean n f) (h0 : 0 ≤ j.toInt) (h1 : j.toInt < n) (hd : decode bs pc = .ok (.baload, 1)) (pc' : Nat) (hp : pc + 1 = pc') (v : Value) (hv : f j.toInt.toNat = v)
    (hr : OwnEnds p e below G (T.setTop (mkF m pc' Ls (v :: st)))) : OwnEnds p e below G (T.setTop (mkF m pc Ls (.int j :: .ref a :: st))) := by
  subst hp hv
  obtain ⟨cl, A, S, r⟩ := F
  exact own_st (fun _ q => X.baloadBooleans C.1 (j := j) (v := f j.toInt.toNat) (by rw [eT]; exact A.1) (State.isArrayOf_alike C.2.1.alike A.2.1) A.2.2 (by rw [S]; exact own_in h0 h1) (show cl.slots[j.toNatClampNeg]? = _ from r j.toInt.toNat (by omega)) (g := mkF m pc Ls _) rfl rfl (hb C.2.2.2.1 hd) _ q) hr
theorem own_arraylength (X : Stand p l e R s m args below meth c T locs cells slots) (C : OwnCx p s m meth c Z y bs maxL rt) {ty : FieldType} {n : Nat} {f : Nat → Value} (eT : T.heap = h) (F : OwnAr Z h a ty n f) (hd : decode bs pc = .ok (.arraylength, 1)) (pc' : Nat) (hp : pc + 1 = pc') (hn : n < 2147483648)
    (hr : ∀ z : Int32, z.toInt = n → z = n.toInt32 → OwnEnds p e below G (T.setTop (mkF m pc' Ls (.int z :: st)))) : OwnEnds p e below G (T.setTop (mkF m pc Ls (.ref a :: st))) := by
  subst hp
  obtain ⟨cl, A, S, r⟩ := F
  have k := hr n.toInt32 (own_len hn) rfl
  rw [← S] at k
  exact own_st (fun _ q => X.arraylength C.1 (by rw [eT]; exact A.1) (State.isArrayOf_alike C.2.1.alike A.2.1) (g := mkF m pc Ls _) rfl rfl (hb C.2.2.2.1 hd) _ q) k
theorem own_newarray (X : Stand p l e R s m args below meth c T locs cells slots) (C : OwnCx p s m meth c Z y bs maxL rt) {aty : ArrayType} {n : Int32} (w : (Jvm.Cond.arrayClass (newarray.typeOf aty)).before a0 Z = true) (eT : T.heap = h) (hd : decode bs pc = .ok (.newarray aty, 2)) (pc' : Nat) (hp : pc + 2 = pc') (h0 : 0 ≤ n.toInt) (cap : Nat) (hcap : n.toInt ≤ cap) (hbig : cap * 8 ≤ 536870912) (hc : cells + 1 ≤ R.cells) (hl : slots + cap ≤ R.slots)
    (hr : ∀ T' h' b, b = h.size → Stand p l e R s m args below meth c T' locs (cells + 1) (slots + cap) → T'.heap = h' → Ext h h' → OwnAr Z h' b (newarray.typeOf aty) n.toInt.toNat (fun _ => defaultValue (newarray.typeOf aty)) → OwnEnds p e below G (T'.setTop (mkF m pc' Ls (.ref b :: st)))) : OwnEnds p e below G (T.setTop (mkF m pc Ls (.int n :: st))) := by
  subst hp
  have hn0 : ¬ n < 0 := fun q => by rw [Int32.lt_iff_toInt_lt] at q; have : (0 : Int32).toInt = 0 := rfl; omega
  obtain ⟨T', h', cA, X', e', E', A, stp⟩ := newP X C.1 C.2.1 w eT (g := mkF m pc Ls (.int n :: st)) rfl (hb C.2.2.2.1 hd) rfl hn0 (cap := cap) (by show n.toInt.toNat ≤ cap; omega) hbig hc hl
  exact own_st stp (hr T' h' _ rfl X' e' E' (OwnAr.new A))
theorem own_new (X : Stand p l e R s m args below meth c T locs cells slots) (C : OwnCx p s m meth c Z y bs maxL rt) {idx n : Nat} {K : String} (w : (Jvm.Cond.classLink y.cls idx K).before a0 Z = true) (wi : (Jvm.Cond.instantiable K n).before a0 Z = true) (wz : (Jvm.Cond.initialized K).before a0 Z = true) (eT : T.heap = h) (hd : decode bs pc = .ok (.new idx, 3)) (pc' : Nat) (hp : pc + 3 = pc') (hc : cells + 1 ≤ R.cells) (hl : slots + n ≤ R.slots)
    (hr : ∀ T' h' b, b = h.size → Stand p l e R s m args below meth c T' locs (cells + 1) (slots + n) → T'.heap = h' → Ext h h' → Exa Z h' b K → (∀ {O nm d : String} {ty : FieldType}, Laid Z a0 K O nm d → parseFieldDescriptor d = some ty → Fld Z h' b O nm d (defaultValue ty)) → OwnEnds p e below G (T'.setTop (mkF m pc' Ls (.ref b :: st)))) : OwnEnds p e below G (T.setTop (mkF m pc Ls st)) := by
  subst hp
  obtain ⟨T', h', X', e', E', A, D, -, stp⟩ := newO X C.1 C.2.1 C.2.2.1 w wi wz eT (g := mkF m pc Ls st) rfl (hb C.2.2.2.1 hd) hc hl
  exact own_st stp (hr T' h' _ rfl X' e' E' A D)
theorem own_getfield (X : Stand p l e R s m args below meth c T locs cells slots) (C : OwnCx p s m meth c Z y bs maxL rt) {idx : Nat} {R0 O n d host : String} {v : Value} (w : (Jvm.Cond.fieldLink y.cls idx R0 n d).before a0 Z = true ∨ (Jvm.Cond.fieldLinkNest y.cls idx R0 n d host).before a0 Z = true) (via : Via Z R0 O n d) (eT : T.heap = h) (F : Fld Z h a O n d v) (hd : decode bs pc = .ok (.getfield idx, 3)) (pc' : Nat) (hp : pc + 3 = pc')
    (hr : ∀ T', Stand p l e R s m args below meth c T' locs cells slots → T'.heap = h → OwnEnds p e below G (T'.setTop (mkF m pc' Ls (v :: st)))) : OwnEnds p e below G (T.setTop (mkF m pc Ls (.ref a :: st))) := by
  subst hp
  obtain ⟨T', X', e', stp⟩ := getF X C.1 C.2.1 C.2.2.1 w via eT F (g := mkF m pc Ls _) rfl rfl (hb C.2.2.2.1 hd)
  exact own_st stp (hr T' X' e')
theorem own_getstatic (X : Stand p l e R s m args below meth c T locs cells slots) (C : OwnCx p s m meth c Z y bs maxL rt) {idx : Nat} {R0 O n d host : String} {v : Value} (w : (Jvm.Cond.fieldLink y.cls idx R0 n d).before a0 Z = true ∨ (Jvm.Cond.fieldLinkNest y.cls idx R0 n d host).before a0 Z = true) (via : Via Z R0 O n d) (eT : T.heap = h) (F : Sta Z h O n d v) (hd : decode bs pc = .ok (.getstatic idx, 3)) (pc' : Nat) (hp : pc + 3 = pc')
    (hr : ∀ T', Stand p l e R s m args below meth c T' locs cells slots → T'.heap = h → OwnEnds p e below G (T'.setTop (mkF m pc' Ls (v :: st)))) : OwnEnds p e below G (T.setTop (mkF m pc Ls st)) := by
  subst hp
  obtain ⟨T', X', e', stp⟩ := getS2 X C.1 C.2.1 C.2.2.1 w via eT F (g := mkF m pc Ls st) rfl (hb C.2.2.2.1 hd)
  exact own_st stp (hr T' X' e')
theorem own_putfield (X : Stand p l e R s m args below meth c T locs cells slots) (C : OwnCx p s m meth c Z y bs maxL rt) {idx kk : Nat} {R0 O n d host K : String} {ty : FieldType} {v old : Value} (w : (Jvm.Cond.fieldLink y.cls idx R0 n d).before a0 Z = true ∨ (Jvm.Cond.fieldLinkNest y.cls idx R0 n d host).before a0 Z = true) (via : Via Z R0 O n d) (eT : T.heap = h) (F : Fld Z h a O n d old) (E : Exa Z h a K) (L : (Jvm.Cond.lays K O n d).before a0 Z = true ∨ ((Jvm.Cond.laysFinal K O n d).before a0 Z = true ∧ y.cls = O ∧ y.name = "<init>")) (wi : (Jvm.Cond.instantiable K kk).before a0 Z = true)
    (hty : parseFieldDescriptor d = some ty) (hn : narrow ty v = v) (hf : fits ty v = true) (hd : decode bs pc = .ok (.putfield idx, 3)) (pc' : Nat) (hp : pc + 3 = pc')
    (hr : ∀ T' h', Stand p l e R s m args below meth c T' (locs ++ [⟨a, Jvm.RoadKit.slotOf Z O n d⟩]) cells slots → T'.heap = h' → Wr h h' a (Jvm.RoadKit.slotOf Z O n d) v → OwnEnds p e below G (T'.setTop (mkF m pc' Ls st))) : OwnEnds p e below G (T.setTop (mkF m pc Ls (v :: .ref a :: st))) := by
  subst hp
  obtain ⟨T', h', X', e', W, stp⟩ := putF X C.1 C.2.1 C.2.2.1 w via eT F E (L.imp id fun q => ⟨q.1, q.2.1, C.2.2.2.2.2.2.2.trans q.2.2⟩) wi hty hn hf (g := mkF m pc Ls _) rfl rfl (hb C.2.2.2.1 hd)
  exact own_st stp (hr T' h' X' e' W)
theorem own_putfieldN (X : Stand p l e R s m args below meth c T locs cells slots) (C : OwnCx p s m meth c Z y bs maxL rt) {idx kk : Nat} {R0 O n d K : String} {ty : FieldType} {v v' old : Value} (w : (Jvm.Cond.fieldLink y.cls idx R0 n d).before a0 Z = true) (via : Via Z R0 O n d) (eT : T.heap = h) (F : Fld Z h a O n d old) (E : Exa Z h a K) (L : (Jvm.Cond.lays K O n d).before a0 Z = true ∨ ((Jvm.Cond.laysFinal K O n d).before a0 Z = true ∧ y.cls = O ∧ y.name = "<init>")) (wi : (Jvm.Cond.instantiable K kk).before a0 Z = true)
    (hty : parseFieldDescriptor d = some ty) (hn : narrow ty v = v') (hf : fits ty v' = true) (hd : decode bs pc = .ok (.putfield idx, 3)) (pc' : Nat) (hp : pc + 3 = pc')
    (hr : ∀ T' h', Stand p l e R s m args below meth c T' (locs ++ [⟨a, Jvm.RoadKit.slotOf Z O n d⟩]) cells slots → T'.heap = h' → Wr h h' a (Jvm.RoadKit.slotOf Z O n d) v' → OwnEnds p e below G (T'.setTop (mkF m pc' Ls st))) : OwnEnds p e below G (T.setTop (mkF m pc Ls (v :: .ref a :: st))) := by
  subst hp
  obtain ⟨T', h', X', e', W, stp⟩ := putFN X C.1 C.2.1 C.2.2.1 w via eT F E (L.imp id fun q => ⟨q.1, q.2.1, C.2.2.2.2.2.2.2.trans q.2.2⟩) wi hty hn hf (g := mkF m pc Ls _) rfl rfl (hb C.2.2.2.1 hd)
  exact own_st stp (hr T' h' X' e' W)
theorem own_initO (X : Stand p l e R s m args below meth c T locs cells slots) (C : OwnCx p s m meth c Z y bs maxL rt) {idx : Nat} (w1 : (Jvm.Cond.methodLink y.cls idx Lib.objectInit).before a0 Z = true) (w2 : (Jvm.Cond.instanceMethod Lib.objectInit).before a0 Z = true) (w3 : (Jvm.Cond.code Lib.objectInit object_method_1_code 1 none).before a0 Z = true) (eT : T.heap = h) (hsz : Ls.size = maxL) (hd : decode bs pc = .ok (.invokespecial idx, 3)) (pc' : Nat) (hp : pc + 3 = pc') (hf : 1 ≤ R.frames) (W : Nat) (hW : (st.map fun v => v.category).sum = W) (hl : W + 12 ≤ R.locals)
    (hr : ∀ T', Stand p l e R s m args below meth c T' locs cells slots → T'.heap = h → OwnEnds p e below G (T'.setTop (mkF m pc' Ls st))) : OwnEnds p e below G (T.setTop (mkF m pc Ls (.ref a :: st))) := by
  subst hp
  obtain ⟨T', X', e', stp⟩ := initO X C.1 C.2.1 C.2.2.1 w1 w2 w3 eT (g := mkF m pc Ls (.ref a :: st)) rfl (by rw [C.2.2.2.2.1]; exact hsz) (a := a) (rest := st) rfl (hb C.2.2.2.1 hd) hf (W := W) (by show 2 * 0 + _ ≤ _; omega) hl
  exact own_st stp (hr T' X' e')
theorem own_callI (X : Stand p l e R s m args below meth c T locs cells slots) (C : OwnCx p s m meth c Z y bs maxL rt) {idx : Nat} {y' : MethodName} {bs' : ByteArray} {maxL' : Nat} {rt' : Option FieldType} {rm : Room} {as' : Array Value} {Q' : Option Value → Heap → List Loc → Prop} (hrt' : rt' = none)
    (w1 : (Jvm.Cond.methodLink y.cls idx y').before a0 Z = true) (w2 : (Jvm.Cond.instanceMethod y').before a0 Z = true) (w3 : (Jvm.Cond.initialized y'.cls).before a0 Z = true) (w4 : (Jvm.Cond.code y' bs' maxL' rt').before a0 Z = true) (hy1 : y'.name = "<init>") (hy : y'.cls ≠ "java/lang/invoke/MethodHandle" ∧ y'.cls ≠ "java/lang/invoke/VarHandle")
    (hM : OwnMet l Z y' bs' maxL' rt' [] rm as' h Q') (eT : T.heap = h) {ps : List FieldType} {r : Option FieldType} (hpd : parseMethodDescriptor y'.desc = some ⟨ps, r⟩) (argsL : List Value) (has : (Value.ref a :: argsL).toArray = as') (hlen : argsL.length = ps.length) (hst : st = argsL.reverse ++ .ref a :: rest) (hsz : Ls.size = maxL)
    (W : Nat) (hW : (rest.map fun v => v.category).sum = W) (hf : rm.frames + 1 ≤ R.frames) (hlo : W + (maxL' + 11) + rm.locals ≤ R.locals) (hce : cells + rm.cells ≤ R.cells) (hsl : slots + rm.slots ≤ R.slots) (hd : decode bs pc = .ok (.invokespecial idx, 3)) (pc' : Nat) (hp : pc + 3 = pc')
    (hr : ∀ T' L v, Stand p l e R s m args below meth c T' (locs ++ L) (cells + rm.cells) (slots + rm.slots) → Q' v T'.heap L → OwnEnds p e below G (T'.setTop (mkF m pc' Ls (v.toList ++ rest)))) : OwnEnds p e below G (T.setTop (mkF m pc Ls st)) := by
  subst hp has hW hrt'
  obtain ⟨v, _, ⟨T', L, k, n⟩, -, X', ⟨L', hQ, l1, l2, l3⟩, stp⟩ := X.specialBack C.1 hy1 C.2.2.1 (mvT C.2.1 w1) (mvT C.2.1 w2) (mvT C.2.1 w4) hy (backOf (len := 3) (W := (rest.map fun v => v.category).sum) hM C.2.1 w4 w3 hf hlo) (g := mkF m pc Ls st) rfl (by rw [C.2.2.2.2.1]; exact hsz) (Steps.refl _) (a := a) (argsL := argsL) (rest := rest) (lenOf hpd hlen) hst (by show 2 * 0 + _ ≤ _; omega) (hb C.2.2.2.1 hd) (fun _ _ => ⟨rfl, eT, hce, hsl⟩)
  dsimp only [Pt.U, Pt.locs, Pt.cells, Pt.slots] at X' l1 l2 l3 stp hQ
  subst l1 l2 l3
  exact own_tr stp (hr T' L' v X' hQ)
theorem own_callV (X : Stand p l e R s m args below meth c T locs cells slots) (C : OwnCx p s m meth c Z y bs maxL rt) {idx : Nat} {K : String} {y' : MethodName} {bs' : ByteArray} {maxL' : Nat} {rt' : Option FieldType} {rm : Room} {as' : Array Value} {Q' : Option Value → Heap → List Loc → Prop}
    (w1 : (Jvm.Cond.methodLink y.cls idx y').before a0 Z = true) (wd : (Jvm.Cond.declares y').before a0 Z = true) (ws : (Jvm.Cond.selects K y' y').before a0 Z = true) (w2 : (Jvm.Cond.instanceMethod y').before a0 Z = true) (w3 : (Jvm.Cond.initialized y'.cls).before a0 Z = true) (w4 : (Jvm.Cond.code y' bs' maxL' rt').before a0 Z = true) (hy : y'.cls ≠ "java/lang/invoke/MethodHandle" ∧ y'.cls ≠ "java/lang/invoke/VarHandle") (E : Exa Z h a K)
    (hM : OwnMet l Z y' bs' maxL' rt' [] rm as' h Q') (eT : T.heap = h) {ps : List FieldType} {r : Option FieldType} (hpd : parseMethodDescriptor y'.desc = some ⟨ps, r⟩) (argsL : List Value) (has : (Value.ref a :: argsL).toArray = as') (hlen : argsL.length = ps.length) (hst : st = argsL.reverse ++ .ref a :: rest) (hsz : Ls.size = maxL)
    (W : Nat) (hW : (rest.map fun v => v.category).sum = W) (hf : rm.frames + 1 ≤ R.frames) (hlo : W + (maxL' + 11) + rm.locals ≤ R.locals) (hce : cells + rm.cells ≤ R.cells) (hsl : slots + rm.slots ≤ R.slots) (hd : decode bs pc = .ok (.invokevirtual idx, 3)) (pc' : Nat) (hp : pc + 3 = pc')
    (hr : ∀ T' L v, Stand p l e R s m args below meth c T' (locs ++ L) (cells + rm.cells) (slots + rm.slots) → Q' v T'.heap L → OwnEnds p e below G (T'.setTop (mkF m pc' Ls (v.toList ++ rest)))) : OwnEnds p e below G (T.setTop (mkF m pc Ls st)) := by
  subst hp has hW
  obtain ⟨cq, kq, qa, qb, qc⟩ := isOf C.2.1 eT E
  obtain ⟨v, _, ⟨T', L, k, n⟩, -, X', ⟨L', hQ, l1, l2, l3⟩, stp⟩ := X.virtualBack C.1 (y := y') (z := y') C.2.2.1 (mvT C.2.1 w1) (mvT C.2.1 wd) (notFace_of_selects (args := #[]) (mvT C.2.1 ws)) (mvT C.2.1 ws) (mvT C.2.1 w2) hy (backOf (len := 3) (W := (rest.map fun v => v.category).sum) hM C.2.1 w4 w3 hf hlo) qa qc (g := mkF m pc Ls st) rfl (by rw [C.2.2.2.2.1]; exact hsz) (Steps.refl _) (argsL := argsL) (rest := rest) (lenOf hpd hlen) hst (by show 2 * 0 + _ ≤ _; omega) (hb C.2.2.2.1 hd) (fun _ _ => ⟨rfl, eT, hce, hsl⟩)
  dsimp only [Pt.U, Pt.locs, Pt.cells, Pt.slots] at X' l1 l2 l3 stp hQ
  subst l1 l2 l3
  exact own_tr stp (hr T' L' v X' hQ)
theorem own_instY (X : Stand p l e R s m args below meth c T locs cells slots) (C : OwnCx p s m meth c Z y bs maxL rt) {idx : Nat} {K : String} (w : (Jvm.Cond.classLink y.cls idx K).before a0 Z = true) (eT : T.heap = h) (F : Ins Z h a K true) (hd : decode bs pc = .ok (.instanceof idx, 3)) (pc' : Nat) (hp : pc + 3 = pc')
    (hr : ∀ T', Stand p l e R s m args below meth c T' locs cells slots → T'.heap = h → OwnEnds p e below G (T'.setTop (mkF m pc' Ls (.int 1 :: st)))) : OwnEnds p e below G (T.setTop (mkF m pc Ls (.ref a :: st))) := by
  subst hp
  obtain ⟨T', X', e', stp⟩ := instY X C.1 C.2.1 C.2.2.1 w eT F (g := mkF m pc Ls _) rfl rfl (hb C.2.2.2.1 hd)
  exact own_st stp (hr T' X' e')
theorem own_castY (X : Stand p l e R s m args below meth c T locs cells slots) (C : OwnCx p s m meth c Z y bs maxL rt) {idx : Nat} {K : String} (w : (Jvm.Cond.classLink y.cls idx K).before a0 Z = true) (eT : T.heap = h) (F : Ins Z h a K true) (hd : decode bs pc = .ok (.checkcast idx, 3)) (pc' : Nat) (hp : pc + 3 = pc')
    (hr : ∀ T', Stand p l e R s m args below meth c T' locs cells slots → T'.heap = h → OwnEnds p e below G (T'.setTop (mkF m pc' Ls (.ref a :: st)))) : OwnEnds p e below G (T.setTop (mkF m pc Ls (.ref a :: st))) := by
  subst hp
  obtain ⟨T', X', e', stp⟩ := castY X C.1 C.2.1 C.2.2.1 w eT F (g := mkF m pc Ls (.ref a :: st)) rfl (rest := st) rfl (hb C.2.2.2.1 hd)
  exact own_st stp (hr T' X' e')
end OwnHeap
section OwnWide
variable {p : Program} {l : Launch} {e : Env} {R : Room} {s : State} {m : MethodId} {args : Array Value} {below : List Frame} {meth : Method} {c : Code} {T : State} {locs : List Loc} {cells slots : Nat} {Z : State} {y : MethodName} {bs : ByteArray} {maxL : Nat} {rt : Option FieldType} {ce sl : Nat} {Q : Option Value → Heap → List Loc → Prop} {G : Outcome → State → Prop} {pc : Nat} {Ls : Array Slot} {st rest : List Value} {h h' : Heap} {a0 : Array Value} {a : Nat} {vm0 : Vm} {k0 : Nat}
def OwnGW (s : State) (ce sl : Nat) (Q : Option Value → Heap → List Loc → Prop) : Outcome → State → Prop := fun o s₂ => ∃ v L, o = .returned v ∧ Q v s₂.heap L ∧ ReturnedEndW s o s₂ L ce sl
def OwnMetW (l : Launch) (Z : State) (y : MethodName) (bs : ByteArray) (maxL : Nat) (rt : Option FieldType) (ws : List Jvm.Cond) (rm : Room) (as' : Array Value) (h : Heap) (Q : Option Value → Heap → List Loc → Prop) : Prop :=
  MetFree l y (head1 (Jvm.Cond.code y bs maxL rt :: ws) rm) (fun a U => a = as' ∧ Z.Warmed39 U.vm ∧ U.heap = h) (fun _ _ _ _ _ => True) (fun _ U o U' => ∃ v L, o = .returned v ∧ Q v U'.heap L ∧ ReturnedEndW U o U' L rm.cells rm.slots)
def OwnMetWP (l : Launch) (Z : State) (y : MethodName) (bs : ByteArray) (maxL : Nat) (rt : Option FieldType) (ws : List Jvm.Cond) (rm : Room) (as' : Array Value) (h : Heap) (PX : State → Prop) (Q : Option Value → Heap → List Loc → Prop) : Prop :=
  MetFree l y (head1 (Jvm.Cond.code y bs maxL rt :: ws) rm) (fun a U => a = as' ∧ Z.Warmed39 U.vm ∧ U.heap = h ∧ PX U) (fun _ _ _ _ _ => True) (fun _ U o U' => ∃ v L, o = .returned v ∧ Q v U'.heap L ∧ ReturnedEndW U o U' L rm.cells rm.slots)
theorem own_metW {ws : List Jvm.Cond} {rm : Room} {as' : Array Value} (H : OwnMetWP l Z y bs maxL rt ws rm as' h (fun _ => True) Q) : OwnMetW l Z y bs maxL rt ws rm as' h Q :=
  fun p e ha hc hk s m args below hf happ hP hK => H p e ha hc hk s m args below hf happ ⟨hP.1, hP.2.1, hP.2.2, trivial⟩ hK
theorem own_enterW {ws : List Jvm.Cond} {rm : Room} {as' : Array Value} {f0 : MethodId → JFrame} {PX : State → Prop} (hp : plainFor y = true) (hf : ∀ m, entryFrame m as' maxL = f0 m)
    (H : ∀ p e s m below meth c T, Stand p l e rm (s.setVm s.vm) m as' below meth c T [] 0 0 → OwnCx p (s.setVm s.vm) m meth c Z y bs maxL rt → T.heap = h → s.heap = h → PX s → s.Since s.vm 0 → OwnEnds p e below (OwnGW s rm.cells rm.slots Q) (T.setTop (f0 m))) : OwnMetWP l Z y bs maxL rt ws rm as' h PX Q := by
  refine MetFree.of_bodySF hp hisR ?_
  intro p e s m args below meth c s₁ Bd hml0 hP hK
  obtain ⟨rfl, hZ, hh, hPX⟩ := hP
  have k := H p e s m below meth c s₁ (Stand.of_body Bd) ⟨Bd.exec, hZ, findClass_of_methodNamed Bd.named, Bd.bytes, hml0, Bd.returns, Bd.notSynchronized, (name_of_methodNamed Bd.named Bd.method).1⟩ (by rw [← hh, Bd.state]; rfl) hh hPX ((State.WarmedH.refl s).since 0)
  rw [← hf m] at k
  exact k
theorem own_leaveW (X : Stand p l e R (s.setVm vm0) m args below meth c T locs cells slots) (C : OwnCx p (s.setVm vm0) m meth c Z y bs maxL rt) (hS : s.Since vm0 k0) (hk : k0 ≤ T.heap.size) (v : Option Value) (hv : meth.sig.returnType = none → v = none) (hce : cells ≤ ce) (hsl : slots ≤ sl) (hQ : Q v T.heap locs) {S : State}
    (k : ∀ fs, (∀ (f : JFrame) (acts : List Action), f.method = m → f.locked = none → f.entered = [] → (doReturn e (T.setTop f) acts v).1 = T.setFrames fs) → Steps p.tables e below S (T.setFrames fs)) : OwnEnds p e below (OwnGW s ce sl Q) S := by
  obtain ⟨fs, hr, hrun, hended, r1, r2, r3, r4⟩ := X.leaveW hS hk (v := v) hv C.2.2.2.2.2.2.1
  exact ⟨_, _, k fs hr, hrun, hended, _, _, rfl, hQ, r1, r2, r3, r4.mono hce hsl⟩
theorem own_returnW (X : Stand p l e R (s.setVm vm0) m args below meth c T locs cells slots) (C : OwnCx p (s.setVm vm0) m meth c Z y bs maxL rt) (hS : s.Since vm0 k0) (hk : k0 ≤ T.heap.size) (hrt : rt = none) (hd : decode bs pc = .ok (.return_, 1)) (hce : cells ≤ ce) (hsl : slots ≤ sl) (hQ : Q none T.heap locs) : OwnEnds p e below (OwnGW s ce sl Q) (T.setTop (mkF m pc Ls [])) := by
  subst hrt
  exact own_leaveW X C hS hk none (fun _ => rfl) hce hsl hQ fun fs hr => X.returnOut C.1 C.2.2.2.2.2.1 (hb C.2.2.2.1 hd) hr
theorem own_iretNW (X : Stand p l e R (s.setVm vm0) m args below meth c T locs cells slots) (C : OwnCx p (s.setVm vm0) m meth c Z y bs maxL rt) (hS : s.Since vm0 k0) (hk : k0 ≤ T.heap.size) {z : Int32} (t : FieldType) (hrt : rt = some t) (ht : t = .boolean ∨ t = .byte ∨ t = .char ∨ t = .short) (hd : decode bs pc = .ok (.ireturn, 1)) (hce : cells ≤ ce) (hsl : slots ≤ sl) (w : Int32) (hw : nar t z = w) (hQ : Q (some (.int w)) T.heap locs) : OwnEnds p e below (OwnGW s ce sl Q) (T.setTop (mkF m pc Ls (.int z :: st))) := by
  subst hrt hw
  exact own_leaveW X C hS hk (some (.int (nar t z))) (fun q => by rw [C.2.2.2.2.2.1] at q; cases q) hce hsl hQ fun fs hr => retN X C.1 C.2.2.2.2.2.1 ht (hb C.2.2.2.1 hd) hr
theorem own_areturnW (X : Stand p l e R (s.setVm vm0) m args below meth c T locs cells slots) (C : OwnCx p (s.setVm vm0) m meth c Z y bs maxL rt) (hS : s.Since vm0 k0) (hk : k0 ≤ T.heap.size) {z : Value} (t : FieldType) (hrt : rt = some t) (ht : t.isReference = true) (hz : z.isRef = true) (hn : narrow t z = z) (hd : decode bs pc = .ok (.areturn, 1)) (hce : cells ≤ ce) (hsl : slots ≤ sl) (hQ : Q (some z) T.heap locs) : OwnEnds p e below (OwnGW s ce sl Q) (T.setTop (mkF m pc Ls (z :: st))) := by
  subst hrt
  exact own_leaveW X C hS hk (some z) (fun q => by rw [C.2.2.2.2.2.1] at q; cases q) hce hsl hQ fun fs hr => retOut X C.1 C.2.2.2.2.2.1 hn (Or.inr (Or.inr (Or.inr (Or.inr ⟨rfl, ht, hz⟩)))) (hb C.2.2.2.1 hd) hr
theorem own_ldcS (X : Stand p l e R (s.setVm vm0) m args below meth c T locs cells slots) (C : OwnCx p (s.setVm vm0) m meth c Z y bs maxL rt) {idx : Nat} {text : String} (w : (Jvm.Cond.stringLink y.cls idx text).before a0 Z = true) (wS : ∀ a ∈ Bundle.stringAtoms, a.before a0 Z = true) (eT : T.heap = h) (hS : s.Since vm0 k0) (hk : k0 ≤ h.size) (hd : decode bs pc = .ok (.ldc idx, 2)) (pc' : Nat) (hp : pc + 2 = pc') (n : Nat) (hn : 4 * text.toList.length ≤ n) (hbig : n ≤ 536870912) (hc : cells + 2 ≤ R.cells) (hl : slots + (n + 4) ≤ R.slots)
    (hr : ∀ (a : Nat) T' h' k1, Stand p l e R (s.setVm T'.vm) m args below meth c T' locs (cells + 2) (slots + (n + 4)) → OwnCx p (s.setVm T'.vm) m meth c Z y bs maxL rt → T'.heap = h' → Ext h h' → s.Since T'.vm k1 → k1 ≤ h'.size → OwnEnds p e below G (T'.setTop (mkF m pc' Ls (.ref a :: st)))) : OwnEnds p e below G (T.setTop (mkF m pc Ls st)) := by
  subst hp
  obtain ⟨a, T', h', k1, X', e', E', hS', hk', hZ', ho', stp⟩ := ldcS X C.1 C.2.1 C.2.2.1 w wS eT hS hk (g := mkF m pc Ls st) rfl (hb C.2.2.2.1 hd) hn hbig hc hl
  exact own_st stp (hr a T' h' k1 X' ⟨C.1, hZ', ho', C.2.2.2⟩ e' E' hS' hk')
theorem own_arv {b : Nat} {k : ClassId} {ty : FieldType} {z : Int32} {vs : List Value} {d : Value} (A : Arv Z h b k ty z vs d) (q : z.toNatClampNeg = vs.length) : OwnAr Z h b ty vs.length (fun i => vs.getD i d) := by
  obtain ⟨cl, A, -, S, -, H, -⟩ := A
  exact ⟨cl, A, S.trans q, fun i hi => H i (by omega)⟩
theorem own_ldcSV (X : Stand p l e R (s.setVm vm0) m args below meth c T locs cells slots) (C : OwnCx p (s.setVm vm0) m meth c Z y bs maxL rt) {idx : Nat} {text : String} {Ts : List String} (w : (Jvm.Cond.stringLink y.cls idx text).before a0 Z = true) (wS : ∀ a ∈ Bundle.stringAtoms, a.before a0 Z = true) (eT : T.heap = h) (hS : s.Since vm0 k0) (hk : k0 ≤ h.size) (N : Fr s.heap.size locs) (hkeep : ∀ (b : Addr) (cl : Cell), Z.heap[b]? = some cl → s.heap[b]? = some cl) (I : IB Z vm0 Ts) (hnot : text ∉ Ts) (hh : Jvm.Lit.constHeld Z y.cls idx) (hcw : Jvm.Lit.compactW.before a0 Z = true)
    {vs : List Value} {z : Int32} (ht : (∀ c ∈ text.toList, c.toNat < 256) ∧ text.toList.map (fun c => Value.int (Jvm.Lit.byteI c.toNat.toUInt16)) = vs) (hz : ¬ z < 0) (hlv : z.toNatClampNeg = vs.length)
    (hd : decode bs pc = .ok (.ldc idx, 2)) (pc' : Nat) (hp : pc + 2 = pc') (n : Nat) (hn : 4 * text.toList.length ≤ n) (hbig : n ≤ 536870912) (hc : cells + 2 ≤ R.cells) (hl : slots + (n + 4) ≤ R.slots)
    (hr : ∀ (a b : Nat) T' h' k1, Stand p l e R (s.setVm T'.vm) m args below meth c T' locs (cells + 2) (slots + (n + 4)) → OwnCx p (s.setVm T'.vm) m meth c Z y bs maxL rt → T'.heap = h' → Ext h h' → s.Since T'.vm k1 → k1 ≤ h'.size → Exa Z h' a "java/lang/String" → Fld Z h' a "java/lang/String" "coder" "B" (.int 0) → Fld Z h' a "java/lang/String" "value" "[B" (.ref b) → OwnAr Z h' b .byte vs.length (fun i => vs.getD i (.int 0)) → IB Z T'.vm (text :: Ts) → OwnEnds p e below G (T'.setTop (mkF m pc' Ls (.ref a :: st)))) : OwnEnds p e below G (T.setTop (mkF m pc Ls st)) := by
  subst hp
  obtain ⟨a, T', h', k1, b, k, X', e', E', hS', hk', hZ', ho', r1, r2, r3, r4, -, -, r7, stp⟩ := ldcSV X C.1 C.2.1 C.2.2.1 w wS eT hS hk N hkeep I hnot hh hcw ht hz hlv (g := mkF m pc Ls st) rfl (hb C.2.2.2.1 hd) hn hbig hc hl
  exact own_st stp (hr a b T' h' k1 X' ⟨C.1, hZ', ho', C.2.2.2⟩ e' E' hS' hk' r1 r2 r3 (own_arv r4 hlv) r7)
theorem own_callIW (X : Stand p l e R (s.setVm vm0) m args below meth c T locs cells slots) (C : OwnCx p (s.setVm vm0) m meth c Z y bs maxL rt) {idx : Nat} {y' : MethodName} {bs' : ByteArray} {maxL' : Nat} {rt' : Option FieldType} {rm : Room} {as' : Array Value} {Q' : Option Value → Heap → List Loc → Prop} (hrt' : rt' = none)
    (w1 : (Jvm.Cond.methodLink y.cls idx y').before a0 Z = true) (w2 : (Jvm.Cond.instanceMethod y').before a0 Z = true) (w3 : (Jvm.Cond.initialized y'.cls).before a0 Z = true) (w4 : (Jvm.Cond.code y' bs' maxL' rt').before a0 Z = true) (hy1 : y'.name = "<init>") (hy : y'.cls ≠ "java/lang/invoke/MethodHandle" ∧ y'.cls ≠ "java/lang/invoke/VarHandle")
    (hM : OwnMetW l Z y' bs' maxL' rt' [] rm as' h Q') (eT : T.heap = h) (hS : s.Since vm0 k0) (hk : k0 ≤ T.heap.size) {ps : List FieldType} {r : Option FieldType} (hpd : parseMethodDescriptor y'.desc = some ⟨ps, r⟩) (argsL : List Value) (has : (Value.ref a :: argsL).toArray = as') (hlen : argsL.length = ps.length) (hst : st = argsL.reverse ++ .ref a :: rest) (hsz : Ls.size = maxL)
    (W : Nat) (hW : (rest.map fun v => v.category).sum = W) (hf : rm.frames + 1 ≤ R.frames) (hlo : W + (maxL' + 11) + rm.locals ≤ R.locals) (hce : cells + rm.cells ≤ R.cells) (hsl : slots + rm.slots ≤ R.slots) (hd : decode bs pc = .ok (.invokespecial idx, 3)) (pc' : Nat) (hp : pc + 3 = pc')
    (hr : ∀ T' L v, Stand p l e R (s.setVm T'.vm) m args below meth c T' (locs ++ L) (cells + rm.cells) (slots + rm.slots) → OwnCx p (s.setVm T'.vm) m meth c Z y bs maxL rt → s.Since T'.vm T'.heap.size → Q' v T'.heap L → OwnEnds p e below G (T'.setTop (mkF m pc' Ls (v.toList ++ rest)))) : OwnEnds p e below G (T.setTop (mkF m pc Ls st)) := by
  subst hp has hW hrt'
  obtain ⟨v, _, ⟨T', L, k, n⟩, -, X', hS2, hg2, ⟨L', hQ, l1, l2, l3⟩, stp⟩ := X.specialBackS C.1 hy1 C.2.2.1 (mvT C.2.1 w1) (mvT C.2.1 w2) (mvT C.2.1 w4) hy (backOfS (len := 3) (W := (rest.map fun v => v.category).sum) hM C.2.1 w4 w3 hf hlo) (g := mkF m pc Ls st) rfl (by rw [C.2.2.2.2.1]; exact hsz) (Steps.refl _) (a := a) (argsL := argsL) (rest := rest) (lenOf hpd hlen) hst (by show 2 * 0 + _ ≤ _; omega) (hb C.2.2.2.1 hd) (fun _ _ => ⟨rfl, eT, hce, hsl⟩)
  dsimp only [Pt.U, Pt.locs, Pt.cells, Pt.slots] at X' l1 l2 l3 stp hQ hS2 hg2
  subst l1 l2 l3
  obtain ⟨Y, hS3, hZ3, ho3⟩ := rebS hS hk X' hS2 hg2 C.2.1 C.2.2.1
  exact own_tr stp (hr T' L' v Y ⟨C.1, hZ3, ho3, C.2.2.2⟩ hS3 hQ)
theorem own_callSW (X : Stand p l e R (s.setVm vm0) m args below meth c T locs cells slots) (C : OwnCx p (s.setVm vm0) m meth c Z y bs maxL rt) {idx : Nat} {y' : MethodName} {bs' : ByteArray} {maxL' : Nat} {rt' : Option FieldType} {rm : Room} {as' : Array Value} {Q' : Option Value → Heap → List Loc → Prop}
    (w1 : (Jvm.Cond.methodLink y.cls idx y').before a0 Z = true) (w2 : (Jvm.Cond.static y').before a0 Z = true) (w3 : (Jvm.Cond.initialized y'.cls).before a0 Z = true) (w4 : (Jvm.Cond.code y' bs' maxL' rt').before a0 Z = true) (hy : y'.cls ≠ "java/lang/invoke/MethodHandle" ∧ y'.cls ≠ "java/lang/invoke/VarHandle")
    (hM : OwnMetW l Z y' bs' maxL' rt' [] rm as' h Q') (eT : T.heap = h) (hS : s.Since vm0 k0) (hk : k0 ≤ T.heap.size) {ps : List FieldType} {r : Option FieldType} (hpd : parseMethodDescriptor y'.desc = some ⟨ps, r⟩) (argsL : List Value) (has : argsL.toArray = as') (hlen : argsL.length = ps.length) (hst : st = argsL.reverse ++ rest) (hsz : Ls.size = maxL)
    (W : Nat) (hW : (rest.map fun v => v.category).sum = W) (hf : rm.frames + 1 ≤ R.frames) (hlo : W + (maxL' + 11) + rm.locals ≤ R.locals) (hce : cells + rm.cells ≤ R.cells) (hsl : slots + rm.slots ≤ R.slots) (hd : decode bs pc = .ok (.invokestatic idx, 3)) (pc' : Nat) (hp : pc + 3 = pc')
    (hr : ∀ T' L v, Stand p l e R (s.setVm T'.vm) m args below meth c T' (locs ++ L) (cells + rm.cells) (slots + rm.slots) → OwnCx p (s.setVm T'.vm) m meth c Z y bs maxL rt → s.Since T'.vm T'.heap.size → Q' v T'.heap L → OwnEnds p e below G (T'.setTop (mkF m pc' Ls (v.toList ++ rest)))) : OwnEnds p e below G (T.setTop (mkF m pc Ls st)) := by
  subst hp has hW
  obtain ⟨v, _, ⟨T', L, k, n⟩, -, X', hS2, hg2, ⟨L', hQ, l1, l2, l3⟩, stp⟩ := callSS X C.1 C.2.2.1 (mvT C.2.1 w1) (mvT C.2.1 w2) (mvT C.2.1 w3) (mvT C.2.1 w4) hy (backOfS (len := 3) (W := (rest.map fun v => v.category).sum) hM C.2.1 w4 w3 hf hlo) (g := mkF m pc Ls st) rfl (by rw [C.2.2.2.2.1]; exact hsz) (argsL := argsL) (rest := rest) (lenOf hpd hlen) hst (by show 2 * 0 + _ ≤ _; omega) (hb C.2.2.2.1 hd) (fun _ _ => ⟨rfl, eT, hce, hsl⟩)
  dsimp only [Pt.U, Pt.locs, Pt.cells, Pt.slots] at X' l1 l2 l3 stp hQ hS2 hg2
  subst l1 l2 l3
  obtain ⟨Y, hS3, hZ3, ho3⟩ := rebS hS hk X' hS2 hg2 C.2.1 C.2.2.1
  exact own_tr stp (hr T' L' v Y ⟨C.1, hZ3, ho3, C.2.2.2⟩ hS3 hQ)
end OwnWide
theorem own_w {Z : State} {a0 : Array Value} (hw : ∀ d ∈ tables_1, d.before a0 Z = true) (k : Nat) {d : Jvm.Cond} (q : tables_1[k]? = some d) : d.before a0 Z = true := hw _ (List.mem_of_getElem? q)
theorem own_eqI {args : Array Value} {s : State} {t : Term} {k : Int32} (q : (Jvm.Cond.eq t (.int k)).value args s none s [] = some true) : t.eval args s none [] s = some (.int k) := by
  simp only [Cond.value, Term.int_eval] at q
  cases e : t.eval args s none [] s with
  | none => simp [e] at q
  | some v => cases v <;> simp [e] at q ⊢; exact q
theorem own_lenI {args : Array Value} {s : State} {t : Term} {a : Addr} {cl : Cell} {ty : FieldType} {k : Int32} (ev : t.eval args s none [] s = some (.ref a)) (A : Arr s s.heap a cl ty) (q : (Jvm.Cond.eq (.length t) (.int k)).value args s none s [] = some true) : (cl.slots.size : Int) = k.toInt := by
  have q1 := own_eqI q
  have q2 := A.fin (Vm.Alike.refl _)
  simp only [Term.eval, ev] at q1
  simp [q2] at q1
  obtain ⟨q3, q4⟩ := q1
  rw [← q4, len_toInt (by omega)]
theorem own_elI {args : Array Value} {s : State} {t : Term} {a : Addr} {cl : Cell} {ty : FieldType} {k j : Int32} (ev : t.eval args s none [] s = some (.ref a)) (A : Arr s s.heap a cl ty) (q : (Jvm.Cond.eq (.elem t (.int j)) (.int k)).value args s none s [] = some true) : cl.slots[j.toNatClampNeg]? = some (.int k) :=
  (elem_in (own_eqI q) ev (Term.int_eval j) A.1).2
/-- a Latin-1 string at o: its bytes at b, n of them: G -/
def OwnStr (Z : State) (h : Heap) (o b : Addr) (n : Nat) (G : Nat → Int32) : Prop :=
  Exa Z h o "java/lang/String" ∧ Fld Z h o "java/lang/String" "value" "[B" (.ref b) ∧ Fld Z h o "java/lang/String" "coder" "B" (.int (0 : Int32)) ∧ OwnAr Z h b .byte n (fun i => .int (G i)) ∧ n < 2147483648
theorem OwnStr.ext {Z : State} {h h' : Heap} {o b : Addr} {n : Nat} {G : Nat → Int32} (I : OwnStr Z h o b n G) (E : Ext h h') : OwnStr Z h' o b n G := ⟨I.1.ext E, I.2.1.ext E, I.2.2.1.ext E, I.2.2.2.1.ext E, I.2.2.2.2⟩
theorem OwnStr.keep {Z : State} {h h' : Heap} {o b : Addr} {n : Nat} {G : Nat → Int32} {ws : List Addr} (I : OwnStr Z h o b n G) (K : Keep h h' ws) (q1 : o ∉ ws) (q2 : b ∉ ws) : OwnStr Z h' o b n G := ⟨I.1.keep K, I.2.1.keep K q1, I.2.2.1.keep K q1, I.2.2.2.1.keep K q2, I.2.2.2.2⟩
/-- what the JDK's statics hold -/
def OwnJ (Z : State) (h : Heap) (cs : Int32) (vF : Value) : Prop := Sta Z h "java/lang/String" "COMPACT_STRINGS" "Z" (.int cs) ∧ cs.toInt ≠ 0 ∧ Sta Z h "jdk/internal/util/Preconditions" "SIOOBE_FORMATTER" "Ljava/util/function/BiFunction;" vF ∧ vF.isRef = true
theorem OwnJ.ext {Z : State} {h h' : Heap} {cs : Int32} {vF : Value} (J : OwnJ Z h cs vF) (E : Ext h h') : OwnJ Z h' cs vF := ⟨J.1.ext E, J.2.1, J.2.2.1.ext E, J.2.2.2⟩
theorem OwnJ.keep {Z : State} {h h' : Heap} {cs : Int32} {vF : Value} (J : OwnJ Z h cs vF) (K : Keep h h' []) : OwnJ Z h' cs vF := ⟨own_stak J.1 K, J.2.1, own_stak J.2.2.1 K, J.2.2.2⟩
theorem own_wS {Z : State} {a0 : Array Value} (hw : ∀ d ∈ tables_1, d.before a0 Z = true) : ∀ a ∈ Bundle.stringAtoms, a.before a0 Z = true := fun d hd => by
  simp only [Bundle.stringAtoms, Bundle.sN, List.mem_cons, List.not_mem_nil, or_false] at hd
  rcases hd with rfl | rfl | rfl | rfl | rfl | rfl | rfl
  · exact (own_w hw 6 rfl)
  · exact (own_w hw 7 rfl)
  · exact (own_w hw 8 rfl)
  · exact (own_w hw 9 rfl)
  · exact (own_w hw 10 rfl)
  · exact (own_w hw 11 rfl)
  · exact (own_w hw 12 rfl)
theorem own_pn_String : plainName "java/lang/String" = true := by first | (simp [plainName, overriddenIn]; done) | decide +kernel
theorem own_pd__R_B : parseMethodDescriptor "()B" = some ⟨[], some .byte⟩ := by decide +kernel
theorem own_d_jdk_42_method_152_code_0 : decode jdk_42_method_152_code 0 = .ok (.getstatic 38, 3) := by decide +kernel
theorem own_d_jdk_42_method_152_code_3 : decode jdk_42_method_152_code 3 = .ok (.ifCond .eq 10, 3) := by decide +kernel
theorem own_d_jdk_42_method_152_code_6 : decode jdk_42_method_152_code 6 = .ok (.aload_n 0, 1) := by decide +kernel
theorem own_d_jdk_42_method_152_code_7 : decode jdk_42_method_152_code 7 = .ok (.getfield 15, 3) := by decide +kernel
theorem own_d_jdk_42_method_152_code_10 : decode jdk_42_method_152_code 10 = .ok (.goto 4, 3) := by decide +kernel
theorem own_d_jdk_42_method_152_code_14 : decode jdk_42_method_152_code 14 = .ok (.ireturn, 1) := by decide +kernel
set_option maxRecDepth 65536 in
set_option maxHeartbeats 4000000 in
theorem own_ef_own_rm_coder (m : MethodId) (oa0 : Nat) : entryFrame m #[(.ref oa0)] 1 = (mkF m 0 #[.val (.ref oa0)] []) := by first | (simp [entryFrame, mkF, argsToLocals, Value.category]; done) | rfl
set_option maxRecDepth 65536 in
set_option maxHeartbeats 4000000 in
theorem own_rm_coder (l : Launch) (Z : State) (a0 : Array Value) (hw : ∀ d ∈ tables_1, d.before a0 Z = true) (oa0 : Nat) (h : Heap) (b : Addr) (n : Nat) (G : Nat → Int32) (I : OwnStr Z h oa0 b n G) (cs : Int32) (vF : Value) (J : OwnJ Z h cs vF) :
    OwnMet l Z (⟨"java/lang/String", "coder", "()B"⟩ : MethodName) jdk_42_method_152_code 1 (some .byte) [] ({ frames := 0, cells := 0, slots := 0, locals := 0 } : Room) #[(.ref oa0)] h (OwnPure (.int 0) h) := by
  refine own_enter (f0 := fun m => mkF m 0 #[.val (.ref oa0)] []) (plainFor_of_name own_pn_String) (fun m => own_ef_own_rm_coder m oa0) ?_
  intro p e s m below meth c T0 X0 C e0
  refine own_getstatic X0 C (host := "") (Or.inl (own_w hw 43 rfl)) Via.refl e0 J.1 own_d_jdk_42_method_152_code_0 3 rfl (fun T1 X1 e1 => ?_)
  refine own_ifeq X1 C own_d_jdk_42_method_152_code_3 6 13 rfl (by decide) (by decide) (i := cs.toInt) rfl (fun b2 => ?_) (fun b2 => ?_)
  · exfalso
    exact J.2.1 b2
  · refine own_aload_n X1 C own_d_jdk_42_method_152_code_6 7 rfl rfl rfl ?_
    refine own_getfield X1 C (host := "") (Or.inl (own_w hw 44 rfl)) Via.refl e1 I.2.2.1 own_d_jdk_42_method_152_code_7 10 rfl (fun T3 X3 e3 => ?_)
    refine own_goto X3 C own_d_jdk_42_method_152_code_10 14 (by decide) (by decide) ?_
    refine own_iretN X3 C .byte rfl (by simp) own_d_jdk_42_method_152_code_14 (by decide) (by decide) (0) (by decide) ?_
    exact ⟨rfl, e3, rfl⟩
theorem own_pd__R_I : parseMethodDescriptor "()I" = some ⟨[], some .int⟩ := by decide +kernel
theorem own_d_jdk_42_method_54_code_0 : decode jdk_42_method_54_code 0 = .ok (.aload_n 0, 1) := by decide +kernel
theorem own_d_jdk_42_method_54_code_1 : decode jdk_42_method_54_code 1 = .ok (.getfield 9, 3) := by decide +kernel
theorem own_d_jdk_42_method_54_code_4 : decode jdk_42_method_54_code 4 = .ok (.arraylength, 1) := by decide +kernel
theorem own_d_jdk_42_method_54_code_5 : decode jdk_42_method_54_code 5 = .ok (.aload_n 0, 1) := by decide +kernel
theorem own_d_jdk_42_method_54_code_6 : decode jdk_42_method_54_code 6 = .ok (.invokevirtual 335, 3) := by decide +kernel
theorem own_d_jdk_42_method_54_code_9 : decode jdk_42_method_54_code 9 = .ok (.ishr, 1) := by decide +kernel
theorem own_d_jdk_42_method_54_code_10 : decode jdk_42_method_54_code 10 = .ok (.ireturn, 1) := by decide +kernel
set_option maxRecDepth 65536 in
set_option maxHeartbeats 4000000 in
theorem own_ef_own_rm_length (m : MethodId) (oa0 : Nat) : entryFrame m #[(.ref oa0)] 1 = (mkF m 0 #[.val (.ref oa0)] []) := by first | (simp [entryFrame, mkF, argsToLocals, Value.category]; done) | rfl
set_option maxRecDepth 65536 in
set_option maxHeartbeats 4000000 in
theorem own_rm_length (l : Launch) (Z : State) (a0 : Array Value) (hw : ∀ d ∈ tables_1, d.before a0 Z = true) (oa0 : Nat) (h : Heap) (b : Addr) (n : Nat) (G : Nat → Int32) (I : OwnStr Z h oa0 b n G) (cs : Int32) (vF : Value) (J : OwnJ Z h cs vF) :
    OwnMet l Z (⟨"java/lang/String", "length", "()I"⟩ : MethodName) jdk_42_method_54_code 1 (some .int) [] ({ frames := 1, cells := 0, slots := 0, locals := 20 } : Room) #[(.ref oa0)] h (OwnSome (fun v => ∃ z : Int32, v = .int z ∧ z.toInt = n) h) := by
  refine own_enter (f0 := fun m => mkF m 0 #[.val (.ref oa0)] []) (plainFor_of_name own_pn_String) (fun m => own_ef_own_rm_length m oa0) ?_
  intro p e s m below meth c T0 X0 C e0
  refine own_aload_n X0 C own_d_jdk_42_method_54_code_0 1 rfl rfl rfl ?_
  refine own_getfield X0 C (host := "") (Or.inl (own_w hw 37 rfl)) Via.refl e0 I.2.1 own_d_jdk_42_method_54_code_1 4 rfl (fun T1 X1 e1 => ?_)
  refine own_arraylength X1 C e1 I.2.2.2.1 own_d_jdk_42_method_54_code_4 5 rfl I.2.2.2.2 (fun v1 ev1 fv1 => ?_)
  refine own_aload_n X1 C own_d_jdk_42_method_54_code_5 6 rfl rfl rfl ?_
  refine own_callV X1 C (own_w hw 38 rfl) (own_w hw 39 rfl) (own_w hw 41 rfl) (own_w hw 40 rfl) (own_w hw 6 rfl) (own_w hw 42 rfl) (by decide) I.1 (own_rm_coder l Z a0 hw oa0 h b n G I cs vF J) e1 own_pd__R_B [] rfl rfl rfl rfl 1 rfl (by decide) (by decide) (by decide) (by decide) own_d_jdk_42_method_54_code_6 9 rfl (fun T2 L2 v2 X2 q2 => ?_)
  obtain ⟨rfl, eh2, rfl⟩ := q2
  have N2 := Fr.app (Fr.nil 0) (Fr.nil 0)
  refine own_ishr X2 C own_d_jdk_42_method_54_code_9 10 rfl (fun v2 ev2 => ?_)
  refine own_ireturn X2 C rfl own_d_jdk_42_method_54_code_10 (by decide) (by decide) ?_
  exact ⟨⟨_, rfl, _, rfl, by rw [ev2, c_ishr _ _ 0 (by decide)]; omega⟩, eh2, rfl⟩
theorem own_pd__R_Z : parseMethodDescriptor "()Z" = some ⟨[], some .boolean⟩ := by decide +kernel
theorem own_d_jdk_42_method_55_code_0 : decode jdk_42_method_55_code 0 = .ok (.aload_n 0, 1) := by decide +kernel
theorem own_d_jdk_42_method_55_code_1 : decode jdk_42_method_55_code 1 = .ok (.getfield 9, 3) := by decide +kernel
theorem own_d_jdk_42_method_55_code_4 : decode jdk_42_method_55_code 4 = .ok (.arraylength, 1) := by decide +kernel
theorem own_d_jdk_42_method_55_code_5 : decode jdk_42_method_55_code 5 = .ok (.ifCond .ne 7, 3) := by decide +kernel
theorem own_d_jdk_42_method_55_code_8 : decode jdk_42_method_55_code 8 = .ok (.iconst 1, 1) := by decide +kernel
theorem own_d_jdk_42_method_55_code_9 : decode jdk_42_method_55_code 9 = .ok (.goto 4, 3) := by decide +kernel
theorem own_d_jdk_42_method_55_code_12 : decode jdk_42_method_55_code 12 = .ok (.iconst 0, 1) := by decide +kernel
theorem own_d_jdk_42_method_55_code_13 : decode jdk_42_method_55_code 13 = .ok (.ireturn, 1) := by decide +kernel
set_option maxRecDepth 65536 in
set_option maxHeartbeats 4000000 in
theorem own_ef_own_rm_isEmpty (m : MethodId) (oa0 : Nat) : entryFrame m #[(.ref oa0)] 1 = (mkF m 0 #[.val (.ref oa0)] []) := by first | (simp [entryFrame, mkF, argsToLocals, Value.category]; done) | rfl
set_option maxRecDepth 65536 in
set_option maxHeartbeats 4000000 in
theorem own_rm_isEmpty (l : Launch) (Z : State) (a0 : Array Value) (hw : ∀ d ∈ tables_1, d.before a0 Z = true) (oa0 : Nat) (h : Heap) (b : Addr) (n : Nat) (G : Nat → Int32) (I : OwnStr Z h oa0 b n G) :
    OwnMet l Z (⟨"java/lang/String", "isEmpty", "()Z"⟩ : MethodName) jdk_42_method_55_code 1 (some .boolean) [] ({ frames := 0, cells := 0, slots := 0, locals := 0 } : Room) #[(.ref oa0)] h (OwnPure (.int (if n = 0 then 1 else 0)) h) := by
  refine own_enter (f0 := fun m => mkF m 0 #[.val (.ref oa0)] []) (plainFor_of_name own_pn_String) (fun m => own_ef_own_rm_isEmpty m oa0) ?_
  intro p e s m below meth c T0 X0 C e0
  refine own_aload_n X0 C own_d_jdk_42_method_55_code_0 1 rfl rfl rfl ?_
  refine own_getfield X0 C (host := "") (Or.inl (own_w hw 37 rfl)) Via.refl e0 I.2.1 own_d_jdk_42_method_55_code_1 4 rfl (fun T1 X1 e1 => ?_)
  refine own_arraylength X1 C e1 I.2.2.2.1 own_d_jdk_42_method_55_code_4 5 rfl I.2.2.2.2 (fun v1 ev1 fv1 => ?_)
  refine own_ifne X1 C own_d_jdk_42_method_55_code_5 8 12 rfl (by decide) (by decide) (i := v1.toInt) rfl (fun b2 => ?_) (fun b2 => ?_)
  · refine own_iconst X1 C own_d_jdk_42_method_55_code_12 13 rfl (0) rfl ?_
    refine own_iretN X1 C .boolean rfl (by simp) own_d_jdk_42_method_55_code_13 (by decide) (by decide) (0) (by decide) ?_
    exact ⟨by rw [if_neg (by omega)], e1, rfl⟩
  · refine own_iconst X1 C own_d_jdk_42_method_55_code_8 9 rfl (1) rfl ?_
    refine own_goto X1 C own_d_jdk_42_method_55_code_9 13 (by decide) (by decide) ?_
    refine own_iretN X1 C .boolean rfl (by simp) own_d_jdk_42_method_55_code_13 (by decide) (by decide) (1) (by decide) ?_
    exact ⟨by rw [if_pos (by omega)], e1, rfl⟩
theorem own_d_jdk_42_method_154_code_0 : decode jdk_42_method_154_code 0 = .ok (.getstatic 38, 3) := by decide +kernel
theorem own_d_jdk_42_method_154_code_3 : decode jdk_42_method_154_code 3 = .ok (.ifCond .eq 14, 3) := by decide +kernel
theorem own_d_jdk_42_method_154_code_6 : decode jdk_42_method_154_code 6 = .ok (.aload_n 0, 1) := by decide +kernel
theorem own_d_jdk_42_method_154_code_7 : decode jdk_42_method_154_code 7 = .ok (.getfield 15, 3) := by decide +kernel
theorem own_d_jdk_42_method_154_code_10 : decode jdk_42_method_154_code 10 = .ok (.ifCond .ne 7, 3) := by decide +kernel
theorem own_d_jdk_42_method_154_code_13 : decode jdk_42_method_154_code 13 = .ok (.iconst 1, 1) := by decide +kernel
theorem own_d_jdk_42_method_154_code_14 : decode jdk_42_method_154_code 14 = .ok (.goto 4, 3) := by decide +kernel
theorem own_d_jdk_42_method_154_code_18 : decode jdk_42_method_154_code 18 = .ok (.ireturn, 1) := by decide +kernel
set_option maxRecDepth 65536 in
set_option maxHeartbeats 4000000 in
theorem own_ef_own_rm_isLatin1 (m : MethodId) (oa0 : Nat) : entryFrame m #[(.ref oa0)] 1 = (mkF m 0 #[.val (.ref oa0)] []) := by first | (simp [entryFrame, mkF, argsToLocals, Value.category]; done) | rfl
set_option maxRecDepth 65536 in
set_option maxHeartbeats 4000000 in
theorem own_rm_isLatin1 (l : Launch) (Z : State) (a0 : Array Value) (hw : ∀ d ∈ tables_1, d.before a0 Z = true) (oa0 : Nat) (h : Heap) (b : Addr) (n : Nat) (G : Nat → Int32) (I : OwnStr Z h oa0 b n G) (cs : Int32) (vF : Value) (J : OwnJ Z h cs vF) :
    OwnMet l Z (⟨"java/lang/String", "isLatin1", "()Z"⟩ : MethodName) jdk_42_method_154_code 1 (some .boolean) [] ({ frames := 0, cells := 0, slots := 0, locals := 0 } : Room) #[(.ref oa0)] h (OwnPure (.int 1) h) := by
  refine own_enter (f0 := fun m => mkF m 0 #[.val (.ref oa0)] []) (plainFor_of_name own_pn_String) (fun m => own_ef_own_rm_isLatin1 m oa0) ?_
  intro p e s m below meth c T0 X0 C e0
  refine own_getstatic X0 C (host := "") (Or.inl (own_w hw 43 rfl)) Via.refl e0 J.1 own_d_jdk_42_method_154_code_0 3 rfl (fun T1 X1 e1 => ?_)
  refine own_ifeq X1 C own_d_jdk_42_method_154_code_3 6 17 rfl (by decide) (by decide) (i := cs.toInt) rfl (fun b2 => ?_) (fun b2 => ?_)
  · exfalso
    exact J.2.1 b2
  · refine own_aload_n X1 C own_d_jdk_42_method_154_code_6 7 rfl rfl rfl ?_
    refine own_getfield X1 C (host := "") (Or.inl (own_w hw 44 rfl)) Via.refl e1 I.2.2.1 own_d_jdk_42_method_154_code_7 10 rfl (fun T3 X3 e3 => ?_)
    refine own_ifne X3 C own_d_jdk_42_method_154_code_10 13 17 rfl (by decide) (by decide) (i := 0) (by decide) (fun b4 => ?_) (fun b4 => ?_)
    · exfalso
      omega
    · refine own_iconst X3 C own_d_jdk_42_method_154_code_13 14 rfl (1) rfl ?_
      refine own_goto X3 C own_d_jdk_42_method_154_code_14 18 (by decide) (by decide) ?_
      refine own_iretN X3 C .boolean rfl (by simp) own_d_jdk_42_method_154_code_18 (by decide) (by decide) (1) (by decide) ?_
      exact ⟨rfl, e3, rfl⟩
theorem own_pn_Preconditions : plainName "jdk/internal/util/Preconditions" = true := by first | (simp [plainName, overriddenIn]; done) | decide +kernel
theorem own_pd_IILjava_util_function_BiFunction__R_I : parseMethodDescriptor "(IILjava/util/function/BiFunction;)I" = some ⟨[.int, .int, (.object "java/util/function/BiFunction")], some .int⟩ := by decide +kernel
theorem own_d_jdk_41_method_11_code_0 : decode jdk_41_method_11_code 0 = .ok (.iload_n 0, 1) := by decide +kernel
theorem own_d_jdk_41_method_11_code_1 : decode jdk_41_method_11_code 1 = .ok (.ifCond .lt 8, 3) := by decide +kernel
theorem own_d_jdk_41_method_11_code_4 : decode jdk_41_method_11_code 4 = .ok (.iload_n 0, 1) := by decide +kernel
theorem own_d_jdk_41_method_11_code_5 : decode jdk_41_method_11_code 5 = .ok (.iload_n 1, 1) := by decide +kernel
theorem own_d_jdk_41_method_11_code_6 : decode jdk_41_method_11_code 6 = .ok (.if_icmp .lt 10, 3) := by decide +kernel
theorem own_d_jdk_41_method_11_code_16 : decode jdk_41_method_11_code 16 = .ok (.iload_n 0, 1) := by decide +kernel
theorem own_d_jdk_41_method_11_code_17 : decode jdk_41_method_11_code 17 = .ok (.ireturn, 1) := by decide +kernel
set_option maxRecDepth 65536 in
set_option maxHeartbeats 4000000 in
theorem own_ef_own_rm_pre_ref (m : MethodId) (ia0 : Int32) (ia1 : Int32) (oa2 : Nat) : entryFrame m #[(.int ia0), (.int ia1), (.ref oa2)] 3 = (mkF m 0 #[.val (.int ia0), .val (.int ia1), .val (.ref oa2)] []) := by first | (simp [entryFrame, mkF, argsToLocals, Value.category]; done) | rfl
set_option maxRecDepth 65536 in
set_option maxHeartbeats 4000000 in
theorem own_rm_pre_ref (l : Launch) (Z : State) (a0 : Array Value) (hw : ∀ d ∈ tables_1, d.before a0 Z = true) (ia0 : Int32) (ia1 : Int32) (oa2 : Nat) (h : Heap) (h0 : 0 ≤ ia0.toInt) (h1 : ia0.toInt < ia1.toInt) :
    OwnMet l Z (⟨"jdk/internal/util/Preconditions", "checkIndex", "(IILjava/util/function/BiFunction;)I"⟩ : MethodName) jdk_41_method_11_code 3 (some .int) [] ({ frames := 0, cells := 0, slots := 0, locals := 0 } : Room) #[(.int ia0), (.int ia1), (.ref oa2)] h (OwnPure (.int ia0) h) := by
  refine own_enter (f0 := fun m => mkF m 0 #[.val (.int ia0), .val (.int ia1), .val (.ref oa2)] []) (plainFor_of_name own_pn_Preconditions) (fun m => own_ef_own_rm_pre_ref m ia0 ia1 oa2) ?_
  intro p e s m below meth c T0 X0 C e0
  refine own_iload_n X0 C own_d_jdk_41_method_11_code_0 1 rfl rfl ?_
  refine own_iflt X0 C own_d_jdk_41_method_11_code_1 4 9 rfl (by decide) (by decide) (i := ia0.toInt) rfl (fun b1 => ?_) (fun b1 => ?_)
  · exfalso
    omega
  · refine own_iload_n X0 C own_d_jdk_41_method_11_code_4 5 rfl rfl ?_
    refine own_iload_n X0 C own_d_jdk_41_method_11_code_5 6 rfl rfl ?_
    refine own_icmplt X0 C own_d_jdk_41_method_11_code_6 9 16 rfl (by decide) (by decide) (i := ia0.toInt) rfl (j := ia1.toInt) rfl (fun b2 => ?_) (fun b2 => ?_)
    · refine own_iload_n X0 C own_d_jdk_41_method_11_code_16 17 rfl rfl ?_
      refine own_ireturn X0 C rfl own_d_jdk_41_method_11_code_17 (by decide) (by decide) ?_
      exact ⟨rfl, e0, rfl⟩
    · exfalso
      omega
set_option maxRecDepth 65536 in
set_option maxHeartbeats 4000000 in
theorem own_ef_own_rm_pre_null (m : MethodId) (ia0 : Int32) (ia1 : Int32) : entryFrame m #[(.int ia0), (.int ia1), .null] 3 = (mkF m 0 #[.val (.int ia0), .val (.int ia1), .val .null] []) := by first | (simp [entryFrame, mkF, argsToLocals, Value.category]; done) | rfl
set_option maxRecDepth 65536 in
set_option maxHeartbeats 4000000 in
theorem own_rm_pre_null (l : Launch) (Z : State) (a0 : Array Value) (hw : ∀ d ∈ tables_1, d.before a0 Z = true) (ia0 : Int32) (ia1 : Int32) (h : Heap) (h0 : 0 ≤ ia0.toInt) (h1 : ia0.toInt < ia1.toInt) :
    OwnMet l Z (⟨"jdk/internal/util/Preconditions", "checkIndex", "(IILjava/util/function/BiFunction;)I"⟩ : MethodName) jdk_41_method_11_code 3 (some .int) [] ({ frames := 0, cells := 0, slots := 0, locals := 0 } : Room) #[(.int ia0), (.int ia1), .null] h (OwnPure (.int ia0) h) := by
  refine own_enter (f0 := fun m => mkF m 0 #[.val (.int ia0), .val (.int ia1), .val .null] []) (plainFor_of_name own_pn_Preconditions) (fun m => own_ef_own_rm_pre_null m ia0 ia1) ?_
  intro p e s m below meth c T0 X0 C e0
  refine own_iload_n X0 C own_d_jdk_41_method_11_code_0 1 rfl rfl ?_
  refine own_iflt X0 C own_d_jdk_41_method_11_code_1 4 9 rfl (by decide) (by decide) (i := ia0.toInt) rfl (fun b1 => ?_) (fun b1 => ?_)
  · exfalso
    omega
  · refine own_iload_n X0 C own_d_jdk_41_method_11_code_4 5 rfl rfl ?_
    refine own_iload_n X0 C own_d_jdk_41_method_11_code_5 6 rfl rfl ?_
    refine own_icmplt X0 C own_d_jdk_41_method_11_code_6 9 16 rfl (by decide) (by decide) (i := ia0.toInt) rfl (j := ia1.toInt) rfl (fun b2 => ?_) (fun b2 => ?_)
    · refine own_iload_n X0 C own_d_jdk_41_method_11_code_16 17 rfl rfl ?_
      refine own_ireturn X0 C rfl own_d_jdk_41_method_11_code_17 (by decide) (by decide) ?_
      exact ⟨rfl, e0, rfl⟩
    · exfalso
      omega
theorem own_pd_II_R_V : parseMethodDescriptor "(II)V" = some ⟨[.int, .int], none⟩ := by decide +kernel
theorem own_d_jdk_42_method_155_code_0 : decode jdk_42_method_155_code 0 = .ok (.iload_n 0, 1) := by decide +kernel
theorem own_d_jdk_42_method_155_code_1 : decode jdk_42_method_155_code 1 = .ok (.iload_n 1, 1) := by decide +kernel
theorem own_d_jdk_42_method_155_code_2 : decode jdk_42_method_155_code 2 = .ok (.getstatic 1053, 3) := by decide +kernel
theorem own_d_jdk_42_method_155_code_5 : decode jdk_42_method_155_code 5 = .ok (.invokestatic 1059, 3) := by decide +kernel
theorem own_d_jdk_42_method_155_code_8 : decode jdk_42_method_155_code 8 = .ok (.pop, 1) := by decide +kernel
theorem own_d_jdk_42_method_155_code_9 : decode jdk_42_method_155_code 9 = .ok (.return_, 1) := by decide +kernel
set_option maxRecDepth 65536 in
set_option maxHeartbeats 4000000 in
theorem own_ef_own_rm_check (m : MethodId) (ia0 : Int32) (ia1 : Int32) : entryFrame m #[(.int ia0), (.int ia1)] 2 = (mkF m 0 #[.val (.int ia0), .val (.int ia1)] []) := by first | (simp [entryFrame, mkF, argsToLocals, Value.category]; done) | rfl
set_option maxRecDepth 65536 in
set_option maxHeartbeats 4000000 in
theorem own_rm_check (l : Launch) (Z : State) (a0 : Array Value) (hw : ∀ d ∈ tables_1, d.before a0 Z = true) (ia0 : Int32) (ia1 : Int32) (h : Heap) (cs : Int32) (vF : Value) (J : OwnJ Z h cs vF) (h0 : 0 ≤ ia0.toInt) (h1 : ia0.toInt < ia1.toInt) :
    OwnMet l Z (⟨"java/lang/String", "checkIndex", "(II)V"⟩ : MethodName) jdk_42_method_155_code 2 none [] ({ frames := 1, cells := 0, slots := 0, locals := 30 } : Room) #[(.int ia0), (.int ia1)] h (fun v h' L => v = none ∧ h' = h ∧ L = []) := by
  refine own_enter (f0 := fun m => mkF m 0 #[.val (.int ia0), .val (.int ia1)] []) (plainFor_of_name own_pn_String) (fun m => own_ef_own_rm_check m ia0 ia1) ?_
  intro p e s m below meth c T0 X0 C e0
  rcases ref_cases J.2.2.2 with rfl | ⟨aF, rfl⟩
  · refine own_iload_n X0 C own_d_jdk_42_method_155_code_0 1 rfl rfl ?_
    refine own_iload_n X0 C own_d_jdk_42_method_155_code_1 2 rfl rfl ?_
    refine own_getstatic X0 C (host := "") (Or.inl (own_w hw 62 rfl)) Via.refl e0 J.2.2.1 own_d_jdk_42_method_155_code_2 5 rfl (fun T1 X1 e1 => ?_)
    refine own_callP X1 C (own_w hw 64 rfl) (own_w hw 65 rfl) (own_w hw 63 rfl) (own_w hw 66 rfl) (by decide) (own_rm_pre_null l Z a0 hw ia0 ia1 h h0 h1) e1 own_pd_IILjava_util_function_BiFunction__R_I [(.int ia0), (.int ia1), .null] rfl rfl rfl rfl 0 rfl (by decide) (by decide) rfl rfl (by decide) (by decide) own_d_jdk_42_method_155_code_5 8 rfl (fun T2 X2 e2 => ?_)
    refine own_pop X2 C own_d_jdk_42_method_155_code_8 9 rfl rfl ?_
    refine own_return X2 C rfl own_d_jdk_42_method_155_code_9 (by decide) (by decide) ?_
    exact ⟨rfl, e2, rfl⟩
  · refine own_iload_n X0 C own_d_jdk_42_method_155_code_0 1 rfl rfl ?_
    refine own_iload_n X0 C own_d_jdk_42_method_155_code_1 2 rfl rfl ?_
    refine own_getstatic X0 C (host := "") (Or.inl (own_w hw 62 rfl)) Via.refl e0 J.2.2.1 own_d_jdk_42_method_155_code_2 5 rfl (fun T3 X3 e3 => ?_)
    refine own_callP X3 C (own_w hw 64 rfl) (own_w hw 65 rfl) (own_w hw 63 rfl) (own_w hw 66 rfl) (by decide) (own_rm_pre_ref l Z a0 hw ia0 ia1 aF h h0 h1) e3 own_pd_IILjava_util_function_BiFunction__R_I [(.int ia0), (.int ia1), (.ref aF)] rfl rfl rfl rfl 0 rfl (by decide) (by decide) rfl rfl (by decide) (by decide) own_d_jdk_42_method_155_code_5 8 rfl (fun T4 X4 e4 => ?_)
    refine own_pop X4 C own_d_jdk_42_method_155_code_8 9 rfl rfl ?_
    refine own_return X4 C rfl own_d_jdk_42_method_155_code_9 (by decide) (by decide) ?_
    exact ⟨rfl, e4, rfl⟩
theorem own_pn_StringLatin1 : plainName "java/lang/StringLatin1" = true := by first | (simp [plainName, overriddenIn]; done) | decide +kernel
theorem own_pd_ABI_R_C : parseMethodDescriptor "([BI)C" = some ⟨[(.array .byte), .int], some .char⟩ := by decide +kernel
theorem own_d_jdk_43_method_2_code_0 : decode jdk_43_method_2_code 0 = .ok (.iload_n 1, 1) := by decide +kernel
theorem own_d_jdk_43_method_2_code_1 : decode jdk_43_method_2_code 1 = .ok (.aload_n 0, 1) := by decide +kernel
theorem own_d_jdk_43_method_2_code_2 : decode jdk_43_method_2_code 2 = .ok (.arraylength, 1) := by decide +kernel
theorem own_d_jdk_43_method_2_code_3 : decode jdk_43_method_2_code 3 = .ok (.invokestatic 9, 3) := by decide +kernel
theorem own_d_jdk_43_method_2_code_6 : decode jdk_43_method_2_code 6 = .ok (.aload_n 0, 1) := by decide +kernel
theorem own_d_jdk_43_method_2_code_7 : decode jdk_43_method_2_code 7 = .ok (.iload_n 1, 1) := by decide +kernel
theorem own_d_jdk_43_method_2_code_8 : decode jdk_43_method_2_code 8 = .ok (.baload, 1) := by decide +kernel
theorem own_d_jdk_43_method_2_code_9 : decode jdk_43_method_2_code 9 = .ok (.sipush 255, 3) := by decide +kernel
theorem own_d_jdk_43_method_2_code_12 : decode jdk_43_method_2_code 12 = .ok (.iand, 1) := by decide +kernel
theorem own_d_jdk_43_method_2_code_13 : decode jdk_43_method_2_code 13 = .ok (.i2c, 1) := by decide +kernel
theorem own_d_jdk_43_method_2_code_14 : decode jdk_43_method_2_code 14 = .ok (.ireturn, 1) := by decide +kernel
set_option maxRecDepth 65536 in
set_option maxHeartbeats 4000000 in
theorem own_ef_own_rm_lcharAt (m : MethodId) (oa0 : Nat) (ia1 : Int32) : entryFrame m #[(.ref oa0), (.int ia1)] 2 = (mkF m 0 #[.val (.ref oa0), .val (.int ia1)] []) := by first | (simp [entryFrame, mkF, argsToLocals, Value.category]; done) | rfl
set_option maxRecDepth 65536 in
set_option maxHeartbeats 4000000 in
theorem own_rm_lcharAt (l : Launch) (Z : State) (a0 : Array Value) (hw : ∀ d ∈ tables_1, d.before a0 Z = true) (oa0 : Nat) (ia1 : Int32) (h : Heap) (n : Nat) (G : Nat → Int32) (A : OwnAr Z h oa0 .byte n (fun i => .int (G i))) (hn : n < 2147483648) (cs : Int32) (vF : Value) (J : OwnJ Z h cs vF) (k : Nat) (hk : ia1.toInt = k) (hk2 : k < n) :
    OwnMet l Z (⟨"java/lang/StringLatin1", "charAt", "([BI)C"⟩ : MethodName) jdk_43_method_2_code 2 (some .char) [] ({ frames := 2, cells := 0, slots := 0, locals := 60 } : Room) #[(.ref oa0), (.int ia1)] h (OwnSome (fun v => ∃ z : Int32, v = .int z ∧ z.toInt = (G k).toInt % 256) h) := by
  refine own_enter (f0 := fun m => mkF m 0 #[.val (.ref oa0), .val (.int ia1)] []) (plainFor_of_name own_pn_StringLatin1) (fun m => own_ef_own_rm_lcharAt m oa0 ia1) ?_
  intro p e s m below meth c T0 X0 C e0
  refine own_iload_n X0 C own_d_jdk_43_method_2_code_0 1 rfl rfl ?_
  refine own_aload_n X0 C own_d_jdk_43_method_2_code_1 2 rfl rfl rfl ?_
  refine own_arraylength X0 C e0 A own_d_jdk_43_method_2_code_2 3 rfl hn (fun v1 ev1 fv1 => ?_)
  refine own_callS X0 C (own_w hw 59 rfl) (own_w hw 60 rfl) (own_w hw 6 rfl) (own_w hw 61 rfl) (by decide) (own_rm_check l Z a0 hw ia1 v1 h cs vF J (by omega) (by omega)) e0 own_pd_II_R_V [(.int ia1), (.int v1)] rfl rfl rfl rfl 0 rfl (by decide) (by decide) (by decide) (by decide) own_d_jdk_43_method_2_code_3 6 rfl (fun T1 L1 v1 X1 q1 => ?_)
  obtain ⟨rfl, eh1, rfl⟩ := q1
  have N1 := Fr.app (Fr.nil 0) (Fr.nil 0)
  refine own_aload_n X1 C own_d_jdk_43_method_2_code_6 7 rfl rfl rfl ?_
  refine own_iload_n X1 C own_d_jdk_43_method_2_code_7 8 rfl rfl ?_
  refine own_baloadB X1 C eh1 A (by omega) (by omega) own_d_jdk_43_method_2_code_8 9 rfl (.int (G k)) (by show Value.int (G _) = _; rw [show ia1.toInt.toNat = k by omega]) ?_
  refine own_sipush X1 C own_d_jdk_43_method_2_code_9 12 rfl (255) rfl ?_
  refine own_iand X1 C own_d_jdk_43_method_2_code_12 13 rfl (fun v2 ev2 => ?_)
  refine own_i2c X1 C own_d_jdk_43_method_2_code_13 14 rfl (fun v3 ev3 => ?_)
  refine own_iretN X1 C .char rfl (by simp) own_d_jdk_43_method_2_code_14 (by decide) (by decide) _ rfl ?_
  have y1 := c_mask (G k) 255 8 (by decide) (by decide)
  rw [← ev2] at y1
  have y2 := c_i2c v2
  rw [← ev3] at y2
  have y3 := c_i2c v3
  exact ⟨⟨_, rfl, _, rfl, by show (v3.toUInt32.toUInt16.toUInt32.toInt32).toInt = _; omega⟩, eh1, rfl⟩
theorem own_pd_I_R_C : parseMethodDescriptor "(I)C" = some ⟨[.int], some .char⟩ := by decide +kernel
theorem own_d_jdk_42_method_56_code_0 : decode jdk_42_method_56_code 0 = .ok (.aload_n 0, 1) := by decide +kernel
theorem own_d_jdk_42_method_56_code_1 : decode jdk_42_method_56_code 1 = .ok (.invokevirtual 492, 3) := by decide +kernel
theorem own_d_jdk_42_method_56_code_4 : decode jdk_42_method_56_code 4 = .ok (.ifCond .eq 12, 3) := by decide +kernel
theorem own_d_jdk_42_method_56_code_7 : decode jdk_42_method_56_code 7 = .ok (.aload_n 0, 1) := by decide +kernel
theorem own_d_jdk_42_method_56_code_8 : decode jdk_42_method_56_code 8 = .ok (.getfield 9, 3) := by decide +kernel
theorem own_d_jdk_42_method_56_code_11 : decode jdk_42_method_56_code 11 = .ok (.iload_n 1, 1) := by decide +kernel
theorem own_d_jdk_42_method_56_code_12 : decode jdk_42_method_56_code 12 = .ok (.invokestatic 495, 3) := by decide +kernel
theorem own_d_jdk_42_method_56_code_15 : decode jdk_42_method_56_code 15 = .ok (.ireturn, 1) := by decide +kernel
set_option maxRecDepth 65536 in
set_option maxHeartbeats 4000000 in
theorem own_ef_own_rm_charAt (m : MethodId) (oa0 : Nat) (ia1 : Int32) : entryFrame m #[(.ref oa0), (.int ia1)] 2 = (mkF m 0 #[.val (.ref oa0), .val (.int ia1)] []) := by first | (simp [entryFrame, mkF, argsToLocals, Value.category]; done) | rfl
set_option maxRecDepth 65536 in
set_option maxHeartbeats 4000000 in
theorem own_rm_charAt (l : Launch) (Z : State) (a0 : Array Value) (hw : ∀ d ∈ tables_1, d.before a0 Z = true) (oa0 : Nat) (ia1 : Int32) (h : Heap) (b : Addr) (n : Nat) (G : Nat → Int32) (I : OwnStr Z h oa0 b n G) (cs : Int32) (vF : Value) (J : OwnJ Z h cs vF) (k : Nat) (hk : ia1.toInt = k) (hk2 : k < n) :
    OwnMet l Z (⟨"java/lang/String", "charAt", "(I)C"⟩ : MethodName) jdk_42_method_56_code 2 (some .char) [] ({ frames := 3, cells := 0, slots := 0, locals := 90 } : Room) #[(.ref oa0), (.int ia1)] h (OwnSome (fun v => ∃ z : Int32, v = .int z ∧ z.toInt = (G k).toInt % 256) h) := by
  refine own_enter (f0 := fun m => mkF m 0 #[.val (.ref oa0), .val (.int ia1)] []) (plainFor_of_name own_pn_String) (fun m => own_ef_own_rm_charAt m oa0 ia1) ?_
  intro p e s m below meth c T0 X0 C e0
  refine own_aload_n X0 C own_d_jdk_42_method_56_code_0 1 rfl rfl rfl ?_
  refine own_callV X0 C (own_w hw 50 rfl) (own_w hw 51 rfl) (own_w hw 53 rfl) (own_w hw 52 rfl) (own_w hw 6 rfl) (own_w hw 54 rfl) (by decide) I.1 (own_rm_isLatin1 l Z a0 hw oa0 h b n G I cs vF J) e0 own_pd__R_Z [] rfl rfl rfl rfl 0 rfl (by decide) (by decide) (by decide) (by decide) own_d_jdk_42_method_56_code_1 4 rfl (fun T1 L1 v1 X1 q1 => ?_)
  obtain ⟨rfl, eh1, rfl⟩ := q1
  have N1 := Fr.app (Fr.nil 0) (Fr.nil 0)
  refine own_ifeq X1 C own_d_jdk_42_method_56_code_4 7 16 rfl (by decide) (by decide) (i := 1) (by decide) (fun b2 => ?_) (fun b2 => ?_)
  · exfalso
    omega
  · refine own_aload_n X1 C own_d_jdk_42_method_56_code_7 8 rfl rfl rfl ?_
    refine own_getfield X1 C (host := "") (Or.inl (own_w hw 37 rfl)) Via.refl eh1 I.2.1 own_d_jdk_42_method_56_code_8 11 rfl (fun T3 X3 e3 => ?_)
    refine own_iload_n X3 C own_d_jdk_42_method_56_code_11 12 rfl rfl ?_
    refine own_callE X3 C (own_w hw 55 rfl) (own_w hw 56 rfl) (own_w hw 57 rfl) (own_w hw 58 rfl) (by decide) (own_rm_lcharAt l Z a0 hw b ia1 h n G I.2.2.2.1 I.2.2.2.2 cs vF J k hk hk2) e3 own_pd_ABI_R_C [(.ref b), (.int ia1)] rfl rfl rfl rfl 0 rfl (by decide) (by decide) rfl rfl (by decide) (by decide) own_d_jdk_42_method_56_code_12 15 rfl (fun T4 w4 q4 X4 e4 => ?_)
    obtain ⟨z4, rfl, q4⟩ := q4
    refine own_iretN X4 C .char rfl (by simp) own_d_jdk_42_method_56_code_15 (by decide) (by decide) _ rfl ?_
    have y3 := c_i2c z4
    exact ⟨⟨_, rfl, _, rfl, by show (z4.toUInt32.toUInt16.toUInt32.toInt32).toInt = _; omega⟩, e4, rfl⟩
theorem own_pn_Record : plainName "java/lang/Record" = true := by first | (simp [plainName, overriddenIn]; done) | decide +kernel
theorem own_pd__R_V : parseMethodDescriptor "()V" = some ⟨[], none⟩ := by decide +kernel
theorem own_d_jdk_30_method_1_code_0 : decode jdk_30_method_1_code 0 = .ok (.aload_n 0, 1) := by decide +kernel
theorem own_d_jdk_30_method_1_code_1 : decode jdk_30_method_1_code 1 = .ok (.invokespecial 1, 3) := by decide +kernel
theorem own_d_jdk_30_method_1_code_4 : decode jdk_30_method_1_code 4 = .ok (.return_, 1) := by decide +kernel
set_option maxRecDepth 65536 in
set_option maxHeartbeats 4000000 in
theorem own_ef_own_rm_record (m : MethodId) (oa0 : Nat) : entryFrame m #[(.ref oa0)] 1 = (mkF m 0 #[.val (.ref oa0)] []) := by first | (simp [entryFrame, mkF, argsToLocals, Value.category]; done) | rfl
set_option maxRecDepth 65536 in
set_option maxHeartbeats 4000000 in
theorem own_rm_record (l : Launch) (Z : State) (a0 : Array Value) (hw : ∀ d ∈ tables_1, d.before a0 Z = true) (oa0 : Nat) (h : Heap)  :
    OwnMet l Z (⟨"java/lang/Record", "<init>", "()V"⟩ : MethodName) jdk_30_method_1_code 1 none [] ({ frames := 1, cells := 0, slots := 0, locals := 12 } : Room) #[(.ref oa0)] h (fun v h' L => v = none ∧ h' = h ∧ L = []) := by
  refine own_enter (f0 := fun m => mkF m 0 #[.val (.ref oa0)] []) (plainFor_of_name own_pn_Record) (fun m => own_ef_own_rm_record m oa0) ?_
  intro p e s m below meth c T0 X0 C e0
  refine own_aload_n X0 C own_d_jdk_30_method_1_code_0 1 rfl rfl rfl ?_
  refine own_initO X0 C (own_w hw 21 rfl) (own_w hw 22 rfl) (own_w hw 23 rfl) e0 rfl own_d_jdk_30_method_1_code_1 4 rfl (by decide) 0 rfl (by decide) (fun T1 X1 e1 => ?_)
  refine own_return X1 C rfl own_d_jdk_30_method_1_code_4 (by decide) (by decide) ?_
  exact ⟨rfl, e1, rfl⟩
theorem own_pn_Objects : plainName "java/util/Objects" = true := by first | (simp [plainName, overriddenIn]; done) | decide +kernel
theorem own_pd_Ljava_lang_Object_Ljava_lang_String__R_Ljava_lang_Object_ : parseMethodDescriptor "(Ljava/lang/Object;Ljava/lang/String;)Ljava/lang/Object;" = some ⟨[(.object "java/lang/Object"), (.object "java/lang/String")], some (.object "java/lang/Object")⟩ := by decide +kernel
theorem own_d_jdk_31_method_11_code_0 : decode jdk_31_method_11_code 0 = .ok (.aload_n 0, 1) := by decide +kernel
theorem own_d_jdk_31_method_11_code_1 : decode jdk_31_method_11_code 1 = .ok (.ifnonnull 12, 3) := by decide +kernel
theorem own_d_jdk_31_method_11_code_13 : decode jdk_31_method_11_code 13 = .ok (.aload_n 0, 1) := by decide +kernel
theorem own_d_jdk_31_method_11_code_14 : decode jdk_31_method_11_code 14 = .ok (.areturn, 1) := by decide +kernel
set_option maxRecDepth 65536 in
set_option maxHeartbeats 4000000 in
theorem own_ef_own_rm_req (m : MethodId) (oa0 : Nat) (oa1 : Nat) : entryFrame m #[(.ref oa0), (.ref oa1)] 2 = (mkF m 0 #[.val (.ref oa0), .val (.ref oa1)] []) := by first | (simp [entryFrame, mkF, argsToLocals, Value.category]; done) | rfl
set_option maxRecDepth 65536 in
set_option maxHeartbeats 4000000 in
theorem own_rm_req (l : Launch) (Z : State) (a0 : Array Value) (hw : ∀ d ∈ tables_1, d.before a0 Z = true) (oa0 : Nat) (oa1 : Nat) (h : Heap)  :
    OwnMet l Z (⟨"java/util/Objects", "requireNonNull", "(Ljava/lang/Object;Ljava/lang/String;)Ljava/lang/Object;"⟩ : MethodName) jdk_31_method_11_code 2 (some (.object "java/lang/Object")) [] ({ frames := 0, cells := 0, slots := 0, locals := 0 } : Room) #[(.ref oa0), (.ref oa1)] h (OwnPure (.ref oa0) h) := by
  refine own_enter (f0 := fun m => mkF m 0 #[.val (.ref oa0), .val (.ref oa1)] []) (plainFor_of_name own_pn_Objects) (fun m => own_ef_own_rm_req m oa0 oa1) ?_
  intro p e s m below meth c T0 X0 C e0
  refine own_aload_n X0 C own_d_jdk_31_method_11_code_0 1 rfl rfl rfl ?_
  refine own_ifnonnull_y X0 C own_d_jdk_31_method_11_code_1 13 (by decide) (by decide) ?_
  refine own_aload_n X0 C own_d_jdk_31_method_11_code_13 14 rfl rfl rfl ?_
  refine own_areturn X0 C _ rfl rfl rfl rfl own_d_jdk_31_method_11_code_14 (by decide) (by decide) ?_
  exact ⟨rfl, e0, rfl⟩
theorem own_pn_Topic : plainName "com/example/stierlin/stierlin/coordinator/Topic" = true := by first | (simp [plainName, overriddenIn]; done) | decide +kernel
theorem own_pd_C_R_Z : parseMethodDescriptor "(C)Z" = some ⟨[.char], some .boolean⟩ := by decide +kernel
theorem own_d_prog_21_method_4_code_0 : decode prog_21_method_4_code 0 = .ok (.iload_n 0, 1) := by decide +kernel
theorem own_d_prog_21_method_4_code_1 : decode prog_21_method_4_code 1 = .ok (.bipush 97, 2) := by decide +kernel
theorem own_d_prog_21_method_4_code_3 : decode prog_21_method_4_code 3 = .ok (.if_icmp .lt 9, 3) := by decide +kernel
theorem own_d_prog_21_method_4_code_6 : decode prog_21_method_4_code 6 = .ok (.iload_n 0, 1) := by decide +kernel
theorem own_d_prog_21_method_4_code_7 : decode prog_21_method_4_code 7 = .ok (.bipush 122, 2) := by decide +kernel
theorem own_d_prog_21_method_4_code_9 : decode prog_21_method_4_code 9 = .ok (.if_icmp .le 45, 3) := by decide +kernel
theorem own_d_prog_21_method_4_code_54 : decode prog_21_method_4_code 54 = .ok (.iconst 1, 1) := by decide +kernel
theorem own_d_prog_21_method_4_code_55 : decode prog_21_method_4_code 55 = .ok (.goto 4, 3) := by decide +kernel
theorem own_d_prog_21_method_4_code_59 : decode prog_21_method_4_code 59 = .ok (.ireturn, 1) := by decide +kernel
set_option maxRecDepth 65536 in
set_option maxHeartbeats 4000000 in
theorem own_ef_own_rm_isn (m : MethodId) (ia0 : Int32) : entryFrame m #[(.int ia0)] 1 = (mkF m 0 #[.val (.int ia0)] []) := by first | (simp [entryFrame, mkF, argsToLocals, Value.category]; done) | rfl
set_option maxRecDepth 65536 in
set_option maxHeartbeats 4000000 in
theorem own_rm_isn (l : Launch) (Z : State) (a0 : Array Value) (hw : ∀ d ∈ tables_1, d.before a0 Z = true) (ia0 : Int32) (h : Heap) (hc : ia0.toInt = 116) :
    OwnMet l Z (⟨"com/example/stierlin/stierlin/coordinator/Topic", "isNameCharacter", "(C)Z"⟩ : MethodName) prog_21_method_4_code 1 (some .boolean) [] ({ frames := 0, cells := 0, slots := 0, locals := 0 } : Room) #[(.int ia0)] h (OwnPure (.int 1) h) := by
  refine own_enter (f0 := fun m => mkF m 0 #[.val (.int ia0)] []) (plainFor_of_name own_pn_Topic) (fun m => own_ef_own_rm_isn m ia0) ?_
  intro p e s m below meth c T0 X0 C e0
  refine own_iload_n X0 C own_d_prog_21_method_4_code_0 1 rfl rfl ?_
  refine own_bipush X0 C own_d_prog_21_method_4_code_1 3 rfl (97) rfl ?_
  refine own_icmplt X0 C own_d_prog_21_method_4_code_3 6 12 rfl (by decide) (by decide) (i := ia0.toInt) rfl (j := 97) (by decide) (fun b1 => ?_) (fun b1 => ?_)
  · exfalso
    omega
  · refine own_iload_n X0 C own_d_prog_21_method_4_code_6 7 rfl rfl ?_
    refine own_bipush X0 C own_d_prog_21_method_4_code_7 9 rfl (122) rfl ?_
    refine own_icmple X0 C own_d_prog_21_method_4_code_9 12 54 rfl (by decide) (by decide) (i := ia0.toInt) rfl (j := 122) (by decide) (fun b2 => ?_) (fun b2 => ?_)
    · refine own_iconst X0 C own_d_prog_21_method_4_code_54 55 rfl (1) rfl ?_
      refine own_goto X0 C own_d_prog_21_method_4_code_55 59 (by decide) (by decide) ?_
      refine own_iretN X0 C .boolean rfl (by simp) own_d_prog_21_method_4_code_59 (by decide) (by decide) (1) (by decide) ?_
      exact ⟨rfl, e0, rfl⟩
    · exfalso
      omega
theorem own_pd_Ljava_lang_String__R_V : parseMethodDescriptor "(Ljava/lang/String;)V" = some ⟨[(.object "java/lang/String")], none⟩ := by decide +kernel
theorem own_d_prog_21_method_3_code_0 : decode prog_21_method_3_code 0 = .ok (.iconst 0, 1) := by decide +kernel
theorem own_d_prog_21_method_3_code_1 : decode prog_21_method_3_code 1 = .ok (.istore_n 1, 1) := by decide +kernel
theorem own_d_prog_21_method_3_code_2 : decode prog_21_method_3_code 2 = .ok (.iload_n 1, 1) := by decide +kernel
theorem own_d_prog_21_method_3_code_3 : decode prog_21_method_3_code 3 = .ok (.aload_n 0, 1) := by decide +kernel
theorem own_d_prog_21_method_3_code_4 : decode prog_21_method_3_code 4 = .ok (.invokevirtual 38, 3) := by decide +kernel
theorem own_d_prog_21_method_3_code_7 : decode prog_21_method_3_code 7 = .ok (.if_icmp .ge 55, 3) := by decide +kernel
theorem own_d_prog_21_method_3_code_10 : decode prog_21_method_3_code 10 = .ok (.aload_n 0, 1) := by decide +kernel
theorem own_d_prog_21_method_3_code_11 : decode prog_21_method_3_code 11 = .ok (.iload_n 1, 1) := by decide +kernel
theorem own_d_prog_21_method_3_code_12 : decode prog_21_method_3_code 12 = .ok (.invokevirtual 44, 3) := by decide +kernel
theorem own_d_prog_21_method_3_code_15 : decode prog_21_method_3_code 15 = .ok (.invokestatic 48, 3) := by decide +kernel
theorem own_d_prog_21_method_3_code_18 : decode prog_21_method_3_code 18 = .ok (.ifCond .ne 38, 3) := by decide +kernel
theorem own_d_prog_21_method_3_code_56 : decode prog_21_method_3_code 56 = .ok (.iinc 1 1, 3) := by decide +kernel
theorem own_d_prog_21_method_3_code_59 : decode prog_21_method_3_code 59 = .ok (.goto (-57), 3) := by decide +kernel
theorem own_d_prog_21_method_3_code_62 : decode prog_21_method_3_code 62 = .ok (.aload_n 0, 1) := by decide +kernel
theorem own_d_prog_21_method_3_code_63 : decode prog_21_method_3_code 63 = .ok (.invokevirtual 70, 3) := by decide +kernel
theorem own_d_prog_21_method_3_code_66 : decode prog_21_method_3_code 66 = .ok (.ifCond .ne 13, 3) := by decide +kernel
theorem own_d_prog_21_method_3_code_69 : decode prog_21_method_3_code 69 = .ok (.aload_n 0, 1) := by decide +kernel
theorem own_d_prog_21_method_3_code_70 : decode prog_21_method_3_code 70 = .ok (.invokevirtual 38, 3) := by decide +kernel
theorem own_d_prog_21_method_3_code_73 : decode prog_21_method_3_code 73 = .ok (.sipush 249, 3) := by decide +kernel
theorem own_d_prog_21_method_3_code_76 : decode prog_21_method_3_code 76 = .ok (.if_icmp .le 20, 3) := by decide +kernel
theorem own_d_prog_21_method_3_code_96 : decode prog_21_method_3_code 96 = .ok (.return_, 1) := by decide +kernel
set_option maxRecDepth 65536 in
set_option maxHeartbeats 4000000 in
theorem own_ef_own_rm_check_name (m : MethodId) (oa0 : Nat) : entryFrame m #[(.ref oa0)] 2 = (mkF m 0 #[.val (.ref oa0), .unset] []) := by first | (simp [entryFrame, mkF, argsToLocals, Value.category]; done) | rfl
set_option maxRecDepth 65536 in
set_option maxHeartbeats 4000000 in
theorem own_rm_check_name (l : Launch) (Z : State) (a0 : Array Value) (hw : ∀ d ∈ tables_1, d.before a0 Z = true) (oa0 : Nat) (h : Heap) (b : Nat) (I : OwnStr Z h oa0 b 1 (fun i => if i = 0 then (116 : Int32) else 0)) (cs : Int32) (vF : Value) (J : OwnJ Z h cs vF) :
    OwnMet l Z (⟨"com/example/stierlin/stierlin/coordinator/Topic", "checkName", "(Ljava/lang/String;)V"⟩ : MethodName) prog_21_method_3_code 2 none [] ({ frames := 4, cells := 0, slots := 0, locals := 110 } : Room) #[(.ref oa0)] h (fun v h' L => v = none ∧ h' = h ∧ L = []) := by
  refine own_enter (f0 := fun m => mkF m 0 #[.val (.ref oa0), .unset] []) (plainFor_of_name own_pn_Topic) (fun m => own_ef_own_rm_check_name m oa0) ?_
  intro p e s m below meth c T0 X0 C e0
  refine own_iconst X0 C own_d_prog_21_method_3_code_0 1 rfl (0) rfl ?_
  refine own_istore_n X0 C own_d_prog_21_method_3_code_1 2 rfl #[.val (.ref oa0), .val (.int (0 : Int32))] rfl ?_
  refine own_iload_n X0 C own_d_prog_21_method_3_code_2 3 rfl rfl ?_
  refine own_aload_n X0 C own_d_prog_21_method_3_code_3 4 rfl rfl rfl ?_
  refine own_callV X0 C (own_w hw 32 rfl) (own_w hw 33 rfl) (own_w hw 35 rfl) (own_w hw 34 rfl) (own_w hw 6 rfl) (own_w hw 36 rfl) (by decide) I.1 (own_rm_length l Z a0 hw oa0 h b 1 (fun i => if i = 0 then (116 : Int32) else 0) I cs vF J) e0 own_pd__R_I [] rfl rfl rfl rfl 1 rfl (by decide) (by decide) (by decide) (by decide) own_d_prog_21_method_3_code_4 7 rfl (fun T1 L1 v1 X1 q1 => ?_)
  obtain ⟨⟨_, rfl, z1, rfl, hz1⟩, eh1, rfl⟩ := q1
  have N1 := Fr.app (Fr.nil 0) (Fr.nil 0)
  refine own_icmpge X1 C own_d_prog_21_method_3_code_7 10 62 rfl (by decide) (by decide) (i := 0) (by decide) (j := z1.toInt) rfl (fun b2 => ?_) (fun b2 => ?_)
  · exfalso
    omega
  · refine own_aload_n X1 C own_d_prog_21_method_3_code_10 11 rfl rfl rfl ?_
    refine own_iload_n X1 C own_d_prog_21_method_3_code_11 12 rfl rfl ?_
    refine own_callV X1 C (own_w hw 45 rfl) (own_w hw 46 rfl) (own_w hw 48 rfl) (own_w hw 47 rfl) (own_w hw 6 rfl) (own_w hw 49 rfl) (by decide) I.1 (own_rm_charAt l Z a0 hw oa0 (0 : Int32) h b 1 (fun i => if i = 0 then (116 : Int32) else 0) I cs vF J 0 (by decide) (by decide)) eh1 own_pd_I_R_C [(.int (0 : Int32))] rfl rfl rfl rfl 0 rfl (by decide) (by decide) (by decide) (by decide) own_d_prog_21_method_3_code_12 15 rfl (fun T3 L3 v3 X3 q3 => ?_)
    obtain ⟨⟨_, rfl, z3, rfl, hz3⟩, eh3, rfl⟩ := q3
    have N3 := Fr.app N1 (Fr.nil 0)
    have hy3 : z3.toInt = 116 := by rw [hz3]; decide
    refine own_callP X3 C (own_w hw 67 rfl) (own_w hw 68 rfl) (own_w hw 4 rfl) (own_w hw 69 rfl) (by decide) (own_rm_isn l Z a0 hw z3 h hy3) eh3 own_pd_C_R_Z [(.int z3)] rfl rfl rfl rfl 0 rfl (by decide) (by decide) rfl rfl (by decide) (by decide) own_d_prog_21_method_3_code_15 18 rfl (fun T4 X4 e4 => ?_)
    refine own_ifne X4 C own_d_prog_21_method_3_code_18 21 56 rfl (by decide) (by decide) (i := 1) (by decide) (fun b5 => ?_) (fun b5 => ?_)
    · refine own_iinc X4 C own_d_prog_21_method_3_code_56 59 rfl rfl (1) rfl (fun z => #[.val (.ref oa0), .val (.int z)]) (fun z => rfl) (fun v1 ev1 => ?_)
      obtain rfl : v1 = (1 : Int32) := ev1.trans (by decide)
      refine own_goto X4 C own_d_prog_21_method_3_code_59 2 (by decide) (by decide) ?_
      refine own_iload_n X4 C own_d_prog_21_method_3_code_2 3 rfl rfl ?_
      refine own_aload_n X4 C own_d_prog_21_method_3_code_3 4 rfl rfl rfl ?_
      refine own_callV X4 C (own_w hw 32 rfl) (own_w hw 33 rfl) (own_w hw 35 rfl) (own_w hw 34 rfl) (own_w hw 6 rfl) (own_w hw 36 rfl) (by decide) I.1 (own_rm_length l Z a0 hw oa0 h b 1 (fun i => if i = 0 then (116 : Int32) else 0) I cs vF J) e4 own_pd__R_I [] rfl rfl rfl rfl 1 rfl (by decide) (by decide) (by decide) (by decide) own_d_prog_21_method_3_code_4 7 rfl (fun T6 L6 v6 X6 q6 => ?_)
      obtain ⟨⟨_, rfl, z6, rfl, hz6⟩, eh6, rfl⟩ := q6
      have N6 := Fr.app N3 (Fr.nil 0)
      refine own_icmpge X6 C own_d_prog_21_method_3_code_7 10 62 rfl (by decide) (by decide) (i := 1) (by decide) (j := z6.toInt) rfl (fun b7 => ?_) (fun b7 => ?_)
      · refine own_aload_n X6 C own_d_prog_21_method_3_code_62 63 rfl rfl rfl ?_
        refine own_callV X6 C (own_w hw 70 rfl) (own_w hw 71 rfl) (own_w hw 73 rfl) (own_w hw 72 rfl) (own_w hw 6 rfl) (own_w hw 74 rfl) (by decide) I.1 (own_rm_isEmpty l Z a0 hw oa0 h b 1 (fun i => if i = 0 then (116 : Int32) else 0) I) eh6 own_pd__R_Z [] rfl rfl rfl rfl 0 rfl (by decide) (by decide) (by decide) (by decide) own_d_prog_21_method_3_code_63 66 rfl (fun T8 L8 v8 X8 q8 => ?_)
        obtain ⟨rfl, eh8, rfl⟩ := q8
        have N8 := Fr.app N6 (Fr.nil 0)
        refine own_ifne X8 C own_d_prog_21_method_3_code_66 69 79 rfl (by decide) (by decide) (i := 0) (by decide) (fun b9 => ?_) (fun b9 => ?_)
        · exfalso
          omega
        · refine own_aload_n X8 C own_d_prog_21_method_3_code_69 70 rfl rfl rfl ?_
          refine own_callV X8 C (own_w hw 32 rfl) (own_w hw 33 rfl) (own_w hw 35 rfl) (own_w hw 34 rfl) (own_w hw 6 rfl) (own_w hw 36 rfl) (by decide) I.1 (own_rm_length l Z a0 hw oa0 h b 1 (fun i => if i = 0 then (116 : Int32) else 0) I cs vF J) eh8 own_pd__R_I [] rfl rfl rfl rfl 0 rfl (by decide) (by decide) (by decide) (by decide) own_d_prog_21_method_3_code_70 73 rfl (fun T10 L10 v10 X10 q10 => ?_)
          obtain ⟨⟨_, rfl, z10, rfl, hz10⟩, eh10, rfl⟩ := q10
          have N10 := Fr.app N8 (Fr.nil 0)
          refine own_sipush X10 C own_d_prog_21_method_3_code_73 76 rfl (249) rfl ?_
          refine own_icmple X10 C own_d_prog_21_method_3_code_76 79 96 rfl (by decide) (by decide) (i := z10.toInt) rfl (j := 249) (by decide) (fun b11 => ?_) (fun b11 => ?_)
          · refine own_return X10 C rfl own_d_prog_21_method_3_code_96 (by decide) (by decide) ?_
            exact ⟨rfl, eh10, by simp⟩
          · exfalso
            omega
      · exfalso
        omega
    · exfalso
      omega
theorem own_pd_Ljava_lang_String_I_R_V : parseMethodDescriptor "(Ljava/lang/String;I)V" = some ⟨[(.object "java/lang/String"), .int], none⟩ := by decide +kernel
theorem own_d_prog_21_method_1_code_0 : decode prog_21_method_1_code 0 = .ok (.aload_n 0, 1) := by decide +kernel
theorem own_d_prog_21_method_1_code_1 : decode prog_21_method_1_code 1 = .ok (.invokespecial 1, 3) := by decide +kernel
theorem own_d_prog_21_method_1_code_4 : decode prog_21_method_1_code 4 = .ok (.aload_n 1, 1) := by decide +kernel
theorem own_d_prog_21_method_1_code_5 : decode prog_21_method_1_code 5 = .ok (.ldc 7, 2) := by decide +kernel
theorem own_d_prog_21_method_1_code_7 : decode prog_21_method_1_code 7 = .ok (.invokestatic 9, 3) := by decide +kernel
theorem own_d_prog_21_method_1_code_10 : decode prog_21_method_1_code 10 = .ok (.pop, 1) := by decide +kernel
theorem own_d_prog_21_method_1_code_11 : decode prog_21_method_1_code 11 = .ok (.aload_n 1, 1) := by decide +kernel
theorem own_d_prog_21_method_1_code_12 : decode prog_21_method_1_code 12 = .ok (.invokestatic 15, 3) := by decide +kernel
theorem own_d_prog_21_method_1_code_15 : decode prog_21_method_1_code 15 = .ok (.iload_n 2, 1) := by decide +kernel
theorem own_d_prog_21_method_1_code_16 : decode prog_21_method_1_code 16 = .ok (.iconst 1, 1) := by decide +kernel
theorem own_d_prog_21_method_1_code_17 : decode prog_21_method_1_code 17 = .ok (.if_icmp .lt 9, 3) := by decide +kernel
theorem own_d_prog_21_method_1_code_20 : decode prog_21_method_1_code 20 = .ok (.iload_n 2, 1) := by decide +kernel
theorem own_d_prog_21_method_1_code_21 : decode prog_21_method_1_code 21 = .ok (.ldc 21, 2) := by decide +kernel
theorem own_d_prog_21_method_1_code_23 : decode prog_21_method_1_code 23 = .ok (.if_icmp .le 18, 3) := by decide +kernel
theorem own_d_prog_21_method_1_code_41 : decode prog_21_method_1_code 41 = .ok (.aload_n 0, 1) := by decide +kernel
theorem own_d_prog_21_method_1_code_42 : decode prog_21_method_1_code 42 = .ok (.aload_n 1, 1) := by decide +kernel
theorem own_d_prog_21_method_1_code_43 : decode prog_21_method_1_code 43 = .ok (.putfield 30, 3) := by decide +kernel
theorem own_d_prog_21_method_1_code_46 : decode prog_21_method_1_code 46 = .ok (.aload_n 0, 1) := by decide +kernel
theorem own_d_prog_21_method_1_code_47 : decode prog_21_method_1_code 47 = .ok (.iload_n 2, 1) := by decide +kernel
theorem own_d_prog_21_method_1_code_48 : decode prog_21_method_1_code 48 = .ok (.putfield 34, 3) := by decide +kernel
theorem own_d_prog_21_method_1_code_51 : decode prog_21_method_1_code 51 = .ok (.return_, 1) := by decide +kernel
set_option maxRecDepth 65536 in
set_option maxHeartbeats 4000000 in
theorem own_ef_own_rm_init (m : MethodId) (oa0 : Nat) (oa1 : Nat) (ia2 : Int32) : entryFrame m #[(.ref oa0), (.ref oa1), (.int ia2)] 3 = (mkF m 0 #[.val (.ref oa0), .val (.ref oa1), .val (.int ia2)] []) := by first | (simp [entryFrame, mkF, argsToLocals, Value.category]; done) | rfl
set_option maxRecDepth 65536 in
set_option maxHeartbeats 4000000 in
theorem own_rm_init (l : Launch) (Z : State) (a0 : Array Value) (hw : ∀ d ∈ tables_1, d.before a0 Z = true) (oa0 : Nat) (oa1 : Nat) (ia2 : Int32) (h : Heap) (n0 : Nat) (go : n0 ≤ oa0) (Eo : Exa Z h oa0 "com/example/stierlin/stierlin/coordinator/Topic") (F_name : Fld Z h oa0 "com/example/stierlin/stierlin/coordinator/Topic" "name" "Ljava/lang/String;" .null) (F_partitions : Fld Z h oa0 "com/example/stierlin/stierlin/coordinator/Topic" "partitions" "I" (.int (0 : Int32))) (b : Nat) (I : OwnStr Z h oa1 b 1 (fun i => if i = 0 then (116 : Int32) else 0)) (cs : Int32) (vF : Value) (J : OwnJ Z h cs vF) (hn : 1 ≤ ia2.toInt ∧ ia2.toInt ≤ 100000) :
    OwnMetWP l Z (⟨"com/example/stierlin/stierlin/coordinator/Topic", "<init>", "(Ljava/lang/String;I)V"⟩ : MethodName) prog_21_method_1_code 3 none [] ({ frames := 5, cells := 2, slots := 44, locals := 140 } : Room) #[(.ref oa0), (.ref oa1), (.int ia2)] h (fun _ => True) (fun v h' L => v = none ∧ Fr n0 L ∧ Keep h h' [oa0] ∧ Exa Z h' oa0 "com/example/stierlin/stierlin/coordinator/Topic" ∧ Fld Z h' oa0 "com/example/stierlin/stierlin/coordinator/Topic" "partitions" "I" (.int ia2)) := by
  refine own_enterW (f0 := fun m => mkF m 0 #[.val (.ref oa0), .val (.ref oa1), .val (.int ia2)] []) (plainFor_of_name own_pn_Topic) (fun m => own_ef_own_rm_init m oa0 oa1 ia2) ?_
  intro p e s m below meth c T0 X0 C e0 hs0 hPX hS
  have wS := own_wS hw
  have Kp := Keep.refl h [oa0]
  refine own_aload_n X0 C own_d_prog_21_method_1_code_0 1 rfl rfl rfl ?_
  refine own_callI X0 C rfl (own_w hw 16 rfl) (own_w hw 17 rfl) (own_w hw 19 rfl) (own_w hw 20 rfl) rfl (by decide) (own_rm_record l Z a0 hw oa0 h) e0 own_pd__R_V [] rfl rfl rfl rfl 0 rfl (by decide) (by decide) (by decide) (by decide) own_d_prog_21_method_1_code_1 4 rfl (fun T1 L1 v1 X1 q1 => ?_)
  obtain ⟨rfl, eh1, rfl⟩ := q1
  have N1 := Fr.app (Fr.nil n0) (Fr.nil n0)
  refine own_aload_n X1 C own_d_prog_21_method_1_code_4 5 rfl rfl rfl ?_
  refine own_ldcS X1 C (own_w hw 24 rfl) wS eh1 hS (Nat.zero_le _) own_d_prog_21_method_1_code_5 7 rfl 40 (by decide) (by decide) (by decide) (by decide) (fun a2 T2 h2 k2 X2 C e2 E2 hS2 hk2 => ?_)
  replace Eo := Eo.ext E2
  replace F_name := F_name.ext E2
  replace F_partitions := F_partitions.ext E2
  replace I := I.ext E2
  replace J := J.ext E2
  replace Kp := Kp.ext E2
  refine own_callP X2 C (own_w hw 25 rfl) (own_w hw 26 rfl) (own_w hw 27 rfl) (own_w hw 28 rfl) (by decide) (own_rm_req l Z a0 hw oa1 a2 h2) e2 own_pd_Ljava_lang_Object_Ljava_lang_String__R_Ljava_lang_Object_ [(.ref oa1), (.ref a2)] rfl rfl rfl rfl 0 rfl (by decide) (by decide) rfl rfl (by decide) (by decide) own_d_prog_21_method_1_code_7 10 rfl (fun T3 X3 e3 => ?_)
  refine own_pop X3 C own_d_prog_21_method_1_code_10 11 rfl rfl ?_
  refine own_aload_n X3 C own_d_prog_21_method_1_code_11 12 rfl rfl rfl ?_
  refine own_callS X3 C (own_w hw 29 rfl) (own_w hw 30 rfl) (own_w hw 4 rfl) (own_w hw 31 rfl) (by decide) (own_rm_check_name l Z a0 hw oa1 h2 b I cs vF J) e3 own_pd_Ljava_lang_String__R_V [(.ref oa1)] rfl rfl rfl rfl 0 rfl (by decide) (by decide) (by decide) (by decide) own_d_prog_21_method_1_code_12 15 rfl (fun T4 L4 v4 X4 q4 => ?_)
  obtain ⟨rfl, eh4, rfl⟩ := q4
  have N4 := Fr.app N1 (Fr.nil n0)
  refine own_iload_n X4 C own_d_prog_21_method_1_code_15 16 rfl rfl ?_
  refine own_iconst X4 C own_d_prog_21_method_1_code_16 17 rfl (1) rfl ?_
  refine own_icmplt X4 C own_d_prog_21_method_1_code_17 20 26 rfl (by decide) (by decide) (i := ia2.toInt) rfl (j := 1) (by decide) (fun b5 => ?_) (fun b5 => ?_)
  · exfalso
    omega
  · refine own_iload_n X4 C own_d_prog_21_method_1_code_20 21 rfl rfl ?_
    refine own_ldc X4 C (own_w hw 75 rfl) own_d_prog_21_method_1_code_21 23 rfl ?_
    refine own_icmple X4 C own_d_prog_21_method_1_code_23 26 41 rfl (by decide) (by decide) (i := ia2.toInt) rfl (j := 100000) (by decide) (fun b6 => ?_) (fun b6 => ?_)
    · refine own_aload_n X4 C own_d_prog_21_method_1_code_41 42 rfl rfl rfl ?_
      refine own_aload_n X4 C own_d_prog_21_method_1_code_42 43 rfl rfl rfl ?_
      refine own_putfield X4 C (host := "") (Or.inl (own_w hw 76 rfl)) Via.refl eh4 F_name Eo (Or.inr ⟨(own_w hw 77 rfl), rfl, rfl⟩) (own_w hw 3 rfl) (ty := (.object "java/lang/String")) (by decide) rfl rfl own_d_prog_21_method_1_code_43 46 rfl (fun T7 h7 X7 e7 W7 => ?_)
      have N7 := own_fr1 (sl := Jvm.RoadKit.slotOf Z "com/example/stierlin/stierlin/coordinator/Topic" "name" "Ljava/lang/String;") N4 go
      replace Eo := Eo.wr W7
      replace F_name := F_name.same W7
      replace F_partitions := F_partitions.other W7 (Or.inr (slot_ne (Or.inr (own_w hw 79 rfl)) (Or.inr (own_w hw 77 rfl)) (by decide) (t := .int) (t' := (.object "java/lang/String")) (by decide) (by decide)))
      replace Kp := Kp.wr W7 (Or.inl (List.mem_singleton.mpr rfl))
      have sz7 := W7.size
      refine own_aload_n X7 C own_d_prog_21_method_1_code_46 47 rfl rfl rfl ?_
      refine own_iload_n X7 C own_d_prog_21_method_1_code_47 48 rfl rfl ?_
      refine own_putfield X7 C (host := "") (Or.inl (own_w hw 78 rfl)) Via.refl e7 F_partitions Eo (Or.inr ⟨(own_w hw 79 rfl), rfl, rfl⟩) (own_w hw 3 rfl) (ty := .int) (by decide) rfl rfl own_d_prog_21_method_1_code_48 51 rfl (fun T8 h8 X8 e8 W8 => ?_)
      have N8 := own_fr1 (sl := Jvm.RoadKit.slotOf Z "com/example/stierlin/stierlin/coordinator/Topic" "partitions" "I") N7 go
      replace Eo := Eo.wr W8
      replace F_partitions := F_partitions.same W8
      replace F_name := F_name.other W8 (Or.inr (slot_ne (Or.inr (own_w hw 77 rfl)) (Or.inr (own_w hw 79 rfl)) (by decide) (t := (.object "java/lang/String")) (t' := .int) (by decide) (by decide)))
      replace Kp := Kp.wr W8 (Or.inl (List.mem_singleton.mpr rfl))
      have sz8 := W8.size
      have hkf : k2 ≤ T8.heap.size := by rw [e8]; omega
      refine own_returnW X8 C hS2 hkf rfl own_d_prog_21_method_1_code_51 (by decide) (by decide) ?_
      rw [e8]; exact ⟨rfl, N8, Kp, Eo, F_partitions⟩
    · exfalso
      omega
def own_hp (n i : Int32) : Int32 := if 0 ≤ i.toInt ∧ i.toInt < n.toInt then 1 else 0
theorem own_pd_I_R_Z : parseMethodDescriptor "(I)Z" = some ⟨[.int], some .boolean⟩ := by decide +kernel
theorem own_d_prog_21_method_2_code_0 : decode prog_21_method_2_code 0 = .ok (.iload_n 1, 1) := by decide +kernel
theorem own_d_prog_21_method_2_code_1 : decode prog_21_method_2_code 1 = .ok (.ifCond .lt 15, 3) := by decide +kernel
theorem own_d_prog_21_method_2_code_4 : decode prog_21_method_2_code 4 = .ok (.iload_n 1, 1) := by decide +kernel
theorem own_d_prog_21_method_2_code_5 : decode prog_21_method_2_code 5 = .ok (.aload_n 0, 1) := by decide +kernel
theorem own_d_prog_21_method_2_code_6 : decode prog_21_method_2_code 6 = .ok (.getfield 34, 3) := by decide +kernel
theorem own_d_prog_21_method_2_code_9 : decode prog_21_method_2_code 9 = .ok (.if_icmp .ge 7, 3) := by decide +kernel
theorem own_d_prog_21_method_2_code_12 : decode prog_21_method_2_code 12 = .ok (.iconst 1, 1) := by decide +kernel
theorem own_d_prog_21_method_2_code_13 : decode prog_21_method_2_code 13 = .ok (.goto 4, 3) := by decide +kernel
theorem own_d_prog_21_method_2_code_16 : decode prog_21_method_2_code 16 = .ok (.iconst 0, 1) := by decide +kernel
theorem own_d_prog_21_method_2_code_17 : decode prog_21_method_2_code 17 = .ok (.ireturn, 1) := by decide +kernel
set_option maxRecDepth 65536 in
set_option maxHeartbeats 4000000 in
theorem own_ef_own_rm_hasp (m : MethodId) (oa0 : Nat) (ia1 : Int32) : entryFrame m #[(.ref oa0), (.int ia1)] 2 = (mkF m 0 #[.val (.ref oa0), .val (.int ia1)] []) := by first | (simp [entryFrame, mkF, argsToLocals, Value.category]; done) | rfl
set_option maxRecDepth 65536 in
set_option maxHeartbeats 4000000 in
theorem own_rm_hasp (l : Launch) (Z : State) (a0 : Array Value) (hw : ∀ d ∈ tables_1, d.before a0 Z = true) (oa0 : Nat) (ia1 : Int32) (h : Heap) (n : Int32) (F_partitions : Fld Z h oa0 "com/example/stierlin/stierlin/coordinator/Topic" "partitions" "I" (.int n)) :
    OwnMet l Z (⟨"com/example/stierlin/stierlin/coordinator/Topic", "hasPartition", "(I)Z"⟩ : MethodName) prog_21_method_2_code 2 (some .boolean) [] ({ frames := 0, cells := 0, slots := 0, locals := 0 } : Room) #[(.ref oa0), (.int ia1)] h (OwnPure (.int (own_hp n ia1)) h) := by
  refine own_enter (f0 := fun m => mkF m 0 #[.val (.ref oa0), .val (.int ia1)] []) (plainFor_of_name own_pn_Topic) (fun m => own_ef_own_rm_hasp m oa0 ia1) ?_
  intro p e s m below meth c T0 X0 C e0
  refine own_iload_n X0 C own_d_prog_21_method_2_code_0 1 rfl rfl ?_
  refine own_iflt X0 C own_d_prog_21_method_2_code_1 4 16 rfl (by decide) (by decide) (i := ia1.toInt) rfl (fun b1 => ?_) (fun b1 => ?_)
  · refine own_iconst X0 C own_d_prog_21_method_2_code_16 17 rfl (0) rfl ?_
    refine own_iretN X0 C .boolean rfl (by simp) own_d_prog_21_method_2_code_17 (by decide) (by decide) (0) (by decide) ?_
    exact ⟨by rw [own_hp, if_neg (by omega)], e0, rfl⟩
  · refine own_iload_n X0 C own_d_prog_21_method_2_code_4 5 rfl rfl ?_
    refine own_aload_n X0 C own_d_prog_21_method_2_code_5 6 rfl rfl rfl ?_
    refine own_getfield X0 C (host := "") (Or.inl (own_w hw 78 rfl)) Via.refl e0 F_partitions own_d_prog_21_method_2_code_6 9 rfl (fun T2 X2 e2 => ?_)
    refine own_icmpge X2 C own_d_prog_21_method_2_code_9 12 16 rfl (by decide) (by decide) (i := ia1.toInt) rfl (j := n.toInt) rfl (fun b3 => ?_) (fun b3 => ?_)
    · refine own_iconst X2 C own_d_prog_21_method_2_code_16 17 rfl (0) rfl ?_
      refine own_iretN X2 C .boolean rfl (by simp) own_d_prog_21_method_2_code_17 (by decide) (by decide) (0) (by decide) ?_
      exact ⟨by rw [own_hp, if_neg (by omega)], e2, rfl⟩
    · refine own_iconst X2 C own_d_prog_21_method_2_code_12 13 rfl (1) rfl ?_
      refine own_goto X2 C own_d_prog_21_method_2_code_13 17 (by decide) (by decide) ?_
      refine own_iretN X2 C .boolean rfl (by simp) own_d_prog_21_method_2_code_17 (by decide) (by decide) (1) (by decide) ?_
      exact ⟨by rw [own_hp, if_pos (by omega)], e2, rfl⟩
theorem own_pn_TopicHasPartitionPinLaw : plainName "com/example/stierlin/stierlin/coordinator/TopicHasPartitionPinLaw" = true := by first | (simp [plainName, overriddenIn]; done) | decide +kernel
theorem own_pd_Lcom_example_stierlin_stierlin_coordinator_Topic_II_R_Z : parseMethodDescriptor "(Lcom/example/stierlin/stierlin/coordinator/Topic;II)Z" = some ⟨[(.object "com/example/stierlin/stierlin/coordinator/Topic"), .int, .int], some .boolean⟩ := by decide +kernel
theorem own_d_method_3_code_0 : decode method_3_code 0 = .ok (.iload_n 2, 1) := by decide +kernel
theorem own_d_method_3_code_1 : decode method_3_code 1 = .ok (.i2l, 1) := by decide +kernel
theorem own_d_method_3_code_2 : decode method_3_code 2 = .ok (.ldc2_w 22, 3) := by decide +kernel
theorem own_d_method_3_code_5 : decode method_3_code 5 = .ok (.land, 1) := by decide +kernel
theorem own_d_method_3_code_6 : decode method_3_code 6 = .ok (.iload_n 1, 1) := by decide +kernel
theorem own_d_method_3_code_7 : decode method_3_code 7 = .ok (.i2l, 1) := by decide +kernel
theorem own_d_method_3_code_8 : decode method_3_code 8 = .ok (.lcmp, 1) := by decide +kernel
theorem own_d_method_3_code_9 : decode method_3_code 9 = .ok (.ifCond .ge 7, 3) := by decide +kernel
theorem own_d_method_3_code_12 : decode method_3_code 12 = .ok (.iconst 1, 1) := by decide +kernel
theorem own_d_method_3_code_13 : decode method_3_code 13 = .ok (.goto 4, 3) := by decide +kernel
theorem own_d_method_3_code_16 : decode method_3_code 16 = .ok (.iconst 0, 1) := by decide +kernel
theorem own_d_method_3_code_17 : decode method_3_code 17 = .ok (.istore_n 3, 1) := by decide +kernel
theorem own_d_method_3_code_18 : decode method_3_code 18 = .ok (.aload_n 0, 1) := by decide +kernel
theorem own_d_method_3_code_19 : decode method_3_code 19 = .ok (.iload_n 2, 1) := by decide +kernel
theorem own_d_method_3_code_20 : decode method_3_code 20 = .ok (.invokevirtual 24, 3) := by decide +kernel
theorem own_d_method_3_code_23 : decode method_3_code 23 = .ok (.iload_n 3, 1) := by decide +kernel
theorem own_d_method_3_code_24 : decode method_3_code 24 = .ok (.if_icmp .ne 7, 3) := by decide +kernel
theorem own_d_method_3_code_27 : decode method_3_code 27 = .ok (.iconst 1, 1) := by decide +kernel
theorem own_d_method_3_code_28 : decode method_3_code 28 = .ok (.goto 4, 3) := by decide +kernel
theorem own_d_method_3_code_32 : decode method_3_code 32 = .ok (.ireturn, 1) := by decide +kernel
set_option maxRecDepth 65536 in
set_option maxHeartbeats 4000000 in
theorem own_ef_own_rm_agrees (m : MethodId) (oa0 : Nat) (ia1 : Int32) (ia2 : Int32) : entryFrame m #[(.ref oa0), (.int ia1), (.int ia2)] 4 = (mkF m 0 #[.val (.ref oa0), .val (.int ia1), .val (.int ia2), .unset] []) := by first | (simp [entryFrame, mkF, argsToLocals, Value.category]; done) | rfl
set_option maxRecDepth 65536 in
set_option maxHeartbeats 4000000 in
theorem own_rm_agrees (l : Launch) (Z : State) (a0 : Array Value) (hw : ∀ d ∈ tables_1, d.before a0 Z = true) (oa0 : Nat) (ia1 : Int32) (ia2 : Int32) (h : Heap) (Eo : Exa Z h oa0 "com/example/stierlin/stierlin/coordinator/Topic") (F_partitions : Fld Z h oa0 "com/example/stierlin/stierlin/coordinator/Topic" "partitions" "I" (.int ia1)) (hn : 1 ≤ ia1.toInt) :
    OwnMet l Z (⟨"com/example/stierlin/stierlin/coordinator/TopicHasPartitionPinLaw", "agrees", "(Lcom/example/stierlin/stierlin/coordinator/Topic;II)Z"⟩ : MethodName) method_3_code 4 (some .boolean) [] ({ frames := 1, cells := 0, slots := 0, locals := 30 } : Room) #[(.ref oa0), (.int ia1), (.int ia2)] h (OwnPure (.int 1) h) := by
  refine own_enter (f0 := fun m => mkF m 0 #[.val (.ref oa0), .val (.int ia1), .val (.int ia2), .unset] []) (plainFor_of_name own_pn_TopicHasPartitionPinLaw) (fun m => own_ef_own_rm_agrees m oa0 ia1 ia2) ?_
  intro p e s m below meth c T0 X0 C e0
  refine own_iload_n X0 C own_d_method_3_code_0 1 rfl rfl ?_
  refine own_i2l X0 C own_d_method_3_code_1 2 rfl (fun v1 ev1 => ?_)
  refine own_ldc2 X0 C (own_w hw 84 rfl) own_d_method_3_code_2 5 rfl ?_
  refine own_land X0 C own_d_method_3_code_5 6 rfl (fun v2 ev2 => ?_)
  have q1 := c_maskL v1 4294967295 32 (by decide) (by decide)
  rw [← ev2, ev1, c_i2l] at q1
  have q2 := rng32 ia2
  refine own_iload_n X0 C own_d_method_3_code_6 7 rfl rfl ?_
  refine own_i2l X0 C own_d_method_3_code_7 8 rfl (fun v3 ev3 => ?_)
  have q3 := c_i2l ia1
  rw [← ev3] at q3
  have q4 := rng32 ia1
  refine own_lcmp X0 C own_d_method_3_code_8 9 rfl (fun v4 ev4a ev4b ev4c => ?_)
  refine own_ifge X0 C own_d_method_3_code_9 12 16 rfl (by decide) (by decide) (i := v4.toInt) rfl (fun b1 => ?_) (fun b1 => ?_)
  · refine own_iconst X0 C own_d_method_3_code_16 17 rfl (0) rfl ?_
    refine own_istore_n X0 C own_d_method_3_code_17 18 rfl #[.val (.ref oa0), .val (.int ia1), .val (.int ia2), .val (.int (0 : Int32))] rfl ?_
    refine own_aload_n X0 C own_d_method_3_code_18 19 rfl rfl rfl ?_
    refine own_iload_n X0 C own_d_method_3_code_19 20 rfl rfl ?_
    refine own_callV X0 C (own_w hw 85 rfl) (own_w hw 86 rfl) (own_w hw 88 rfl) (own_w hw 87 rfl) (own_w hw 4 rfl) (own_w hw 89 rfl) (by decide) Eo (own_rm_hasp l Z a0 hw oa0 ia2 h ia1 F_partitions) e0 own_pd_I_R_Z [(.int ia2)] rfl rfl rfl rfl 0 rfl (by decide) (by decide) (by decide) (by decide) own_d_method_3_code_20 23 rfl (fun T2 L2 v2 X2 q2 => ?_)
    obtain ⟨rfl, eh2, rfl⟩ := q2
    have N2 := Fr.app (Fr.nil 0) (Fr.nil 0)
    refine own_iload_n X2 C own_d_method_3_code_23 24 rfl rfl ?_
    refine own_icmpne X2 C own_d_method_3_code_24 27 31 rfl (by decide) (by decide) (i := (own_hp ia1 ia2).toInt) rfl (j := 0) (by decide) (fun b3 => ?_) (fun b3 => ?_)
    · exfalso
      have q : own_hp ia1 ia2 = 0 := by rw [own_hp, if_neg (by omega)]
      rw [q] at b3; exact b3 (by decide)
    · refine own_iconst X2 C own_d_method_3_code_27 28 rfl (1) rfl ?_
      refine own_goto X2 C own_d_method_3_code_28 32 (by decide) (by decide) ?_
      refine own_iretN X2 C .boolean rfl (by simp) own_d_method_3_code_32 (by decide) (by decide) (1) (by decide) ?_
      exact ⟨rfl, eh2, rfl⟩
  · refine own_iconst X0 C own_d_method_3_code_12 13 rfl (1) rfl ?_
    refine own_goto X0 C own_d_method_3_code_13 17 (by decide) (by decide) ?_
    refine own_istore_n X0 C own_d_method_3_code_17 18 rfl #[.val (.ref oa0), .val (.int ia1), .val (.int ia2), .val (.int (1 : Int32))] rfl ?_
    refine own_aload_n X0 C own_d_method_3_code_18 19 rfl rfl rfl ?_
    refine own_iload_n X0 C own_d_method_3_code_19 20 rfl rfl ?_
    refine own_callV X0 C (own_w hw 85 rfl) (own_w hw 86 rfl) (own_w hw 88 rfl) (own_w hw 87 rfl) (own_w hw 4 rfl) (own_w hw 89 rfl) (by decide) Eo (own_rm_hasp l Z a0 hw oa0 ia2 h ia1 F_partitions) e0 own_pd_I_R_Z [(.int ia2)] rfl rfl rfl rfl 0 rfl (by decide) (by decide) (by decide) (by decide) own_d_method_3_code_20 23 rfl (fun T4 L4 v4 X4 q4 => ?_)
    obtain ⟨rfl, eh4, rfl⟩ := q4
    have N4 := Fr.app (Fr.nil 0) (Fr.nil 0)
    refine own_iload_n X4 C own_d_method_3_code_23 24 rfl rfl ?_
    refine own_icmpne X4 C own_d_method_3_code_24 27 31 rfl (by decide) (by decide) (i := (own_hp ia1 ia2).toInt) rfl (j := 1) (by decide) (fun b5 => ?_) (fun b5 => ?_)
    · exfalso
      have q : own_hp ia1 ia2 = 1 := by rw [own_hp, if_pos (by omega)]
      rw [q] at b5; exact b5 (by decide)
    · refine own_iconst X4 C own_d_method_3_code_27 28 rfl (1) rfl ?_
      refine own_goto X4 C own_d_method_3_code_28 32 (by decide) (by decide) ?_
      refine own_iretN X4 C .boolean rfl (by simp) own_d_method_3_code_32 (by decide) (by decide) (1) (by decide) ?_
      exact ⟨rfl, eh4, rfl⟩
theorem own_pd_III_R_Z : parseMethodDescriptor "(III)Z" = some ⟨[.int, .int, .int], some .boolean⟩ := by decide +kernel
set_option maxRecDepth 65536 in
set_option maxHeartbeats 4000000 in
theorem own_ef_own_rm_law (m : MethodId) (ia0 : Int32) (ia1 : Int32) (ia2 : Int32) : entryFrame m #[(.int ia0), (.int ia1), (.int ia2)] maxLocals = (mkF m 0 #[.val (.int ia0), .val (.int ia1), .val (.int ia2), .unset, .unset, .unset, .unset] []) := by first | (simp [entryFrame, mkF, argsToLocals, Value.category, maxLocals]; done) | rfl
set_option maxRecDepth 65536 in
set_option maxHeartbeats 4000000 in
theorem own_rm_law (l : Launch) (Z : State) (a0 : Array Value) (hw : ∀ d ∈ tables_1, d.before a0 Z = true) (ia0 : Int32) (ia1 : Int32) (ia2 : Int32) (h : Heap) (hZh : Z.heap = h) (hh : Jvm.Lit.constHeld Z "com/example/stierlin/stierlin/coordinator/TopicHasPartitionPinLaw" 11) (hcw : Jvm.Lit.compactW.before a0 Z = true) (cs : Int32) (vF : Value) (J : OwnJ Z h cs vF) :
    OwnMetWP l Z x code maxLocals ret tables_1 room_1 #[(.int ia0), (.int ia1), (.int ia2)] h (fun U => IB Z U.vm []) (fun v h' L => v = some (.int 1) ∧ Fr h.size L) := by
  refine own_enterW (f0 := fun m => mkF m 0 #[.val (.int ia0), .val (.int ia1), .val (.int ia2), .unset, .unset, .unset, .unset] []) (plainFor_of_name own_pn_TopicHasPartitionPinLaw) (fun m => own_ef_own_rm_law m ia0 ia1 ia2) ?_
  intro p e s m below meth c T0 X0 C e0 hs0 hPX hS
  have wS := own_wS hw
  refine own_iconst X0 C at_0 1 rfl (1) rfl ?_
  refine own_iload_n X0 C at_1 2 rfl rfl ?_
  refine own_ldc X0 C (own_w hw 0 rfl) at_2 4 rfl ?_
  refine own_iand X0 C at_4 5 rfl (fun v1 ev1 => ?_)
  refine own_ldc X0 C (own_w hw 1 rfl) at_5 7 rfl ?_
  refine own_irem X0 C at_7 8 rfl (by decide) (fun v2 ev2 => ?_)
  refine own_iadd X0 C at_8 9 rfl (fun v3 ev3 => ?_)
  have r1 := c_and ia0 2147483647 (by decide)
  rw [← ev1] at r1
  have r2 := (c_irem v1 100000 100000 (by decide)).1 r1.1
  rw [← ev2] at r2
  have r3 := c_iadd 1 v2
  rw [← ev3] at r3
  have r4 : (1 : Int32).toInt = 1 := by decide
  have r5 := rng32 v3
  have hn : 1 ≤ v3.toInt ∧ v3.toInt ≤ 100000 := by omega
  refine own_istore_n X0 C at_9 10 rfl #[.val (.int ia0), .val (.int ia1), .val (.int ia2), .val (.int v3), .unset, .unset, .unset] rfl ?_
  refine own_new X0 C (own_w hw 2 rfl) (own_w hw 3 rfl) (own_w hw 4 rfl) e0 at_10 13 rfl (by decide) (by decide) (fun T1 h1 b1 g1 X1 e1 E1 A1 D1 => ?_)
  have Fn : Fld Z h1 b1 "com/example/stierlin/stierlin/coordinator/Topic" "name" "Ljava/lang/String;" .null := D1 (Or.inr (own_w hw 77 rfl)) (ty := (.object "java/lang/String")) (by decide)
  have Fp : Fld Z h1 b1 "com/example/stierlin/stierlin/coordinator/Topic" "partitions" "I" (.int (0 : Int32)) := D1 (Or.inr (own_w hw 79 rfl)) (ty := .int) (by decide)
  have g0 : h.size ≤ b1 := Nat.le_of_eq g1.symm
  replace J := J.ext E1
  refine own_dup X1 C at_13 14 rfl rfl ?_
  refine own_ldcSV X1 C (own_w hw 5 rfl) wS e1 hS (Nat.zero_le _) (Fr.nil _) (fun b cl q => by rw [hs0, ← hZh]; exact q) hPX (by simp) hh hcw (vs := [.int 116]) (z := 1) ⟨by decide, by decide⟩ (by decide) (by decide) at_14 16 rfl 4 (by decide) (by decide) (by decide) (by decide) (fun a2 d2 T2 h2 k2 X2 C e2 E2 hS2 hk2 Es Fc Fv As IB1 => ?_)
  have I : OwnStr Z h2 a2 d2 1 (fun i => if i = 0 then (116 : Int32) else 0) := ⟨Es, Fv, Fc, As.eqv fun i hi => by obtain rfl : i = 0 := (by have q : i < 1 := hi; omega); rfl, by decide⟩
  have A2 := A1.ext E2
  replace Fn := Fn.ext E2
  replace Fp := Fp.ext E2
  replace J := J.ext E2
  refine own_iload_n X2 C at_16 17 rfl rfl ?_
  refine own_callIW X2 C rfl (own_w hw 13 rfl) (own_w hw 14 rfl) (own_w hw 4 rfl) (own_w hw 15 rfl) rfl (by decide) (own_metW (own_rm_init l Z a0 hw b1 a2 v3 h2 h.size g0 A2 Fn Fp d2 I cs vF J hn)) e2 hS2 (by rw [e2]; exact hk2) own_pd_Ljava_lang_String_I_R_V [(.ref a2), (.int v3)] rfl rfl rfl rfl 1 rfl (by decide) (by decide) (by decide) (by decide) at_17 20 rfl (fun T3 L3 v3 X3 C hS3 q3 => ?_)
  obtain ⟨rfl, NL3, -, Eo, Fo⟩ := q3
  have N3 := Fr.app (Fr.nil h.size) NL3
  refine own_astore X3 C at_20 22 rfl rfl #[.val (.int ia0), .val (.int ia1), .val (.int ia2), .val (.int v3), .val (.ref b1), .unset, .unset] rfl ?_
  refine own_iload_n X3 C at_22 23 rfl rfl ?_
  refine own_iconst X3 C at_23 24 rfl (2) rfl ?_
  refine own_isub X3 C at_24 25 rfl (fun v4 ev4 => ?_)
  refine own_iload_n X3 C at_25 26 rfl rfl ?_
  refine own_iconst X3 C at_26 27 rfl (3) rfl ?_
  refine own_iand X3 C at_27 28 rfl (fun v5 ev5 => ?_)
  refine own_iadd X3 C at_28 29 rfl (fun v6 ev6 => ?_)
  refine own_istore X3 C at_29 31 rfl #[.val (.int ia0), .val (.int ia1), .val (.int ia2), .val (.int v3), .val (.ref b1), .val (.int v6), .unset] rfl ?_
  refine own_bipush X3 C at_31 33 rfl (-2) rfl ?_
  refine own_iload_n X3 C at_33 34 rfl rfl ?_
  refine own_iconst X3 C at_34 35 rfl (2) rfl ?_
  refine own_iushr X3 C at_35 36 rfl (fun v7 ev7 => ?_)
  refine own_iconst X3 C at_36 37 rfl (3) rfl ?_
  refine own_iand X3 C at_37 38 rfl (fun v8 ev8 => ?_)
  refine own_iadd X3 C at_38 39 rfl (fun v9 ev9 => ?_)
  refine own_istore X3 C at_39 41 rfl #[.val (.int ia0), .val (.int ia1), .val (.int ia2), .val (.int v3), .val (.ref b1), .val (.int v6), .val (.int v9)] rfl ?_
  refine own_aload X3 C at_41 43 rfl rfl rfl ?_
  refine own_iload_n X3 C at_43 44 rfl rfl ?_
  refine own_iload_n X3 C at_44 45 rfl rfl ?_
  refine own_callP X3 C (own_w hw 80 rfl) (own_w hw 81 rfl) (own_w hw 82 rfl) (own_w hw 83 rfl) (by decide) (own_rm_agrees l Z a0 hw b1 v3 ia1 T3.heap Eo Fo hn.1) rfl own_pd_Lcom_example_stierlin_stierlin_coordinator_Topic_II_R_Z [(.ref b1), (.int v3), (.int ia1)] rfl rfl rfl rfl 0 rfl (by decide) (by decide) rfl rfl (by decide) (by decide) at_45 48 rfl (fun T4 X4 e4 => ?_)
  refine own_ifeq X4 C at_48 51 77 rfl (by decide) (by decide) (i := 1) (by decide) (fun b5 => ?_) (fun b5 => ?_)
  · exfalso
    omega
  · refine own_aload X4 C at_51 53 rfl rfl rfl ?_
    refine own_iload_n X4 C at_53 54 rfl rfl ?_
    refine own_iload X4 C at_54 56 rfl rfl ?_
    refine own_callP X4 C (own_w hw 80 rfl) (own_w hw 81 rfl) (own_w hw 82 rfl) (own_w hw 83 rfl) (by decide) (own_rm_agrees l Z a0 hw b1 v3 v6 T3.heap Eo Fo hn.1) e4 own_pd_Lcom_example_stierlin_stierlin_coordinator_Topic_II_R_Z [(.ref b1), (.int v3), (.int v6)] rfl rfl rfl rfl 0 rfl (by decide) (by decide) rfl rfl (by decide) (by decide) at_56 59 rfl (fun T6 X6 e6 => ?_)
    refine own_ifeq X6 C at_59 62 77 rfl (by decide) (by decide) (i := 1) (by decide) (fun b7 => ?_) (fun b7 => ?_)
    · exfalso
      omega
    · refine own_aload X6 C at_62 64 rfl rfl rfl ?_
      refine own_iload_n X6 C at_64 65 rfl rfl ?_
      refine own_iload X6 C at_65 67 rfl rfl ?_
      refine own_callP X6 C (own_w hw 80 rfl) (own_w hw 81 rfl) (own_w hw 82 rfl) (own_w hw 83 rfl) (by decide) (own_rm_agrees l Z a0 hw b1 v3 v9 T3.heap Eo Fo hn.1) e6 own_pd_Lcom_example_stierlin_stierlin_coordinator_Topic_II_R_Z [(.ref b1), (.int v3), (.int v9)] rfl rfl rfl rfl 0 rfl (by decide) (by decide) rfl rfl (by decide) (by decide) at_67 70 rfl (fun T8 X8 e8 => ?_)
      refine own_ifeq X8 C at_70 73 77 rfl (by decide) (by decide) (i := 1) (by decide) (fun b9 => ?_) (fun b9 => ?_)
      · exfalso
        omega
      · refine own_iconst X8 C at_73 74 rfl (1) rfl ?_
        refine own_goto X8 C at_74 78 (by decide) (by decide) ?_
        refine own_iretNW X8 C hS3 (by rw [e8]; exact Nat.le_refl _) .boolean rfl (by simp) at_78 (by decide) (by decide) (1) (by decide) ?_
        exact ⟨rfl, N3⟩
set_option maxRecDepth 65536 in
set_option maxHeartbeats 4000000 in
theorem own_comes_1 {Post : Tables → Env → Array Value → State → Outcome → State → Prop} (hpost : ∀ tb e args s v u, (limb_1_1.after args s (.returned v) u = true ∧ limb_1_2.after args s (.returned v) u = true ∧ True) → ReturnedEndW s (.returned v) u (Jvm.fieldLocs frame_1_writes args s ++ Jvm.arrayLocs frame_1_arrays args s ++ Jvm.staticLocs frame_1_statics s) 16 2176 → Post tb e args s (.returned v) u) :
    ArmFor flags0 classFile x code maxLocals ret World_1 tables_1 room_1 Calls_1 rest_1 Pre_1 Post := by
  intro l hfl _ _ p e ha hc hk s m args below hf hA hF happ hP
  obtain ⟨hcalls, hrest, hpre⟩ := hP
  obtain ⟨-, -, -, hnamed, -, -, -, hat⟩ := (Spec.applies_iff hf).mp happ
  obtain ⟨hg, hn⟩ := and_e (Cond.before_iff.mp (show (Jvm.Cond.and given_1 narrow_1).before args s = true from hpre))
  obtain ⟨g0, g0r⟩ := and_e hg
  obtain ⟨g1, g1r⟩ := and_e g0r
  obtain ⟨g2, g2r⟩ := and_e g1r
  obtain ⟨w0, w1, w2, rfl⟩ : ∃ w0 w1 w2 : Value, args = #[w0, w1, w2] := by
    have hs : args.size = 3 := by simpa [Cond.value, given_1] using g0
    obtain ⟨L⟩ := args
    match L, hs with
    | [w0, w1, w2], _ => exact ⟨w0, w1, w2, rfl⟩
  have hw := fun d (hd : d ∈ tables_1) => atoms_spec (ws := Jvm.Cond.code x code maxLocals ret :: tables_1) hat d (List.mem_cons_of_mem _ hd)
  have hfit : Fit s := fun {y c} hc i hi => by
    obtain ⟨ha, rfl⟩ := Array.getElem?_eq_some_iff.mp hc
    have q := List.all_eq_true.mp ((Array.all_eq_true_iff_forall_mem.mp hF) _ (Array.getElem_mem ha)) i (List.mem_range.mpr hi)
    simpa [Array.getElem?_eq_getElem hi] using q
  obtain ⟨i0, q0⟩ := is_v g1
  obtain rfl : w0 = (.int i0) := Option.some.inj q0
  obtain ⟨i1, q1⟩ := is_v g2
  obtain rfl : w1 = (.int i1) := Option.some.inj q1
  obtain ⟨i2, q2⟩ := is_v g2r
  obtain rfl : w2 = (.int i2) := Option.some.inj q2
  obtain ⟨hsets, hown0⟩ := atoms_of _ (rest_1_c_eq ▸ (show rest_1_c.before _ s = true from hrest))
  have jn := not_v (Cond.before_iff.mp (hsets _ (List.mem_of_getElem? (i := 2) rfl)))
  obtain ⟨cs, je⟩ := is_v (Cond.before_iff.mp (hsets _ (List.mem_of_getElem? (i := 1) rfl)))
  obtain ⟨vF, jf, jr⟩ := isR_v (Cond.before_iff.mp (hsets _ (List.mem_of_getElem? (i := 8) rfl)))
  have J : OwnJ s s.heap cs vF := ⟨Sta.start je (Or.inl (hsets _ (List.mem_of_getElem? (i := 0) rfl))), fun q => gotF (Cond.eq_ints je (Term.int_eval (0))) jn (Int32.toInt_inj.mp (q.trans (by decide))), Sta.start jf (Or.inl (hsets _ (List.mem_of_getElem? (i := 7) rfl))), jr⟩
  have hh : Jvm.Lit.constHeld s "com/example/stierlin/stierlin/coordinator/TopicHasPartitionPinLaw" 11 := hcalls.1 ("com/example/stierlin/stierlin/coordinator/TopicHasPartitionPinLaw", 11) (by simp [consts_1])
  obtain ⟨n, o, h1, h2, h3, _, L, rfl, ⟨rfl, N⟩, hq⟩ := own_rm_law l s _ hw i0 i1 i2 s.heap rfl hh (hsets _ (List.mem_of_getElem? (i := 2) rfl)) cs vF J p e ha hc hk s m _ below hf ((Spec.applies_iff_loose hf).mp happ).1 ⟨rfl, State.Warmed39.refl s, rfl, IB.start⟩ trivial
  refine ⟨n, _, h1, h2, h3, hpost _ _ _ _ _ _ ⟨Cond.after_iff.mpr rfl, Cond.after_iff.mpr (eq_i res_at (Term.int_eval (1)) rfl), trivial⟩ ⟨hq.1, hq.2.1, hq.2.2.1, (hq.2.2.2.sift fun y hy => Or.inr (N y hy)).mono (by decide) (by decide)⟩⟩
theorem main_1_1 : Claimed_1_1 := own_comes_1 fun _ _ _ _ _ _ h hF => ⟨h.1, hF⟩
theorem main_1_2 : Claimed_1_2 := own_comes_1 fun _ _ _ _ _ _ h hF => ⟨h.2.1, hF⟩
end Jvm.Pilot.@@N@@
namespace Jvm.Pilot.@@N@@
open Jvm Jvm.ClassFile Sem Op Lib Jvm.Free Jvm.Stand Jvm.Pilot.@@N@@.Jvm.D
/-! MADE BY PROGRAM (witnessworld.py) out of the Statement's table words and the real class files: 19 classes; the members and pool entries that the words name. The judged class is class 1, her method 1. -/
namespace start1
open Jvm.ClassFile
def u (s : String) : CpInfo := .utf8 (stringToUtf16 s)
/-- a pool by its gaps: so many unusable entries, then the entry; so many at the end -/
def gap : Nat → List CpInfo → List CpInfo
  | 0, r => r
  | n + 1, r => .unusable :: gap n r
def poolList (es : List (Nat × CpInfo)) (last : Nat) : List CpInfo := es.foldr (fun e r => gap e.1 (e.2 :: r)) (gap last [])
def pool (es : List (Nat × CpInfo)) (last : Nat) : Array CpInfo := ⟨poolList es last⟩
def fileOf (pool : Array CpInfo) (this : Nat) (attrs : Array Attribute := #[]) (ms : Array MethodInfo := #[]) (fl : Nat := 33) (sup : Nat := 0) (ifs : Array Nat := #[]) (fds : Array FieldInfo := #[]) : ClassFile where
  minorVersion := 0
  majorVersion := 65
  constantPool := pool
  accessFlags := fl
  thisClass := this
  superClass := sup
  interfaces := ifs
  fields := fds
  methods := ms
  attributes := attrs
def plain (name : String) (sup : Option ClassId) : Class where
  name := name
  kind := .ordinary
  loader := none
  accessFlags := 33
  super := sup
  interfaces := #[]
  cf := none
  fields := #[]
  methods := #[]
  instanceTypes := #[]
  staticTypes := #[]
  resolved := #[]
  callSites := []
  init := .initialized
  statics := none
  mirror := none

def pool0 : Array CpInfo := pool [(5, u "<init>"), (0, u "()V"), (1, .class_ 10), (1, u "java/lang/Object")] 113

def k0c0 : Code := { maxStack := 0, maxLocals := 1, code := object_method_1_code, exceptionTable := #[], attributes := #[] }
def k0m0 : Method := { name := "<init>", desc := "()V", sig := { parameters := [], returnType := none }, accessFlags := 1, code := some k0c0 }
/-- java/lang/Object -/
def k0 : Class := { plain "java/lang/Object" none with
  accessFlags := 33
  interfaces := #[]
  cf := some (fileOf pool0 8 #[] #[{ accessFlags := 1, nameIndex := 5, descriptorIndex := 6, attributes := #[] }] 33 0 #[] #[])
  fields := #[]
  methods := #[k0m0]
  instanceTypes := #[]
  staticTypes := #[]
  resolved := Array.replicate 124 none
  statics := none }

def pool1 : Array CpInfo := pool [(2, .class_ 4), (1, u "java/lang/Object"), (0, u "<init>"), (0, u "()V"), (0, .integer 2147483647), (0, .integer 100000), (0, .class_ 10), (0, u "com/example/stierlin/stierlin/coordinator/Topic"), (0, .string 12), (0, u "t"), (0, .methodref 9 14), (0, .nameAndType 5 15), (0, u "(Ljava/lang/String;I)V"), (0, .methodref 17 18), (0, .class_ 19), (0, .nameAndType 20 21), (0, u "com/example/stierlin/stierlin/coordinator/TopicHasPartitionPinLaw"), (0, u "agrees"), (0, u "(Lcom/example/stierlin/stierlin/coordinator/Topic;II)Z"), (0, .long 4294967295), (1, .methodref 9 25), (0, .nameAndType 26 27), (0, u "hasPartition"), (0, u "(I)Z"), (2, u "law"), (0, u "(III)Z")] 3

def k1m0 : Method := { name := "<init>", desc := "()V", sig := { parameters := [], returnType := none }, accessFlags := 1, code := none }
def k1c1 : Code := { maxStack := 4, maxLocals := 7, code := code, exceptionTable := #[], attributes := #[] }
def k1m1 : Method := { name := "law", desc := "(III)Z", sig := { parameters := [.int, .int, .int], returnType := some .boolean }, accessFlags := 9, code := some k1c1 }
def k1c2 : Code := { maxStack := 4, maxLocals := 4, code := method_3_code, exceptionTable := #[], attributes := #[] }
def k1m2 : Method := { name := "agrees", desc := "(Lcom/example/stierlin/stierlin/coordinator/Topic;II)Z", sig := { parameters := [(.object "com/example/stierlin/stierlin/coordinator/Topic"), .int, .int], returnType := some .boolean }, accessFlags := 10, code := some k1c2 }
/-- com/example/stierlin/stierlin/coordinator/TopicHasPartitionPinLaw -/
def k1 : Class := { plain "com/example/stierlin/stierlin/coordinator/TopicHasPartitionPinLaw" (some 0) with
  accessFlags := 49
  interfaces := #[]
  cf := some (fileOf pool1 17 #[] #[{ accessFlags := 1, nameIndex := 5, descriptorIndex := 6, attributes := #[] }, { accessFlags := 9, nameIndex := 30, descriptorIndex := 31, attributes := #[] }, { accessFlags := 10, nameIndex := 20, descriptorIndex := 21, attributes := #[] }] 49 2 #[] #[])
  fields := #[]
  methods := #[k1m0, k1m1, k1m2]
  instanceTypes := #[]
  staticTypes := #[]
  resolved := Array.replicate 35 none
  statics := none }

def pool2 : Array CpInfo := pool [(1, .methodref 2 3), (0, .class_ 4), (0, .nameAndType 5 6), (0, u "java/lang/Object"), (0, u "<init>"), (0, u "()V"), (0, .class_ 8), (0, u "java/lang/Record")] 13

def k2c0 : Code := { maxStack := 1, maxLocals := 1, code := jdk_30_method_1_code, exceptionTable := #[], attributes := #[] }
def k2m0 : Method := { name := "<init>", desc := "()V", sig := { parameters := [], returnType := none }, accessFlags := 4, code := some k2c0 }
/-- java/lang/Record -/
def k2 : Class := { plain "java/lang/Record" (some 0) with
  accessFlags := 1057
  interfaces := #[]
  cf := some (fileOf pool2 7 #[] #[{ accessFlags := 4, nameIndex := 5, descriptorIndex := 6, attributes := #[] }] 1057 2 #[] #[])
  fields := #[]
  methods := #[k2m0]
  instanceTypes := #[]
  staticTypes := #[]
  resolved := Array.replicate 22 none
  statics := none }

def pool3 : Array CpInfo := pool [(1, .methodref 2 3), (0, .class_ 4), (0, .nameAndType 5 6), (0, u "java/lang/Record"), (0, u "<init>"), (0, u "()V"), (0, .string 8), (0, u "topic name"), (0, .methodref 10 11), (0, .class_ 12), (0, .nameAndType 13 14), (0, u "java/util/Objects"), (0, u "requireNonNull"), (0, u "(Ljava/lang/Object;Ljava/lang/String;)Ljava/lang/Object;"), (0, .methodref 16 17), (0, .class_ 18), (0, .nameAndType 19 20), (0, u "com/example/stierlin/stierlin/coordinator/Topic"), (0, u "checkName"), (0, u "(Ljava/lang/String;)V"), (0, .integer 100000), (8, .fieldref 16 31), (0, .nameAndType 32 33), (0, u "name"), (0, u "Ljava/lang/String;"), (0, .fieldref 16 35), (0, .nameAndType 36 37), (0, u "partitions"), (0, u "I"), (0, .methodref 39 40), (0, .class_ 41), (0, .nameAndType 42 43), (0, u "java/lang/String"), (0, u "length"), (0, u "()I"), (0, .methodref 39 45), (0, .nameAndType 46 47), (0, u "charAt"), (0, u "(I)C"), (0, .methodref 16 49), (0, .nameAndType 50 51), (0, u "isNameCharacter"), (0, u "(C)Z"), (18, .methodref 39 71), (0, .nameAndType 72 73), (0, u "isEmpty"), (0, u "()Z"), (15, u "MAX_NAME_LENGTH"), (2, u "MAX_PARTITIONS"), (0, u "(Ljava/lang/String;I)V"), (4, u "hasPartition"), (0, u "(I)Z")] 33

def k3c0 : Code := { maxStack := 4, maxLocals := 3, code := prog_21_method_1_code, exceptionTable := #[], attributes := #[] }
def k3m0 : Method := { name := "<init>", desc := "(Ljava/lang/String;I)V", sig := { parameters := [(.object "java/lang/String"), .int], returnType := none }, accessFlags := 1, code := some k3c0 }
def k3c1 : Code := { maxStack := 2, maxLocals := 2, code := prog_21_method_2_code, exceptionTable := #[], attributes := #[] }
def k3m1 : Method := { name := "hasPartition", desc := "(I)Z", sig := { parameters := [.int], returnType := some .boolean }, accessFlags := 1, code := some k3c1 }
def k3c2 : Code := { maxStack := 8, maxLocals := 2, code := prog_21_method_3_code, exceptionTable := #[], attributes := #[] }
def k3m2 : Method := { name := "checkName", desc := "(Ljava/lang/String;)V", sig := { parameters := [(.object "java/lang/String")], returnType := none }, accessFlags := 9, code := some k3c2 }
def k3c3 : Code := { maxStack := 2, maxLocals := 1, code := prog_21_method_4_code, exceptionTable := #[], attributes := #[] }
def k3m3 : Method := { name := "isNameCharacter", desc := "(C)Z", sig := { parameters := [.char], returnType := some .boolean }, accessFlags := 10, code := some k3c3 }
/-- com/example/stierlin/stierlin/coordinator/Topic -/
def k3 : Class := { plain "com/example/stierlin/stierlin/coordinator/Topic" (some 2) with
  accessFlags := 49
  interfaces := #[]
  cf := some (fileOf pool3 16 #[] #[{ accessFlags := 1, nameIndex := 5, descriptorIndex := 93, attributes := #[] }, { accessFlags := 1, nameIndex := 98, descriptorIndex := 99, attributes := #[] }, { accessFlags := 9, nameIndex := 19, descriptorIndex := 20, attributes := #[] }, { accessFlags := 10, nameIndex := 50, descriptorIndex := 51, attributes := #[] }] 49 2 #[] #[{ accessFlags := 18, nameIndex := 32, descriptorIndex := 33, attributes := #[] }, { accessFlags := 18, nameIndex := 36, descriptorIndex := 37, attributes := #[] }, { accessFlags := 25, nameIndex := 89, descriptorIndex := 37, attributes := #[] }, { accessFlags := 25, nameIndex := 92, descriptorIndex := 37, attributes := #[] }])
  fields := #[{ name := "name", type := (.object "java/lang/String"), accessFlags := 18, slot := 0, constantValue := 0 }, { name := "partitions", type := .int, accessFlags := 18, slot := 1, constantValue := 0 }, { name := "MAX_NAME_LENGTH", type := .int, accessFlags := 25, slot := 0, constantValue := 0 }, { name := "MAX_PARTITIONS", type := .int, accessFlags := 25, slot := 1, constantValue := 0 }]
  methods := #[k3m0, k3m1, k3m2, k3m3]
  instanceTypes := #[(.object "java/lang/String"), .int]
  staticTypes := #[.int, .int]
  resolved := Array.replicate 133 none
  statics := none }

def pool4 : Array CpInfo := pool [(1, .class_ 2), (0, u "java/io/Serializable"), (0, .class_ 4), (0, u "java/lang/Object")] 2

/-- java/io/Serializable -/
def k4 : Class := { plain "java/io/Serializable" (some 0) with
  accessFlags := 1537
  interfaces := #[]
  cf := some (fileOf pool4 1 #[] #[] 1537 3 #[] #[])
  fields := #[]
  methods := #[]
  instanceTypes := #[]
  staticTypes := #[]
  resolved := Array.replicate 7 none
  statics := none }

def pool5 : Array CpInfo := pool [(1, .class_ 2), (0, u "java/lang/Comparable"), (0, .class_ 4), (0, u "java/lang/Object")] 7

/-- java/lang/Comparable -/
def k5 : Class := { plain "java/lang/Comparable" (some 0) with
  accessFlags := 1537
  interfaces := #[]
  cf := some (fileOf pool5 1 #[] #[] 1537 3 #[] #[])
  fields := #[]
  methods := #[]
  instanceTypes := #[]
  staticTypes := #[]
  resolved := Array.replicate 12 none
  statics := none }

def pool6 : Array CpInfo := pool [(2, .class_ 4), (1, u "java/lang/CharSequence"), (42, .class_ 48), (0, u "java/lang/CharSequence$1CodePointIterator"), (10, .class_ 60), (0, u "java/lang/CharSequence$1CharIterator"), (5, .class_ 67), (0, u "java/lang/Object")] 63

/-- java/lang/CharSequence -/
def k6 : Class := { plain "java/lang/CharSequence" (some 0) with
  accessFlags := 1537
  interfaces := #[]
  cf := some (fileOf pool6 2 #[.nestMembers #[47, 59]] #[] 1537 66 #[] #[])
  fields := #[]
  methods := #[]
  instanceTypes := #[]
  staticTypes := #[]
  resolved := Array.replicate 131 none
  statics := none }

def pool7 : Array CpInfo := pool [(1, .class_ 2), (0, u "java/lang/constant/Constable"), (0, .class_ 4), (0, u "java/lang/Object")] 6

/-- java/lang/constant/Constable -/
def k7 : Class := { plain "java/lang/constant/Constable" (some 0) with
  accessFlags := 1537
  interfaces := #[]
  cf := some (fileOf pool7 1 #[] #[] 1537 3 #[] #[])
  fields := #[]
  methods := #[]
  instanceTypes := #[]
  staticTypes := #[]
  resolved := Array.replicate 11 none
  statics := none }

def pool8 : Array CpInfo := pool [(1, .class_ 2), (0, u "java/lang/constant/ConstantDesc"), (0, .class_ 4), (0, u "java/lang/Object")] 32

/-- java/lang/constant/ConstantDesc -/
def k8 : Class := { plain "java/lang/constant/ConstantDesc" (some 0) with
  accessFlags := 1537
  interfaces := #[]
  cf := some (fileOf pool8 1 #[] #[] 1537 3 #[] #[])
  fields := #[]
  methods := #[]
  instanceTypes := #[]
  staticTypes := #[]
  resolved := Array.replicate 37 none
  statics := none }

def pool9 : Array CpInfo := pool [(2, .class_ 4), (1, u "java/lang/Object"), (0, u "<init>"), (0, u "()V"), (2, .fieldref 10 11), (0, .class_ 12), (0, .nameAndType 13 14), (0, u "java/lang/String"), (0, u "value"), (0, u "[B"), (0, .fieldref 10 16), (0, .nameAndType 17 18), (0, u "coder"), (0, u "B"), (2, u "hash"), (0, u "I"), (2, u "hashIsZero"), (0, u "Z"), (11, .fieldref 10 39), (0, .nameAndType 40 26), (0, u "COMPACT_STRINGS"), (66, .class_ 109), (1, u "java/lang/StringLatin1"), (32, u "()Z"), (191, u "()I"), (0, .methodref 10 336), (0, .nameAndType 17 337), (0, u "()B"), (25, u "([BI)C"), (27, u "(II)V"), (35, u "(I)C"), (64, .methodref 10 493), (0, .nameAndType 494 142), (0, u "isLatin1"), (0, .methodref 107 496), (0, .nameAndType 497 363), (0, u "charAt"), (3, u "checkIndex"), (5, u "length"), (67, .class_ 576), (0, u "java/lang/CharSequence"), (22, u "CASE_INSENSITIVE_ORDER"), (0, u "Ljava/util/Comparator;"), (91, u "isEmpty"), (360, .fieldref 1054 1055), (0, .class_ 1056), (0, .nameAndType 1057 1058), (0, u "jdk/internal/util/Preconditions"), (0, u "SIOOBE_FORMATTER"), (0, u "Ljava/util/function/BiFunction;"), (0, .methodref 1054 1060), (0, .nameAndType 501 1061), (0, u "(IILjava/util/function/BiFunction;)I"), (39, u "serialPersistentFields"), (0, u "[Ljava/io/ObjectStreamField;"), (0, .class_ 1104), (0, u "java/lang/String$CaseInsensitiveComparator"), (1, .class_ 1107), (0, u "java/io/Serializable"), (0, .class_ 1109), (0, u "java/lang/Comparable"), (0, .class_ 1111), (0, u "java/lang/constant/Constable"), (0, .class_ 1113), (0, u "java/lang/constant/ConstantDesc"), (2, u "serialVersionUID"), (0, u "J"), (3, u "REPL"), (0, u "C"), (2, u "LATIN1"), (1, u "UTF16")] 323

def k9m0 : Method := { name := "<init>", desc := "()V", sig := { parameters := [], returnType := none }, accessFlags := 1, code := none }
def k9c1 : Code := { maxStack := 2, maxLocals := 1, code := jdk_42_method_54_code, exceptionTable := #[], attributes := #[] }
def k9m1 : Method := { name := "length", desc := "()I", sig := { parameters := [], returnType := some .int }, accessFlags := 1, code := some k9c1 }
def k9c2 : Code := { maxStack := 1, maxLocals := 1, code := jdk_42_method_55_code, exceptionTable := #[], attributes := #[] }
def k9m2 : Method := { name := "isEmpty", desc := "()Z", sig := { parameters := [], returnType := some .boolean }, accessFlags := 1, code := some k9c2 }
def k9c3 : Code := { maxStack := 2, maxLocals := 2, code := jdk_42_method_56_code, exceptionTable := #[], attributes := #[] }
def k9m3 : Method := { name := "charAt", desc := "(I)C", sig := { parameters := [.int], returnType := some .char }, accessFlags := 1, code := some k9c3 }
def k9c4 : Code := { maxStack := 1, maxLocals := 1, code := jdk_42_method_152_code, exceptionTable := #[], attributes := #[] }
def k9m4 : Method := { name := "coder", desc := "()B", sig := { parameters := [], returnType := some .byte }, accessFlags := 0, code := some k9c4 }
def k9c5 : Code := { maxStack := 1, maxLocals := 1, code := jdk_42_method_154_code, exceptionTable := #[], attributes := #[] }
def k9m5 : Method := { name := "isLatin1", desc := "()Z", sig := { parameters := [], returnType := some .boolean }, accessFlags := 0, code := some k9c5 }
def k9c6 : Code := { maxStack := 3, maxLocals := 2, code := jdk_42_method_155_code, exceptionTable := #[], attributes := #[] }
def k9m6 : Method := { name := "checkIndex", desc := "(II)V", sig := { parameters := [.int, .int], returnType := none }, accessFlags := 8, code := some k9c6 }
/-- java/lang/String -/
def k9 : Class := { plain "java/lang/String" (some 0) with
  accessFlags := 49
  interfaces := #[4, 5, 6, 7, 8]
  cf := some (fileOf pool9 10 #[.nestMembers #[1103]] #[{ accessFlags := 1, nameIndex := 5, descriptorIndex := 6, attributes := #[] }, { accessFlags := 1, nameIndex := 507, descriptorIndex := 334, attributes := #[] }, { accessFlags := 1, nameIndex := 692, descriptorIndex := 142, attributes := #[] }, { accessFlags := 1, nameIndex := 497, descriptorIndex := 427, attributes := #[] }, { accessFlags := 0, nameIndex := 17, descriptorIndex := 337, attributes := #[] }, { accessFlags := 0, nameIndex := 494, descriptorIndex := 142, attributes := #[] }, { accessFlags := 8, nameIndex := 501, descriptorIndex := 391, attributes := #[] }] 49 2 #[1106, 1108, 575, 1110, 1112] #[{ accessFlags := 18, nameIndex := 13, descriptorIndex := 14, attributes := #[] }, { accessFlags := 18, nameIndex := 17, descriptorIndex := 18, attributes := #[] }, { accessFlags := 2, nameIndex := 21, descriptorIndex := 22, attributes := #[] }, { accessFlags := 2, nameIndex := 25, descriptorIndex := 26, attributes := #[] }, { accessFlags := 26, nameIndex := 1116, descriptorIndex := 1117, attributes := #[] }, { accessFlags := 24, nameIndex := 40, descriptorIndex := 26, attributes := #[] }, { accessFlags := 26, nameIndex := 1101, descriptorIndex := 1102, attributes := #[] }, { accessFlags := 26, nameIndex := 1121, descriptorIndex := 1122, attributes := #[] }, { accessFlags := 25, nameIndex := 599, descriptorIndex := 600, attributes := #[] }, { accessFlags := 24, nameIndex := 1125, descriptorIndex := 18, attributes := #[] }, { accessFlags := 24, nameIndex := 1127, descriptorIndex := 18, attributes := #[] }])
  fields := #[{ name := "value", type := (.array .byte), accessFlags := 18, slot := 0, constantValue := 0 }, { name := "coder", type := .byte, accessFlags := 18, slot := 1, constantValue := 0 }, { name := "hash", type := .int, accessFlags := 2, slot := 2, constantValue := 0 }, { name := "hashIsZero", type := .boolean, accessFlags := 2, slot := 3, constantValue := 0 }, { name := "serialVersionUID", type := .long, accessFlags := 26, slot := 0, constantValue := 0 }, { name := "COMPACT_STRINGS", type := .boolean, accessFlags := 24, slot := 1, constantValue := 0 }, { name := "serialPersistentFields", type := (.array (.object "java/io/ObjectStreamField")), accessFlags := 26, slot := 2, constantValue := 0 }, { name := "REPL", type := .char, accessFlags := 26, slot := 3, constantValue := 0 }, { name := "CASE_INSENSITIVE_ORDER", type := (.object "java/util/Comparator"), accessFlags := 25, slot := 4, constantValue := 0 }, { name := "LATIN1", type := .byte, accessFlags := 24, slot := 5, constantValue := 0 }, { name := "UTF16", type := .byte, accessFlags := 24, slot := 6, constantValue := 0 }]
  methods := #[k9m0, k9m1, k9m2, k9m3, k9m4, k9m5, k9m6]
  instanceTypes := #[(.array .byte), .byte, .int, .boolean]
  staticTypes := #[.long, .boolean, (.array (.object "java/io/ObjectStreamField")), .char, (.object "java/util/Comparator"), .byte, .byte]
  resolved := Array.replicate 1451 none
  statics := some 0 }

def pool10 : Array CpInfo := pool [(2, .class_ 4), (1, u "java/lang/Object"), (0, u "<init>"), (0, u "()V"), (35, .class_ 44), (1, u "java/util/Objects"), (0, u "requireNonNull"), (48, u "(Ljava/lang/Object;Ljava/lang/String;)Ljava/lang/Object;")] 89

def k10m0 : Method := { name := "<init>", desc := "()V", sig := { parameters := [], returnType := none }, accessFlags := 2, code := none }
def k10c1 : Code := { maxStack := 3, maxLocals := 2, code := jdk_31_method_11_code, exceptionTable := #[], attributes := #[] }
def k10m1 : Method := { name := "requireNonNull", desc := "(Ljava/lang/Object;Ljava/lang/String;)Ljava/lang/Object;", sig := { parameters := [(.object "java/lang/Object"), (.object "java/lang/String")], returnType := some (.object "java/lang/Object") }, accessFlags := 9, code := some k10c1 }
/-- java/util/Objects -/
def k10 : Class := { plain "java/util/Objects" (some 0) with
  accessFlags := 49
  interfaces := #[]
  cf := some (fileOf pool10 42 #[] #[{ accessFlags := 2, nameIndex := 5, descriptorIndex := 6, attributes := #[] }, { accessFlags := 9, nameIndex := 45, descriptorIndex := 94, attributes := #[] }] 49 2 #[] #[])
  fields := #[]
  methods := #[k10m0, k10m1]
  instanceTypes := #[]
  staticTypes := #[]
  resolved := Array.replicate 184 none
  statics := none }

def pool11 : Array CpInfo := pool [(1, .class_ 2), (0, u "java/lang/String"), (1, .class_ 6), (1, u "java/lang/Object"), (0, u "<init>"), (0, u "()V"), (0, .methodref 1 10), (0, .nameAndType 11 12), (0, u "checkIndex"), (0, u "(II)V"), (1, .class_ 16), (1, u "java/lang/StringLatin1"), (36, u "([BI)C"), (67, u "$assertionsDisabled"), (0, u "Z"), (98, .class_ 223), (1, u "java/lang/StringLatin1$LinesSpliterator"), (28, u "charAt"), (137, .class_ 391), (0, u "java/lang/StringLatin1$CharsSpliterator")] 3

def k11m0 : Method := { name := "<init>", desc := "()V", sig := { parameters := [], returnType := none }, accessFlags := 0, code := none }
def k11c1 : Code := { maxStack := 2, maxLocals := 2, code := jdk_43_method_2_code, exceptionTable := #[], attributes := #[] }
def k11m1 : Method := { name := "charAt", desc := "([BI)C", sig := { parameters := [(.array .byte), .int], returnType := some .char }, accessFlags := 9, code := some k11c1 }
/-- java/lang/StringLatin1 -/
def k11 : Class := { plain "java/lang/StringLatin1" (some 0) with
  accessFlags := 48
  interfaces := #[]
  cf := some (fileOf pool11 14 #[.nestMembers #[390, 221]] #[{ accessFlags := 0, nameIndex := 7, descriptorIndex := 8, attributes := #[] }, { accessFlags := 9, nameIndex := 252, descriptorIndex := 53, attributes := #[] }] 48 4 #[] #[{ accessFlags := 4120, nameIndex := 121, descriptorIndex := 122, attributes := #[] }])
  fields := #[{ name := "$assertionsDisabled", type := .boolean, accessFlags := 4120, slot := 0, constantValue := 0 }]
  methods := #[k11m0, k11m1]
  instanceTypes := #[]
  staticTypes := #[.boolean]
  resolved := Array.replicate 395 none
  statics := none }

def pool12 : Array CpInfo := pool [(2, .class_ 4), (1, u "java/lang/Object"), (0, u "<init>"), (0, u "()V"), (17, .class_ 26), (1, u "jdk/internal/util/Preconditions"), (6, u "checkIndex"), (21, .class_ 56), (0, u "jdk/internal/util/Preconditions$4"), (57, .class_ 115), (0, u "jdk/internal/util/Preconditions$1"), (7, u "SIOOBE_FORMATTER"), (0, u "Ljava/util/function/BiFunction;"), (0, .class_ 126), (0, u "jdk/internal/util/Preconditions$2"), (3, u "AIOOBE_FORMATTER"), (0, .class_ 132), (0, u "jdk/internal/util/Preconditions$3"), (3, u "IOOBE_FORMATTER"), (41, u "(IILjava/util/function/BiFunction;)I")] 15

def k12m0 : Method := { name := "<init>", desc := "()V", sig := { parameters := [], returnType := none }, accessFlags := 1, code := none }
def k12c1 : Code := { maxStack := 3, maxLocals := 3, code := jdk_41_method_11_code, exceptionTable := #[], attributes := #[] }
def k12m1 : Method := { name := "checkIndex", desc := "(IILjava/util/function/BiFunction;)I", sig := { parameters := [.int, .int, (.object "java/util/function/BiFunction")], returnType := some .int }, accessFlags := 9, code := some k12c1 }
/-- jdk/internal/util/Preconditions -/
def k12 : Class := { plain "jdk/internal/util/Preconditions" (some 0) with
  accessFlags := 33
  interfaces := #[]
  cf := some (fileOf pool12 24 #[.nestMembers #[55, 131, 125, 114]] #[{ accessFlags := 1, nameIndex := 5, descriptorIndex := 6, attributes := #[] }, { accessFlags := 9, nameIndex := 33, descriptorIndex := 178, attributes := #[] }] 33 2 #[] #[{ accessFlags := 25, nameIndex := 123, descriptorIndex := 124, attributes := #[] }, { accessFlags := 25, nameIndex := 130, descriptorIndex := 124, attributes := #[] }, { accessFlags := 25, nameIndex := 136, descriptorIndex := 124, attributes := #[] }])
  fields := #[{ name := "SIOOBE_FORMATTER", type := (.object "java/util/function/BiFunction"), accessFlags := 25, slot := 0, constantValue := 0 }, { name := "AIOOBE_FORMATTER", type := (.object "java/util/function/BiFunction"), accessFlags := 25, slot := 1, constantValue := 0 }, { name := "IOOBE_FORMATTER", type := (.object "java/util/function/BiFunction"), accessFlags := 25, slot := 2, constantValue := 0 }]
  methods := #[k12m0, k12m1]
  instanceTypes := #[]
  staticTypes := #[(.object "java/util/function/BiFunction"), (.object "java/util/function/BiFunction"), (.object "java/util/function/BiFunction")]
  resolved := Array.replicate 194 none
  statics := some 1 }

def pool13 : Array CpInfo := pool [(9, u "<init>"), (6, .class_ 18), (1, u "java/lang/Object"), (0, u "()V"), (1, .class_ 23), (1, u "jdk/internal/util/ArraysSupport"), (0, u "LOG2_ARRAY_LONG_INDEX_SCALE"), (0, u "I"), (2, u "U"), (0, u "Ljdk/internal/misc/Unsafe;"), (8, u "BIG_ENDIAN"), (0, u "Z"), (8, u "LOG2_BYTE_BIT_SIZE"), (4, u "LOG2_ARRAY_INT_INDEX_SCALE"), (54, u "JLA"), (0, u "Ljdk/internal/access/JavaLangAccess;"), (11, u "LOG2_ARRAY_BOOLEAN_INDEX_SCALE"), (9, u "LOG2_ARRAY_BYTE_INDEX_SCALE"), (5, u "LOG2_ARRAY_CHAR_INDEX_SCALE"), (5, u "LOG2_ARRAY_SHORT_INDEX_SCALE"), (18, u "LOG2_ARRAY_FLOAT_INDEX_SCALE"), (24, u "LOG2_ARRAY_DOUBLE_INDEX_SCALE"), (89, u "T_BOOLEAN"), (2, u "T_CHAR"), (1, u "T_FLOAT"), (1, u "T_DOUBLE"), (1, u "T_BYTE"), (1, u "T_SHORT"), (1, u "T_INT"), (1, u "T_LONG"), (1, u "SOFT_MAX_ARRAY_LENGTH")] 83

def k13m0 : Method := { name := "<init>", desc := "()V", sig := { parameters := [], returnType := none }, accessFlags := 2, code := none }
/-- jdk/internal/util/ArraysSupport -/
def k13 : Class := { plain "jdk/internal/util/ArraysSupport" (some 0) with
  accessFlags := 33
  interfaces := #[]
  cf := some (fileOf pool13 21 #[] #[{ accessFlags := 2, nameIndex := 9, descriptorIndex := 19, attributes := #[] }] 33 16 #[] #[{ accessFlags := 24, nameIndex := 28, descriptorIndex := 29, attributes := #[] }, { accessFlags := 26, nameIndex := 38, descriptorIndex := 39, attributes := #[] }, { accessFlags := 25, nameIndex := 121, descriptorIndex := 25, attributes := #[] }, { accessFlags := 25, nameIndex := 131, descriptorIndex := 25, attributes := #[] }, { accessFlags := 25, nameIndex := 137, descriptorIndex := 25, attributes := #[] }, { accessFlags := 25, nameIndex := 143, descriptorIndex := 25, attributes := #[] }, { accessFlags := 25, nameIndex := 53, descriptorIndex := 25, attributes := #[] }, { accessFlags := 25, nameIndex := 24, descriptorIndex := 25, attributes := #[] }, { accessFlags := 25, nameIndex := 162, descriptorIndex := 25, attributes := #[] }, { accessFlags := 25, nameIndex := 187, descriptorIndex := 25, attributes := #[] }, { accessFlags := 26, nameIndex := 48, descriptorIndex := 25, attributes := #[] }, { accessFlags := 25, nameIndex := 277, descriptorIndex := 25, attributes := #[] }, { accessFlags := 25, nameIndex := 280, descriptorIndex := 25, attributes := #[] }, { accessFlags := 25, nameIndex := 282, descriptorIndex := 25, attributes := #[] }, { accessFlags := 25, nameIndex := 284, descriptorIndex := 25, attributes := #[] }, { accessFlags := 25, nameIndex := 286, descriptorIndex := 25, attributes := #[] }, { accessFlags := 25, nameIndex := 288, descriptorIndex := 25, attributes := #[] }, { accessFlags := 25, nameIndex := 290, descriptorIndex := 25, attributes := #[] }, { accessFlags := 25, nameIndex := 292, descriptorIndex := 25, attributes := #[] }, { accessFlags := 26, nameIndex := 108, descriptorIndex := 109, attributes := #[] }, { accessFlags := 25, nameIndex := 294, descriptorIndex := 25, attributes := #[] }])
  fields := #[{ name := "U", type := (.object "jdk/internal/misc/Unsafe"), accessFlags := 24, slot := 0, constantValue := 0 }, { name := "BIG_ENDIAN", type := .boolean, accessFlags := 26, slot := 1, constantValue := 0 }, { name := "LOG2_ARRAY_BOOLEAN_INDEX_SCALE", type := .int, accessFlags := 25, slot := 2, constantValue := 0 }, { name := "LOG2_ARRAY_BYTE_INDEX_SCALE", type := .int, accessFlags := 25, slot := 3, constantValue := 0 }, { name := "LOG2_ARRAY_CHAR_INDEX_SCALE", type := .int, accessFlags := 25, slot := 4, constantValue := 0 }, { name := "LOG2_ARRAY_SHORT_INDEX_SCALE", type := .int, accessFlags := 25, slot := 5, constantValue := 0 }, { name := "LOG2_ARRAY_INT_INDEX_SCALE", type := .int, accessFlags := 25, slot := 6, constantValue := 0 }, { name := "LOG2_ARRAY_LONG_INDEX_SCALE", type := .int, accessFlags := 25, slot := 7, constantValue := 0 }, { name := "LOG2_ARRAY_FLOAT_INDEX_SCALE", type := .int, accessFlags := 25, slot := 8, constantValue := 0 }, { name := "LOG2_ARRAY_DOUBLE_INDEX_SCALE", type := .int, accessFlags := 25, slot := 9, constantValue := 0 }, { name := "LOG2_BYTE_BIT_SIZE", type := .int, accessFlags := 26, slot := 10, constantValue := 0 }, { name := "T_BOOLEAN", type := .int, accessFlags := 25, slot := 11, constantValue := 0 }, { name := "T_CHAR", type := .int, accessFlags := 25, slot := 12, constantValue := 0 }, { name := "T_FLOAT", type := .int, accessFlags := 25, slot := 13, constantValue := 0 }, { name := "T_DOUBLE", type := .int, accessFlags := 25, slot := 14, constantValue := 0 }, { name := "T_BYTE", type := .int, accessFlags := 25, slot := 15, constantValue := 0 }, { name := "T_SHORT", type := .int, accessFlags := 25, slot := 16, constantValue := 0 }, { name := "T_INT", type := .int, accessFlags := 25, slot := 17, constantValue := 0 }, { name := "T_LONG", type := .int, accessFlags := 25, slot := 18, constantValue := 0 }, { name := "JLA", type := (.object "jdk/internal/access/JavaLangAccess"), accessFlags := 26, slot := 19, constantValue := 0 }, { name := "SOFT_MAX_ARRAY_LENGTH", type := .int, accessFlags := 25, slot := 20, constantValue := 0 }]
  methods := #[k13m0]
  instanceTypes := #[]
  staticTypes := #[(.object "jdk/internal/misc/Unsafe"), .boolean, .int, .int, .int, .int, .int, .int, .int, .int, .int, .int, .int, .int, .int, .int, .int, .int, .int, (.object "jdk/internal/access/JavaLangAccess"), .int]
  resolved := Array.replicate 378 none
  statics := none }

def pool14 : Array CpInfo := pool [(1, u "java/lang/Cloneable"), (0, .class_ 1), (0, u "java/lang/Object"), (0, .class_ 3)] 3

/-- java/lang/Cloneable -/
def k14 : Class := { plain "java/lang/Cloneable" (some 0) with
  accessFlags := 1537
  interfaces := #[]
  cf := some (fileOf pool14 2 #[] #[] 1537 4 #[] #[])
  fields := #[]
  methods := #[]
  instanceTypes := #[]
  staticTypes := #[]
  resolved := Array.replicate 8 none
  statics := none }

/-- the primitive byte -/
def k15 : Class := { plain "byte" none with kind := .primitive 'B', accessFlags := 0x411 }
/-- [B -/
def k16 : Class := { plain "[B" (some 0) with kind := .array 15 .byte, interfaces := #[14, 4], accessFlags := 1041 }

/-- the primitive int -/
def k17 : Class := { plain "int" none with kind := .primitive 'I', accessFlags := 0x411 }
/-- [I -/
def k18 : Class := { plain "[I" (some 0) with kind := .array 17 .int, interfaces := #[14, 4], accessFlags := 1041 }

def heap : Heap := #[{ cls := 9, slots := #[.long 0, .int 1, .null, .int 0, .null, .int 0, .int 0], vm := .statics 9 },
  { cls := 12, slots := #[.null, .null, .null], vm := .statics 12 }]
def classes : Array Class := #[k0, k1, k2, k3, k4, k5, k6, k7, k8, k9, k10, k11, k12, k13, k14, k15, k16, k17, k18]
def interned : List (Array UInt16 × Addr) := []
def slotsUsed : Nat := 10
def theMethod : MethodId := ⟨1, 1⟩
def args0 : Array Value := #[.int 5, .int 3, .int 2]
def aboutOver (below : List Frame) : State where
  vm := { classes := classes, interned := interned.toArray }
  heap := heap
  slotsUsed := slotsUsed
  threads := #[{ frames := .invoking theMethod args0 :: below }]
def below0 : List Frame := [.native { method := ⟨0, 0⟩, args := #[] }]
def about1 : State := aboutOver below0
def p0 : Program := .bare "" "" ""
def e0 : Env := launch0.env 0 0 0
theorem w_frames : about1.frames = Frame.invoking theMethod args0 :: below0 := rfl
set_option maxRecDepth 65536 in
theorem w_args : argsFit about1.vm theMethod args0 = true := by decide +kernel
set_option maxRecDepth 65536 in
theorem w_heap : heapFits about1 = true := by decide +kernel
set_option maxRecDepth 65536 in
theorem w_runnable : about1.curStatus? = some .runnable := by decide +kernel
set_option maxRecDepth 65536 in
theorem w_alone : about1.alone = true := by decide +kernel
set_option maxRecDepth 65536 in
theorem w_named : about1.methodNamed? x = some theMethod := by decide +kernel
set_option maxRecDepth 65536 in
theorem w_hears : about1.hears theMethod below0 = true := by decide +kernel
set_option maxRecDepth 65536 in
theorem w_ripe : about1.ripe theMethod args0 below0 = true := by decide +kernel
theorem w_running : about1.status = .running := rfl
set_option maxRecDepth 65536 in
theorem w_room : about1.hasRoom e0.platform room_1 = true :=
  launch0.hasRoom_least _ room_1 (by decide +kernel) (by decide +kernel) (by decide +kernel) (by decide +kernel) (by decide +kernel) (by decide +kernel)
theorem allAtoms_all (ts : List Jvm.Cond) (a : Array Jvm.Value) (st : Jvm.State) : (allAtoms ts).before a st = ts.all (fun c => c.before a st) := by
  induction ts with
  | nil => rfl
  | cons c t ih =>
    show (Jvm.Cond.and c (allAtoms t)).before a st = _
    rw [Jvm.Cond.before_and, ih, List.all_cons]
def words1 : List Jvm.Cond := Jvm.Cond.code x code maxLocals ret :: tables_1
/-- a 'code' word, met by the world's own term for the bytes: nothing is compared byte by byte -/
theorem code_word {y : MethodName} {bytes : ByteArray} {mx : Nat} {rt : Option FieldType} {a : Array Value} {s : State} {m : MethodId} {meth : Method} {c : Code} (h1 : s.methodNamed? y = some m) (h2 : s.vm.method? m = some meth) (h3 : meth.code = some c) (h4 : c.code = bytes)
    (h5 : (c.maxLocals == mx && c.exceptionTable.isEmpty && decide (c.maxStack ≤ mostOperands) && decide (meth.sig.returnType = rt) && !meth.locks && decide (parseMethodDescriptor y.desc = some meth.sig)) = true) : (Jvm.Cond.code y bytes mx rt).before a s = true := by
  simp only [Bool.and_eq_true, beq_iff_eq, Bool.not_eq_true', decide_eq_true_eq] at h5
  obtain ⟨⟨⟨⟨⟨g1, g2⟩, g3⟩, g4⟩, g5⟩, g6⟩ := h5
  simp [Cond.before, Cond.holds, Cond.value, h1, h2, h3, h4, g1, g2, g3, g4, g5, g6]
def isCode : Jvm.Cond → Bool
  | .code _ _ _ _ => true
  | _ => false
theorem all_split {L : List Jvm.Cond} {P : Jvm.Cond → Bool} (h1 : L.all (fun c => isCode c || P c) = true) (h2 : ∀ c ∈ L.filter isCode, P c = true) : L.all P = true := by
  refine List.all_eq_true.mpr fun c hc => ?_
  have h := List.all_eq_true.mp h1 c hc
  rcases Bool.eq_false_or_eq_true (isCode c) with hi | hi
  · exact h2 c (List.mem_filter.mpr ⟨hc, hi⟩)
  · simpa [hi] using h
set_option maxRecDepth 65536 in
theorem w_c0 : (Jvm.Cond.code x code maxLocals ret).before args0 about1 = true := code_word (m := ⟨1, 1⟩) (meth := k1m1) (c := k1c1) (by decide +kernel) rfl rfl rfl (by decide +kernel)
set_option maxRecDepth 65536 in
theorem w_c1 : (Jvm.Cond.code ({ cls := "com/example/stierlin/stierlin/coordinator/Topic", name := "<init>", desc := "(Ljava/lang/String;I)V" } : Jvm.MethodName) prog_21_method_1_code (3 : Nat) (Option.none : Option Jvm.ClassFile.FieldType)).before args0 about1 = true := code_word (m := ⟨3, 0⟩) (meth := k3m0) (c := k3c0) (by decide +kernel) rfl rfl rfl (by decide +kernel)
set_option maxRecDepth 65536 in
theorem w_c2 : (Jvm.Cond.code ({ cls := "java/lang/Record", name := "<init>", desc := "()V" } : Jvm.MethodName) jdk_30_method_1_code (1 : Nat) (Option.none : Option Jvm.ClassFile.FieldType)).before args0 about1 = true := code_word (m := ⟨2, 0⟩) (meth := k2m0) (c := k2c0) (by decide +kernel) rfl rfl rfl (by decide +kernel)
set_option maxRecDepth 65536 in
theorem w_c3 : (Jvm.Cond.code ({ cls := "java/lang/Object", name := "<init>", desc := "()V" } : Jvm.MethodName) object_method_1_code (1 : Nat) (Option.none : Option Jvm.ClassFile.FieldType)).before args0 about1 = true := code_word (m := ⟨0, 0⟩) (meth := k0m0) (c := k0c0) (by decide +kernel) rfl rfl rfl (by decide +kernel)
set_option maxRecDepth 65536 in
theorem w_c4 : (Jvm.Cond.code ({ cls := "java/util/Objects", name := "requireNonNull", desc := "(Ljava/lang/Object;Ljava/lang/String;)Ljava/lang/Object;" } : Jvm.MethodName) jdk_31_method_11_code (2 : Nat) (Option.some (Jvm.ClassFile.FieldType.object "java/lang/Object"))).before args0 about1 = true := code_word (m := ⟨10, 1⟩) (meth := k10m1) (c := k10c1) (by decide +kernel) rfl rfl rfl (by decide +kernel)
set_option maxRecDepth 65536 in
theorem w_c5 : (Jvm.Cond.code ({ cls := "com/example/stierlin/stierlin/coordinator/Topic", name := "checkName", desc := "(Ljava/lang/String;)V" } : Jvm.MethodName) prog_21_method_3_code (2 : Nat) (Option.none : Option Jvm.ClassFile.FieldType)).before args0 about1 = true := code_word (m := ⟨3, 2⟩) (meth := k3m2) (c := k3c2) (by decide +kernel) rfl rfl rfl (by decide +kernel)
set_option maxRecDepth 65536 in
theorem w_c6 : (Jvm.Cond.code ({ cls := "java/lang/String", name := "length", desc := "()I" } : Jvm.MethodName) jdk_42_method_54_code (1 : Nat) (Option.some Jvm.ClassFile.FieldType.int)).before args0 about1 = true := code_word (m := ⟨9, 1⟩) (meth := k9m1) (c := k9c1) (by decide +kernel) rfl rfl rfl (by decide +kernel)
set_option maxRecDepth 65536 in
theorem w_c7 : (Jvm.Cond.code ({ cls := "java/lang/String", name := "coder", desc := "()B" } : Jvm.MethodName) jdk_42_method_152_code (1 : Nat) (Option.some Jvm.ClassFile.FieldType.byte)).before args0 about1 = true := code_word (m := ⟨9, 4⟩) (meth := k9m4) (c := k9c4) (by decide +kernel) rfl rfl rfl (by decide +kernel)
set_option maxRecDepth 65536 in
theorem w_c8 : (Jvm.Cond.code ({ cls := "java/lang/String", name := "charAt", desc := "(I)C" } : Jvm.MethodName) jdk_42_method_56_code (2 : Nat) (Option.some Jvm.ClassFile.FieldType.char)).before args0 about1 = true := code_word (m := ⟨9, 3⟩) (meth := k9m3) (c := k9c3) (by decide +kernel) rfl rfl rfl (by decide +kernel)
set_option maxRecDepth 65536 in
theorem w_c9 : (Jvm.Cond.code ({ cls := "java/lang/String", name := "isLatin1", desc := "()Z" } : Jvm.MethodName) jdk_42_method_154_code (1 : Nat) (Option.some Jvm.ClassFile.FieldType.boolean)).before args0 about1 = true := code_word (m := ⟨9, 5⟩) (meth := k9m5) (c := k9c5) (by decide +kernel) rfl rfl rfl (by decide +kernel)
set_option maxRecDepth 65536 in
theorem w_c10 : (Jvm.Cond.code ({ cls := "java/lang/StringLatin1", name := "charAt", desc := "([BI)C" } : Jvm.MethodName) jdk_43_method_2_code (2 : Nat) (Option.some Jvm.ClassFile.FieldType.char)).before args0 about1 = true := code_word (m := ⟨11, 1⟩) (meth := k11m1) (c := k11c1) (by decide +kernel) rfl rfl rfl (by decide +kernel)
set_option maxRecDepth 65536 in
theorem w_c11 : (Jvm.Cond.code ({ cls := "java/lang/String", name := "checkIndex", desc := "(II)V" } : Jvm.MethodName) jdk_42_method_155_code (2 : Nat) (Option.none : Option Jvm.ClassFile.FieldType)).before args0 about1 = true := code_word (m := ⟨9, 6⟩) (meth := k9m6) (c := k9c6) (by decide +kernel) rfl rfl rfl (by decide +kernel)
set_option maxRecDepth 65536 in
theorem w_c12 : (Jvm.Cond.code ({ cls := "jdk/internal/util/Preconditions", name := "checkIndex", desc := "(IILjava/util/function/BiFunction;)I" } : Jvm.MethodName) jdk_41_method_11_code (3 : Nat) (Option.some Jvm.ClassFile.FieldType.int)).before args0 about1 = true := code_word (m := ⟨12, 1⟩) (meth := k12m1) (c := k12c1) (by decide +kernel) rfl rfl rfl (by decide +kernel)
set_option maxRecDepth 65536 in
theorem w_c13 : (Jvm.Cond.code ({ cls := "com/example/stierlin/stierlin/coordinator/Topic", name := "isNameCharacter", desc := "(C)Z" } : Jvm.MethodName) prog_21_method_4_code (1 : Nat) (Option.some Jvm.ClassFile.FieldType.boolean)).before args0 about1 = true := code_word (m := ⟨3, 3⟩) (meth := k3m3) (c := k3c3) (by decide +kernel) rfl rfl rfl (by decide +kernel)
set_option maxRecDepth 65536 in
theorem w_c14 : (Jvm.Cond.code ({ cls := "java/lang/String", name := "isEmpty", desc := "()Z" } : Jvm.MethodName) jdk_42_method_55_code (1 : Nat) (Option.some Jvm.ClassFile.FieldType.boolean)).before args0 about1 = true := code_word (m := ⟨9, 2⟩) (meth := k9m2) (c := k9c2) (by decide +kernel) rfl rfl rfl (by decide +kernel)
set_option maxRecDepth 65536 in
theorem w_c15 : (Jvm.Cond.code ({ cls := "com/example/stierlin/stierlin/coordinator/TopicHasPartitionPinLaw", name := "agrees", desc := "(Lcom/example/stierlin/stierlin/coordinator/Topic;II)Z" } : Jvm.MethodName) method_3_code (4 : Nat) (Option.some Jvm.ClassFile.FieldType.boolean)).before args0 about1 = true := code_word (m := ⟨1, 2⟩) (meth := k1m2) (c := k1c2) (by decide +kernel) rfl rfl rfl (by decide +kernel)
set_option maxRecDepth 65536 in
theorem w_c16 : (Jvm.Cond.code ({ cls := "com/example/stierlin/stierlin/coordinator/Topic", name := "hasPartition", desc := "(I)Z" } : Jvm.MethodName) prog_21_method_2_code (2 : Nat) (Option.some Jvm.ClassFile.FieldType.boolean)).before args0 about1 = true := code_word (m := ⟨3, 1⟩) (meth := k3m1) (c := k3c1) (by decide +kernel) rfl rfl rfl (by decide +kernel)
def codes1 : List Jvm.Cond := [Jvm.Cond.code x code maxLocals ret, Jvm.Cond.code ({ cls := "com/example/stierlin/stierlin/coordinator/Topic", name := "<init>", desc := "(Ljava/lang/String;I)V" } : Jvm.MethodName) prog_21_method_1_code (3 : Nat) (Option.none : Option Jvm.ClassFile.FieldType), Jvm.Cond.code ({ cls := "java/lang/Record", name := "<init>", desc := "()V" } : Jvm.MethodName) jdk_30_method_1_code (1 : Nat) (Option.none : Option Jvm.ClassFile.FieldType), Jvm.Cond.code ({ cls := "java/lang/Object", name := "<init>", desc := "()V" } : Jvm.MethodName) object_method_1_code (1 : Nat) (Option.none : Option Jvm.ClassFile.FieldType), Jvm.Cond.code ({ cls := "java/util/Objects", name := "requireNonNull", desc := "(Ljava/lang/Object;Ljava/lang/String;)Ljava/lang/Object;" } : Jvm.MethodName) jdk_31_method_11_code (2 : Nat) (Option.some (Jvm.ClassFile.FieldType.object "java/lang/Object")), Jvm.Cond.code ({ cls := "com/example/stierlin/stierlin/coordinator/Topic", name := "checkName", desc := "(Ljava/lang/String;)V" } : Jvm.MethodName) prog_21_method_3_code (2 : Nat) (Option.none : Option Jvm.ClassFile.FieldType), Jvm.Cond.code ({ cls := "java/lang/String", name := "length", desc := "()I" } : Jvm.MethodName) jdk_42_method_54_code (1 : Nat) (Option.some Jvm.ClassFile.FieldType.int), Jvm.Cond.code ({ cls := "java/lang/String", name := "coder", desc := "()B" } : Jvm.MethodName) jdk_42_method_152_code (1 : Nat) (Option.some Jvm.ClassFile.FieldType.byte), Jvm.Cond.code ({ cls := "java/lang/String", name := "charAt", desc := "(I)C" } : Jvm.MethodName) jdk_42_method_56_code (2 : Nat) (Option.some Jvm.ClassFile.FieldType.char), Jvm.Cond.code ({ cls := "java/lang/String", name := "isLatin1", desc := "()Z" } : Jvm.MethodName) jdk_42_method_154_code (1 : Nat) (Option.some Jvm.ClassFile.FieldType.boolean), Jvm.Cond.code ({ cls := "java/lang/StringLatin1", name := "charAt", desc := "([BI)C" } : Jvm.MethodName) jdk_43_method_2_code (2 : Nat) (Option.some Jvm.ClassFile.FieldType.char), Jvm.Cond.code ({ cls := "java/lang/String", name := "checkIndex", desc := "(II)V" } : Jvm.MethodName) jdk_42_method_155_code (2 : Nat) (Option.none : Option Jvm.ClassFile.FieldType), Jvm.Cond.code ({ cls := "jdk/internal/util/Preconditions", name := "checkIndex", desc := "(IILjava/util/function/BiFunction;)I" } : Jvm.MethodName) jdk_41_method_11_code (3 : Nat) (Option.some Jvm.ClassFile.FieldType.int), Jvm.Cond.code ({ cls := "com/example/stierlin/stierlin/coordinator/Topic", name := "isNameCharacter", desc := "(C)Z" } : Jvm.MethodName) prog_21_method_4_code (1 : Nat) (Option.some Jvm.ClassFile.FieldType.boolean), Jvm.Cond.code ({ cls := "java/lang/String", name := "isEmpty", desc := "()Z" } : Jvm.MethodName) jdk_42_method_55_code (1 : Nat) (Option.some Jvm.ClassFile.FieldType.boolean), Jvm.Cond.code ({ cls := "com/example/stierlin/stierlin/coordinator/TopicHasPartitionPinLaw", name := "agrees", desc := "(Lcom/example/stierlin/stierlin/coordinator/Topic;II)Z" } : Jvm.MethodName) method_3_code (4 : Nat) (Option.some Jvm.ClassFile.FieldType.boolean), Jvm.Cond.code ({ cls := "com/example/stierlin/stierlin/coordinator/Topic", name := "hasPartition", desc := "(I)Z" } : Jvm.MethodName) prog_21_method_2_code (2 : Nat) (Option.some Jvm.ClassFile.FieldType.boolean)]
set_option maxRecDepth 65536 in
theorem codes_eq : words1.filter isCode = codes1 := rfl
theorem w_codes : ∀ c ∈ words1.filter isCode, c.before args0 about1 = true := by
  rw [codes_eq]
  intro c hc
  simp only [codes1, List.mem_cons, List.not_mem_nil, or_false] at hc
  rcases hc with rfl | rfl | rfl | rfl | rfl | rfl | rfl | rfl | rfl | rfl | rfl | rfl | rfl | rfl | rfl | rfl | rfl
  · exact w_c0
  · exact w_c1
  · exact w_c2
  · exact w_c3
  · exact w_c4
  · exact w_c5
  · exact w_c6
  · exact w_c7
  · exact w_c8
  · exact w_c9
  · exact w_c10
  · exact w_c11
  · exact w_c12
  · exact w_c13
  · exact w_c14
  · exact w_c15
  · exact w_c16
set_option maxRecDepth 65536 in
theorem w_t1 : (words1.take 24).all (fun c => isCode c || c.before args0 about1) = true := by decide +kernel
set_option maxRecDepth 65536 in
theorem w_t2 : ((words1.drop 24).take 24).all (fun c => isCode c || c.before args0 about1) = true := by decide +kernel
set_option maxRecDepth 65536 in
theorem w_t3 : (((words1.drop 24).drop 24).take 24).all (fun c => isCode c || c.before args0 about1) = true := by decide +kernel
set_option maxRecDepth 65536 in
theorem w_t4 : (((words1.drop 24).drop 24).drop 24).all (fun c => isCode c || c.before args0 about1) = true := by decide +kernel
theorem w_tables : (allAtoms (Jvm.Cond.code x code maxLocals ret :: tables_1)).before args0 about1 = true := by
  rw [allAtoms_all]
  show words1.all (fun c => c.before args0 about1) = true
  refine all_split ?_ w_codes
  rw [← List.take_append_drop 24 words1, List.all_append, w_t1, ← List.take_append_drop 24 (words1.drop 24), List.all_append, w_t2, ← List.take_append_drop 24 ((words1.drop 24).drop 24), List.all_append, w_t3, w_t4]
  rfl
set_option maxRecDepth 65536 in
theorem w_rest : rest_1_c.before args0 about1 = true := by decide +kernel
set_option maxRecDepth 65536 in
theorem w_case : (Jvm.Cond.and given_1 narrow_1).before args0 about1 = true := by decide +kernel
set_option maxRecDepth 65536 in
theorem w_consts : constsHeld consts_1 about1 := Jvm.Lit.constsHeldB_iff.mp (by decide +kernel)
theorem w_applies : (headSpec (Jvm.Cond.code x code maxLocals ret :: tables_1) room_1).applies x e0.platform about1 = true :=
  (Spec.applies_iff w_frames).mpr ⟨w_running, w_runnable, w_alone, w_named, w_hears, w_ripe, w_room, w_tables⟩
theorem atStart : AtStart classFile x code maxLocals ret World_1 tables_1 room_1 Calls_1 rest_1 Pre_1 launch0 p0 e0 about1 theMethod args0 below0 :=
  ⟨lists_1, trivial, launch0.admits_env _ _ _, launch0.least_env, fairChoices_fair.cas, fairChoices_fair.clock, w_frames, w_args, w_heap, w_applies, ⟨w_consts, trivial⟩, w_rest, w_case⟩
end start1
theorem witness_1 : WitnessClaimed_1 := ⟨start1.p0, start1.e0, start1.about1, start1.theMethod, start1.args0, start1.below0, start1.atStart⟩
end Jvm.Pilot.@@N@@
