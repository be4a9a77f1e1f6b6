import JvmDerived
import JvmDerived.Pilot.@@N@@Statement
import JvmDerived.Pilot.@@N@@Code
set_option linter.unusedVariables false
set_option linter.unusedSimpArgs false
namespace Jvm.Pilot.@@N@@
open Jvm Jvm.ClassFile Sem Op Lib Jvm.Free Jvm.Stand Jvm.LawKit Jvm.RoadKit Bundle Jvm.Pilot.@@N@@.Jvm.D
section OwnLayer
variable {p : Program} {l : Launch} {e : Env} {R : Room} {s : State} {m : MethodId} {args : Array Value} {below : List Frame} {meth : Method} {c : Code} {T : State} {locs : List Loc} {cells slots : Nat} {Z : State} {y : MethodName} {bs : ByteArray} {maxL : Nat} {rt : Option FieldType} {ce sl : Nat} {Q : Option Value → Heap → List Loc → Prop} {G : Outcome → State → Prop} {pc : Nat} {Ls : Array Slot} {st rest : List Value} {h : Heap} {a0 : Array Value}
/-- from S the body runs on, returns, and Q says what it leaves -/
def OwnEnds (p : Program) (e : Env) (below : List Frame) (G : Outcome → State → Prop) (S : State) : Prop :=
  ∃ s₂ o, Steps p.tables e below S s₂ ∧ s₂.status = .running ∧ Ended s₂ below o ∧ G o s₂
def OwnG (s : State) (ce sl : Nat) (Q : Option Value → Heap → List Loc → Prop) : Outcome → State → Prop := fun o s₂ => ∃ v L, o = .returned v ∧ Q v s₂.heap L ∧ FrameEnd s o s₂ L ce sl
/-- what stands throughout a body's walk -/
def OwnCx (p : Program) (s : State) (m : MethodId) (meth : Method) (c : Code) (Z : State) (y : MethodName) (bs : ByteArray) (maxL : Nat) (rt : Option FieldType) : Prop :=
  p.tables.exec = Jvm.exec ∧ Z.Warmed39 s.vm ∧ s.vm.findClass y.cls = some m.cls ∧ c.code = bs ∧ c.maxLocals = maxL ∧ meth.sig.returnType = rt ∧ meth.locks = false ∧ meth.name = y.name
/-- a body's contract over the heap h at these arguments -/
def OwnMet (l : Launch) (Z : State) (y : MethodName) (bs : ByteArray) (maxL : Nat) (rt : Option FieldType) (ws : List Jvm.Cond) (rm : Room) (as' : Array Value) (h : Heap) (Q : Option Value → Heap → List Loc → Prop) : Prop :=
  MetFree l y (head1 (Jvm.Cond.code y bs maxL rt :: ws) rm) (fun a U => a = as' ∧ Z.Warmed39 U.vm ∧ U.heap = h) (fun _ _ _ _ _ => True) (fun _ U o U' => ∃ v L, o = .returned v ∧ Q v U'.heap L ∧ FrameEnd U o U' L rm.cells rm.slots)
theorem own_nz32 {d : Int32} (q : d.toInt ≠ 0) : d ≠ 0 := fun r => q (by rw [r]; rfl)
theorem own_nz64 {d : Int64} (q : d.toInt ≠ 0) : d ≠ 0 := fun r => q (by rw [r]; rfl)
theorem own_st {S S' : State} (k : ∀ t, Steps p.tables e below S' t → Steps p.tables e below S t) (r : OwnEnds p e below G S') : OwnEnds p e below G S := by
  obtain ⟨s₂, o, h1, r⟩ := r
  exact ⟨s₂, o, k _ h1, r⟩
theorem own_tr {S S' : State} (k : Steps p.tables e below S S') (r : OwnEnds p e below G S') : OwnEnds p e below G S := own_st (fun _ q => k.trans q) r
theorem own_enter {ws : List Jvm.Cond} {rm : Room} {as' : Array Value} {f0 : MethodId → JFrame} (hp : plainFor y = true) (hf : ∀ m, entryFrame m as' maxL = f0 m)
    (H : ∀ p e s m below meth c T, Stand p l e rm s m as' below meth c T [] 0 0 → OwnCx p s m meth c Z y bs maxL rt → T.heap = h → OwnEnds p e below (OwnG s rm.cells rm.slots Q) (T.setTop (f0 m))) : OwnMet l Z y bs maxL rt ws rm as' h Q := by
  refine MetFree.of_bodySF hp hisR ?_
  intro p e s m args below meth c s₁ Bd hml0 hP hK
  obtain ⟨rfl, hZ, hh⟩ := hP
  have k := H p e s m below meth c s₁ (Stand.of_body Bd) ⟨Bd.exec, hZ, findClass_of_methodNamed Bd.named, Bd.bytes, hml0, Bd.returns, Bd.notSynchronized, (name_of_methodNamed Bd.named Bd.method).1⟩ (by rw [← hh, Bd.state]; rfl)
  rw [← hf m] at k
  exact k
theorem own_mono {ws : List Jvm.Cond} {rm : Room} {as' : Array Value} {Q' : Option Value → Heap → List Loc → Prop} (H : OwnMet l Z y bs maxL rt ws rm as' h Q) (q : ∀ v h' L, Q v h' L → Q' v h' L) : OwnMet l Z y bs maxL rt ws rm as' h Q' := by
  intro p e ha hc hk s m args below hf happ hP hK
  obtain ⟨n, o, h1, h2, h3, v, L, h4, h5, h6⟩ := H p e ha hc hk s m args below hf happ hP hK
  exact ⟨n, o, h1, h2, h3, v, L, h4, q _ _ _ h5, h6⟩
theorem own_iload (X : Stand p l e R s m args below meth c T locs cells slots) (C : OwnCx p s m meth c Z y bs maxL rt) {k : Nat} {v : Int32} (hd : decode bs pc = .ok (.iload k, 2)) (pc' : Nat) (hp : pc + 2 = pc') (hl : Ls[k]? = some (.val (.int v)))
    (hr : OwnEnds p e below G (T.setTop (mkF m pc' Ls (.int v :: st)))) : OwnEnds p e below G (T.setTop (mkF m pc Ls st)) := by
  subst hp; exact own_st (fun _ q => XS.iload X.here C.1 rfl (hb C.2.2.2.1 hd) hl q) hr
theorem own_lload (X : Stand p l e R s m args below meth c T locs cells slots) (C : OwnCx p s m meth c Z y bs maxL rt) {k : Nat} {v : Int64} (hd : decode bs pc = .ok (.lload k, 2)) (pc' : Nat) (hp : pc + 2 = pc') (hl : Ls[k]? = some (.val (.long v)))
    (hr : OwnEnds p e below G (T.setTop (mkF m pc' Ls (.long v :: st)))) : OwnEnds p e below G (T.setTop (mkF m pc Ls st)) := by
  subst hp; exact own_st (fun _ q => XS.lload X.here C.1 rfl (hb C.2.2.2.1 hd) hl q) hr
theorem own_iload_n (X : Stand p l e R s m args below meth c T locs cells slots) (C : OwnCx p s m meth c Z y bs maxL rt) {k : Fin 4} {v : Int32} (hd : decode bs pc = .ok (.iload_n k, 1)) (pc' : Nat) (hp : pc + 1 = pc') (hl : Ls[k.val]? = some (.val (.int v)))
    (hr : OwnEnds p e below G (T.setTop (mkF m pc' Ls (.int v :: st)))) : OwnEnds p e below G (T.setTop (mkF m pc Ls st)) := by
  subst hp; exact own_st (fun _ q => XS.iloadN X.here C.1 rfl (hb C.2.2.2.1 hd) hl q) hr
theorem own_lload_n (X : Stand p l e R s m args below meth c T locs cells slots) (C : OwnCx p s m meth c Z y bs maxL rt) {k : Fin 4} {v : Int64} (hd : decode bs pc = .ok (.lload_n k, 1)) (pc' : Nat) (hp : pc + 1 = pc') (hl : Ls[k.val]? = some (.val (.long v)))
    (hr : OwnEnds p e below G (T.setTop (mkF m pc' Ls (.long v :: st)))) : OwnEnds p e below G (T.setTop (mkF m pc Ls st)) := by
  subst hp; exact own_st (fun _ q => XS.lloadN X.here C.1 rfl (hb C.2.2.2.1 hd) hl q) hr
theorem own_aload (X : Stand p l e R s m args below meth c T locs cells slots) (C : OwnCx p s m meth c Z y bs maxL rt) {k : Nat} {v : Value} (hd : decode bs pc = .ok (.aload k, 2)) (pc' : Nat) (hp : pc + 2 = pc') (hl : Ls[k]? = some (.val v)) (hv : v.isRef = true)
    (hr : OwnEnds p e below G (T.setTop (mkF m pc' Ls (v :: st)))) : OwnEnds p e below G (T.setTop (mkF m pc Ls st)) := by
  subst hp; exact own_st (fun _ q => XS.aload X.here C.1 rfl (hb C.2.2.2.1 hd) hl hv q) hr
theorem own_aload_n (X : Stand p l e R s m args below meth c T locs cells slots) (C : OwnCx p s m meth c Z y bs maxL rt) {k : Fin 4} {v : Value} (hd : decode bs pc = .ok (.aload_n k, 1)) (pc' : Nat) (hp : pc + 1 = pc') (hl : Ls[k.val]? = some (.val v)) (hv : v.isRef = true)
    (hr : OwnEnds p e below G (T.setTop (mkF m pc' Ls (v :: st)))) : OwnEnds p e below G (T.setTop (mkF m pc Ls st)) := by
  subst hp; exact own_st (fun _ q => XS.aloadN X.here C.1 rfl (hb C.2.2.2.1 hd) hl hv q) hr
theorem own_istore (X : Stand p l e R s m args below meth c T locs cells slots) (C : OwnCx p s m meth c Z y bs maxL rt) {k : Nat} {v : Int32} (hd : decode bs pc = .ok (.istore k, 2)) (pc' : Nat) (hp : pc + 2 = pc') (L' : Array Slot) (hl : storeLocals Ls k (.int v) = some L')
    (hr : OwnEnds p e below G (T.setTop (mkF m pc' L' st))) : OwnEnds p e below G (T.setTop (mkF m pc Ls (.int v :: st))) := by
  subst hp; exact own_st (fun _ q => XS.istore X.here C.1 rfl (hb C.2.2.2.1 hd) rfl hl q) hr
theorem own_lstore (X : Stand p l e R s m args below meth c T locs cells slots) (C : OwnCx p s m meth c Z y bs maxL rt) {k : Nat} {v : Int64} (hd : decode bs pc = .ok (.lstore k, 2)) (pc' : Nat) (hp : pc + 2 = pc') (L' : Array Slot) (hl : storeLocals Ls k (.long v) = some L')
    (hr : OwnEnds p e below G (T.setTop (mkF m pc' L' st))) : OwnEnds p e below G (T.setTop (mkF m pc Ls (.long v :: st))) := by
  subst hp; exact own_st (fun _ q => XS.lstore X.here C.1 rfl (hb C.2.2.2.1 hd) rfl hl q) hr
theorem own_istore_n (X : Stand p l e R s m args below meth c T locs cells slots) (C : OwnCx p s m meth c Z y bs maxL rt) {k : Fin 4} {v : Int32} (hd : decode bs pc = .ok (.istore_n k, 1)) (pc' : Nat) (hp : pc + 1 = pc') (L' : Array Slot) (hl : storeLocals Ls k.val (.int v) = some L')
    (hr : OwnEnds p e below G (T.setTop (mkF m pc' L' st))) : OwnEnds p e below G (T.setTop (mkF m pc Ls (.int v :: st))) := by
  subst hp; exact own_st (fun _ q => XS.istoreN X.here C.1 rfl (hb C.2.2.2.1 hd) rfl hl q) hr
theorem own_lstore_n (X : Stand p l e R s m args below meth c T locs cells slots) (C : OwnCx p s m meth c Z y bs maxL rt) {k : Fin 4} {v : Int64} (hd : decode bs pc = .ok (.lstore_n k, 1)) (pc' : Nat) (hp : pc + 1 = pc') (L' : Array Slot) (hl : storeLocals Ls k.val (.long v) = some L')
    (hr : OwnEnds p e below G (T.setTop (mkF m pc' L' st))) : OwnEnds p e below G (T.setTop (mkF m pc Ls (.long v :: st))) := by
  subst hp; exact own_st (fun _ q => XS.lstoreN X.here C.1 rfl (hb C.2.2.2.1 hd) rfl hl q) hr
theorem own_astore (X : Stand p l e R s m args below meth c T locs cells slots) (C : OwnCx p s m meth c Z y bs maxL rt) {k : Nat} {v : Value} (hd : decode bs pc = .ok (.astore k, 2)) (pc' : Nat) (hp : pc + 2 = pc') (hv : v.isRef = true) (L' : Array Slot) (hl : storeLocals Ls k v = some L')
    (hr : OwnEnds p e below G (T.setTop (mkF m pc' L' st))) : OwnEnds p e below G (T.setTop (mkF m pc Ls (v :: st))) := by
  subst hp; exact own_st (fun _ q => XS.astore X.here C.1 rfl (hb C.2.2.2.1 hd) rfl hv hl q) hr
theorem own_astore_n (X : Stand p l e R s m args below meth c T locs cells slots) (C : OwnCx p s m meth c Z y bs maxL rt) {k : Fin 4} {v : Value} (hd : decode bs pc = .ok (.astore_n k, 1)) (pc' : Nat) (hp : pc + 1 = pc') (hv : v.isRef = true) (L' : Array Slot) (hl : storeLocals Ls k.val v = some L')
    (hr : OwnEnds p e below G (T.setTop (mkF m pc' L' st))) : OwnEnds p e below G (T.setTop (mkF m pc Ls (v :: st))) := by
  subst hp; exact own_st (fun _ q => XS.astoreN X.here C.1 rfl (hb C.2.2.2.1 hd) rfl hv hl q) hr
theorem own_iinc (X : Stand p l e R s m args below meth c T locs cells slots) (C : OwnCx p s m meth c Z y bs maxL rt) {k : Nat} {cst : Int} {v : Int32} (hd : decode bs pc = .ok (.iinc k cst, 3)) (pc' : Nat) (hp : pc + 3 = pc') (hl : Ls[k]? = some (.val (.int v))) (w : Int32) (hw : Int32.ofInt cst = w) (F : Int32 → Array Slot) (hl' : ∀ z, storeLocals Ls k (.int z) = some (F z))
    (hr : ∀ z, z = v + w → OwnEnds p e below G (T.setTop (mkF m pc' (F z) st))) : OwnEnds p e below G (T.setTop (mkF m pc Ls st)) := by
  subst hp hw; exact own_st (fun _ q => XS.iinc X.here C.1 rfl (hb C.2.2.2.1 hd) hl (hl' _) q) (hr _ rfl)
theorem own_iconst (X : Stand p l e R s m args below meth c T locs cells slots) (C : OwnCx p s m meth c Z y bs maxL rt) {i : Int} (hd : decode bs pc = .ok (.iconst i, 1)) (pc' : Nat) (hp : pc + 1 = pc') (k : Int32) (hk : Int32.ofInt i = k)
    (hr : OwnEnds p e below G (T.setTop (mkF m pc' Ls (.int k :: st)))) : OwnEnds p e below G (T.setTop (mkF m pc Ls st)) := by
  subst hp hk; exact own_st (fun _ q => XS.iconst X.here C.1 rfl (hb C.2.2.2.1 hd) q) hr
theorem own_bipush (X : Stand p l e R s m args below meth c T locs cells slots) (C : OwnCx p s m meth c Z y bs maxL rt) {i : Int} (hd : decode bs pc = .ok (.bipush i, 2)) (pc' : Nat) (hp : pc + 2 = pc') (k : Int32) (hk : (Int8.ofInt i).toInt32 = k)
    (hr : OwnEnds p e below G (T.setTop (mkF m pc' Ls (.int k :: st)))) : OwnEnds p e below G (T.setTop (mkF m pc Ls st)) := by
  subst hp hk; exact own_st (fun _ q => XS.bipush X.here C.1 rfl (hb C.2.2.2.1 hd) q) hr
theorem own_sipush (X : Stand p l e R s m args below meth c T locs cells slots) (C : OwnCx p s m meth c Z y bs maxL rt) {i : Int} (hd : decode bs pc = .ok (.sipush i, 3)) (pc' : Nat) (hp : pc + 3 = pc') (k : Int32) (hk : (Int16.ofInt i).toInt32 = k)
    (hr : OwnEnds p e below G (T.setTop (mkF m pc' Ls (.int k :: st)))) : OwnEnds p e below G (T.setTop (mkF m pc Ls st)) := by
  subst hp hk; exact own_st (fun _ q => XS.sipush X.here C.1 rfl (hb C.2.2.2.1 hd) q) hr
theorem own_lconst (X : Stand p l e R s m args below meth c T locs cells slots) (C : OwnCx p s m meth c Z y bs maxL rt) {i : Fin 2} (hd : decode bs pc = .ok (.lconst i, 1)) (pc' : Nat) (hp : pc + 1 = pc') (k : Int64) (hk : Int64.ofNat i = k)
    (hr : OwnEnds p e below G (T.setTop (mkF m pc' Ls (.long k :: st)))) : OwnEnds p e below G (T.setTop (mkF m pc Ls st)) := by
  subst hp hk; exact own_st (fun _ q => XS.lconst X.here C.1 rfl (hb C.2.2.2.1 hd) q) hr
theorem own_aconst_null (X : Stand p l e R s m args below meth c T locs cells slots) (C : OwnCx p s m meth c Z y bs maxL rt) (hd : decode bs pc = .ok (.aconst_null, 1)) (pc' : Nat) (hp : pc + 1 = pc')
    (hr : OwnEnds p e below G (T.setTop (mkF m pc' Ls (.null :: st)))) : OwnEnds p e below G (T.setTop (mkF m pc Ls st)) := by
  subst hp; exact own_st (fun _ q => XS.aconstNull X.here C.1 rfl (hb C.2.2.2.1 hd) q) hr
theorem own_ldc (X : Stand p l e R s m args below meth c T locs cells slots) (C : OwnCx p s m meth c Z y bs maxL rt) {i : Nat} {v : Int32} (w : (Jvm.Cond.constant y.cls i v).before a0 Z = true) (hd : decode bs pc = .ok (.ldc i, 2)) (pc' : Nat) (hp : pc + 2 = pc')
    (hr : OwnEnds p e below G (T.setTop (mkF m pc' Ls (.int v :: st)))) : OwnEnds p e below G (T.setTop (mkF m pc Ls st)) := by
  subst hp; exact own_st (X.ldcInt C.1 C.2.2.1 (mvT C.2.1 w) (g := mkF m pc Ls st) rfl (hb C.2.2.2.1 hd)) hr
theorem own_ldcw (X : Stand p l e R s m args below meth c T locs cells slots) (C : OwnCx p s m meth c Z y bs maxL rt) {i : Nat} {v : Int32} (w : (Jvm.Cond.constant y.cls i v).before a0 Z = true) (hd : decode bs pc = .ok (.ldc_w i, 3)) (pc' : Nat) (hp : pc + 3 = pc')
    (hr : OwnEnds p e below G (T.setTop (mkF m pc' Ls (.int v :: st)))) : OwnEnds p e below G (T.setTop (mkF m pc Ls st)) := by
  subst hp; exact own_st (X.ldcwInt C.1 C.2.2.1 (mvT C.2.1 w) (g := mkF m pc Ls st) rfl (hb C.2.2.2.1 hd)) hr
theorem own_ldc2 (X : Stand p l e R s m args below meth c T locs cells slots) (C : OwnCx p s m meth c Z y bs maxL rt) {i : Nat} {v : Int64} (w : (Jvm.Cond.constantLong y.cls i v).before a0 Z = true) (hd : decode bs pc = .ok (.ldc2_w i, 3)) (pc' : Nat) (hp : pc + 3 = pc')
    (hr : OwnEnds p e below G (T.setTop (mkF m pc' Ls (.long v :: st)))) : OwnEnds p e below G (T.setTop (mkF m pc Ls st)) := by
  subst hp; exact own_st (X.ldc2Long C.1 C.2.2.1 (mvT C.2.1 w) (g := mkF m pc Ls st) rfl (hb C.2.2.2.1 hd)) hr
theorem own_iadd (X : Stand p l e R s m args below meth c T locs cells slots) (C : OwnCx p s m meth c Z y bs maxL rt) {a b : Int32} (hd : decode bs pc = .ok (.iadd, 1)) (pc' : Nat) (hp : pc + 1 = pc')
    (hr : ∀ z, z = a + b → OwnEnds p e below G (T.setTop (mkF m pc' Ls (.int z :: st)))) : OwnEnds p e below G (T.setTop (mkF m pc Ls (.int b :: .int a :: st))) := by
  subst hp; exact own_st (fun _ q => XS.iadd X.here C.1 rfl (hb C.2.2.2.1 hd) rfl q) (hr _ rfl)
theorem own_isub (X : Stand p l e R s m args below meth c T locs cells slots) (C : OwnCx p s m meth c Z y bs maxL rt) {a b : Int32} (hd : decode bs pc = .ok (.isub, 1)) (pc' : Nat) (hp : pc + 1 = pc')
    (hr : ∀ z, z = a - b → OwnEnds p e below G (T.setTop (mkF m pc' Ls (.int z :: st)))) : OwnEnds p e below G (T.setTop (mkF m pc Ls (.int b :: .int a :: st))) := by
  subst hp; exact own_st (fun _ q => XS.isub X.here C.1 rfl (hb C.2.2.2.1 hd) rfl q) (hr _ rfl)
theorem own_imul (X : Stand p l e R s m args below meth c T locs cells slots) (C : OwnCx p s m meth c Z y bs maxL rt) {a b : Int32} (hd : decode bs pc = .ok (.imul, 1)) (pc' : Nat) (hp : pc + 1 = pc')
    (hr : ∀ z, z = a * b → OwnEnds p e below G (T.setTop (mkF m pc' Ls (.int z :: st)))) : OwnEnds p e below G (T.setTop (mkF m pc Ls (.int b :: .int a :: st))) := by
  subst hp; exact own_st (fun _ q => XS.imul X.here C.1 rfl (hb C.2.2.2.1 hd) rfl q) (hr _ rfl)
theorem own_iand (X : Stand p l e R s m args below meth c T locs cells slots) (C : OwnCx p s m meth c Z y bs maxL rt) {a b : Int32} (hd : decode bs pc = .ok (.iand, 1)) (pc' : Nat) (hp : pc + 1 = pc')
    (hr : ∀ z, z = a &&& b → OwnEnds p e below G (T.setTop (mkF m pc' Ls (.int z :: st)))) : OwnEnds p e below G (T.setTop (mkF m pc Ls (.int b :: .int a :: st))) := by
  subst hp; exact own_st (fun _ q => XS.iand X.here C.1 rfl (hb C.2.2.2.1 hd) rfl q) (hr _ rfl)
theorem own_ior (X : Stand p l e R s m args below meth c T locs cells slots) (C : OwnCx p s m meth c Z y bs maxL rt) {a b : Int32} (hd : decode bs pc = .ok (.ior, 1)) (pc' : Nat) (hp : pc + 1 = pc')
    (hr : ∀ z, z = a ||| b → OwnEnds p e below G (T.setTop (mkF m pc' Ls (.int z :: st)))) : OwnEnds p e below G (T.setTop (mkF m pc Ls (.int b :: .int a :: st))) := by
  subst hp; exact own_st (fun _ q => XS.ior X.here C.1 rfl (hb C.2.2.2.1 hd) rfl q) (hr _ rfl)
theorem own_ixor (X : Stand p l e R s m args below meth c T locs cells slots) (C : OwnCx p s m meth c Z y bs maxL rt) {a b : Int32} (hd : decode bs pc = .ok (.ixor, 1)) (pc' : Nat) (hp : pc + 1 = pc')
    (hr : ∀ z, z = a ^^^ b → OwnEnds p e below G (T.setTop (mkF m pc' Ls (.int z :: st)))) : OwnEnds p e below G (T.setTop (mkF m pc Ls (.int b :: .int a :: st))) := by
  subst hp; exact own_st (fun _ q => XS.ixor X.here C.1 rfl (hb C.2.2.2.1 hd) rfl q) (hr _ rfl)
theorem own_idiv (X : Stand p l e R s m args below meth c T locs cells slots) (C : OwnCx p s m meth c Z y bs maxL rt) {a b : Int32} (hd : decode bs pc = .ok (.idiv, 1)) (pc' : Nat) (hp : pc + 1 = pc') (hz : b ≠ 0)
    (hr : ∀ z, z = a / b → OwnEnds p e below G (T.setTop (mkF m pc' Ls (.int z :: st)))) : OwnEnds p e below G (T.setTop (mkF m pc Ls (.int b :: .int a :: st))) := by
  subst hp; exact own_st (fun _ q => XS.idiv X.here C.1 rfl (hb C.2.2.2.1 hd) rfl hz q) (hr _ rfl)
theorem own_ladd (X : Stand p l e R s m args below meth c T locs cells slots) (C : OwnCx p s m meth c Z y bs maxL rt) {a b : Int64} (hd : decode bs pc = .ok (.ladd, 1)) (pc' : Nat) (hp : pc + 1 = pc')
    (hr : ∀ z, z = a + b → OwnEnds p e below G (T.setTop (mkF m pc' Ls (.long z :: st)))) : OwnEnds p e below G (T.setTop (mkF m pc Ls (.long b :: .long a :: st))) := by
  subst hp; exact own_st (fun _ q => XS.ladd X.here C.1 rfl (hb C.2.2.2.1 hd) rfl q) (hr _ rfl)
theorem own_lsub (X : Stand p l e R s m args below meth c T locs cells slots) (C : OwnCx p s m meth c Z y bs maxL rt) {a b : Int64} (hd : decode bs pc = .ok (.lsub, 1)) (pc' : Nat) (hp : pc + 1 = pc')
    (hr : ∀ z, z = a - b → OwnEnds p e below G (T.setTop (mkF m pc' Ls (.long z :: st)))) : OwnEnds p e below G (T.setTop (mkF m pc Ls (.long b :: .long a :: st))) := by
  subst hp; exact own_st (fun _ q => XS.lsub X.here C.1 rfl (hb C.2.2.2.1 hd) rfl q) (hr _ rfl)
theorem own_lmul (X : Stand p l e R s m args below meth c T locs cells slots) (C : OwnCx p s m meth c Z y bs maxL rt) {a b : Int64} (hd : decode bs pc = .ok (.lmul, 1)) (pc' : Nat) (hp : pc + 1 = pc')
    (hr : ∀ z, z = a * b → OwnEnds p e below G (T.setTop (mkF m pc' Ls (.long z :: st)))) : OwnEnds p e below G (T.setTop (mkF m pc Ls (.long b :: .long a :: st))) := by
  subst hp; exact own_st (fun _ q => XS.lmul X.here C.1 rfl (hb C.2.2.2.1 hd) rfl q) (hr _ rfl)
theorem own_land (X : Stand p l e R s m args below meth c T locs cells slots) (C : OwnCx p s m meth c Z y bs maxL rt) {a b : Int64} (hd : decode bs pc = .ok (.land, 1)) (pc' : Nat) (hp : pc + 1 = pc')
    (hr : ∀ z, z = a &&& b → OwnEnds p e below G (T.setTop (mkF m pc' Ls (.long z :: st)))) : OwnEnds p e below G (T.setTop (mkF m pc Ls (.long b :: .long a :: st))) := by
  subst hp; exact own_st (fun _ q => XS.land X.here C.1 rfl (hb C.2.2.2.1 hd) rfl q) (hr _ rfl)
theorem own_lor (X : Stand p l e R s m args below meth c T locs cells slots) (C : OwnCx p s m meth c Z y bs maxL rt) {a b : Int64} (hd : decode bs pc = .ok (.lor, 1)) (pc' : Nat) (hp : pc + 1 = pc')
    (hr : ∀ z, z = a ||| b → OwnEnds p e below G (T.setTop (mkF m pc' Ls (.long z :: st)))) : OwnEnds p e below G (T.setTop (mkF m pc Ls (.long b :: .long a :: st))) := by
  subst hp; exact own_st (fun _ q => XS.lor X.here C.1 rfl (hb C.2.2.2.1 hd) rfl q) (hr _ rfl)
theorem own_lxor (X : Stand p l e R s m args below meth c T locs cells slots) (C : OwnCx p s m meth c Z y bs maxL rt) {a b : Int64} (hd : decode bs pc = .ok (.lxor, 1)) (pc' : Nat) (hp : pc + 1 = pc')
    (hr : ∀ z, z = a ^^^ b → OwnEnds p e below G (T.setTop (mkF m pc' Ls (.long z :: st)))) : OwnEnds p e below G (T.setTop (mkF m pc Ls (.long b :: .long a :: st))) := by
  subst hp; exact own_st (fun _ q => XS.lxor X.here C.1 rfl (hb C.2.2.2.1 hd) rfl q) (hr _ rfl)
theorem own_ldiv (X : Stand p l e R s m args below meth c T locs cells slots) (C : OwnCx p s m meth c Z y bs maxL rt) {a b : Int64} (hd : decode bs pc = .ok (.ldiv, 1)) (pc' : Nat) (hp : pc + 1 = pc') (hz : b ≠ 0)
    (hr : ∀ z, z = a / b → OwnEnds p e below G (T.setTop (mkF m pc' Ls (.long z :: st)))) : OwnEnds p e below G (T.setTop (mkF m pc Ls (.long b :: .long a :: st))) := by
  subst hp; exact own_st (fun _ q => XS.ldiv X.here C.1 rfl (hb C.2.2.2.1 hd) rfl hz q) (hr _ rfl)
theorem own_irem (X : Stand p l e R s m args below meth c T locs cells slots) (C : OwnCx p s m meth c Z y bs maxL rt) {a b : Int32} (hd : decode bs pc = .ok (.irem, 1)) (pc' : Nat) (hp : pc + 1 = pc') (hz : b ≠ 0)
    (hr : ∀ z, z = a % b → OwnEnds p e below G (T.setTop (mkF m pc' Ls (.int z :: st)))) : OwnEnds p e below G (T.setTop (mkF m pc Ls (.int b :: .int a :: st))) := by
  subst hp; exact own_st (fun _ q => iremM X C.1 rfl (hb C.2.2.2.1 hd) rfl hz q) (hr _ rfl)
theorem own_lrem (X : Stand p l e R s m args below meth c T locs cells slots) (C : OwnCx p s m meth c Z y bs maxL rt) {a b : Int64} (hd : decode bs pc = .ok (.lrem, 1)) (pc' : Nat) (hp : pc + 1 = pc') (hz : b ≠ 0)
    (hr : ∀ z, z = a % b → OwnEnds p e below G (T.setTop (mkF m pc' Ls (.long z :: st)))) : OwnEnds p e below G (T.setTop (mkF m pc Ls (.long b :: .long a :: st))) := by
  subst hp; exact own_st (fun _ q => XS.lrem X.here C.1 rfl (hb C.2.2.2.1 hd) rfl hz q) (hr _ (lrem_mod a b))
theorem own_ishl (X : Stand p l e R s m args below meth c T locs cells slots) (C : OwnCx p s m meth c Z y bs maxL rt) {a : Int32} {b : Int32} (hd : decode bs pc = .ok (.ishl, 1)) (pc' : Nat) (hp : pc + 1 = pc')
    (hr : ∀ z, z = (a <<< (b &&& 31)) → OwnEnds p e below G (T.setTop (mkF m pc' Ls (.int z :: st)))) : OwnEnds p e below G (T.setTop (mkF m pc Ls (.int b :: .int a :: st))) := by
  subst hp; exact own_st (fun _ q => XS.ishl X.here C.1 rfl (hb C.2.2.2.1 hd) rfl q) (hr _ rfl)
theorem own_ishr (X : Stand p l e R s m args below meth c T locs cells slots) (C : OwnCx p s m meth c Z y bs maxL rt) {a : Int32} {b : Int32} (hd : decode bs pc = .ok (.ishr, 1)) (pc' : Nat) (hp : pc + 1 = pc')
    (hr : ∀ z, z = (a >>> (b &&& 31)) → OwnEnds p e below G (T.setTop (mkF m pc' Ls (.int z :: st)))) : OwnEnds p e below G (T.setTop (mkF m pc Ls (.int b :: .int a :: st))) := by
  subst hp; exact own_st (fun _ q => XS.ishr X.here C.1 rfl (hb C.2.2.2.1 hd) rfl q) (hr _ rfl)
theorem own_iushr (X : Stand p l e R s m args below meth c T locs cells slots) (C : OwnCx p s m meth c Z y bs maxL rt) {a : Int32} {b : Int32} (hd : decode bs pc = .ok (.iushr, 1)) (pc' : Nat) (hp : pc + 1 = pc')
    (hr : ∀ z, z = ((a.toUInt32 >>> (b &&& 31).toUInt32).toInt32) → OwnEnds p e below G (T.setTop (mkF m pc' Ls (.int z :: st)))) : OwnEnds p e below G (T.setTop (mkF m pc Ls (.int b :: .int a :: st))) := by
  subst hp; exact own_st (fun _ q => XS.iushr X.here C.1 rfl (hb C.2.2.2.1 hd) rfl q) (hr _ rfl)
theorem own_lshl (X : Stand p l e R s m args below meth c T locs cells slots) (C : OwnCx p s m meth c Z y bs maxL rt) {a : Int64} {b : Int32} (hd : decode bs pc = .ok (.lshl, 1)) (pc' : Nat) (hp : pc + 1 = pc')
    (hr : ∀ z, z = (a <<< (b &&& 0x3f).toInt64) → OwnEnds p e below G (T.setTop (mkF m pc' Ls (.long z :: st)))) : OwnEnds p e below G (T.setTop (mkF m pc Ls (.int b :: .long a :: st))) := by
  subst hp; exact own_st (fun _ q => XS.lshl X.here C.1 rfl (hb C.2.2.2.1 hd) rfl q) (hr _ rfl)
theorem own_lshr (X : Stand p l e R s m args below meth c T locs cells slots) (C : OwnCx p s m meth c Z y bs maxL rt) {a : Int64} {b : Int32} (hd : decode bs pc = .ok (.lshr, 1)) (pc' : Nat) (hp : pc + 1 = pc')
    (hr : ∀ z, z = (a >>> (b &&& 0x3f).toInt64) → OwnEnds p e below G (T.setTop (mkF m pc' Ls (.long z :: st)))) : OwnEnds p e below G (T.setTop (mkF m pc Ls (.int b :: .long a :: st))) := by
  subst hp; exact own_st (fun _ q => XS.lshr X.here C.1 rfl (hb C.2.2.2.1 hd) rfl q) (hr _ rfl)
theorem own_lushr (X : Stand p l e R s m args below meth c T locs cells slots) (C : OwnCx p s m meth c Z y bs maxL rt) {a : Int64} {b : Int32} (hd : decode bs pc = .ok (.lushr, 1)) (pc' : Nat) (hp : pc + 1 = pc')
    (hr : ∀ z, z = ((a.toUInt64 >>> (b &&& 0x3f).toInt64.toUInt64).toInt64) → OwnEnds p e below G (T.setTop (mkF m pc' Ls (.long z :: st)))) : OwnEnds p e below G (T.setTop (mkF m pc Ls (.int b :: .long a :: st))) := by
  subst hp; exact own_st (fun _ q => XS.lushr X.here C.1 rfl (hb C.2.2.2.1 hd) rfl q) (hr _ rfl)
theorem own_ineg (X : Stand p l e R s m args below meth c T locs cells slots) (C : OwnCx p s m meth c Z y bs maxL rt) {a : Int32} (hd : decode bs pc = .ok (.ineg, 1)) (pc' : Nat) (hp : pc + 1 = pc')
    (hr : ∀ z, z = -a → OwnEnds p e below G (T.setTop (mkF m pc' Ls (.int z :: st)))) : OwnEnds p e below G (T.setTop (mkF m pc Ls (.int a :: st))) := by
  subst hp; exact own_st (fun _ q => XS.ineg X.here C.1 rfl (hb C.2.2.2.1 hd) rfl q) (hr _ rfl)
theorem own_lneg (X : Stand p l e R s m args below meth c T locs cells slots) (C : OwnCx p s m meth c Z y bs maxL rt) {a : Int64} (hd : decode bs pc = .ok (.lneg, 1)) (pc' : Nat) (hp : pc + 1 = pc')
    (hr : ∀ z, z = -a → OwnEnds p e below G (T.setTop (mkF m pc' Ls (.long z :: st)))) : OwnEnds p e below G (T.setTop (mkF m pc Ls (.long a :: st))) := by
  subst hp; exact own_st (fun _ q => XS.lneg X.here C.1 rfl (hb C.2.2.2.1 hd) rfl q) (hr _ rfl)
theorem own_i2l (X : Stand p l e R s m args below meth c T locs cells slots) (C : OwnCx p s m meth c Z y bs maxL rt) {a : Int32} (hd : decode bs pc = .ok (.i2l, 1)) (pc' : Nat) (hp : pc + 1 = pc')
    (hr : ∀ z, z = a.toInt64 → OwnEnds p e below G (T.setTop (mkF m pc' Ls (.long z :: st)))) : OwnEnds p e below G (T.setTop (mkF m pc Ls (.int a :: st))) := by
  subst hp; exact own_st (fun _ q => XS.i2l X.here C.1 rfl (hb C.2.2.2.1 hd) rfl q) (hr _ rfl)
theorem own_l2i (X : Stand p l e R s m args below meth c T locs cells slots) (C : OwnCx p s m meth c Z y bs maxL rt) {a : Int64} (hd : decode bs pc = .ok (.l2i, 1)) (pc' : Nat) (hp : pc + 1 = pc')
    (hr : ∀ z, z = a.toInt32 → OwnEnds p e below G (T.setTop (mkF m pc' Ls (.int z :: st)))) : OwnEnds p e below G (T.setTop (mkF m pc Ls (.long a :: st))) := by
  subst hp; exact own_st (fun _ q => XS.l2i X.here C.1 rfl (hb C.2.2.2.1 hd) rfl q) (hr _ rfl)
theorem own_i2b (X : Stand p l e R s m args below meth c T locs cells slots) (C : OwnCx p s m meth c Z y bs maxL rt) {a : Int32} (hd : decode bs pc = .ok (.i2b, 1)) (pc' : Nat) (hp : pc + 1 = pc')
    (hr : ∀ z, z = a.toInt8.toInt32 → OwnEnds p e below G (T.setTop (mkF m pc' Ls (.int z :: st)))) : OwnEnds p e below G (T.setTop (mkF m pc Ls (.int a :: st))) := by
  subst hp; exact own_st (fun _ q => XS.i2b X.here C.1 rfl (hb C.2.2.2.1 hd) rfl q) (hr _ rfl)
theorem own_i2s (X : Stand p l e R s m args below meth c T locs cells slots) (C : OwnCx p s m meth c Z y bs maxL rt) {a : Int32} (hd : decode bs pc = .ok (.i2s, 1)) (pc' : Nat) (hp : pc + 1 = pc')
    (hr : ∀ z, z = a.toInt16.toInt32 → OwnEnds p e below G (T.setTop (mkF m pc' Ls (.int z :: st)))) : OwnEnds p e below G (T.setTop (mkF m pc Ls (.int a :: st))) := by
  subst hp; exact own_st (fun _ q => XS.i2s X.here C.1 rfl (hb C.2.2.2.1 hd) rfl q) (hr _ rfl)
theorem own_i2c (X : Stand p l e R s m args below meth c T locs cells slots) (C : OwnCx p s m meth c Z y bs maxL rt) {a : Int32} (hd : decode bs pc = .ok (.i2c, 1)) (pc' : Nat) (hp : pc + 1 = pc')
    (hr : ∀ z, z = a.toUInt32.toUInt16.toUInt32.toInt32 → OwnEnds p e below G (T.setTop (mkF m pc' Ls (.int z :: st)))) : OwnEnds p e below G (T.setTop (mkF m pc Ls (.int a :: st))) := by
  subst hp; exact own_st (fun _ q => XS.i2c X.here C.1 rfl (hb C.2.2.2.1 hd) rfl q) (hr _ rfl)
theorem own_lcmp (X : Stand p l e R s m args below meth c T locs cells slots) (C : OwnCx p s m meth c Z y bs maxL rt) {a b : Int64} (hd : decode bs pc = .ok (.lcmp, 1)) (pc' : Nat) (hp : pc + 1 = pc')
    (hr : ∀ z : Int32, (a.toInt < b.toInt → z.toInt = -1) → (a.toInt = b.toInt → z.toInt = 0) → (b.toInt < a.toInt → z.toInt = 1) → OwnEnds p e below G (T.setTop (mkF m pc' Ls (.int z :: st)))) : OwnEnds p e below G (T.setTop (mkF m pc Ls (.long b :: .long a :: st))) := by
  subst hp; exact own_st (fun _ q => XS.lcmp X.here C.1 rfl (hb C.2.2.2.1 hd) rfl q) (hr _ (c_lcmp a b).1 (c_lcmp a b).2.1 (c_lcmp a b).2.2)
theorem own_dup (X : Stand p l e R s m args below meth c T locs cells slots) (C : OwnCx p s m meth c Z y bs maxL rt) {v : Value} (hd : decode bs pc = .ok (.dup, 1)) (pc' : Nat) (hp : pc + 1 = pc') (hc : v.category = 1)
    (hr : OwnEnds p e below G (T.setTop (mkF m pc' Ls (v :: v :: st)))) : OwnEnds p e below G (T.setTop (mkF m pc Ls (v :: st))) := by
  subst hp; exact own_st (fun _ q => XS.dup X.here C.1 rfl (hb C.2.2.2.1 hd) rfl hc q) hr
theorem own_dup_x1 (X : Stand p l e R s m args below meth c T locs cells slots) (C : OwnCx p s m meth c Z y bs maxL rt) {v w : Value} (hd : decode bs pc = .ok (.dup_x1, 1)) (pc' : Nat) (hp : pc + 1 = pc') (hc : v.category = 1) (hc' : w.category = 1)
    (hr : OwnEnds p e below G (T.setTop (mkF m pc' Ls (v :: w :: v :: st)))) : OwnEnds p e below G (T.setTop (mkF m pc Ls (v :: w :: st))) := by
  subst hp; exact own_st (fun _ q => XS.dupX1 X.here C.1 rfl (hb C.2.2.2.1 hd) rfl hc hc' q) hr
theorem own_pop (X : Stand p l e R s m args below meth c T locs cells slots) (C : OwnCx p s m meth c Z y bs maxL rt) {v : Value} (hd : decode bs pc = .ok (.pop, 1)) (pc' : Nat) (hp : pc + 1 = pc') (hc : v.category = 1)
    (hr : OwnEnds p e below G (T.setTop (mkF m pc' Ls st))) : OwnEnds p e below G (T.setTop (mkF m pc Ls (v :: st))) := by
  subst hp; exact own_st (fun _ q => XS.pop X.here C.1 rfl (hb C.2.2.2.1 hd) rfl hc q) hr
theorem own_dup2 (X : Stand p l e R s m args below meth c T locs cells slots) (C : OwnCx p s m meth c Z y bs maxL rt) {v w : Value} (hd : decode bs pc = .ok (.dup2, 1)) (pc' : Nat) (hp : pc + 1 = pc') (hc : v.category = 1) (hc' : w.category = 1)
    (hr : OwnEnds p e below G (T.setTop (mkF m pc' Ls (v :: w :: v :: w :: st)))) : OwnEnds p e below G (T.setTop (mkF m pc Ls (v :: w :: st))) := by
  subst hp; exact own_st (fun _ q => XT.dup2 X.here C.1 rfl (hb C.2.2.2.1 hd) rfl hc hc' q) hr
theorem own_goto (X : Stand p l e R s m args below meth c T locs cells slots) (C : OwnCx p s m meth c Z y bs maxL rt) {o : Int} (hd : decode bs pc = .ok (.goto o, 3)) (pc' : Nat) (ho : 0 ≤ (pc : Int) + o) (hp : ((pc : Int) + o).toNat = pc')
    (hr : OwnEnds p e below G (T.setTop (mkF m pc' Ls st))) : OwnEnds p e below G (T.setTop (mkF m pc Ls st)) :=
  own_st (fun _ q => XS.goto X.here C.1 rfl rfl (hb C.2.2.2.1 hd) ho hp q) hr
theorem own_icmplt (X : Stand p l e R s m args below meth c T locs cells slots) (C : OwnCx p s m meth c Z y bs maxL rt) {x' y' : Int32} {o : Int} (hd : decode bs pc = .ok (.if_icmp .lt o, 3)) (pn pc' : Nat) (hpn : pc + 3 = pn) (ho : 0 ≤ (pc : Int) + o) (hp : ((pc : Int) + o).toNat = pc') {i : Int} (hi : x'.toInt = i) {j : Int} (hj : y'.toInt = j) 
    (hy : i < j → OwnEnds p e below G (T.setTop (mkF m pc' Ls st))) (hn : j ≤ i → OwnEnds p e below G (T.setTop (mkF m pn Ls st))) : OwnEnds p e below G (T.setTop (mkF m pc Ls (.int y' :: .int x' :: st))) := by
  subst hpn
  by_cases k : x' < y'
  · exact own_st (fun _ q => XS.icmpYes X.here C.1 rfl rfl (hb C.2.2.2.1 hd) rfl (((tlt k).1)) ho hp q) (hy (by rw [Int32.lt_iff_toInt_lt] at k; have q : y'.toInt = j := hj; omega))
  · exact own_st (fun _ q => XS.icmpNo X.here C.1 rfl (hb C.2.2.2.1 hd) rfl (((flt k).1)) q) (hn (by rw [Int32.lt_iff_toInt_lt] at k; have q : y'.toInt = j := hj; omega))
theorem own_icmpge (X : Stand p l e R s m args below meth c T locs cells slots) (C : OwnCx p s m meth c Z y bs maxL rt) {x' y' : Int32} {o : Int} (hd : decode bs pc = .ok (.if_icmp .ge o, 3)) (pn pc' : Nat) (hpn : pc + 3 = pn) (ho : 0 ≤ (pc : Int) + o) (hp : ((pc : Int) + o).toNat = pc') {i : Int} (hi : x'.toInt = i) {j : Int} (hj : y'.toInt = j) 
    (hy : j ≤ i → OwnEnds p e below G (T.setTop (mkF m pc' Ls st))) (hn : i < j → OwnEnds p e below G (T.setTop (mkF m pn Ls st))) : OwnEnds p e below G (T.setTop (mkF m pc Ls (.int y' :: .int x' :: st))) := by
  subst hpn
  by_cases k : x' < y'
  · exact own_st (fun _ q => XS.icmpNo X.here C.1 rfl (hb C.2.2.2.1 hd) rfl (((tlt k).2.1)) q) (hn (by rw [Int32.lt_iff_toInt_lt] at k; have q : y'.toInt = j := hj; omega))
  · exact own_st (fun _ q => XS.icmpYes X.here C.1 rfl rfl (hb C.2.2.2.1 hd) rfl (((flt k).2.1)) ho hp q) (hy (by rw [Int32.lt_iff_toInt_lt] at k; have q : y'.toInt = j := hj; omega))
theorem own_icmpgt (X : Stand p l e R s m args below meth c T locs cells slots) (C : OwnCx p s m meth c Z y bs maxL rt) {x' y' : Int32} {o : Int} (hd : decode bs pc = .ok (.if_icmp .gt o, 3)) (pn pc' : Nat) (hpn : pc + 3 = pn) (ho : 0 ≤ (pc : Int) + o) (hp : ((pc : Int) + o).toNat = pc') {i : Int} (hi : x'.toInt = i) {j : Int} (hj : y'.toInt = j) 
    (hy : j < i → OwnEnds p e below G (T.setTop (mkF m pc' Ls st))) (hn : i ≤ j → OwnEnds p e below G (T.setTop (mkF m pn Ls st))) : OwnEnds p e below G (T.setTop (mkF m pc Ls (.int y' :: .int x' :: st))) := by
  subst hpn
  by_cases k : y' < x'
  · exact own_st (fun _ q => XS.icmpYes X.here C.1 rfl rfl (hb C.2.2.2.1 hd) rfl (((tlt k).2.2.1)) ho hp q) (hy (by rw [Int32.lt_iff_toInt_lt] at k; have q : y'.toInt = j := hj; omega))
  · exact own_st (fun _ q => XS.icmpNo X.here C.1 rfl (hb C.2.2.2.1 hd) rfl (((flt k).2.2.1)) q) (hn (by rw [Int32.lt_iff_toInt_lt] at k; have q : y'.toInt = j := hj; omega))
theorem own_icmple (X : Stand p l e R s m args below meth c T locs cells slots) (C : OwnCx p s m meth c Z y bs maxL rt) {x' y' : Int32} {o : Int} (hd : decode bs pc = .ok (.if_icmp .le o, 3)) (pn pc' : Nat) (hpn : pc + 3 = pn) (ho : 0 ≤ (pc : Int) + o) (hp : ((pc : Int) + o).toNat = pc') {i : Int} (hi : x'.toInt = i) {j : Int} (hj : y'.toInt = j) 
    (hy : i ≤ j → OwnEnds p e below G (T.setTop (mkF m pc' Ls st))) (hn : j < i → OwnEnds p e below G (T.setTop (mkF m pn Ls st))) : OwnEnds p e below G (T.setTop (mkF m pc Ls (.int y' :: .int x' :: st))) := by
  subst hpn
  by_cases k : y' < x'
  · exact own_st (fun _ q => XS.icmpNo X.here C.1 rfl (hb C.2.2.2.1 hd) rfl (((tlt k).2.2.2)) q) (hn (by rw [Int32.lt_iff_toInt_lt] at k; have q : y'.toInt = j := hj; omega))
  · exact own_st (fun _ q => XS.icmpYes X.here C.1 rfl rfl (hb C.2.2.2.1 hd) rfl (((flt k).2.2.2)) ho hp q) (hy (by rw [Int32.lt_iff_toInt_lt] at k; have q : y'.toInt = j := hj; omega))
theorem own_icmpeq (X : Stand p l e R s m args below meth c T locs cells slots) (C : OwnCx p s m meth c Z y bs maxL rt) {x' y' : Int32} {o : Int} (hd : decode bs pc = .ok (.if_icmp .eq o, 3)) (pn pc' : Nat) (hpn : pc + 3 = pn) (ho : 0 ≤ (pc : Int) + o) (hp : ((pc : Int) + o).toNat = pc') {i : Int} (hi : x'.toInt = i) {j : Int} (hj : y'.toInt = j) 
    (hy : i = j → OwnEnds p e below G (T.setTop (mkF m pc' Ls st))) (hn : i ≠ j → OwnEnds p e below G (T.setTop (mkF m pn Ls st))) : OwnEnds p e below G (T.setTop (mkF m pc Ls (.int y' :: .int x' :: st))) := by
  subst hpn
  by_cases k : x' = y'
  · exact own_st (fun _ q => XS.icmpYes X.here C.1 rfl rfl (hb C.2.2.2.1 hd) rfl (((teq k).1)) ho hp q) (hy (by subst k; exact hi.symm.trans hj))
  · exact own_st (fun _ q => XS.icmpNo X.here C.1 rfl (hb C.2.2.2.1 hd) rfl (((feq k).1)) q) (hn (fun q => k (Int32.toInt_inj.mp (hi.trans (q.trans hj.symm)))))
theorem own_icmpne (X : Stand p l e R s m args below meth c T locs cells slots) (C : OwnCx p s m meth c Z y bs maxL rt) {x' y' : Int32} {o : Int} (hd : decode bs pc = .ok (.if_icmp .ne o, 3)) (pn pc' : Nat) (hpn : pc + 3 = pn) (ho : 0 ≤ (pc : Int) + o) (hp : ((pc : Int) + o).toNat = pc') {i : Int} (hi : x'.toInt = i) {j : Int} (hj : y'.toInt = j) 
    (hy : i ≠ j → OwnEnds p e below G (T.setTop (mkF m pc' Ls st))) (hn : i = j → OwnEnds p e below G (T.setTop (mkF m pn Ls st))) : OwnEnds p e below G (T.setTop (mkF m pc Ls (.int y' :: .int x' :: st))) := by
  subst hpn
  by_cases k : x' = y'
  · exact own_st (fun _ q => XS.icmpNo X.here C.1 rfl (hb C.2.2.2.1 hd) rfl (((teq k).2)) q) (hn (by subst k; exact hi.symm.trans hj))
  · exact own_st (fun _ q => XS.icmpYes X.here C.1 rfl rfl (hb C.2.2.2.1 hd) rfl (((feq k).2)) ho hp q) (hy (fun q => k (Int32.toInt_inj.mp (hi.trans (q.trans hj.symm)))))
theorem own_iflt (X : Stand p l e R s m args below meth c T locs cells slots) (C : OwnCx p s m meth c Z y bs maxL rt) {x' : Int32} {o : Int} (hd : decode bs pc = .ok (.ifCond .lt o, 3)) (pn pc' : Nat) (hpn : pc + 3 = pn) (ho : 0 ≤ (pc : Int) + o) (hp : ((pc : Int) + o).toNat = pc') {i : Int} (hi : x'.toInt = i) 
    (hy : i < 0 → OwnEnds p e below G (T.setTop (mkF m pc' Ls st))) (hn : 0 ≤ i → OwnEnds p e below G (T.setTop (mkF m pn Ls st))) : OwnEnds p e below G (T.setTop (mkF m pc Ls (.int x' :: st))) := by
  subst hpn
  by_cases k : x' < (0 : Int32)
  · exact own_st (fun _ q => XS.ifYes X.here C.1 rfl rfl (hb C.2.2.2.1 hd) rfl ((if0 _ _).trans ((tlt k).1)) ho hp q) (hy (by rw [Int32.lt_iff_toInt_lt] at k; have q : (0 : Int32).toInt = 0 := (rfl : (0 : Int32).toInt = 0); omega))
  · exact own_st (fun _ q => XS.ifNo X.here C.1 rfl (hb C.2.2.2.1 hd) rfl ((if0 _ _).trans ((flt k).1)) q) (hn (by rw [Int32.lt_iff_toInt_lt] at k; have q : (0 : Int32).toInt = 0 := (rfl : (0 : Int32).toInt = 0); omega))
theorem own_ifge (X : Stand p l e R s m args below meth c T locs cells slots) (C : OwnCx p s m meth c Z y bs maxL rt) {x' : Int32} {o : Int} (hd : decode bs pc = .ok (.ifCond .ge o, 3)) (pn pc' : Nat) (hpn : pc + 3 = pn) (ho : 0 ≤ (pc : Int) + o) (hp : ((pc : Int) + o).toNat = pc') {i : Int} (hi : x'.toInt = i) 
    (hy : 0 ≤ i → OwnEnds p e below G (T.setTop (mkF m pc' Ls st))) (hn : i < 0 → OwnEnds p e below G (T.setTop (mkF m pn Ls st))) : OwnEnds p e below G (T.setTop (mkF m pc Ls (.int x' :: st))) := by
  subst hpn
  by_cases k : x' < (0 : Int32)
  · exact own_st (fun _ q => XS.ifNo X.here C.1 rfl (hb C.2.2.2.1 hd) rfl ((if0 _ _).trans ((tlt k).2.1)) q) (hn (by rw [Int32.lt_iff_toInt_lt] at k; have q : (0 : Int32).toInt = 0 := (rfl : (0 : Int32).toInt = 0); omega))
  · exact own_st (fun _ q => XS.ifYes X.here C.1 rfl rfl (hb C.2.2.2.1 hd) rfl ((if0 _ _).trans ((flt k).2.1)) ho hp q) (hy (by rw [Int32.lt_iff_toInt_lt] at k; have q : (0 : Int32).toInt = 0 := (rfl : (0 : Int32).toInt = 0); omega))
theorem own_ifgt (X : Stand p l e R s m args below meth c T locs cells slots) (C : OwnCx p s m meth c Z y bs maxL rt) {x' : Int32} {o : Int} (hd : decode bs pc = .ok (.ifCond .gt o, 3)) (pn pc' : Nat) (hpn : pc + 3 = pn) (ho : 0 ≤ (pc : Int) + o) (hp : ((pc : Int) + o).toNat = pc') {i : Int} (hi : x'.toInt = i) 
    (hy : 0 < i → OwnEnds p e below G (T.setTop (mkF m pc' Ls st))) (hn : i ≤ 0 → OwnEnds p e below G (T.setTop (mkF m pn Ls st))) : OwnEnds p e below G (T.setTop (mkF m pc Ls (.int x' :: st))) := by
  subst hpn
  by_cases k : (0 : Int32) < x'
  · exact own_st (fun _ q => XS.ifYes X.here C.1 rfl rfl (hb C.2.2.2.1 hd) rfl ((if0 _ _).trans ((tlt k).2.2.1)) ho hp q) (hy (by rw [Int32.lt_iff_toInt_lt] at k; have q : (0 : Int32).toInt = 0 := (rfl : (0 : Int32).toInt = 0); omega))
  · exact own_st (fun _ q => XS.ifNo X.here C.1 rfl (hb C.2.2.2.1 hd) rfl ((if0 _ _).trans ((flt k).2.2.1)) q) (hn (by rw [Int32.lt_iff_toInt_lt] at k; have q : (0 : Int32).toInt = 0 := (rfl : (0 : Int32).toInt = 0); omega))
theorem own_ifle (X : Stand p l e R s m args below meth c T locs cells slots) (C : OwnCx p s m meth c Z y bs maxL rt) {x' : Int32} {o : Int} (hd : decode bs pc = .ok (.ifCond .le o, 3)) (pn pc' : Nat) (hpn : pc + 3 = pn) (ho : 0 ≤ (pc : Int) + o) (hp : ((pc : Int) + o).toNat = pc') {i : Int} (hi : x'.toInt = i) 
    (hy : i ≤ 0 → OwnEnds p e below G (T.setTop (mkF m pc' Ls st))) (hn : 0 < i → OwnEnds p e below G (T.setTop (mkF m pn Ls st))) : OwnEnds p e below G (T.setTop (mkF m pc Ls (.int x' :: st))) := by
  subst hpn
  by_cases k : (0 : Int32) < x'
  · exact own_st (fun _ q => XS.ifNo X.here C.1 rfl (hb C.2.2.2.1 hd) rfl ((if0 _ _).trans ((tlt k).2.2.2)) q) (hn (by rw [Int32.lt_iff_toInt_lt] at k; have q : (0 : Int32).toInt = 0 := (rfl : (0 : Int32).toInt = 0); omega))
  · exact own_st (fun _ q => XS.ifYes X.here C.1 rfl rfl (hb C.2.2.2.1 hd) rfl ((if0 _ _).trans ((flt k).2.2.2)) ho hp q) (hy (by rw [Int32.lt_iff_toInt_lt] at k; have q : (0 : Int32).toInt = 0 := (rfl : (0 : Int32).toInt = 0); omega))
theorem own_ifeq (X : Stand p l e R s m args below meth c T locs cells slots) (C : OwnCx p s m meth c Z y bs maxL rt) {x' : Int32} {o : Int} (hd : decode bs pc = .ok (.ifCond .eq o, 3)) (pn pc' : Nat) (hpn : pc + 3 = pn) (ho : 0 ≤ (pc : Int) + o) (hp : ((pc : Int) + o).toNat = pc') {i : Int} (hi : x'.toInt = i) 
    (hy : i = 0 → OwnEnds p e below G (T.setTop (mkF m pc' Ls st))) (hn : i ≠ 0 → OwnEnds p e below G (T.setTop (mkF m pn Ls st))) : OwnEnds p e below G (T.setTop (mkF m pc Ls (.int x' :: st))) := by
  subst hpn
  by_cases k : x' = (0 : Int32)
  · exact own_st (fun _ q => XS.ifYes X.here C.1 rfl rfl (hb C.2.2.2.1 hd) rfl ((if0 _ _).trans ((teq k).1)) ho hp q) (hy (by subst k; exact hi.symm.trans (rfl : (0 : Int32).toInt = 0)))
  · exact own_st (fun _ q => XS.ifNo X.here C.1 rfl (hb C.2.2.2.1 hd) rfl ((if0 _ _).trans ((feq k).1)) q) (hn (fun q => k (Int32.toInt_inj.mp (hi.trans (q.trans (rfl : (0 : Int32).toInt = 0).symm)))))
theorem own_ifne (X : Stand p l e R s m args below meth c T locs cells slots) (C : OwnCx p s m meth c Z y bs maxL rt) {x' : Int32} {o : Int} (hd : decode bs pc = .ok (.ifCond .ne o, 3)) (pn pc' : Nat) (hpn : pc + 3 = pn) (ho : 0 ≤ (pc : Int) + o) (hp : ((pc : Int) + o).toNat = pc') {i : Int} (hi : x'.toInt = i) 
    (hy : i ≠ 0 → OwnEnds p e below G (T.setTop (mkF m pc' Ls st))) (hn : i = 0 → OwnEnds p e below G (T.setTop (mkF m pn Ls st))) : OwnEnds p e below G (T.setTop (mkF m pc Ls (.int x' :: st))) := by
  subst hpn
  by_cases k : x' = (0 : Int32)
  · exact own_st (fun _ q => XS.ifNo X.here C.1 rfl (hb C.2.2.2.1 hd) rfl ((if0 _ _).trans ((teq k).2)) q) (hn (by subst k; exact hi.symm.trans (rfl : (0 : Int32).toInt = 0)))
  · exact own_st (fun _ q => XS.ifYes X.here C.1 rfl rfl (hb C.2.2.2.1 hd) rfl ((if0 _ _).trans ((feq k).2)) ho hp q) (hy (fun q => k (Int32.toInt_inj.mp (hi.trans (q.trans (rfl : (0 : Int32).toInt = 0).symm)))))
theorem own_ifnonnull_y (X : Stand p l e R s m args below meth c T locs cells slots) (C : OwnCx p s m meth c Z y bs maxL rt) {b : Addr} {o : Int} (hd : decode bs pc = .ok (.ifnonnull o, 3)) (pc' : Nat) (ho : 0 ≤ (pc : Int) + o) (hp : ((pc : Int) + o).toNat = pc')
    (hr : OwnEnds p e below G (T.setTop (mkF m pc' Ls st))) : OwnEnds p e below G (T.setTop (mkF m pc Ls (.ref b :: st))) :=
  own_st (fun _ q => XS.ifnonnullYes X.here C.1 rfl rfl (hb C.2.2.2.1 hd) rfl ho hp q) hr
theorem own_ifnull_n (X : Stand p l e R s m args below meth c T locs cells slots) (C : OwnCx p s m meth c Z y bs maxL rt) {b : Addr} {o : Int} (hd : decode bs pc = .ok (.ifnull o, 3)) (pn : Nat) (hp : pc + 3 = pn)
    (hr : OwnEnds p e below G (T.setTop (mkF m pn Ls st))) : OwnEnds p e below G (T.setTop (mkF m pc Ls (.ref b :: st))) := by
  subst hp; exact own_st (fun _ q => XS.ifnullNo X.here C.1 rfl (hb C.2.2.2.1 hd) rfl q) hr
theorem own_ifnull_y (X : Stand p l e R s m args below meth c T locs cells slots) (C : OwnCx p s m meth c Z y bs maxL rt) {o : Int} (hd : decode bs pc = .ok (.ifnull o, 3)) (pc' : Nat) (ho : 0 ≤ (pc : Int) + o) (hp : ((pc : Int) + o).toNat = pc')
    (hr : OwnEnds p e below G (T.setTop (mkF m pc' Ls st))) : OwnEnds p e below G (T.setTop (mkF m pc Ls (.null :: st))) :=
  own_st (fun _ q => XS.ifnullYes X.here C.1 rfl rfl (hb C.2.2.2.1 hd) rfl ho hp q) hr
theorem own_ifnonnull_n (X : Stand p l e R s m args below meth c T locs cells slots) (C : OwnCx p s m meth c Z y bs maxL rt) {o : Int} (hd : decode bs pc = .ok (.ifnonnull o, 3)) (pn : Nat) (hp : pc + 3 = pn)
    (hr : OwnEnds p e below G (T.setTop (mkF m pn Ls st))) : OwnEnds p e below G (T.setTop (mkF m pc Ls (.null :: st))) := by
  subst hp; exact own_st (fun _ q => XS.ifnonnullNo X.here C.1 rfl (hb C.2.2.2.1 hd) rfl q) hr
theorem own_acmpeq (X : Stand p l e R s m args below meth c T locs cells slots) (C : OwnCx p s m meth c Z y bs maxL rt) {a b : Addr} {o : Int} (hd : decode bs pc = .ok (.if_acmp .eq o, 3)) (pn pc' : Nat) (hpn : pc + 3 = pn) (ho : 0 ≤ (pc : Int) + o) (hp : ((pc : Int) + o).toNat = pc')
    (hy : a = b → OwnEnds p e below G (T.setTop (mkF m pc' Ls st))) (hn : a ≠ b → OwnEnds p e below G (T.setTop (mkF m pn Ls st))) : OwnEnds p e below G (T.setTop (mkF m pc Ls (.ref b :: .ref a :: st))) := by
  subst hpn
  by_cases k : a = b
  · exact own_st (fun _ q => XS.acmpYes X.here C.1 rfl rfl (hb C.2.2.2.1 hd) rfl (by simp [if_acmp.holds, k]) ho hp q) (hy k)
  · exact own_st (fun _ q => XS.acmpNo X.here C.1 rfl (hb C.2.2.2.1 hd) rfl (by simp [if_acmp.holds, k]) q) (hn k)
theorem own_acmpne (X : Stand p l e R s m args below meth c T locs cells slots) (C : OwnCx p s m meth c Z y bs maxL rt) {a b : Addr} {o : Int} (hd : decode bs pc = .ok (.if_acmp .ne o, 3)) (pn pc' : Nat) (hpn : pc + 3 = pn) (ho : 0 ≤ (pc : Int) + o) (hp : ((pc : Int) + o).toNat = pc')
    (hy : a ≠ b → OwnEnds p e below G (T.setTop (mkF m pc' Ls st))) (hn : a = b → OwnEnds p e below G (T.setTop (mkF m pn Ls st))) : OwnEnds p e below G (T.setTop (mkF m pc Ls (.ref b :: .ref a :: st))) := by
  subst hpn
  by_cases k : a = b
  · exact own_st (fun _ q => XS.acmpNo X.here C.1 rfl (hb C.2.2.2.1 hd) rfl (by simp [if_acmp.holds, k]) q) (hn k)
  · exact own_st (fun _ q => XS.acmpYes X.here C.1 rfl rfl (hb C.2.2.2.1 hd) rfl (by simp [if_acmp.holds, k]) ho hp q) (hy k)
theorem own_leave (X : Stand p l e R s m args below meth c T locs cells slots) (C : OwnCx p s m meth c Z y bs maxL rt) (v : Option Value) (hv : meth.sig.returnType = none → v = none) (hce : cells ≤ ce) (hsl : slots ≤ sl) (hQ : Q v T.heap locs) {S : State}
    (k : ∀ fs, (∀ (f : JFrame) (acts : List Action), f.method = m → f.locked = none → f.entered = [] → (doReturn e (T.setTop f) acts v).1 = T.setFrames fs) → Steps p.tables e below S (T.setFrames fs)) : OwnEnds p e below (OwnG s ce sl Q) S := by
  obtain ⟨fs, hr, hrun, hended, hW, hsame⟩ := X.leave (v := v) hv C.2.2.2.2.2.2.1
  exact ⟨_, _, k fs hr, hrun, hended, _, _, rfl, hQ, ⟨_, rfl⟩, hW, hsame.mono hce hsl⟩
theorem own_return (X : Stand p l e R s m args below meth c T locs cells slots) (C : OwnCx p s m meth c Z y bs maxL rt) (hrt : rt = none) (hd : decode bs pc = .ok (.return_, 1)) (hce : cells ≤ ce) (hsl : slots ≤ sl) (hQ : Q none T.heap locs) : OwnEnds p e below (OwnG s ce sl Q) (T.setTop (mkF m pc Ls [])) := by
  subst hrt
  exact own_leave X C none (fun _ => rfl) hce hsl hQ fun fs hr => X.returnOut C.1 C.2.2.2.2.2.1 (hb C.2.2.2.1 hd) hr
theorem own_iretN (X : Stand p l e R s m args below meth c T locs cells slots) (C : OwnCx p s m meth c Z y bs maxL rt) {z : Int32} (t : FieldType) (hrt : rt = some t) (ht : t = .boolean ∨ t = .byte ∨ t = .char ∨ t = .short) (hd : decode bs pc = .ok (.ireturn, 1)) (hce : cells ≤ ce) (hsl : slots ≤ sl) (w : Int32) (hw : nar t z = w) (hQ : Q (some (.int w)) T.heap locs) : OwnEnds p e below (OwnG s ce sl Q) (T.setTop (mkF m pc Ls (.int z :: st))) := by
  subst hrt hw
  exact own_leave X C (some (.int (nar t z))) (fun q => by rw [C.2.2.2.2.2.1] at q; cases q) hce hsl hQ fun fs hr => retN X C.1 C.2.2.2.2.2.1 ht (hb C.2.2.2.1 hd) hr
theorem own_ireturn (X : Stand p l e R s m args below meth c T locs cells slots) (C : OwnCx p s m meth c Z y bs maxL rt) {z : Int32} (hrt : rt = some .int) (hd : decode bs pc = .ok (.ireturn, 1)) (hce : cells ≤ ce) (hsl : slots ≤ sl) (hQ : Q (some (.int z)) T.heap locs) : OwnEnds p e below (OwnG s ce sl Q) (T.setTop (mkF m pc Ls (.int z :: st))) := by
  subst hrt
  exact own_leave X C (some (.int z)) (fun q => by rw [C.2.2.2.2.2.1] at q; cases q) hce hsl hQ fun fs hr => retOut X C.1 C.2.2.2.2.2.1 rfl (Or.inl ⟨rfl, Or.inl rfl, z, rfl⟩) (hb C.2.2.2.1 hd) hr
theorem own_lreturn (X : Stand p l e R s m args below meth c T locs cells slots) (C : OwnCx p s m meth c Z y bs maxL rt) {z : Int64} (hrt : rt = some .long) (hd : decode bs pc = .ok (.lreturn, 1)) (hce : cells ≤ ce) (hsl : slots ≤ sl) (hQ : Q (some (.long z)) T.heap locs) : OwnEnds p e below (OwnG s ce sl Q) (T.setTop (mkF m pc Ls (.long z :: st))) := by
  subst hrt
  exact own_leave X C (some (.long z)) (fun q => by rw [C.2.2.2.2.2.1] at q; cases q) hce hsl hQ fun fs hr => retOut X C.1 C.2.2.2.2.2.1 rfl (Or.inr (Or.inl ⟨rfl, rfl, z, rfl⟩)) (hb C.2.2.2.1 hd) hr
theorem own_areturn (X : Stand p l e R s m args below meth c T locs cells slots) (C : OwnCx p s m meth c Z y bs maxL rt) {z : Value} (t : FieldType) (hrt : rt = some t) (ht : t.isReference = true) (hz : z.isRef = true) (hn : narrow t z = z) (hd : decode bs pc = .ok (.areturn, 1)) (hce : cells ≤ ce) (hsl : slots ≤ sl) (hQ : Q (some z) T.heap locs) : OwnEnds p e below (OwnG s ce sl Q) (T.setTop (mkF m pc Ls (z :: st))) := by
  subst hrt
  exact own_leave X C (some z) (fun q => by rw [C.2.2.2.2.2.1] at q; cases q) hce hsl hQ fun fs hr => retOut X C.1 C.2.2.2.2.2.1 hn (Or.inr (Or.inr (Or.inr (Or.inr ⟨rfl, ht, hz⟩)))) (hb C.2.2.2.1 hd) hr
theorem own_callS (X : Stand p l e R s m args below meth c T locs cells slots) (C : OwnCx p s m meth c Z y bs maxL rt) {idx : Nat} {y' : MethodName} {bs' : ByteArray} {maxL' : Nat} {rt' : Option FieldType} {rm : Room} {as' : Array Value} {Q' : Option Value → Heap → List Loc → Prop}
    (w1 : (Jvm.Cond.methodLink y.cls idx y').before a0 Z = true) (w2 : (Jvm.Cond.static y').before a0 Z = true) (w3 : (Jvm.Cond.initialized y'.cls).before a0 Z = true) (w4 : (Jvm.Cond.code y' bs' maxL' rt').before a0 Z = true) (hy : y'.cls ≠ "java/lang/invoke/MethodHandle" ∧ y'.cls ≠ "java/lang/invoke/VarHandle")
    (hM : OwnMet l Z y' bs' maxL' rt' [] rm as' h Q') (eT : T.heap = h) {ps : List FieldType} {r : Option FieldType} (hpd : parseMethodDescriptor y'.desc = some ⟨ps, r⟩) (argsL : List Value) (has : argsL.toArray = as') (hlen : argsL.length = ps.length) (hst : st = argsL.reverse ++ rest) (hsz : Ls.size = maxL)
    (W : Nat) (hW : (rest.map fun v => v.category).sum = W) (hf : rm.frames + 1 ≤ R.frames) (hlo : W + (maxL' + 11) + rm.locals ≤ R.locals) (hce : cells + rm.cells ≤ R.cells) (hsl : slots + rm.slots ≤ R.slots) (hd : decode bs pc = .ok (.invokestatic idx, 3)) (pc' : Nat) (hp : pc + 3 = pc')
    (hr : ∀ T' L v, Stand p l e R s m args below meth c T' (locs ++ L) (cells + rm.cells) (slots + rm.slots) → Q' v T'.heap L → OwnEnds p e below G (T'.setTop (mkF m pc' Ls (v.toList ++ rest)))) : OwnEnds p e below G (T.setTop (mkF m pc Ls st)) := by
  subst hp has hW
  obtain ⟨v, _, ⟨T', L, k, n⟩, -, X', ⟨L', hQ, l1, l2, l3⟩, stp⟩ := Jvm.LawKit.callS X C.1 C.2.2.1 (mvT C.2.1 w1) (mvT C.2.1 w2) (mvT C.2.1 w3) (mvT C.2.1 w4) hy (backOf (len := 3) (W := (rest.map fun v => v.category).sum) hM C.2.1 w4 w3 hf hlo) (g := mkF m pc Ls st) rfl (by rw [C.2.2.2.2.1]; exact hsz) (argsL := argsL) (rest := rest) (lenOf hpd hlen) hst (by show 2 * 0 + _ ≤ _; omega) (hb C.2.2.2.1 hd) (fun _ _ => ⟨rfl, eT, hce, hsl⟩)
  dsimp only [Pt.U, Pt.locs, Pt.cells, Pt.slots] at X' l1 l2 l3 stp hQ
  subst l1 l2 l3
  exact own_st stp (hr T' L' v X' hQ)
/-- a callee that returns w and leaves the heap alone -/
def OwnPure (w : Value) (h : Heap) : Option Value → Heap → List Loc → Prop := fun v h' L => v = some w ∧ h' = h ∧ L = []
theorem own_conv {ws : List Jvm.Cond} {rm : Room} {as' : Array Value} {w w' : Value} (H : OwnMet l Z y bs maxL rt ws rm as' h (OwnPure w h)) (q : w = w') : OwnMet l Z y bs maxL rt ws rm as' h (OwnPure w' h) := q ▸ H
theorem own_callP (X : Stand p l e R s m args below meth c T locs cells slots) (C : OwnCx p s m meth c Z y bs maxL rt) {idx : Nat} {y' : MethodName} {bs' : ByteArray} {maxL' : Nat} {rt' : Option FieldType} {rm : Room} {as' : Array Value} {w : Value}
    (w1 : (Jvm.Cond.methodLink y.cls idx y').before a0 Z = true) (w2 : (Jvm.Cond.static y').before a0 Z = true) (w3 : (Jvm.Cond.initialized y'.cls).before a0 Z = true) (w4 : (Jvm.Cond.code y' bs' maxL' rt').before a0 Z = true) (hy : y'.cls ≠ "java/lang/invoke/MethodHandle" ∧ y'.cls ≠ "java/lang/invoke/VarHandle")
    (hM : OwnMet l Z y' bs' maxL' rt' [] rm as' h (OwnPure w h)) (eT : T.heap = h) {ps : List FieldType} {r : Option FieldType} (hpd : parseMethodDescriptor y'.desc = some ⟨ps, r⟩) (argsL : List Value) (has : argsL.toArray = as') (hlen : argsL.length = ps.length) (hst : st = argsL.reverse ++ rest) (hsz : Ls.size = maxL)
    (W : Nat) (hW : (rest.map fun v => v.category).sum = W) (hf : rm.frames + 1 ≤ R.frames) (hlo : W + (maxL' + 11) + rm.locals ≤ R.locals) (hce : rm.cells = 0) (hsl : rm.slots = 0) (hc0 : cells ≤ R.cells) (hs0 : slots ≤ R.slots) (hd : decode bs pc = .ok (.invokestatic idx, 3)) (pc' : Nat) (hp : pc + 3 = pc')
    (hr : ∀ T', Stand p l e R s m args below meth c T' locs cells slots → T'.heap = h → OwnEnds p e below G (T'.setTop (mkF m pc' Ls (w :: rest)))) : OwnEnds p e below G (T.setTop (mkF m pc Ls st)) := by
  refine own_callS X C w1 w2 w3 w4 hy hM eT hpd argsL has hlen hst hsz W hW hf hlo (by omega) (by omega) hd pc' hp ?_
  rintro T' L v X' ⟨rfl, e, rfl⟩
  rw [List.append_nil, hce, hsl] at X'
  exact hr T' X' e
/-- a callee that leaves the heap alone and returns a value of which Pw says something -/
def OwnSome (Pw : Value → Prop) (h : Heap) : Option Value → Heap → List Loc → Prop := fun v h' L => (∃ w, v = some w ∧ Pw w) ∧ h' = h ∧ L = []
theorem own_callE (X : Stand p l e R s m args below meth c T locs cells slots) (C : OwnCx p s m meth c Z y bs maxL rt) {idx : Nat} {y' : MethodName} {bs' : ByteArray} {maxL' : Nat} {rt' : Option FieldType} {rm : Room} {as' : Array Value} {Pw : Value → Prop}
    (w1 : (Jvm.Cond.methodLink y.cls idx y').before a0 Z = true) (w2 : (Jvm.Cond.static y').before a0 Z = true) (w3 : (Jvm.Cond.initialized y'.cls).before a0 Z = true) (w4 : (Jvm.Cond.code y' bs' maxL' rt').before a0 Z = true) (hy : y'.cls ≠ "java/lang/invoke/MethodHandle" ∧ y'.cls ≠ "java/lang/invoke/VarHandle")
    (hM : OwnMet l Z y' bs' maxL' rt' [] rm as' h (OwnSome Pw h)) (eT : T.heap = h) {ps : List FieldType} {r : Option FieldType} (hpd : parseMethodDescriptor y'.desc = some ⟨ps, r⟩) (argsL : List Value) (has : argsL.toArray = as') (hlen : argsL.length = ps.length) (hst : st = argsL.reverse ++ rest) (hsz : Ls.size = maxL)
    (W : Nat) (hW : (rest.map fun v => v.category).sum = W) (hf : rm.frames + 1 ≤ R.frames) (hlo : W + (maxL' + 11) + rm.locals ≤ R.locals) (hce : rm.cells = 0) (hsl : rm.slots = 0) (hc0 : cells ≤ R.cells) (hs0 : slots ≤ R.slots) (hd : decode bs pc = .ok (.invokestatic idx, 3)) (pc' : Nat) (hp : pc + 3 = pc')
    (hr : ∀ T' w, Pw w → Stand p l e R s m args below meth c T' locs cells slots → T'.heap = h → OwnEnds p e below G (T'.setTop (mkF m pc' Ls (w :: rest)))) : OwnEnds p e below G (T.setTop (mkF m pc Ls st)) := by
  refine own_callS X C w1 w2 w3 w4 hy hM eT hpd argsL has hlen hst hsz W hW hf hlo (by omega) (by omega) hd pc' hp ?_
  rintro T' L v X' ⟨⟨w, rfl, hw⟩, e, rfl⟩
  rw [List.append_nil, hce, hsl] at X'
  exact hr T' w hw X' e
end OwnLayer
section OwnHeap
variable {p : Program} {l : Launch} {e : Env} {R : Room} {s : State} {m : MethodId} {args : Array Value} {below : List Frame} {meth : Method} {c : Code} {T : State} {locs : List Loc} {cells slots : Nat} {Z : State} {y : MethodName} {bs : ByteArray} {maxL : Nat} {rt : Option FieldType} {ce sl : Nat} {Q : Option Value → Heap → List Loc → Prop} {G : Outcome → State → Prop} {pc : Nat} {Ls : Array Slot} {st rest : List Value} {h h' : Heap} {a0 : Array Value} {a : Addr}
/-- an array: its length and what lies at each place -/
def OwnAr (Z : State) (h : Heap) (a : Addr) (ty : FieldType) (n : Nat) (f : Nat → Value) : Prop := ∃ cl : Cell, Arr Z h a cl ty ∧ cl.slots.size = n ∧ ∀ i, i < n → cl.slots[i]? = some (f i)
theorem OwnAr.lt {ty : FieldType} {n : Nat} {f : Nat → Value} (F : OwnAr Z h a ty n f) : a < h.size := by obtain ⟨cl, A, -⟩ := F; exact A.lt
theorem OwnAr.ext {ty : FieldType} {n : Nat} {f : Nat → Value} (F : OwnAr Z h a ty n f) (E : Ext h h') : OwnAr Z h' a ty n f := by obtain ⟨cl, A, r⟩ := F; exact ⟨cl, A.ext E, r⟩
theorem OwnAr.other {ty : FieldType} {n : Nat} {f : Nat → Value} {b : Addr} {sl : Nat} {v : Value} (F : OwnAr Z h a ty n f) (W : Wr h h' b sl v) (q : a ≠ b) : OwnAr Z h' a ty n f := by obtain ⟨cl, A, r⟩ := F; exact ⟨cl, A.other W q, r⟩
theorem OwnAr.keep {ty : FieldType} {n : Nat} {f : Nat → Value} {ws : List Addr} (F : OwnAr Z h a ty n f) (K : Keep h h' ws) (q : a ∉ ws) : OwnAr Z h' a ty n f := by obtain ⟨cl, A, r⟩ := F; exact ⟨cl, ⟨K.2.1 a cl A.1 q, A.2⟩, r⟩
theorem OwnAr.eqv {ty : FieldType} {n : Nat} {f g : Nat → Value} (F : OwnAr Z h a ty n f) (q : ∀ i, i < n → f i = g i) : OwnAr Z h a ty n g := by obtain ⟨cl, A, S, r⟩ := F; exact ⟨cl, A, S, fun i hi => by rw [r i hi, q i hi]⟩
theorem OwnAr.set {ty : FieldType} {n : Nat} {f : Nat → Value} {k : Nat} {v : Value} (F : OwnAr Z h a ty n f) (W : Wr h h' a k v) : OwnAr Z h' a ty n (fun i => if i = k then v else f i) := by
  obtain ⟨cl, A, S, r⟩ := F
  obtain ⟨cl', w1, w2, w3, w4⟩ := id W
  cases A.1.symm.trans w1
  refine ⟨cl.setSlot k v, A.same W, by rw [sz_set]; exact S, fun i hi => ?_⟩
  by_cases q : i = k
  · subst q; simp [Cell.setSlot, w3]
  · simp [Cell.setSlot, q, Array.getElem?_setIfInBounds_ne (Ne.symm q), r i hi]
theorem OwnAr.new {ty : FieldType} {n : Int32} {cA : ClassId} (A : Arr Z h a (newA cA ty n) ty) : OwnAr Z h a ty n.toNatClampNeg (fun _ => defaultValue ty) := ⟨_, A, sz_new _ _ _, fun i hi => by simp [newA, hi]⟩
theorem own_fr1 {k : Nat} {L : List Loc} {a : Addr} {sl : Nat} (N : Fr k L) (q : k ≤ a) : Fr k (L ++ [⟨a, sl⟩]) := N.app fun y hy => by cases List.mem_singleton.mp hy; exact q
theorem own_stak {C n d : String} {v : Value} (F : Sta Z h C n d v) (K : Keep h h' []) : Sta Z h' C n d v := by
  obtain ⟨cf, i, k, f, st, cell, h1, h2, h3, h4, h5, r⟩ := F
  exact ⟨cf, i, k, f, st, cell, h1, h2, h3, h4, K.2.1 _ _ h5 nin0, r⟩
theorem own_arl {a : Nat} {ty : FieldType} {n : Nat} {f : Nat → Value} (F : OwnAr Z h a ty n f) : a < h.size := F.lt
theorem own_exl {a : Nat} {K : String} (F : Exa Z h a K) : a < h.size := F.lt
theorem own_iteI {q : Prop} [Decidable q] {a b : Int32} : (if q then Value.int a else Value.int b) = Value.int (if q then a else b) := by split <;> rfl
theorem own_iteL {q : Prop} [Decidable q] {a b : Int64} : (if q then Value.long a else Value.long b) = Value.long (if q then a else b) := by split <;> rfl
theorem own_ne {x y : Nat} (q : x ≠ y) : @Ne Addr x y := q
theorem own_in {j : Int32} {n : Nat} (h0 : 0 ≤ j.toInt) (h1 : j.toInt < n) : ¬ (j < 0 ∨ n ≤ j.toNatClampNeg) := by
  rintro (q | q)
  · rw [Int32.lt_iff_toInt_lt] at q; have : (0 : Int32).toInt = 0 := rfl; omega
  · have e : j.toNatClampNeg = j.toInt.toNat := rfl
    omega
theorem own_len {n : Nat} (h : n < 2147483648) : (n.toInt32).toInt = n := by
  show (Int32.ofNat n).toInt = _
  rw [Int32.toInt_ofNat_of_lt (by omega)]
theorem own_iastore (X : Stand p l e R s m args below meth c T locs cells slots) (C : OwnCx p s m meth c Z y bs maxL rt) {v : Int32} {j : Int32} {n : Nat} {f : Nat → Value} (eT : T.heap = h) (F : OwnAr Z h a .int n f) (h0 : 0 ≤ j.toInt) (h1 : j.toInt < n) (hd : decode bs pc = .ok (.iastore, 1)) (pc' : Nat) (hp : pc + 1 = pc')
    (hr : ∀ T' h', Stand p l e R s m args below meth c T' (locs ++ [⟨a, j.toInt.toNat⟩]) cells slots → T'.heap = h' → Wr h h' a j.toInt.toNat (.int v) → OwnEnds p e below G (T'.setTop (mkF m pc' Ls st))) : OwnEnds p e below G (T.setTop (mkF m pc Ls ((.int v) :: .int j :: .ref a :: st))) := by
  subst hp
  obtain ⟨cl, A, S, r⟩ := F
  obtain ⟨T', h', X', e', W, stp⟩ := stI X C.1 C.2.1 eT A (j := j) (x := v) (by rw [S]; exact own_in h0 h1) (g := mkF m pc Ls _) rfl rfl (hb C.2.2.2.1 hd)
  exact own_st stp (hr T' h' X' e' W)
theorem own_lastore (X : Stand p l e R s m args below meth c T locs cells slots) (C : OwnCx p s m meth c Z y bs maxL rt) {v : Int64} {j : Int32} {n : Nat} {f : Nat → Value} (eT : T.heap = h) (F : OwnAr Z h a .long n f) (h0 : 0 ≤ j.toInt) (h1 : j.toInt < n) (hd : decode bs pc = .ok (.lastore, 1)) (pc' : Nat) (hp : pc + 1 = pc')
    (hr : ∀ T' h', Stand p l e R s m args below meth c T' (locs ++ [⟨a, j.toInt.toNat⟩]) cells slots → T'.heap = h' → Wr h h' a j.toInt.toNat (.long v) → OwnEnds p e below G (T'.setTop (mkF m pc' Ls st))) : OwnEnds p e below G (T.setTop (mkF m pc Ls ((.long v) :: .int j :: .ref a :: st))) := by
  subst hp
  obtain ⟨cl, A, S, r⟩ := F
  obtain ⟨T', h', X', e', W, stp⟩ := stJ X C.1 C.2.1 eT A (j := j) (x := v) (by rw [S]; exact own_in h0 h1) (g := mkF m pc Ls _) rfl rfl (hb C.2.2.2.1 hd)
  exact own_st stp (hr T' h' X' e' W)
theorem own_bastoreB (X : Stand p l e R s m args below meth c T locs cells slots) (C : OwnCx p s m meth c Z y bs maxL rt) {v : Int32} {j : Int32} {n : Nat} {f : Nat → Value} (eT : T.heap = h) (F : OwnAr Z h a .byte n f) (h0 : 0 ≤ j.toInt) (h1 : j.toInt < n) (hd : decode bs pc = .ok (.bastore, 1)) (pc' : Nat) (hp : pc + 1 = pc') (w : Int32) (hw : v.toInt8.toInt32 = w)
    (hr : ∀ T' h', Stand p l e R s m args below meth c T' (locs ++ [⟨a, j.toInt.toNat⟩]) cells slots → T'.heap = h' → Wr h h' a j.toInt.toNat (.int w) → OwnEnds p e below G (T'.setTop (mkF m pc' Ls st))) : OwnEnds p e below G (T.setTop (mkF m pc Ls (.int v :: .int j :: .ref a :: st))) := by
  subst hp hw
  obtain ⟨cl, A, S, r⟩ := F
  obtain ⟨T', h', X', e', W, stp⟩ := stB X C.1 C.2.1 eT A (j := j) (x := v) (by rw [S]; exact own_in h0 h1) (g := mkF m pc Ls _) rfl rfl (hb C.2.2.2.1 hd)
  exact own_st stp (hr T' h' X' e' W)
theorem own_castore (X : Stand p l e R s m args below meth c T locs cells slots) (C : OwnCx p s m meth c Z y bs maxL rt) {v : Int32} {j : Int32} {n : Nat} {f : Nat → Value} (eT : T.heap = h) (F : OwnAr Z h a .char n f) (h0 : 0 ≤ j.toInt) (h1 : j.toInt < n) (hd : decode bs pc = .ok (.castore, 1)) (pc' : Nat) (hp : pc + 1 = pc') (w : Int32) (hw : nar .char v = w)
    (hr : ∀ T' h', Stand p l e R s m args below meth c T' (locs ++ [⟨a, j.toInt.toNat⟩]) cells slots → T'.heap = h' → Wr h h' a j.toInt.toNat (.int w) → OwnEnds p e below G (T'.setTop (mkF m pc' Ls st))) : OwnEnds p e below G (T.setTop (mkF m pc Ls (.int v :: .int j :: .ref a :: st))) := by
  subst hp hw
  obtain ⟨cl, A, S, r⟩ := F
  obtain ⟨T', h', X', e', W, stp⟩ := stC X C.1 C.2.1 eT A (j := j) (x := v) (by rw [S]; exact own_in h0 h1) (g := mkF m pc Ls _) rfl rfl (hb C.2.2.2.1 hd)
  exact own_st stp (hr T' h' X' e' W)
theorem own_bastoreZ (X : Stand p l e R s m args below meth c T locs cells slots) (C : OwnCx p s m meth c Z y bs maxL rt) {v : Int32} {j : Int32} {n : Nat} {f : Nat → Value} (eT : T.heap = h) (F : OwnAr Z h a .boolean n f) (h0 : 0 ≤ j.toInt) (h1 : j.toInt < n) (hd : decode bs pc = .ok (.bastore, 1)) (pc' : Nat) (hp : pc + 1 = pc') (w : Int32) (hw : nar .boolean v = w)
    (hr : ∀ T' h', Stand p l e R s m args below meth c T' (locs ++ [⟨a, j.toInt.toNat⟩]) cells slots → T'.heap = h' → Wr h h' a j.toInt.toNat (.int w) → OwnEnds p e below G (T'.setTop (mkF m pc' Ls st))) : OwnEnds p e below G (T.setTop (mkF m pc Ls (.int v :: .int j :: .ref a :: st))) := by
  subst hp hw
  obtain ⟨cl, A, S, r⟩ := F
  obtain ⟨T', h', X', e', W, stp⟩ := stZ X C.1 C.2.1 eT A (j := j) (x := v) (by rw [S]; exact own_in h0 h1) (g := mkF m pc Ls _) rfl rfl (hb C.2.2.2.1 hd)
  exact own_st stp (hr T' h' X' e' W)
theorem own_iaload (X : Stand p l e R s m args below meth c T locs cells slots) (C : OwnCx p s m meth c Z y bs maxL rt) {j : Int32} {n : Nat} {f : Nat → Value} (eT : T.heap = h) (F : OwnAr Z h a .int n f) (h0 : 0 ≤ j.toInt) (h1 : j.toInt < n) (hd : decode bs pc = .ok (.iaload, 1)) (pc' : Nat) (hp : pc + 1 = pc') (v : Value) (hv : f j.toInt.toNat = v)
    (hr : OwnEnds p e below G (T.setTop (mkF m pc' Ls (v :: st)))) : OwnEnds p e below G (T.setTop (mkF m pc Ls (.int j :: .ref a :: st))) := by
  subst hp hv
  obtain ⟨cl, A, S, r⟩ := F
  exact own_st (fun _ q => X.iaload C.1 (j := j) (v := f j.toInt.toNat) (by rw [eT]; exact A.1) (State.isArrayOf_alike C.2.1.alike A.2.1) A.2.2 (by rw [S]; exact own_in h0 h1) (show cl.slots[j.toNatClampNeg]? = _ from r j.toInt.toNat (by omega)) (g := mkF m pc Ls _) rfl rfl (hb C.2.2.2.1 hd) _ q) hr
theorem own_laload (X : Stand p l e R s m args below meth c T locs cells slots) (C : OwnCx p s m meth c Z y bs maxL rt) {j : Int32} {n : Nat} {f : Nat → Value} (eT : T.heap = h) (F : OwnAr Z h a .long n f) (h0 : 0 ≤ j.toInt) (h1 : j.toInt < n) (hd : decode bs pc = .ok (.laload, 1)) (pc' : Nat) (hp : pc + 1 = pc') (v : Value) (hv : f j.toInt.toNat = v)
    (hr : OwnEnds p e below G (T.setTop (mkF m pc' Ls (v :: st)))) : OwnEnds p e below G (T.setTop (mkF m pc Ls (.int j :: .ref a :: st))) := by
  subst hp hv
  obtain ⟨cl, A, S, r⟩ := F
  exact own_st (fun _ q => X.laload C.1 (j := j) (v := f j.toInt.toNat) (by rw [eT]; exact A.1) (State.isArrayOf_alike C.2.1.alike A.2.1) A.2.2 (by rw [S]; exact own_in h0 h1) (show cl.slots[j.toNatClampNeg]? = _ from r j.toInt.toNat (by omega)) (g := mkF m pc Ls _) rfl rfl (hb C.2.2.2.1 hd) _ q) hr
theorem own_caload (X : Stand p l e R s m args below meth c T locs cells slots) (C : OwnCx p s m meth c Z y bs maxL rt) {j : Int32} {n : Nat} {f : Nat → Value} (eT : T.heap = h) (F : OwnAr Z h a .char n f) (h0 : 0 ≤ j.toInt) (h1 : j.toInt < n) (hd : decode bs pc = .ok (.caload, 1)) (pc' : Nat) (hp : pc + 1 = pc') (v : Value) (hv : f j.toInt.toNat = v)
    (hr : OwnEnds p e below G (T.setTop (mkF m pc' Ls (v :: st)))) : OwnEnds p e below G (T.setTop (mkF m pc Ls (.int j :: .ref a :: st))) := by
  subst hp hv
  obtain ⟨cl, A, S, r⟩ := F
  exact own_st (fun _ q => X.caload C.1 (j := j) (v := f j.toInt.toNat) (by rw [eT]; exact A.1) (State.isArrayOf_alike C.2.1.alike A.2.1) A.2.2 (by rw [S]; exact own_in h0 h1) (show cl.slots[j.toNatClampNeg]? = _ from r j.toInt.toNat (by omega)) (g := mkF m pc Ls _) rfl rfl (hb C.2.2.2.1 hd) _ q) hr
theorem own_baloadB (X : Stand p l e R s m args below meth c T locs cells slots) (C : OwnCx p s m meth c Z y bs maxL rt) {j : Int32} {n : Nat} {f : Nat → Value} (eT : T.heap = h) (F : OwnAr Z h a .byte n f) (h0 : 0 ≤ j.toInt) (h1 : j.toInt < n) (hd : decode bs pc = .ok (.baload, 1)) (pc' : Nat) (hp : pc + 1 = pc') (v : Value) (hv : f j.toInt.toNat = v)
    (hr : OwnEnds p e below G (T.setTop (mkF m pc' Ls (v :: st)))) : OwnEnds p e below G (T.setTop (mkF m pc Ls (.int j :: .ref a :: st))) := by
  subst hp hv
  obtain ⟨cl, A, S, r⟩ := F
  exact own_st (fun _ q => X.baloadBytes C.1 (j := j) (v := f j.toInt.toNat) (by rw [eT]; exact A.1) (State.isArrayOf_alike C.2.1.alike A.2.1) A.2.2 (by rw [S]; exact own_in h0 h1) (show cl.slots[j.toNatClampNeg]? = _ from r j.toInt.toNat (by omega)) (g := mkF m pc Ls _) rfl rfl (hb C.2.2.2.1 hd) _ q) hr
theorem own_baloadZ (X : Stand p l e R s m args below meth c T locs cells slots) (C : OwnCx p s m meth c Z y bs maxL rt) {j : Int32} {n : Nat} {f : Nat → Value} (eT : T.heap = h) (F : OwnAr Z h a .boolean n f) (h0 : 0 ≤ j.toInt) (h1 : j.toInt < n) (hd : decode bs pc = .ok (.baload, 1)) (pc' : Nat) (hp : pc + 1 = pc') (v : Value) (hv : f j.toInt.toNat = v)
    (hr : OwnEnds p e below G (T.setTop (mkF m pc' Ls (v :: st)))) : OwnEnds p e below G (T.setTop (mkF m pc Ls (.int j :: .ref a :: st))) := by
  subst hp hv
  obtain ⟨cl, A, S, r⟩ := F
  exact own_st (fun _ q => X.baloadBooleans C.1 (j := j) (v := f j.toInt.toNat) (by rw [eT]; exact A.1) (State.isArrayOf_alike C.2.1.alike A.2.1) A.2.2 (by rw [S]; exact own_in h0 h1) (show cl.slots[j.toNatClampNeg]? = _ from r j.toInt.toNat (by omega)) (g := mkF m pc Ls _) rfl rfl (hb C.2.2.2.1 hd) _ q) hr
theorem own_arraylength (X : Stand p l e R s m args below meth c T locs cells slots) (C : OwnCx p s m meth c Z y bs maxL rt) {ty : FieldType} {n : Nat} {f : Nat → Value} (eT : T.heap = h) (F : OwnAr Z h a ty n f) (hd : decode bs pc = .ok (.arraylength, 1)) (pc' : Nat) (hp : pc + 1 = pc') (hn : n < 2147483648)
    (hr : ∀ z : Int32, z.toInt = n → z = n.toInt32 → OwnEnds p e below G (T.setTop (mkF m pc' Ls (.int z :: st)))) : OwnEnds p e below G (T.setTop (mkF m pc Ls (.ref a :: st))) := by
  subst hp
  obtain ⟨cl, A, S, r⟩ := F
  have k := hr n.toInt32 (own_len hn) rfl
  rw [← S] at k
  exact own_st (fun _ q => X.arraylength C.1 (by rw [eT]; exact A.1) (State.isArrayOf_alike C.2.1.alike A.2.1) (g := mkF m pc Ls _) rfl rfl (hb C.2.2.2.1 hd) _ q) k
theorem own_newarray (X : Stand p l e R s m args below meth c T locs cells slots) (C : OwnCx p s m meth c Z y bs maxL rt) {aty : ArrayType} {n : Int32} (w : (Jvm.Cond.arrayClass (newarray.typeOf aty)).before a0 Z = true) (eT : T.heap = h) (hd : decode bs pc = .ok (.newarray aty, 2)) (pc' : Nat) (hp : pc + 2 = pc') (h0 : 0 ≤ n.toInt) (cap : Nat) (hcap : n.toInt ≤ cap) (hbig : cap * 8 ≤ 536870912) (hc : cells + 1 ≤ R.cells) (hl : slots + cap ≤ R.slots)
    (hr : ∀ T' h' b, b = h.size → Stand p l e R s m args below meth c T' locs (cells + 1) (slots + cap) → T'.heap = h' → Ext h h' → OwnAr Z h' b (newarray.typeOf aty) n.toInt.toNat (fun _ => defaultValue (newarray.typeOf aty)) → OwnEnds p e below G (T'.setTop (mkF m pc' Ls (.ref b :: st)))) : OwnEnds p e below G (T.setTop (mkF m pc Ls (.int n :: st))) := by
  subst hp
  have hn0 : ¬ n < 0 := fun q => by rw [Int32.lt_iff_toInt_lt] at q; have : (0 : Int32).toInt = 0 := rfl; omega
  obtain ⟨T', h', cA, X', e', E', A, stp⟩ := newP X C.1 C.2.1 w eT (g := mkF m pc Ls (.int n :: st)) rfl (hb C.2.2.2.1 hd) rfl hn0 (cap := cap) (by show n.toInt.toNat ≤ cap; omega) hbig hc hl
  exact own_st stp (hr T' h' _ rfl X' e' E' (OwnAr.new A))
theorem own_new (X : Stand p l e R s m args below meth c T locs cells slots) (C : OwnCx p s m meth c Z y bs maxL rt) {idx n : Nat} {K : String} (w : (Jvm.Cond.classLink y.cls idx K).before a0 Z = true) (wi : (Jvm.Cond.instantiable K n).before a0 Z = true) (wz : (Jvm.Cond.initialized K).before a0 Z = true) (eT : T.heap = h) (hd : decode bs pc = .ok (.new idx, 3)) (pc' : Nat) (hp : pc + 3 = pc') (hc : cells + 1 ≤ R.cells) (hl : slots + n ≤ R.slots)
    (hr : ∀ T' h' b, b = h.size → Stand p l e R s m args below meth c T' locs (cells + 1) (slots + n) → T'.heap = h' → Ext h h' → Exa Z h' b K → (∀ {O nm d : String} {ty : FieldType}, Laid Z a0 K O nm d → parseFieldDescriptor d = some ty → Fld Z h' b O nm d (defaultValue ty)) → OwnEnds p e below G (T'.setTop (mkF m pc' Ls (.ref b :: st)))) : OwnEnds p e below G (T.setTop (mkF m pc Ls st)) := by
  subst hp
  obtain ⟨T', h', X', e', E', A, D, -, stp⟩ := newO X C.1 C.2.1 C.2.2.1 w wi wz eT (g := mkF m pc Ls st) rfl (hb C.2.2.2.1 hd) hc hl
  exact own_st stp (hr T' h' _ rfl X' e' E' A D)
theorem own_getfield (X : Stand p l e R s m args below meth c T locs cells slots) (C : OwnCx p s m meth c Z y bs maxL rt) {idx : Nat} {R0 O n d host : String} {v : Value} (w : (Jvm.Cond.fieldLink y.cls idx R0 n d).before a0 Z = true ∨ (Jvm.Cond.fieldLinkNest y.cls idx R0 n d host).before a0 Z = true) (via : Via Z R0 O n d) (eT : T.heap = h) (F : Fld Z h a O n d v) (hd : decode bs pc = .ok (.getfield idx, 3)) (pc' : Nat) (hp : pc + 3 = pc')
    (hr : ∀ T', Stand p l e R s m args below meth c T' locs cells slots → T'.heap = h → OwnEnds p e below G (T'.setTop (mkF m pc' Ls (v :: st)))) : OwnEnds p e below G (T.setTop (mkF m pc Ls (.ref a :: st))) := by
  subst hp
  obtain ⟨T', X', e', stp⟩ := getF X C.1 C.2.1 C.2.2.1 w via eT F (g := mkF m pc Ls _) rfl rfl (hb C.2.2.2.1 hd)
  exact own_st stp (hr T' X' e')
theorem own_getstatic (X : Stand p l e R s m args below meth c T locs cells slots) (C : OwnCx p s m meth c Z y bs maxL rt) {idx : Nat} {R0 O n d host : String} {v : Value} (w : (Jvm.Cond.fieldLink y.cls idx R0 n d).before a0 Z = true ∨ (Jvm.Cond.fieldLinkNest y.cls idx R0 n d host).before a0 Z = true) (via : Via Z R0 O n d) (eT : T.heap = h) (F : Sta Z h O n d v) (hd : decode bs pc = .ok (.getstatic idx, 3)) (pc' : Nat) (hp : pc + 3 = pc')
    (hr : ∀ T', Stand p l e R s m args below meth c T' locs cells slots → T'.heap = h → OwnEnds p e below G (T'.setTop (mkF m pc' Ls (v :: st)))) : OwnEnds p e below G (T.setTop (mkF m pc Ls st)) := by
  subst hp
  obtain ⟨T', X', e', stp⟩ := getS2 X C.1 C.2.1 C.2.2.1 w via eT F (g := mkF m pc Ls st) rfl (hb C.2.2.2.1 hd)
  exact own_st stp (hr T' X' e')
theorem own_putfield (X : Stand p l e R s m args below meth c T locs cells slots) (C : OwnCx p s m meth c Z y bs maxL rt) {idx kk : Nat} {R0 O n d host K : String} {ty : FieldType} {v old : Value} (w : (Jvm.Cond.fieldLink y.cls idx R0 n d).before a0 Z = true ∨ (Jvm.Cond.fieldLinkNest y.cls idx R0 n d host).before a0 Z = true) (via : Via Z R0 O n d) (eT : T.heap = h) (F : Fld Z h a O n d old) (E : Exa Z h a K) (L : (Jvm.Cond.lays K O n d).before a0 Z = true ∨ ((Jvm.Cond.laysFinal K O n d).before a0 Z = true ∧ y.cls = O ∧ y.name = "<init>")) (wi : (Jvm.Cond.instantiable K kk).before a0 Z = true)
    (hty : parseFieldDescriptor d = some ty) (hn : narrow ty v = v) (hf : fits ty v = true) (hd : decode bs pc = .ok (.putfield idx, 3)) (pc' : Nat) (hp : pc + 3 = pc')
    (hr : ∀ T' h', Stand p l e R s m args below meth c T' (locs ++ [⟨a, Jvm.RoadKit.slotOf Z O n d⟩]) cells slots → T'.heap = h' → Wr h h' a (Jvm.RoadKit.slotOf Z O n d) v → OwnEnds p e below G (T'.setTop (mkF m pc' Ls st))) : OwnEnds p e below G (T.setTop (mkF m pc Ls (v :: .ref a :: st))) := by
  subst hp
  obtain ⟨T', h', X', e', W, stp⟩ := putF X C.1 C.2.1 C.2.2.1 w via eT F E (L.imp id fun q => ⟨q.1, q.2.1, C.2.2.2.2.2.2.2.trans q.2.2⟩) wi hty hn hf (g := mkF m pc Ls _) rfl rfl (hb C.2.2.2.1 hd)
  exact own_st stp (hr T' h' X' e' W)
theorem own_putfieldN (X : Stand p l e R s m args below meth c T locs cells slots) (C : OwnCx p s m meth c Z y bs maxL rt) {idx kk : Nat} {R0 O n d K : String} {ty : FieldType} {v v' old : Value} (w : (Jvm.Cond.fieldLink y.cls idx R0 n d).before a0 Z = true) (via : Via Z R0 O n d) (eT : T.heap = h) (F : Fld Z h a O n d old) (E : Exa Z h a K) (L : (Jvm.Cond.lays K O n d).before a0 Z = true ∨ ((Jvm.Cond.laysFinal K O n d).before a0 Z = true ∧ y.cls = O ∧ y.name = "<init>")) (wi : (Jvm.Cond.instantiable K kk).before a0 Z = true)
    (hty : parseFieldDescriptor d = some ty) (hn : narrow ty v = v') (hf : fits ty v' = true) (hd : decode bs pc = .ok (.putfield idx, 3)) (pc' : Nat) (hp : pc + 3 = pc')
    (hr : ∀ T' h', Stand p l e R s m args below meth c T' (locs ++ [⟨a, Jvm.RoadKit.slotOf Z O n d⟩]) cells slots → T'.heap = h' → Wr h h' a (Jvm.RoadKit.slotOf Z O n d) v' → OwnEnds p e below G (T'.setTop (mkF m pc' Ls st))) : OwnEnds p e below G (T.setTop (mkF m pc Ls (v :: .ref a :: st))) := by
  subst hp
  obtain ⟨T', h', X', e', W, stp⟩ := putFN X C.1 C.2.1 C.2.2.1 w via eT F E (L.imp id fun q => ⟨q.1, q.2.1, C.2.2.2.2.2.2.2.trans q.2.2⟩) wi hty hn hf (g := mkF m pc Ls _) rfl rfl (hb C.2.2.2.1 hd)
  exact own_st stp (hr T' h' X' e' W)
theorem own_callI (X : Stand p l e R s m args below meth c T locs cells slots) (C : OwnCx p s m meth c Z y bs maxL rt) {idx : Nat} {y' : MethodName} {bs' : ByteArray} {maxL' : Nat} {rt' : Option FieldType} {rm : Room} {as' : Array Value} {Q' : Option Value → Heap → List Loc → Prop} (hrt' : rt' = none)
    (w1 : (Jvm.Cond.methodLink y.cls idx y').before a0 Z = true) (w2 : (Jvm.Cond.instanceMethod y').before a0 Z = true) (w3 : (Jvm.Cond.initialized y'.cls).before a0 Z = true) (w4 : (Jvm.Cond.code y' bs' maxL' rt').before a0 Z = true) (hy1 : y'.name = "<init>") (hy : y'.cls ≠ "java/lang/invoke/MethodHandle" ∧ y'.cls ≠ "java/lang/invoke/VarHandle")
    (hM : OwnMet l Z y' bs' maxL' rt' [] rm as' h Q') (eT : T.heap = h) {ps : List FieldType} {r : Option FieldType} (hpd : parseMethodDescriptor y'.desc = some ⟨ps, r⟩) (argsL : List Value) (has : (Value.ref a :: argsL).toArray = as') (hlen : argsL.length = ps.length) (hst : st = argsL.reverse ++ .ref a :: rest) (hsz : Ls.size = maxL)
    (W : Nat) (hW : (rest.map fun v => v.category).sum = W) (hf : rm.frames + 1 ≤ R.frames) (hlo : W + (maxL' + 11) + rm.locals ≤ R.locals) (hce : cells + rm.cells ≤ R.cells) (hsl : slots + rm.slots ≤ R.slots) (hd : decode bs pc = .ok (.invokespecial idx, 3)) (pc' : Nat) (hp : pc + 3 = pc')
    (hr : ∀ T' L v, Stand p l e R s m args below meth c T' (locs ++ L) (cells + rm.cells) (slots + rm.slots) → Q' v T'.heap L → OwnEnds p e below G (T'.setTop (mkF m pc' Ls (v.toList ++ rest)))) : OwnEnds p e below G (T.setTop (mkF m pc Ls st)) := by
  subst hp has hW hrt'
  obtain ⟨v, _, ⟨T', L, k, n⟩, -, X', ⟨L', hQ, l1, l2, l3⟩, stp⟩ := X.specialBack C.1 hy1 C.2.2.1 (mvT C.2.1 w1) (mvT C.2.1 w2) (mvT C.2.1 w4) hy (backOf (len := 3) (W := (rest.map fun v => v.category).sum) hM C.2.1 w4 w3 hf hlo) (g := mkF m pc Ls st) rfl (by rw [C.2.2.2.2.1]; exact hsz) (Steps.refl _) (a := a) (argsL := argsL) (rest := rest) (lenOf hpd hlen) hst (by show 2 * 0 + _ ≤ _; omega) (hb C.2.2.2.1 hd) (fun _ _ => ⟨rfl, eT, hce, hsl⟩)
  dsimp only [Pt.U, Pt.locs, Pt.cells, Pt.slots] at X' l1 l2 l3 stp hQ
  subst l1 l2 l3
  exact own_tr stp (hr T' L' v X' hQ)
theorem own_callV (X : Stand p l e R s m args below meth c T locs cells slots) (C : OwnCx p s m meth c Z y bs maxL rt) {idx : Nat} {K : String} {y' : MethodName} {bs' : ByteArray} {maxL' : Nat} {rt' : Option FieldType} {rm : Room} {as' : Array Value} {Q' : Option Value → Heap → List Loc → Prop}
    (w1 : (Jvm.Cond.methodLink y.cls idx y').before a0 Z = true) (wd : (Jvm.Cond.declares y').before a0 Z = true) (ws : (Jvm.Cond.selects K y' y').before a0 Z = true) (w2 : (Jvm.Cond.instanceMethod y').before a0 Z = true) (w3 : (Jvm.Cond.initialized y'.cls).before a0 Z = true) (w4 : (Jvm.Cond.code y' bs' maxL' rt').before a0 Z = true) (hy : y'.cls ≠ "java/lang/invoke/MethodHandle" ∧ y'.cls ≠ "java/lang/invoke/VarHandle") (E : Exa Z h a K)
    (hM : OwnMet l Z y' bs' maxL' rt' [] rm as' h Q') (eT : T.heap = h) {ps : List FieldType} {r : Option FieldType} (hpd : parseMethodDescriptor y'.desc = some ⟨ps, r⟩) (argsL : List Value) (has : (Value.ref a :: argsL).toArray = as') (hlen : argsL.length = ps.length) (hst : st = argsL.reverse ++ .ref a :: rest) (hsz : Ls.size = maxL)
    (W : Nat) (hW : (rest.map fun v => v.category).sum = W) (hf : rm.frames + 1 ≤ R.frames) (hlo : W + (maxL' + 11) + rm.locals ≤ R.locals) (hce : cells + rm.cells ≤ R.cells) (hsl : slots + rm.slots ≤ R.slots) (hd : decode bs pc = .ok (.invokevirtual idx, 3)) (pc' : Nat) (hp : pc + 3 = pc')
    (hr : ∀ T' L v, Stand p l e R s m args below meth c T' (locs ++ L) (cells + rm.cells) (slots + rm.slots) → Q' v T'.heap L → OwnEnds p e below G (T'.setTop (mkF m pc' Ls (v.toList ++ rest)))) : OwnEnds p e below G (T.setTop (mkF m pc Ls st)) := by
  subst hp has hW
  obtain ⟨cq, kq, qa, qb, qc⟩ := isOf C.2.1 eT E
  obtain ⟨v, _, ⟨T', L, k, n⟩, -, X', ⟨L', hQ, l1, l2, l3⟩, stp⟩ := X.virtualBack C.1 (y := y') (z := y') C.2.2.1 (mvT C.2.1 w1) (mvT C.2.1 wd) (notFace_of_selects (args := #[]) (mvT C.2.1 ws)) (mvT C.2.1 ws) (mvT C.2.1 w2) hy (backOf (len := 3) (W := (rest.map fun v => v.category).sum) hM C.2.1 w4 w3 hf hlo) qa qc (g := mkF m pc Ls st) rfl (by rw [C.2.2.2.2.1]; exact hsz) (Steps.refl _) (argsL := argsL) (rest := rest) (lenOf hpd hlen) hst (by show 2 * 0 + _ ≤ _; omega) (hb C.2.2.2.1 hd) (fun _ _ => ⟨rfl, eT, hce, hsl⟩)
  dsimp only [Pt.U, Pt.locs, Pt.cells, Pt.slots] at X' l1 l2 l3 stp hQ
  subst l1 l2 l3
  exact own_tr stp (hr T' L' v X' hQ)
theorem own_instY (X : Stand p l e R s m args below meth c T locs cells slots) (C : OwnCx p s m meth c Z y bs maxL rt) {idx : Nat} {K : String} (w : (Jvm.Cond.classLink y.cls idx K).before a0 Z = true) (eT : T.heap = h) (F : Ins Z h a K true) (hd : decode bs pc = .ok (.instanceof idx, 3)) (pc' : Nat) (hp : pc + 3 = pc')
    (hr : ∀ T', Stand p l e R s m args below meth c T' locs cells slots → T'.heap = h → OwnEnds p e below G (T'.setTop (mkF m pc' Ls (.int 1 :: st)))) : OwnEnds p e below G (T.setTop (mkF m pc Ls (.ref a :: st))) := by
  subst hp
  obtain ⟨T', X', e', stp⟩ := instY X C.1 C.2.1 C.2.2.1 w eT F (g := mkF m pc Ls _) rfl rfl (hb C.2.2.2.1 hd)
  exact own_st stp (hr T' X' e')
theorem own_castY (X : Stand p l e R s m args below meth c T locs cells slots) (C : OwnCx p s m meth c Z y bs maxL rt) {idx : Nat} {K : String} (w : (Jvm.Cond.classLink y.cls idx K).before a0 Z = true) (eT : T.heap = h) (F : Ins Z h a K true) (hd : decode bs pc = .ok (.checkcast idx, 3)) (pc' : Nat) (hp : pc + 3 = pc')
    (hr : ∀ T', Stand p l e R s m args below meth c T' locs cells slots → T'.heap = h → OwnEnds p e below G (T'.setTop (mkF m pc' Ls (.ref a :: st)))) : OwnEnds p e below G (T.setTop (mkF m pc Ls (.ref a :: st))) := by
  subst hp
  obtain ⟨T', X', e', stp⟩ := castY X C.1 C.2.1 C.2.2.1 w eT F (g := mkF m pc Ls (.ref a :: st)) rfl (rest := st) rfl (hb C.2.2.2.1 hd)
  exact own_st stp (hr T' X' e')
end OwnHeap
theorem own_w {Z : State} {a0 : Array Value} (hw : ∀ d ∈ tables_1, d.before a0 Z = true) (k : Nat) {d : Jvm.Cond} (q : tables_1[k]? = some d) : d.before a0 Z = true := hw _ (List.mem_of_getElem? q)
theorem own_eqI {args : Array Value} {s : State} {t : Term} {k : Int32} (q : (Jvm.Cond.eq t (.int k)).value args s none s [] = some true) : t.eval args s none [] s = some (.int k) := by
  simp only [Cond.value, Term.int_eval] at q
  cases e : t.eval args s none [] s with
  | none => simp [e] at q
  | some v => cases v <;> simp [e] at q ⊢; exact q
theorem own_lenI {args : Array Value} {s : State} {t : Term} {a : Addr} {cl : Cell} {ty : FieldType} {k : Int32} (ev : t.eval args s none [] s = some (.ref a)) (A : Arr s s.heap a cl ty) (q : (Jvm.Cond.eq (.length t) (.int k)).value args s none s [] = some true) : (cl.slots.size : Int) = k.toInt := by
  have q1 := own_eqI q
  have q2 := A.fin (Vm.Alike.refl _)
  simp only [Term.eval, ev] at q1
  simp [q2] at q1
  obtain ⟨q3, q4⟩ := q1
  rw [← q4, len_toInt (by omega)]
theorem own_elI {args : Array Value} {s : State} {t : Term} {a : Addr} {cl : Cell} {ty : FieldType} {k j : Int32} (ev : t.eval args s none [] s = some (.ref a)) (A : Arr s s.heap a cl ty) (q : (Jvm.Cond.eq (.elem t (.int j)) (.int k)).value args s none s [] = some true) : cl.slots[j.toNatClampNeg]? = some (.int k) :=
  (elem_in (own_eqI q) ev (Term.int_eval j) A.1).2
def own_holds (bits sg : Int32) (v : Int64) : Int32 :=
  if bits.toInt = 64 then 1 else if sg.toInt = 0 then (if 0 ≤ v.toInt ∧ v.toInt < ((1 : Int64) <<< (bits &&& 0x3f).toInt64).toInt then 1 else 0)
  else (if (-((1 : Int64) <<< ((bits - 1) &&& 0x3f).toInt64)).toInt ≤ v.toInt ∧ v.toInt < ((1 : Int64) <<< ((bits - 1) &&& 0x3f).toInt64).toInt then 1 else 0)
theorem own_h_U8 (v : Int64) : own_holds 8 0 v = if (0 : Int) ≤ v.toInt ∧ v.toInt ≤ 255 then 1 else 0 := by
  have q : ((1 : Int64) <<< ((8 : Int32) &&& 0x3f).toInt64).toInt = 256 := by decide
  rw [own_holds, if_neg (by decide), if_pos (by decide), q]
  by_cases k : (0 : Int) ≤ v.toInt ∧ v.toInt ≤ 255
  · rw [if_pos k, if_pos (by omega)]
  · rw [if_neg k, if_neg (by omega)]
theorem own_h_U16 (v : Int64) : own_holds 16 0 v = if (0 : Int) ≤ v.toInt ∧ v.toInt ≤ 65535 then 1 else 0 := by
  have q : ((1 : Int64) <<< ((16 : Int32) &&& 0x3f).toInt64).toInt = 65536 := by decide
  rw [own_holds, if_neg (by decide), if_pos (by decide), q]
  by_cases k : (0 : Int) ≤ v.toInt ∧ v.toInt ≤ 65535
  · rw [if_pos k, if_pos (by omega)]
  · rw [if_neg k, if_neg (by omega)]
theorem own_h_U32 (v : Int64) : own_holds 32 0 v = if (0 : Int) ≤ v.toInt ∧ v.toInt ≤ 4294967295 then 1 else 0 := by
  have q : ((1 : Int64) <<< ((32 : Int32) &&& 0x3f).toInt64).toInt = 4294967296 := by decide
  rw [own_holds, if_neg (by decide), if_pos (by decide), q]
  by_cases k : (0 : Int) ≤ v.toInt ∧ v.toInt ≤ 4294967295
  · rw [if_pos k, if_pos (by omega)]
  · rw [if_neg k, if_neg (by omega)]
theorem own_h_U64 (v : Int64) : own_holds 64 0 v = if (-9223372036854775808 : Int) ≤ v.toInt ∧ v.toInt ≤ 9223372036854775807 then 1 else 0 := by
  have r := rng64 v
  rw [own_holds, if_pos (by decide), if_pos (by omega)]
theorem own_h_I16 (v : Int64) : own_holds 16 1 v = if (-32768 : Int) ≤ v.toInt ∧ v.toInt ≤ 32767 then 1 else 0 := by
  have q : ((1 : Int64) <<< (((16 : Int32) - 1) &&& 0x3f).toInt64).toInt = 32768 := by decide
  have q2 : (-((1 : Int64) <<< (((16 : Int32) - 1) &&& 0x3f).toInt64)).toInt = -32768 := by decide
  rw [own_holds, if_neg (by decide), if_neg (by decide), q, q2]
  by_cases k : (-32768 : Int) ≤ v.toInt ∧ v.toInt ≤ 32767
  · rw [if_pos k, if_pos (by omega)]
  · rw [if_neg k, if_neg (by omega)]
theorem own_h_I32 (v : Int64) : own_holds 32 1 v = if (-2147483648 : Int) ≤ v.toInt ∧ v.toInt ≤ 2147483647 then 1 else 0 := by
  have q : ((1 : Int64) <<< (((32 : Int32) - 1) &&& 0x3f).toInt64).toInt = 2147483648 := by decide
  have q2 : (-((1 : Int64) <<< (((32 : Int32) - 1) &&& 0x3f).toInt64)).toInt = -2147483648 := by decide
  rw [own_holds, if_neg (by decide), if_neg (by decide), q, q2]
  by_cases k : (-2147483648 : Int) ≤ v.toInt ∧ v.toInt ≤ 2147483647
  · rw [if_pos k, if_pos (by omega)]
  · rw [if_neg k, if_neg (by omega)]
theorem own_h_I64 (v : Int64) : own_holds 64 1 v = if (-9223372036854775808 : Int) ≤ v.toInt ∧ v.toInt ≤ 9223372036854775807 then 1 else 0 := by
  have r := rng64 v
  rw [own_holds, if_pos (by decide), if_pos (by omega)]
theorem c_zero64 : (0 : Int64).toInt = 0 := by decide
theorem own_pn_Primitive : plainName "com/example/tinwire/tinwire/model/Primitive" = true := by first | (simp [plainName, overriddenIn]; done) | decide +kernel
theorem own_pd_J_R_Z : parseMethodDescriptor "(J)Z" = some ⟨[.long], some .boolean⟩ := by decide +kernel
theorem own_d_prog_28_method_10_code_0 : decode prog_28_method_10_code 0 = .ok (.aload_n 0, 1) := by decide +kernel
theorem own_d_prog_28_method_10_code_1 : decode prog_28_method_10_code 1 = .ok (.getfield 68, 3) := by decide +kernel
theorem own_d_prog_28_method_10_code_4 : decode prog_28_method_10_code 4 = .ok (.bipush 64, 2) := by decide +kernel
theorem own_d_prog_28_method_10_code_6 : decode prog_28_method_10_code 6 = .ok (.if_icmp .ne 5, 3) := by decide +kernel
theorem own_d_prog_28_method_10_code_9 : decode prog_28_method_10_code 9 = .ok (.iconst 1, 1) := by decide +kernel
theorem own_d_prog_28_method_10_code_10 : decode prog_28_method_10_code 10 = .ok (.ireturn, 1) := by decide +kernel
theorem own_d_prog_28_method_10_code_11 : decode prog_28_method_10_code 11 = .ok (.aload_n 0, 1) := by decide +kernel
theorem own_d_prog_28_method_10_code_12 : decode prog_28_method_10_code 12 = .ok (.getfield 72, 3) := by decide +kernel
theorem own_d_prog_28_method_10_code_15 : decode prog_28_method_10_code 15 = .ok (.ifCond .eq 31, 3) := by decide +kernel
theorem own_d_prog_28_method_10_code_18 : decode prog_28_method_10_code 18 = .ok (.lconst 1, 1) := by decide +kernel
theorem own_d_prog_28_method_10_code_19 : decode prog_28_method_10_code 19 = .ok (.aload_n 0, 1) := by decide +kernel
theorem own_d_prog_28_method_10_code_20 : decode prog_28_method_10_code 20 = .ok (.getfield 68, 3) := by decide +kernel
theorem own_d_prog_28_method_10_code_23 : decode prog_28_method_10_code 23 = .ok (.iconst 1, 1) := by decide +kernel
theorem own_d_prog_28_method_10_code_24 : decode prog_28_method_10_code 24 = .ok (.isub, 1) := by decide +kernel
theorem own_d_prog_28_method_10_code_25 : decode prog_28_method_10_code 25 = .ok (.lshl, 1) := by decide +kernel
theorem own_d_prog_28_method_10_code_26 : decode prog_28_method_10_code 26 = .ok (.lstore_n 3, 1) := by decide +kernel
theorem own_d_prog_28_method_10_code_27 : decode prog_28_method_10_code 27 = .ok (.lload_n 1, 1) := by decide +kernel
theorem own_d_prog_28_method_10_code_28 : decode prog_28_method_10_code 28 = .ok (.lload_n 3, 1) := by decide +kernel
theorem own_d_prog_28_method_10_code_29 : decode prog_28_method_10_code 29 = .ok (.lneg, 1) := by decide +kernel
theorem own_d_prog_28_method_10_code_30 : decode prog_28_method_10_code 30 = .ok (.lcmp, 1) := by decide +kernel
theorem own_d_prog_28_method_10_code_31 : decode prog_28_method_10_code 31 = .ok (.ifCond .lt 13, 3) := by decide +kernel
theorem own_d_prog_28_method_10_code_34 : decode prog_28_method_10_code 34 = .ok (.lload_n 1, 1) := by decide +kernel
theorem own_d_prog_28_method_10_code_35 : decode prog_28_method_10_code 35 = .ok (.lload_n 3, 1) := by decide +kernel
theorem own_d_prog_28_method_10_code_36 : decode prog_28_method_10_code 36 = .ok (.lcmp, 1) := by decide +kernel
theorem own_d_prog_28_method_10_code_37 : decode prog_28_method_10_code 37 = .ok (.ifCond .ge 7, 3) := by decide +kernel
theorem own_d_prog_28_method_10_code_40 : decode prog_28_method_10_code 40 = .ok (.iconst 1, 1) := by decide +kernel
theorem own_d_prog_28_method_10_code_41 : decode prog_28_method_10_code 41 = .ok (.goto 4, 3) := by decide +kernel
theorem own_d_prog_28_method_10_code_44 : decode prog_28_method_10_code 44 = .ok (.iconst 0, 1) := by decide +kernel
theorem own_d_prog_28_method_10_code_45 : decode prog_28_method_10_code 45 = .ok (.ireturn, 1) := by decide +kernel
theorem own_d_prog_28_method_10_code_46 : decode prog_28_method_10_code 46 = .ok (.lload_n 1, 1) := by decide +kernel
theorem own_d_prog_28_method_10_code_47 : decode prog_28_method_10_code 47 = .ok (.lconst 0, 1) := by decide +kernel
theorem own_d_prog_28_method_10_code_48 : decode prog_28_method_10_code 48 = .ok (.lcmp, 1) := by decide +kernel
theorem own_d_prog_28_method_10_code_49 : decode prog_28_method_10_code 49 = .ok (.ifCond .lt 18, 3) := by decide +kernel
theorem own_d_prog_28_method_10_code_52 : decode prog_28_method_10_code 52 = .ok (.lload_n 1, 1) := by decide +kernel
theorem own_d_prog_28_method_10_code_53 : decode prog_28_method_10_code 53 = .ok (.lconst 1, 1) := by decide +kernel
theorem own_d_prog_28_method_10_code_54 : decode prog_28_method_10_code 54 = .ok (.aload_n 0, 1) := by decide +kernel
theorem own_d_prog_28_method_10_code_55 : decode prog_28_method_10_code 55 = .ok (.getfield 68, 3) := by decide +kernel
theorem own_d_prog_28_method_10_code_58 : decode prog_28_method_10_code 58 = .ok (.lshl, 1) := by decide +kernel
theorem own_d_prog_28_method_10_code_59 : decode prog_28_method_10_code 59 = .ok (.lcmp, 1) := by decide +kernel
theorem own_d_prog_28_method_10_code_60 : decode prog_28_method_10_code 60 = .ok (.ifCond .ge 7, 3) := by decide +kernel
theorem own_d_prog_28_method_10_code_63 : decode prog_28_method_10_code 63 = .ok (.iconst 1, 1) := by decide +kernel
theorem own_d_prog_28_method_10_code_64 : decode prog_28_method_10_code 64 = .ok (.goto 4, 3) := by decide +kernel
theorem own_d_prog_28_method_10_code_67 : decode prog_28_method_10_code 67 = .ok (.iconst 0, 1) := by decide +kernel
theorem own_d_prog_28_method_10_code_68 : decode prog_28_method_10_code 68 = .ok (.ireturn, 1) := by decide +kernel
set_option maxRecDepth 65536 in
set_option maxHeartbeats 4000000 in
theorem own_ef_own_rm_holds (m : MethodId) (oa0 : Nat) (ja1 : Int64) : entryFrame m #[(.ref oa0), (.long ja1)] 5 = (mkF m 0 #[.val (.ref oa0), .val (.long ja1), .second, .unset, .unset] []) := by first | (simp [entryFrame, mkF, argsToLocals, Value.category]; done) | rfl
set_option maxRecDepth 65536 in
set_option maxHeartbeats 4000000 in
theorem own_rm_holds (l : Launch) (Z : State) (a0 : Array Value) (hw : ∀ d ∈ tables_1, d.before a0 Z = true) (oa0 : Nat) (ja1 : Int64) (h : Heap) (bits sg : Int32) (F_bits : Fld Z h oa0 "com/example/tinwire/tinwire/model/Primitive" "bits" "I" (.int bits)) (F_signed : Fld Z h oa0 "com/example/tinwire/tinwire/model/Primitive" "signed" "Z" (.int sg)) :
    OwnMet l Z (⟨"com/example/tinwire/tinwire/model/Primitive", "holds", "(J)Z"⟩ : MethodName) prog_28_method_10_code 5 (some .boolean) [] ({ frames := 0, cells := 0, slots := 0, locals := 0 } : Room) #[(.ref oa0), (.long ja1)] h (OwnPure (.int (own_holds bits sg ja1)) h) := by
  refine own_enter (f0 := fun m => mkF m 0 #[.val (.ref oa0), .val (.long ja1), .second, .unset, .unset] []) (plainFor_of_name own_pn_Primitive) (fun m => own_ef_own_rm_holds m oa0 ja1) ?_
  intro p e s m below meth c T0 X0 C e0
  refine own_aload_n X0 C own_d_prog_28_method_10_code_0 1 rfl rfl rfl ?_
  refine own_getfield X0 C (host := "") (Or.inl (own_w hw 19 rfl)) Via.refl e0 F_bits own_d_prog_28_method_10_code_1 4 rfl (fun T1 X1 e1 => ?_)
  refine own_bipush X1 C own_d_prog_28_method_10_code_4 6 rfl (64) rfl ?_
  refine own_icmpne X1 C own_d_prog_28_method_10_code_6 9 11 rfl (by decide) (by decide) (i := bits.toInt) rfl (j := 64) (by decide) (fun b2 => ?_) (fun b2 => ?_)
  · refine own_aload_n X1 C own_d_prog_28_method_10_code_11 12 rfl rfl rfl ?_
    refine own_getfield X1 C (host := "") (Or.inl (own_w hw 21 rfl)) Via.refl e1 F_signed own_d_prog_28_method_10_code_12 15 rfl (fun T3 X3 e3 => ?_)
    refine own_ifeq X3 C own_d_prog_28_method_10_code_15 18 46 rfl (by decide) (by decide) (i := sg.toInt) rfl (fun b4 => ?_) (fun b4 => ?_)
    · refine own_lload_n X3 C own_d_prog_28_method_10_code_46 47 rfl rfl ?_
      refine own_lconst X3 C own_d_prog_28_method_10_code_47 48 rfl (0) rfl ?_
      refine own_lcmp X3 C own_d_prog_28_method_10_code_48 49 rfl (fun v1 ev1a ev1b ev1c => ?_)
      refine own_iflt X3 C own_d_prog_28_method_10_code_49 52 67 rfl (by decide) (by decide) (i := v1.toInt) rfl (fun b5 => ?_) (fun b5 => ?_)
      · refine own_iconst X3 C own_d_prog_28_method_10_code_67 68 rfl (0) rfl ?_
        refine own_iretN X3 C .boolean rfl (by simp) own_d_prog_28_method_10_code_68 (by decide) (by decide) (0) (by decide) ?_
        refine ⟨?_, e3, rfl⟩
        subst_vars
        rw [own_holds, if_neg (by omega), if_pos (by omega), if_neg (by first | omega | (simp only [c_zero64] at *; omega))]
      · refine own_lload_n X3 C own_d_prog_28_method_10_code_52 53 rfl rfl ?_
        refine own_lconst X3 C own_d_prog_28_method_10_code_53 54 rfl (1) rfl ?_
        refine own_aload_n X3 C own_d_prog_28_method_10_code_54 55 rfl rfl rfl ?_
        refine own_getfield X3 C (host := "") (Or.inl (own_w hw 19 rfl)) Via.refl e3 F_bits own_d_prog_28_method_10_code_55 58 rfl (fun T6 X6 e6 => ?_)
        refine own_lshl X6 C own_d_prog_28_method_10_code_58 59 rfl (fun v2 ev2 => ?_)
        refine own_lcmp X6 C own_d_prog_28_method_10_code_59 60 rfl (fun v3 ev3a ev3b ev3c => ?_)
        refine own_ifge X6 C own_d_prog_28_method_10_code_60 63 67 rfl (by decide) (by decide) (i := v3.toInt) rfl (fun b7 => ?_) (fun b7 => ?_)
        · refine own_iconst X6 C own_d_prog_28_method_10_code_67 68 rfl (0) rfl ?_
          refine own_iretN X6 C .boolean rfl (by simp) own_d_prog_28_method_10_code_68 (by decide) (by decide) (0) (by decide) ?_
          refine ⟨?_, e6, rfl⟩
          subst_vars
          rw [own_holds, if_neg (by omega), if_pos (by omega), if_neg (by first | omega | (simp only [c_zero64] at *; omega))]
        · refine own_iconst X6 C own_d_prog_28_method_10_code_63 64 rfl (1) rfl ?_
          refine own_goto X6 C own_d_prog_28_method_10_code_64 68 (by decide) (by decide) ?_
          refine own_iretN X6 C .boolean rfl (by simp) own_d_prog_28_method_10_code_68 (by decide) (by decide) (1) (by decide) ?_
          refine ⟨?_, e6, rfl⟩
          subst_vars
          rw [own_holds, if_neg (by omega), if_pos (by omega), if_pos (by first | omega | (simp only [c_zero64] at *; omega))]
    · refine own_lconst X3 C own_d_prog_28_method_10_code_18 19 rfl (1) rfl ?_
      refine own_aload_n X3 C own_d_prog_28_method_10_code_19 20 rfl rfl rfl ?_
      refine own_getfield X3 C (host := "") (Or.inl (own_w hw 19 rfl)) Via.refl e3 F_bits own_d_prog_28_method_10_code_20 23 rfl (fun T8 X8 e8 => ?_)
      refine own_iconst X8 C own_d_prog_28_method_10_code_23 24 rfl (1) rfl ?_
      refine own_isub X8 C own_d_prog_28_method_10_code_24 25 rfl (fun v4 ev4 => ?_)
      refine own_lshl X8 C own_d_prog_28_method_10_code_25 26 rfl (fun v5 ev5 => ?_)
      refine own_lstore_n X8 C own_d_prog_28_method_10_code_26 27 rfl #[.val (.ref oa0), .val (.long ja1), .second, .val (.long v5), .second] rfl ?_
      refine own_lload_n X8 C own_d_prog_28_method_10_code_27 28 rfl rfl ?_
      refine own_lload_n X8 C own_d_prog_28_method_10_code_28 29 rfl rfl ?_
      refine own_lneg X8 C own_d_prog_28_method_10_code_29 30 rfl (fun v6 ev6 => ?_)
      refine own_lcmp X8 C own_d_prog_28_method_10_code_30 31 rfl (fun v7 ev7a ev7b ev7c => ?_)
      refine own_iflt X8 C own_d_prog_28_method_10_code_31 34 44 rfl (by decide) (by decide) (i := v7.toInt) rfl (fun b9 => ?_) (fun b9 => ?_)
      · refine own_iconst X8 C own_d_prog_28_method_10_code_44 45 rfl (0) rfl ?_
        refine own_iretN X8 C .boolean rfl (by simp) own_d_prog_28_method_10_code_45 (by decide) (by decide) (0) (by decide) ?_
        refine ⟨?_, e8, rfl⟩
        subst_vars
        rw [own_holds, if_neg (by omega), if_neg (by omega), if_neg (by first | omega | (simp only [c_zero64] at *; omega))]
      · refine own_lload_n X8 C own_d_prog_28_method_10_code_34 35 rfl rfl ?_
        refine own_lload_n X8 C own_d_prog_28_method_10_code_35 36 rfl rfl ?_
        refine own_lcmp X8 C own_d_prog_28_method_10_code_36 37 rfl (fun v8 ev8a ev8b ev8c => ?_)
        refine own_ifge X8 C own_d_prog_28_method_10_code_37 40 44 rfl (by decide) (by decide) (i := v8.toInt) rfl (fun b10 => ?_) (fun b10 => ?_)
        · refine own_iconst X8 C own_d_prog_28_method_10_code_44 45 rfl (0) rfl ?_
          refine own_iretN X8 C .boolean rfl (by simp) own_d_prog_28_method_10_code_45 (by decide) (by decide) (0) (by decide) ?_
          refine ⟨?_, e8, rfl⟩
          subst_vars
          rw [own_holds, if_neg (by omega), if_neg (by omega), if_neg (by first | omega | (simp only [c_zero64] at *; omega))]
        · refine own_iconst X8 C own_d_prog_28_method_10_code_40 41 rfl (1) rfl ?_
          refine own_goto X8 C own_d_prog_28_method_10_code_41 45 (by decide) (by decide) ?_
          refine own_iretN X8 C .boolean rfl (by simp) own_d_prog_28_method_10_code_45 (by decide) (by decide) (1) (by decide) ?_
          refine ⟨?_, e8, rfl⟩
          subst_vars
          rw [own_holds, if_neg (by omega), if_neg (by omega), if_pos (by first | omega | (simp only [c_zero64] at *; omega))]
  · refine own_iconst X1 C own_d_prog_28_method_10_code_9 10 rfl (1) rfl ?_
    refine own_iretN X1 C .boolean rfl (by simp) own_d_prog_28_method_10_code_10 (by decide) (by decide) (1) (by decide) ?_
    exact ⟨by rw [own_holds, if_pos (by omega)], e1, rfl⟩
theorem own_pn_PrimitiveHoldsPinLaw : plainName "com/example/tinwire/tinwire/model/PrimitiveHoldsPinLaw" = true := by first | (simp [plainName, overriddenIn]; done) | decide +kernel
theorem own_pd_IJIII_R_Z : parseMethodDescriptor "(IJIII)Z" = some ⟨[.int, .long, .int, .int, .int], some .boolean⟩ := by decide +kernel
set_option maxRecDepth 65536 in
set_option maxHeartbeats 4000000 in
theorem own_ef_own_rm_law (m : MethodId) (ia0 : Int32) (ja1 : Int64) (ia2 : Int32) (ia3 : Int32) (ia4 : Int32) : entryFrame m #[(.int ia0), (.long ja1), (.int ia2), (.int ia3), (.int ia4)] maxLocals = (mkF m 0 #[.val (.int ia0), .val (.long ja1), .second, .val (.int ia2), .val (.int ia3), .val (.int ia4), .unset, .unset, .unset, .unset, .unset, .unset, .unset, .unset, .unset, .unset] []) := by first | (simp [entryFrame, mkF, argsToLocals, Value.category, maxLocals]; done) | rfl
set_option maxRecDepth 65536 in
set_option maxHeartbeats 4000000 in
theorem own_rm_law (l : Launch) (Z : State) (a0 : Array Value) (hw : ∀ d ∈ tables_1, d.before a0 Z = true) (ia0 : Int32) (ja1 : Int64) (ia2 : Int32) (ia3 : Int32) (ia4 : Int32) (h : Heap) (a_U8 a_U16 a_U32 a_U64 a_I16 a_I32 a_I64 : Addr) (S_U8 : Sta Z h "com/example/tinwire/tinwire/model/Primitive" "U8" "Lcom/example/tinwire/tinwire/model/Primitive;" (.ref a_U8)) (E_U8 : Exa Z h a_U8 "com/example/tinwire/tinwire/model/Primitive") (F_U8_bits : Fld Z h a_U8 "com/example/tinwire/tinwire/model/Primitive" "bits" "I" (.int (8 : Int32))) (F_U8_signed : Fld Z h a_U8 "com/example/tinwire/tinwire/model/Primitive" "signed" "Z" (.int (0 : Int32))) (S_U16 : Sta Z h "com/example/tinwire/tinwire/model/Primitive" "U16" "Lcom/example/tinwire/tinwire/model/Primitive;" (.ref a_U16)) (E_U16 : Exa Z h a_U16 "com/example/tinwire/tinwire/model/Primitive") (F_U16_bits : Fld Z h a_U16 "com/example/tinwire/tinwire/model/Primitive" "bits" "I" (.int (16 : Int32))) (F_U16_signed : Fld Z h a_U16 "com/example/tinwire/tinwire/model/Primitive" "signed" "Z" (.int (0 : Int32))) (S_U32 : Sta Z h "com/example/tinwire/tinwire/model/Primitive" "U32" "Lcom/example/tinwire/tinwire/model/Primitive;" (.ref a_U32)) (E_U32 : Exa Z h a_U32 "com/example/tinwire/tinwire/model/Primitive") (F_U32_bits : Fld Z h a_U32 "com/example/tinwire/tinwire/model/Primitive" "bits" "I" (.int (32 : Int32))) (F_U32_signed : Fld Z h a_U32 "com/example/tinwire/tinwire/model/Primitive" "signed" "Z" (.int (0 : Int32))) (S_U64 : Sta Z h "com/example/tinwire/tinwire/model/Primitive" "U64" "Lcom/example/tinwire/tinwire/model/Primitive;" (.ref a_U64)) (E_U64 : Exa Z h a_U64 "com/example/tinwire/tinwire/model/Primitive") (F_U64_bits : Fld Z h a_U64 "com/example/tinwire/tinwire/model/Primitive" "bits" "I" (.int (64 : Int32))) (F_U64_signed : Fld Z h a_U64 "com/example/tinwire/tinwire/model/Primitive" "signed" "Z" (.int (0 : Int32))) (S_I16 : Sta Z h "com/example/tinwire/tinwire/model/Primitive" "I16" "Lcom/example/tinwire/tinwire/model/Primitive;" (.ref a_I16)) (E_I16 : Exa Z h a_I16 "com/example/tinwire/tinwire/model/Primitive") (F_I16_bits : Fld Z h a_I16 "com/example/tinwire/tinwire/model/Primitive" "bits" "I" (.int (16 : Int32))) (F_I16_signed : Fld Z h a_I16 "com/example/tinwire/tinwire/model/Primitive" "signed" "Z" (.int (1 : Int32))) (S_I32 : Sta Z h "com/example/tinwire/tinwire/model/Primitive" "I32" "Lcom/example/tinwire/tinwire/model/Primitive;" (.ref a_I32)) (E_I32 : Exa Z h a_I32 "com/example/tinwire/tinwire/model/Primitive") (F_I32_bits : Fld Z h a_I32 "com/example/tinwire/tinwire/model/Primitive" "bits" "I" (.int (32 : Int32))) (F_I32_signed : Fld Z h a_I32 "com/example/tinwire/tinwire/model/Primitive" "signed" "Z" (.int (1 : Int32))) (S_I64 : Sta Z h "com/example/tinwire/tinwire/model/Primitive" "I64" "Lcom/example/tinwire/tinwire/model/Primitive;" (.ref a_I64)) (E_I64 : Exa Z h a_I64 "com/example/tinwire/tinwire/model/Primitive") (F_I64_bits : Fld Z h a_I64 "com/example/tinwire/tinwire/model/Primitive" "bits" "I" (.int (64 : Int32))) (F_I64_signed : Fld Z h a_I64 "com/example/tinwire/tinwire/model/Primitive" "signed" "Z" (.int (1 : Int32)))  :
    OwnMet l Z x code maxLocals ret tables_1 room_1 #[(.int ia0), (.long ja1), (.int ia2), (.int ia3), (.int ia4)] h (fun v h' L => v = some (.int 1) ∧ Fr h.size L) := by
  refine own_enter (f0 := fun m => mkF m 0 #[.val (.int ia0), .val (.long ja1), .second, .val (.int ia2), .val (.int ia3), .val (.int ia4), .unset, .unset, .unset, .unset, .unset, .unset, .unset, .unset, .unset, .unset] []) (plainFor_of_name own_pn_PrimitiveHoldsPinLaw) (fun m => own_ef_own_rm_law m ia0 ja1 ia2 ia3 ia4) ?_
  intro p e s m below meth c T0 X0 C e0
  refine own_iload_n X0 C at_0 1 rfl rfl ?_
  refine own_ldc X0 C (own_w hw 0 rfl) at_1 3 rfl ?_
  refine own_iand X0 C at_3 4 rfl (fun v1 ev1 => ?_)
  refine own_bipush X0 C at_4 6 rfl (7) rfl ?_
  refine own_irem X0 C at_6 7 rfl (by decide) (fun v2 ev2 => ?_)
  have r1 := c_and ia0 2147483647 (by decide)
  rw [← ev1] at r1
  have r2 := (c_irem v1 7 7 (by decide)).1 r1.1
  rw [← ev2] at r2
  refine own_istore X0 C at_7 9 rfl #[.val (.int ia0), .val (.long ja1), .second, .val (.int ia2), .val (.int ia3), .val (.int ia4), .val (.int v2), .unset, .unset, .unset, .unset, .unset, .unset, .unset, .unset, .unset] rfl ?_
  refine own_bipush X0 C at_9 11 rfl (10) rfl ?_
  refine own_newarray X0 C (own_w hw 1 rfl) e0 at_11 13 rfl (by decide) 10 (by decide) (by decide) (by decide) (by decide) (fun T1 h1 b1 g1 X1 e1 E1 A1 => ?_)
  have gb : h.size ≤ b1 := Nat.le_of_eq g1.symm
  have Kp : Keep h h1 [] := (Keep.refl h []).ext E1
  obtain ⟨G, A⟩ : ∃ G : Nat → Int64, OwnAr Z h1 b1 .long 10 (fun i => .long (G i)) := ⟨fun _ => 0, A1⟩
  refine own_dup X1 C at_13 14 rfl rfl ?_
  refine own_iconst X1 C at_14 15 rfl (0) rfl ?_
  refine own_lconst X1 C at_15 16 rfl (0) rfl ?_
  refine own_lastore X1 C e1 A (by decide) (by decide) at_16 17 rfl (fun T2 h2 X2 e2 W2 => ?_)
  have N2 := own_fr1 (sl := ((0 : Int32)).toInt.toNat) (Fr.nil h.size) gb
  replace Kp := Kp.wr W2 (Or.inr gb)
  replace A : ∃ G : Nat → Int64, OwnAr Z h2 b1 .long 10 (fun i => .long (G i)) := ⟨fun i => if i = 0 then (0 : Int64) else G i, (A.set W2).eqv fun i _ => by by_cases q : i = 0 <;> simp [q]⟩
  obtain ⟨G, A⟩ := A
  refine own_dup X2 C at_17 18 rfl rfl ?_
  refine own_iconst X2 C at_18 19 rfl (1) rfl ?_
  refine own_ldc2 X2 C (own_w hw 2 rfl) at_19 22 rfl ?_
  refine own_lastore X2 C e2 A (by decide) (by decide) at_22 23 rfl (fun T3 h3 X3 e3 W3 => ?_)
  have N3 := own_fr1 (sl := ((1 : Int32)).toInt.toNat) N2 gb
  replace Kp := Kp.wr W3 (Or.inr gb)
  replace A : ∃ G : Nat → Int64, OwnAr Z h3 b1 .long 10 (fun i => .long (G i)) := ⟨fun i => if i = 1 then (255 : Int64) else G i, (A.set W3).eqv fun i _ => by by_cases q : i = 1 <;> simp [q]⟩
  obtain ⟨G, A⟩ := A
  refine own_dup X3 C at_23 24 rfl rfl ?_
  refine own_iconst X3 C at_24 25 rfl (2) rfl ?_
  refine own_ldc2 X3 C (own_w hw 3 rfl) at_25 28 rfl ?_
  refine own_lastore X3 C e3 A (by decide) (by decide) at_28 29 rfl (fun T4 h4 X4 e4 W4 => ?_)
  have N4 := own_fr1 (sl := ((2 : Int32)).toInt.toNat) N3 gb
  replace Kp := Kp.wr W4 (Or.inr gb)
  replace A : ∃ G : Nat → Int64, OwnAr Z h4 b1 .long 10 (fun i => .long (G i)) := ⟨fun i => if i = 2 then (65535 : Int64) else G i, (A.set W4).eqv fun i _ => by by_cases q : i = 2 <;> simp [q]⟩
  obtain ⟨G, A⟩ := A
  refine own_dup X4 C at_29 30 rfl rfl ?_
  refine own_iconst X4 C at_30 31 rfl (3) rfl ?_
  refine own_ldc2 X4 C (own_w hw 4 rfl) at_31 34 rfl ?_
  refine own_lastore X4 C e4 A (by decide) (by decide) at_34 35 rfl (fun T5 h5 X5 e5 W5 => ?_)
  have N5 := own_fr1 (sl := ((3 : Int32)).toInt.toNat) N4 gb
  replace Kp := Kp.wr W5 (Or.inr gb)
  replace A : ∃ G : Nat → Int64, OwnAr Z h5 b1 .long 10 (fun i => .long (G i)) := ⟨fun i => if i = 3 then (32767 : Int64) else G i, (A.set W5).eqv fun i _ => by by_cases q : i = 3 <;> simp [q]⟩
  obtain ⟨G, A⟩ := A
  refine own_dup X5 C at_35 36 rfl rfl ?_
  refine own_iconst X5 C at_36 37 rfl (4) rfl ?_
  refine own_ldc2 X5 C (own_w hw 5 rfl) at_37 40 rfl ?_
  refine own_lastore X5 C e5 A (by decide) (by decide) at_40 41 rfl (fun T6 h6 X6 e6 W6 => ?_)
  have N6 := own_fr1 (sl := ((4 : Int32)).toInt.toNat) N5 gb
  replace Kp := Kp.wr W6 (Or.inr gb)
  replace A : ∃ G : Nat → Int64, OwnAr Z h6 b1 .long 10 (fun i => .long (G i)) := ⟨fun i => if i = 4 then (-32768 : Int64) else G i, (A.set W6).eqv fun i _ => by by_cases q : i = 4 <;> simp [q]⟩
  obtain ⟨G, A⟩ := A
  refine own_dup X6 C at_41 42 rfl rfl ?_
  refine own_iconst X6 C at_42 43 rfl (5) rfl ?_
  refine own_ldc2 X6 C (own_w hw 6 rfl) at_43 46 rfl ?_
  refine own_lastore X6 C e6 A (by decide) (by decide) at_46 47 rfl (fun T7 h7 X7 e7 W7 => ?_)
  have N7 := own_fr1 (sl := ((5 : Int32)).toInt.toNat) N6 gb
  replace Kp := Kp.wr W7 (Or.inr gb)
  replace A : ∃ G : Nat → Int64, OwnAr Z h7 b1 .long 10 (fun i => .long (G i)) := ⟨fun i => if i = 5 then (2147483647 : Int64) else G i, (A.set W7).eqv fun i _ => by by_cases q : i = 5 <;> simp [q]⟩
  obtain ⟨G, A⟩ := A
  refine own_dup X7 C at_47 48 rfl rfl ?_
  refine own_bipush X7 C at_48 50 rfl (6) rfl ?_
  refine own_ldc2 X7 C (own_w hw 7 rfl) at_50 53 rfl ?_
  refine own_lastore X7 C e7 A (by decide) (by decide) at_53 54 rfl (fun T8 h8 X8 e8 W8 => ?_)
  have N8 := own_fr1 (sl := ((6 : Int32)).toInt.toNat) N7 gb
  replace Kp := Kp.wr W8 (Or.inr gb)
  replace A : ∃ G : Nat → Int64, OwnAr Z h8 b1 .long 10 (fun i => .long (G i)) := ⟨fun i => if i = 6 then (-2147483648 : Int64) else G i, (A.set W8).eqv fun i _ => by by_cases q : i = 6 <;> simp [q]⟩
  obtain ⟨G, A⟩ := A
  refine own_dup X8 C at_54 55 rfl rfl ?_
  refine own_bipush X8 C at_55 57 rfl (7) rfl ?_
  refine own_ldc2 X8 C (own_w hw 8 rfl) at_57 60 rfl ?_
  refine own_lastore X8 C e8 A (by decide) (by decide) at_60 61 rfl (fun T9 h9 X9 e9 W9 => ?_)
  have N9 := own_fr1 (sl := ((7 : Int32)).toInt.toNat) N8 gb
  replace Kp := Kp.wr W9 (Or.inr gb)
  replace A : ∃ G : Nat → Int64, OwnAr Z h9 b1 .long 10 (fun i => .long (G i)) := ⟨fun i => if i = 7 then (4294967295 : Int64) else G i, (A.set W9).eqv fun i _ => by by_cases q : i = 7 <;> simp [q]⟩
  obtain ⟨G, A⟩ := A
  refine own_dup X9 C at_61 62 rfl rfl ?_
  refine own_bipush X9 C at_62 64 rfl (8) rfl ?_
  refine own_ldc2 X9 C (own_w hw 9 rfl) at_64 67 rfl ?_
  refine own_lastore X9 C e9 A (by decide) (by decide) at_67 68 rfl (fun T10 h10 X10 e10 W10 => ?_)
  have N10 := own_fr1 (sl := ((8 : Int32)).toInt.toNat) N9 gb
  replace Kp := Kp.wr W10 (Or.inr gb)
  replace A : ∃ G : Nat → Int64, OwnAr Z h10 b1 .long 10 (fun i => .long (G i)) := ⟨fun i => if i = 8 then (9223372036854775807 : Int64) else G i, (A.set W10).eqv fun i _ => by by_cases q : i = 8 <;> simp [q]⟩
  obtain ⟨G, A⟩ := A
  refine own_dup X10 C at_68 69 rfl rfl ?_
  refine own_bipush X10 C at_69 71 rfl (9) rfl ?_
  refine own_ldc2 X10 C (own_w hw 10 rfl) at_71 74 rfl ?_
  refine own_lastore X10 C e10 A (by decide) (by decide) at_74 75 rfl (fun T11 h11 X11 e11 W11 => ?_)
  have N11 := own_fr1 (sl := ((9 : Int32)).toInt.toNat) N10 gb
  replace Kp := Kp.wr W11 (Or.inr gb)
  replace A : ∃ G : Nat → Int64, OwnAr Z h11 b1 .long 10 (fun i => .long (G i)) := ⟨fun i => if i = 9 then (-9223372036854775808 : Int64) else G i, (A.set W11).eqv fun i _ => by by_cases q : i = 9 <;> simp [q]⟩
  obtain ⟨G, A⟩ := A
  refine own_astore X11 C at_75 77 rfl rfl #[.val (.int ia0), .val (.long ja1), .second, .val (.int ia2), .val (.int ia3), .val (.int ia4), .val (.int v2), .val (.ref b1), .unset, .unset, .unset, .unset, .unset, .unset, .unset, .unset] rfl ?_
  have J113 : ∀ (vv : Int64), OwnEnds p e below (OwnG s (room_1).cells (room_1).slots (fun v h' L => v = some (.int 1) ∧ Fr h.size L)) (T11.setTop (mkF m 113 #[.val (.int ia0), .val (.long ja1), .second, .val (.int ia2), .val (.int ia3), .val (.int ia4), .val (.int v2), .val (.ref b1), .val (.long vv), .second, .unset, .unset, .unset, .unset, .unset, .unset] [])) := by
    intro vv
    refine own_iload X11 C at_113 115 rfl rfl ?_
    refine own_ifne X11 C at_115 118 134 rfl (by decide) (by decide) (i := v2.toInt) rfl (fun b12 => ?_) (fun b12 => ?_)
    · refine own_iload X11 C at_134 136 rfl rfl ?_
      refine own_iconst X11 C at_136 137 rfl (1) rfl ?_
      refine own_icmpne X11 C at_137 140 156 rfl (by decide) (by decide) (i := v2.toInt) rfl (j := 1) (by decide) (fun b13 => ?_) (fun b13 => ?_)
      · refine own_iload X11 C at_156 158 rfl rfl ?_
        refine own_iconst X11 C at_158 159 rfl (2) rfl ?_
        refine own_icmpne X11 C at_159 162 178 rfl (by decide) (by decide) (i := v2.toInt) rfl (j := 2) (by decide) (fun b14 => ?_) (fun b14 => ?_)
        · refine own_iload X11 C at_178 180 rfl rfl ?_
          refine own_iconst X11 C at_180 181 rfl (3) rfl ?_
          refine own_icmpne X11 C at_181 184 202 rfl (by decide) (by decide) (i := v2.toInt) rfl (j := 3) (by decide) (fun b15 => ?_) (fun b15 => ?_)
          · refine own_iload X11 C at_202 204 rfl rfl ?_
            refine own_iconst X11 C at_204 205 rfl (4) rfl ?_
            refine own_icmpne X11 C at_205 208 226 rfl (by decide) (by decide) (i := v2.toInt) rfl (j := 4) (by decide) (fun b16 => ?_) (fun b16 => ?_)
            · refine own_iload X11 C at_226 228 rfl rfl ?_
              refine own_iconst X11 C at_228 229 rfl (5) rfl ?_
              refine own_icmpne X11 C at_229 232 250 rfl (by decide) (by decide) (i := v2.toInt) rfl (j := 5) (by decide) (fun b17 => ?_) (fun b17 => ?_)
              · refine own_getstatic X11 C (host := "") (Or.inl (own_w hw 33 rfl)) Via.refl e11 (own_stak S_I64 Kp) at_250 253 rfl (fun T18 X18 e18 => ?_)
                refine own_astore X18 C at_253 255 rfl rfl #[.val (.int ia0), .val (.long ja1), .second, .val (.int ia2), .val (.int ia3), .val (.int ia4), .val (.int v2), .val (.ref b1), .val (.long vv), .second, .val (.ref a_I64), .unset, .unset, .unset, .unset, .unset] rfl ?_
                refine own_ldc2 X18 C (own_w hw 10 rfl) at_255 258 rfl ?_
                refine own_lstore X18 C at_258 260 rfl #[.val (.int ia0), .val (.long ja1), .second, .val (.int ia2), .val (.int ia3), .val (.int ia4), .val (.int v2), .val (.ref b1), .val (.long vv), .second, .val (.ref a_I64), .val (.long (-9223372036854775808 : Int64)), .second, .unset, .unset, .unset] rfl ?_
                refine own_ldc2 X18 C (own_w hw 9 rfl) at_260 263 rfl ?_
                refine own_lstore X18 C at_263 265 rfl #[.val (.int ia0), .val (.long ja1), .second, .val (.int ia2), .val (.int ia3), .val (.int ia4), .val (.int v2), .val (.ref b1), .val (.long vv), .second, .val (.ref a_I64), .val (.long (-9223372036854775808 : Int64)), .second, .val (.long (9223372036854775807 : Int64)), .second, .unset] rfl ?_
                refine own_lload X18 C at_265 267 rfl rfl ?_
                refine own_lload X18 C at_267 269 rfl rfl ?_
                refine own_lcmp X18 C at_269 270 rfl (fun v3 ev3a ev3b ev3c => ?_)
                have l1 : ((-9223372036854775808 : Int64)).toInt = -9223372036854775808 := by decide
                refine own_iflt X18 C at_270 273 285 rfl (by decide) (by decide) (i := v3.toInt) rfl (fun b19 => ?_) (fun b19 => ?_)
                · refine own_iconst X18 C at_285 286 rfl (0) rfl ?_
                  refine own_istore X18 C at_286 288 rfl #[.val (.int ia0), .val (.long ja1), .second, .val (.int ia2), .val (.int ia3), .val (.int ia4), .val (.int v2), .val (.ref b1), .val (.long vv), .second, .val (.ref a_I64), .val (.long (-9223372036854775808 : Int64)), .second, .val (.long (9223372036854775807 : Int64)), .second, .val (.int (0 : Int32))] rfl ?_
                  refine own_aload X18 C at_288 290 rfl rfl rfl ?_
                  refine own_lload X18 C at_290 292 rfl rfl ?_
                  refine own_callV X18 C (own_w hw 14 rfl) (own_w hw 15 rfl) (own_w hw 17 rfl) (own_w hw 16 rfl) (own_w hw 12 rfl) (own_w hw 18 rfl) (by decide) (E_I64.keep Kp) (own_rm_holds l Z a0 hw a_I64 vv h11 64 1 (F_I64_bits.keep Kp nin0) (F_I64_signed.keep Kp nin0)) e18 own_pd_J_R_Z [(.long vv)] rfl rfl rfl rfl 0 rfl (by decide) (by decide) (by decide) (by decide) at_292 295 rfl (fun T20 L20 v20 X20 q20 => ?_)
                  obtain ⟨rfl, eh20, rfl⟩ := q20
                  have N20 := Fr.app N11 (Fr.nil h.size)
                  refine own_iload X20 C at_295 297 rfl rfl ?_
                  refine own_icmpne X20 C at_297 300 304 rfl (by decide) (by decide) (i := (own_holds 64 1 vv).toInt) rfl (j := 0) (by decide) (fun b21 => ?_) (fun b21 => ?_)
                  · exfalso
                    have q : own_holds 64 1 vv = 0 := by rw [own_h_I64, if_neg (by first | omega | (simp only [c_zero64] at *; omega))]
                    rw [q] at b21; exact b21 (by decide)
                  · refine own_iconst X20 C at_300 301 rfl (1) rfl ?_
                    refine own_goto X20 C at_301 305 (by decide) (by decide) ?_
                    refine own_iretN X20 C .boolean rfl (by simp) at_305 (by decide) (by decide) (1) (by decide) ?_
                    exact ⟨rfl, N20⟩
                · refine own_lload X18 C at_273 275 rfl rfl ?_
                  refine own_lload X18 C at_275 277 rfl rfl ?_
                  refine own_lcmp X18 C at_277 278 rfl (fun v4 ev4a ev4b ev4c => ?_)
                  have l2 : ((9223372036854775807 : Int64)).toInt = 9223372036854775807 := by decide
                  refine own_ifgt X18 C at_278 281 285 rfl (by decide) (by decide) (i := v4.toInt) rfl (fun b22 => ?_) (fun b22 => ?_)
                  · refine own_iconst X18 C at_285 286 rfl (0) rfl ?_
                    refine own_istore X18 C at_286 288 rfl #[.val (.int ia0), .val (.long ja1), .second, .val (.int ia2), .val (.int ia3), .val (.int ia4), .val (.int v2), .val (.ref b1), .val (.long vv), .second, .val (.ref a_I64), .val (.long (-9223372036854775808 : Int64)), .second, .val (.long (9223372036854775807 : Int64)), .second, .val (.int (0 : Int32))] rfl ?_
                    refine own_aload X18 C at_288 290 rfl rfl rfl ?_
                    refine own_lload X18 C at_290 292 rfl rfl ?_
                    refine own_callV X18 C (own_w hw 14 rfl) (own_w hw 15 rfl) (own_w hw 17 rfl) (own_w hw 16 rfl) (own_w hw 12 rfl) (own_w hw 18 rfl) (by decide) (E_I64.keep Kp) (own_rm_holds l Z a0 hw a_I64 vv h11 64 1 (F_I64_bits.keep Kp nin0) (F_I64_signed.keep Kp nin0)) e18 own_pd_J_R_Z [(.long vv)] rfl rfl rfl rfl 0 rfl (by decide) (by decide) (by decide) (by decide) at_292 295 rfl (fun T23 L23 v23 X23 q23 => ?_)
                    obtain ⟨rfl, eh23, rfl⟩ := q23
                    have N23 := Fr.app N11 (Fr.nil h.size)
                    refine own_iload X23 C at_295 297 rfl rfl ?_
                    refine own_icmpne X23 C at_297 300 304 rfl (by decide) (by decide) (i := (own_holds 64 1 vv).toInt) rfl (j := 0) (by decide) (fun b24 => ?_) (fun b24 => ?_)
                    · exfalso
                      have q : own_holds 64 1 vv = 0 := by rw [own_h_I64, if_neg (by first | omega | (simp only [c_zero64] at *; omega))]
                      rw [q] at b24; exact b24 (by decide)
                    · refine own_iconst X23 C at_300 301 rfl (1) rfl ?_
                      refine own_goto X23 C at_301 305 (by decide) (by decide) ?_
                      refine own_iretN X23 C .boolean rfl (by simp) at_305 (by decide) (by decide) (1) (by decide) ?_
                      exact ⟨rfl, N23⟩
                  · refine own_iconst X18 C at_281 282 rfl (1) rfl ?_
                    refine own_goto X18 C at_282 286 (by decide) (by decide) ?_
                    refine own_istore X18 C at_286 288 rfl #[.val (.int ia0), .val (.long ja1), .second, .val (.int ia2), .val (.int ia3), .val (.int ia4), .val (.int v2), .val (.ref b1), .val (.long vv), .second, .val (.ref a_I64), .val (.long (-9223372036854775808 : Int64)), .second, .val (.long (9223372036854775807 : Int64)), .second, .val (.int (1 : Int32))] rfl ?_
                    refine own_aload X18 C at_288 290 rfl rfl rfl ?_
                    refine own_lload X18 C at_290 292 rfl rfl ?_
                    refine own_callV X18 C (own_w hw 14 rfl) (own_w hw 15 rfl) (own_w hw 17 rfl) (own_w hw 16 rfl) (own_w hw 12 rfl) (own_w hw 18 rfl) (by decide) (E_I64.keep Kp) (own_rm_holds l Z a0 hw a_I64 vv h11 64 1 (F_I64_bits.keep Kp nin0) (F_I64_signed.keep Kp nin0)) e18 own_pd_J_R_Z [(.long vv)] rfl rfl rfl rfl 0 rfl (by decide) (by decide) (by decide) (by decide) at_292 295 rfl (fun T25 L25 v25 X25 q25 => ?_)
                    obtain ⟨rfl, eh25, rfl⟩ := q25
                    have N25 := Fr.app N11 (Fr.nil h.size)
                    refine own_iload X25 C at_295 297 rfl rfl ?_
                    refine own_icmpne X25 C at_297 300 304 rfl (by decide) (by decide) (i := (own_holds 64 1 vv).toInt) rfl (j := 1) (by decide) (fun b26 => ?_) (fun b26 => ?_)
                    · exfalso
                      have q : own_holds 64 1 vv = 1 := by rw [own_h_I64, if_pos (by first | omega | (simp only [c_zero64] at *; omega))]
                      rw [q] at b26; exact b26 (by decide)
                    · refine own_iconst X25 C at_300 301 rfl (1) rfl ?_
                      refine own_goto X25 C at_301 305 (by decide) (by decide) ?_
                      refine own_iretN X25 C .boolean rfl (by simp) at_305 (by decide) (by decide) (1) (by decide) ?_
                      exact ⟨rfl, N25⟩
              · refine own_getstatic X11 C (host := "") (Or.inl (own_w hw 31 rfl)) Via.refl e11 (own_stak S_I32 Kp) at_232 235 rfl (fun T27 X27 e27 => ?_)
                refine own_astore X27 C at_235 237 rfl rfl #[.val (.int ia0), .val (.long ja1), .second, .val (.int ia2), .val (.int ia3), .val (.int ia4), .val (.int v2), .val (.ref b1), .val (.long vv), .second, .val (.ref a_I32), .unset, .unset, .unset, .unset, .unset] rfl ?_
                refine own_ldc2 X27 C (own_w hw 7 rfl) at_237 240 rfl ?_
                refine own_lstore X27 C at_240 242 rfl #[.val (.int ia0), .val (.long ja1), .second, .val (.int ia2), .val (.int ia3), .val (.int ia4), .val (.int v2), .val (.ref b1), .val (.long vv), .second, .val (.ref a_I32), .val (.long (-2147483648 : Int64)), .second, .unset, .unset, .unset] rfl ?_
                refine own_ldc2 X27 C (own_w hw 6 rfl) at_242 245 rfl ?_
                refine own_lstore X27 C at_245 247 rfl #[.val (.int ia0), .val (.long ja1), .second, .val (.int ia2), .val (.int ia3), .val (.int ia4), .val (.int v2), .val (.ref b1), .val (.long vv), .second, .val (.ref a_I32), .val (.long (-2147483648 : Int64)), .second, .val (.long (2147483647 : Int64)), .second, .unset] rfl ?_
                refine own_goto X27 C at_247 265 (by decide) (by decide) ?_
                refine own_lload X27 C at_265 267 rfl rfl ?_
                refine own_lload X27 C at_267 269 rfl rfl ?_
                refine own_lcmp X27 C at_269 270 rfl (fun v5 ev5a ev5b ev5c => ?_)
                have l1 : ((-2147483648 : Int64)).toInt = -2147483648 := by decide
                refine own_iflt X27 C at_270 273 285 rfl (by decide) (by decide) (i := v5.toInt) rfl (fun b28 => ?_) (fun b28 => ?_)
                · refine own_iconst X27 C at_285 286 rfl (0) rfl ?_
                  refine own_istore X27 C at_286 288 rfl #[.val (.int ia0), .val (.long ja1), .second, .val (.int ia2), .val (.int ia3), .val (.int ia4), .val (.int v2), .val (.ref b1), .val (.long vv), .second, .val (.ref a_I32), .val (.long (-2147483648 : Int64)), .second, .val (.long (2147483647 : Int64)), .second, .val (.int (0 : Int32))] rfl ?_
                  refine own_aload X27 C at_288 290 rfl rfl rfl ?_
                  refine own_lload X27 C at_290 292 rfl rfl ?_
                  refine own_callV X27 C (own_w hw 14 rfl) (own_w hw 15 rfl) (own_w hw 17 rfl) (own_w hw 16 rfl) (own_w hw 12 rfl) (own_w hw 18 rfl) (by decide) (E_I32.keep Kp) (own_rm_holds l Z a0 hw a_I32 vv h11 32 1 (F_I32_bits.keep Kp nin0) (F_I32_signed.keep Kp nin0)) e27 own_pd_J_R_Z [(.long vv)] rfl rfl rfl rfl 0 rfl (by decide) (by decide) (by decide) (by decide) at_292 295 rfl (fun T29 L29 v29 X29 q29 => ?_)
                  obtain ⟨rfl, eh29, rfl⟩ := q29
                  have N29 := Fr.app N11 (Fr.nil h.size)
                  refine own_iload X29 C at_295 297 rfl rfl ?_
                  refine own_icmpne X29 C at_297 300 304 rfl (by decide) (by decide) (i := (own_holds 32 1 vv).toInt) rfl (j := 0) (by decide) (fun b30 => ?_) (fun b30 => ?_)
                  · exfalso
                    have q : own_holds 32 1 vv = 0 := by rw [own_h_I32, if_neg (by first | omega | (simp only [c_zero64] at *; omega))]
                    rw [q] at b30; exact b30 (by decide)
                  · refine own_iconst X29 C at_300 301 rfl (1) rfl ?_
                    refine own_goto X29 C at_301 305 (by decide) (by decide) ?_
                    refine own_iretN X29 C .boolean rfl (by simp) at_305 (by decide) (by decide) (1) (by decide) ?_
                    exact ⟨rfl, N29⟩
                · refine own_lload X27 C at_273 275 rfl rfl ?_
                  refine own_lload X27 C at_275 277 rfl rfl ?_
                  refine own_lcmp X27 C at_277 278 rfl (fun v6 ev6a ev6b ev6c => ?_)
                  have l2 : ((2147483647 : Int64)).toInt = 2147483647 := by decide
                  refine own_ifgt X27 C at_278 281 285 rfl (by decide) (by decide) (i := v6.toInt) rfl (fun b31 => ?_) (fun b31 => ?_)
                  · refine own_iconst X27 C at_285 286 rfl (0) rfl ?_
                    refine own_istore X27 C at_286 288 rfl #[.val (.int ia0), .val (.long ja1), .second, .val (.int ia2), .val (.int ia3), .val (.int ia4), .val (.int v2), .val (.ref b1), .val (.long vv), .second, .val (.ref a_I32), .val (.long (-2147483648 : Int64)), .second, .val (.long (2147483647 : Int64)), .second, .val (.int (0 : Int32))] rfl ?_
                    refine own_aload X27 C at_288 290 rfl rfl rfl ?_
                    refine own_lload X27 C at_290 292 rfl rfl ?_
                    refine own_callV X27 C (own_w hw 14 rfl) (own_w hw 15 rfl) (own_w hw 17 rfl) (own_w hw 16 rfl) (own_w hw 12 rfl) (own_w hw 18 rfl) (by decide) (E_I32.keep Kp) (own_rm_holds l Z a0 hw a_I32 vv h11 32 1 (F_I32_bits.keep Kp nin0) (F_I32_signed.keep Kp nin0)) e27 own_pd_J_R_Z [(.long vv)] rfl rfl rfl rfl 0 rfl (by decide) (by decide) (by decide) (by decide) at_292 295 rfl (fun T32 L32 v32 X32 q32 => ?_)
                    obtain ⟨rfl, eh32, rfl⟩ := q32
                    have N32 := Fr.app N11 (Fr.nil h.size)
                    refine own_iload X32 C at_295 297 rfl rfl ?_
                    refine own_icmpne X32 C at_297 300 304 rfl (by decide) (by decide) (i := (own_holds 32 1 vv).toInt) rfl (j := 0) (by decide) (fun b33 => ?_) (fun b33 => ?_)
                    · exfalso
                      have q : own_holds 32 1 vv = 0 := by rw [own_h_I32, if_neg (by first | omega | (simp only [c_zero64] at *; omega))]
                      rw [q] at b33; exact b33 (by decide)
                    · refine own_iconst X32 C at_300 301 rfl (1) rfl ?_
                      refine own_goto X32 C at_301 305 (by decide) (by decide) ?_
                      refine own_iretN X32 C .boolean rfl (by simp) at_305 (by decide) (by decide) (1) (by decide) ?_
                      exact ⟨rfl, N32⟩
                  · refine own_iconst X27 C at_281 282 rfl (1) rfl ?_
                    refine own_goto X27 C at_282 286 (by decide) (by decide) ?_
                    refine own_istore X27 C at_286 288 rfl #[.val (.int ia0), .val (.long ja1), .second, .val (.int ia2), .val (.int ia3), .val (.int ia4), .val (.int v2), .val (.ref b1), .val (.long vv), .second, .val (.ref a_I32), .val (.long (-2147483648 : Int64)), .second, .val (.long (2147483647 : Int64)), .second, .val (.int (1 : Int32))] rfl ?_
                    refine own_aload X27 C at_288 290 rfl rfl rfl ?_
                    refine own_lload X27 C at_290 292 rfl rfl ?_
                    refine own_callV X27 C (own_w hw 14 rfl) (own_w hw 15 rfl) (own_w hw 17 rfl) (own_w hw 16 rfl) (own_w hw 12 rfl) (own_w hw 18 rfl) (by decide) (E_I32.keep Kp) (own_rm_holds l Z a0 hw a_I32 vv h11 32 1 (F_I32_bits.keep Kp nin0) (F_I32_signed.keep Kp nin0)) e27 own_pd_J_R_Z [(.long vv)] rfl rfl rfl rfl 0 rfl (by decide) (by decide) (by decide) (by decide) at_292 295 rfl (fun T34 L34 v34 X34 q34 => ?_)
                    obtain ⟨rfl, eh34, rfl⟩ := q34
                    have N34 := Fr.app N11 (Fr.nil h.size)
                    refine own_iload X34 C at_295 297 rfl rfl ?_
                    refine own_icmpne X34 C at_297 300 304 rfl (by decide) (by decide) (i := (own_holds 32 1 vv).toInt) rfl (j := 1) (by decide) (fun b35 => ?_) (fun b35 => ?_)
                    · exfalso
                      have q : own_holds 32 1 vv = 1 := by rw [own_h_I32, if_pos (by first | omega | (simp only [c_zero64] at *; omega))]
                      rw [q] at b35; exact b35 (by decide)
                    · refine own_iconst X34 C at_300 301 rfl (1) rfl ?_
                      refine own_goto X34 C at_301 305 (by decide) (by decide) ?_
                      refine own_iretN X34 C .boolean rfl (by simp) at_305 (by decide) (by decide) (1) (by decide) ?_
                      exact ⟨rfl, N34⟩
            · refine own_getstatic X11 C (host := "") (Or.inl (own_w hw 23 rfl)) Via.refl e11 (own_stak S_I16 Kp) at_208 211 rfl (fun T36 X36 e36 => ?_)
              refine own_astore X36 C at_211 213 rfl rfl #[.val (.int ia0), .val (.long ja1), .second, .val (.int ia2), .val (.int ia3), .val (.int ia4), .val (.int v2), .val (.ref b1), .val (.long vv), .second, .val (.ref a_I16), .unset, .unset, .unset, .unset, .unset] rfl ?_
              refine own_ldc2 X36 C (own_w hw 5 rfl) at_213 216 rfl ?_
              refine own_lstore X36 C at_216 218 rfl #[.val (.int ia0), .val (.long ja1), .second, .val (.int ia2), .val (.int ia3), .val (.int ia4), .val (.int v2), .val (.ref b1), .val (.long vv), .second, .val (.ref a_I16), .val (.long (-32768 : Int64)), .second, .unset, .unset, .unset] rfl ?_
              refine own_ldc2 X36 C (own_w hw 4 rfl) at_218 221 rfl ?_
              refine own_lstore X36 C at_221 223 rfl #[.val (.int ia0), .val (.long ja1), .second, .val (.int ia2), .val (.int ia3), .val (.int ia4), .val (.int v2), .val (.ref b1), .val (.long vv), .second, .val (.ref a_I16), .val (.long (-32768 : Int64)), .second, .val (.long (32767 : Int64)), .second, .unset] rfl ?_
              refine own_goto X36 C at_223 265 (by decide) (by decide) ?_
              refine own_lload X36 C at_265 267 rfl rfl ?_
              refine own_lload X36 C at_267 269 rfl rfl ?_
              refine own_lcmp X36 C at_269 270 rfl (fun v7 ev7a ev7b ev7c => ?_)
              have l1 : ((-32768 : Int64)).toInt = -32768 := by decide
              refine own_iflt X36 C at_270 273 285 rfl (by decide) (by decide) (i := v7.toInt) rfl (fun b37 => ?_) (fun b37 => ?_)
              · refine own_iconst X36 C at_285 286 rfl (0) rfl ?_
                refine own_istore X36 C at_286 288 rfl #[.val (.int ia0), .val (.long ja1), .second, .val (.int ia2), .val (.int ia3), .val (.int ia4), .val (.int v2), .val (.ref b1), .val (.long vv), .second, .val (.ref a_I16), .val (.long (-32768 : Int64)), .second, .val (.long (32767 : Int64)), .second, .val (.int (0 : Int32))] rfl ?_
                refine own_aload X36 C at_288 290 rfl rfl rfl ?_
                refine own_lload X36 C at_290 292 rfl rfl ?_
                refine own_callV X36 C (own_w hw 14 rfl) (own_w hw 15 rfl) (own_w hw 17 rfl) (own_w hw 16 rfl) (own_w hw 12 rfl) (own_w hw 18 rfl) (by decide) (E_I16.keep Kp) (own_rm_holds l Z a0 hw a_I16 vv h11 16 1 (F_I16_bits.keep Kp nin0) (F_I16_signed.keep Kp nin0)) e36 own_pd_J_R_Z [(.long vv)] rfl rfl rfl rfl 0 rfl (by decide) (by decide) (by decide) (by decide) at_292 295 rfl (fun T38 L38 v38 X38 q38 => ?_)
                obtain ⟨rfl, eh38, rfl⟩ := q38
                have N38 := Fr.app N11 (Fr.nil h.size)
                refine own_iload X38 C at_295 297 rfl rfl ?_
                refine own_icmpne X38 C at_297 300 304 rfl (by decide) (by decide) (i := (own_holds 16 1 vv).toInt) rfl (j := 0) (by decide) (fun b39 => ?_) (fun b39 => ?_)
                · exfalso
                  have q : own_holds 16 1 vv = 0 := by rw [own_h_I16, if_neg (by first | omega | (simp only [c_zero64] at *; omega))]
                  rw [q] at b39; exact b39 (by decide)
                · refine own_iconst X38 C at_300 301 rfl (1) rfl ?_
                  refine own_goto X38 C at_301 305 (by decide) (by decide) ?_
                  refine own_iretN X38 C .boolean rfl (by simp) at_305 (by decide) (by decide) (1) (by decide) ?_
                  exact ⟨rfl, N38⟩
              · refine own_lload X36 C at_273 275 rfl rfl ?_
                refine own_lload X36 C at_275 277 rfl rfl ?_
                refine own_lcmp X36 C at_277 278 rfl (fun v8 ev8a ev8b ev8c => ?_)
                have l2 : ((32767 : Int64)).toInt = 32767 := by decide
                refine own_ifgt X36 C at_278 281 285 rfl (by decide) (by decide) (i := v8.toInt) rfl (fun b40 => ?_) (fun b40 => ?_)
                · refine own_iconst X36 C at_285 286 rfl (0) rfl ?_
                  refine own_istore X36 C at_286 288 rfl #[.val (.int ia0), .val (.long ja1), .second, .val (.int ia2), .val (.int ia3), .val (.int ia4), .val (.int v2), .val (.ref b1), .val (.long vv), .second, .val (.ref a_I16), .val (.long (-32768 : Int64)), .second, .val (.long (32767 : Int64)), .second, .val (.int (0 : Int32))] rfl ?_
                  refine own_aload X36 C at_288 290 rfl rfl rfl ?_
                  refine own_lload X36 C at_290 292 rfl rfl ?_
                  refine own_callV X36 C (own_w hw 14 rfl) (own_w hw 15 rfl) (own_w hw 17 rfl) (own_w hw 16 rfl) (own_w hw 12 rfl) (own_w hw 18 rfl) (by decide) (E_I16.keep Kp) (own_rm_holds l Z a0 hw a_I16 vv h11 16 1 (F_I16_bits.keep Kp nin0) (F_I16_signed.keep Kp nin0)) e36 own_pd_J_R_Z [(.long vv)] rfl rfl rfl rfl 0 rfl (by decide) (by decide) (by decide) (by decide) at_292 295 rfl (fun T41 L41 v41 X41 q41 => ?_)
                  obtain ⟨rfl, eh41, rfl⟩ := q41
                  have N41 := Fr.app N11 (Fr.nil h.size)
                  refine own_iload X41 C at_295 297 rfl rfl ?_
                  refine own_icmpne X41 C at_297 300 304 rfl (by decide) (by decide) (i := (own_holds 16 1 vv).toInt) rfl (j := 0) (by decide) (fun b42 => ?_) (fun b42 => ?_)
                  · exfalso
                    have q : own_holds 16 1 vv = 0 := by rw [own_h_I16, if_neg (by first | omega | (simp only [c_zero64] at *; omega))]
                    rw [q] at b42; exact b42 (by decide)
                  · refine own_iconst X41 C at_300 301 rfl (1) rfl ?_
                    refine own_goto X41 C at_301 305 (by decide) (by decide) ?_
                    refine own_iretN X41 C .boolean rfl (by simp) at_305 (by decide) (by decide) (1) (by decide) ?_
                    exact ⟨rfl, N41⟩
                · refine own_iconst X36 C at_281 282 rfl (1) rfl ?_
                  refine own_goto X36 C at_282 286 (by decide) (by decide) ?_
                  refine own_istore X36 C at_286 288 rfl #[.val (.int ia0), .val (.long ja1), .second, .val (.int ia2), .val (.int ia3), .val (.int ia4), .val (.int v2), .val (.ref b1), .val (.long vv), .second, .val (.ref a_I16), .val (.long (-32768 : Int64)), .second, .val (.long (32767 : Int64)), .second, .val (.int (1 : Int32))] rfl ?_
                  refine own_aload X36 C at_288 290 rfl rfl rfl ?_
                  refine own_lload X36 C at_290 292 rfl rfl ?_
                  refine own_callV X36 C (own_w hw 14 rfl) (own_w hw 15 rfl) (own_w hw 17 rfl) (own_w hw 16 rfl) (own_w hw 12 rfl) (own_w hw 18 rfl) (by decide) (E_I16.keep Kp) (own_rm_holds l Z a0 hw a_I16 vv h11 16 1 (F_I16_bits.keep Kp nin0) (F_I16_signed.keep Kp nin0)) e36 own_pd_J_R_Z [(.long vv)] rfl rfl rfl rfl 0 rfl (by decide) (by decide) (by decide) (by decide) at_292 295 rfl (fun T43 L43 v43 X43 q43 => ?_)
                  obtain ⟨rfl, eh43, rfl⟩ := q43
                  have N43 := Fr.app N11 (Fr.nil h.size)
                  refine own_iload X43 C at_295 297 rfl rfl ?_
                  refine own_icmpne X43 C at_297 300 304 rfl (by decide) (by decide) (i := (own_holds 16 1 vv).toInt) rfl (j := 1) (by decide) (fun b44 => ?_) (fun b44 => ?_)
                  · exfalso
                    have q : own_holds 16 1 vv = 1 := by rw [own_h_I16, if_pos (by first | omega | (simp only [c_zero64] at *; omega))]
                    rw [q] at b44; exact b44 (by decide)
                  · refine own_iconst X43 C at_300 301 rfl (1) rfl ?_
                    refine own_goto X43 C at_301 305 (by decide) (by decide) ?_
                    refine own_iretN X43 C .boolean rfl (by simp) at_305 (by decide) (by decide) (1) (by decide) ?_
                    exact ⟨rfl, N43⟩
          · refine own_getstatic X11 C (host := "") (Or.inl (own_w hw 29 rfl)) Via.refl e11 (own_stak S_U64 Kp) at_184 187 rfl (fun T45 X45 e45 => ?_)
            refine own_astore X45 C at_187 189 rfl rfl #[.val (.int ia0), .val (.long ja1), .second, .val (.int ia2), .val (.int ia3), .val (.int ia4), .val (.int v2), .val (.ref b1), .val (.long vv), .second, .val (.ref a_U64), .unset, .unset, .unset, .unset, .unset] rfl ?_
            refine own_ldc2 X45 C (own_w hw 10 rfl) at_189 192 rfl ?_
            refine own_lstore X45 C at_192 194 rfl #[.val (.int ia0), .val (.long ja1), .second, .val (.int ia2), .val (.int ia3), .val (.int ia4), .val (.int v2), .val (.ref b1), .val (.long vv), .second, .val (.ref a_U64), .val (.long (-9223372036854775808 : Int64)), .second, .unset, .unset, .unset] rfl ?_
            refine own_ldc2 X45 C (own_w hw 9 rfl) at_194 197 rfl ?_
            refine own_lstore X45 C at_197 199 rfl #[.val (.int ia0), .val (.long ja1), .second, .val (.int ia2), .val (.int ia3), .val (.int ia4), .val (.int v2), .val (.ref b1), .val (.long vv), .second, .val (.ref a_U64), .val (.long (-9223372036854775808 : Int64)), .second, .val (.long (9223372036854775807 : Int64)), .second, .unset] rfl ?_
            refine own_goto X45 C at_199 265 (by decide) (by decide) ?_
            refine own_lload X45 C at_265 267 rfl rfl ?_
            refine own_lload X45 C at_267 269 rfl rfl ?_
            refine own_lcmp X45 C at_269 270 rfl (fun v9 ev9a ev9b ev9c => ?_)
            have l1 : ((-9223372036854775808 : Int64)).toInt = -9223372036854775808 := by decide
            refine own_iflt X45 C at_270 273 285 rfl (by decide) (by decide) (i := v9.toInt) rfl (fun b46 => ?_) (fun b46 => ?_)
            · refine own_iconst X45 C at_285 286 rfl (0) rfl ?_
              refine own_istore X45 C at_286 288 rfl #[.val (.int ia0), .val (.long ja1), .second, .val (.int ia2), .val (.int ia3), .val (.int ia4), .val (.int v2), .val (.ref b1), .val (.long vv), .second, .val (.ref a_U64), .val (.long (-9223372036854775808 : Int64)), .second, .val (.long (9223372036854775807 : Int64)), .second, .val (.int (0 : Int32))] rfl ?_
              refine own_aload X45 C at_288 290 rfl rfl rfl ?_
              refine own_lload X45 C at_290 292 rfl rfl ?_
              refine own_callV X45 C (own_w hw 14 rfl) (own_w hw 15 rfl) (own_w hw 17 rfl) (own_w hw 16 rfl) (own_w hw 12 rfl) (own_w hw 18 rfl) (by decide) (E_U64.keep Kp) (own_rm_holds l Z a0 hw a_U64 vv h11 64 0 (F_U64_bits.keep Kp nin0) (F_U64_signed.keep Kp nin0)) e45 own_pd_J_R_Z [(.long vv)] rfl rfl rfl rfl 0 rfl (by decide) (by decide) (by decide) (by decide) at_292 295 rfl (fun T47 L47 v47 X47 q47 => ?_)
              obtain ⟨rfl, eh47, rfl⟩ := q47
              have N47 := Fr.app N11 (Fr.nil h.size)
              refine own_iload X47 C at_295 297 rfl rfl ?_
              refine own_icmpne X47 C at_297 300 304 rfl (by decide) (by decide) (i := (own_holds 64 0 vv).toInt) rfl (j := 0) (by decide) (fun b48 => ?_) (fun b48 => ?_)
              · exfalso
                have q : own_holds 64 0 vv = 0 := by rw [own_h_U64, if_neg (by first | omega | (simp only [c_zero64] at *; omega))]
                rw [q] at b48; exact b48 (by decide)
              · refine own_iconst X47 C at_300 301 rfl (1) rfl ?_
                refine own_goto X47 C at_301 305 (by decide) (by decide) ?_
                refine own_iretN X47 C .boolean rfl (by simp) at_305 (by decide) (by decide) (1) (by decide) ?_
                exact ⟨rfl, N47⟩
            · refine own_lload X45 C at_273 275 rfl rfl ?_
              refine own_lload X45 C at_275 277 rfl rfl ?_
              refine own_lcmp X45 C at_277 278 rfl (fun v10 ev10a ev10b ev10c => ?_)
              have l2 : ((9223372036854775807 : Int64)).toInt = 9223372036854775807 := by decide
              refine own_ifgt X45 C at_278 281 285 rfl (by decide) (by decide) (i := v10.toInt) rfl (fun b49 => ?_) (fun b49 => ?_)
              · refine own_iconst X45 C at_285 286 rfl (0) rfl ?_
                refine own_istore X45 C at_286 288 rfl #[.val (.int ia0), .val (.long ja1), .second, .val (.int ia2), .val (.int ia3), .val (.int ia4), .val (.int v2), .val (.ref b1), .val (.long vv), .second, .val (.ref a_U64), .val (.long (-9223372036854775808 : Int64)), .second, .val (.long (9223372036854775807 : Int64)), .second, .val (.int (0 : Int32))] rfl ?_
                refine own_aload X45 C at_288 290 rfl rfl rfl ?_
                refine own_lload X45 C at_290 292 rfl rfl ?_
                refine own_callV X45 C (own_w hw 14 rfl) (own_w hw 15 rfl) (own_w hw 17 rfl) (own_w hw 16 rfl) (own_w hw 12 rfl) (own_w hw 18 rfl) (by decide) (E_U64.keep Kp) (own_rm_holds l Z a0 hw a_U64 vv h11 64 0 (F_U64_bits.keep Kp nin0) (F_U64_signed.keep Kp nin0)) e45 own_pd_J_R_Z [(.long vv)] rfl rfl rfl rfl 0 rfl (by decide) (by decide) (by decide) (by decide) at_292 295 rfl (fun T50 L50 v50 X50 q50 => ?_)
                obtain ⟨rfl, eh50, rfl⟩ := q50
                have N50 := Fr.app N11 (Fr.nil h.size)
                refine own_iload X50 C at_295 297 rfl rfl ?_
                refine own_icmpne X50 C at_297 300 304 rfl (by decide) (by decide) (i := (own_holds 64 0 vv).toInt) rfl (j := 0) (by decide) (fun b51 => ?_) (fun b51 => ?_)
                · exfalso
                  have q : own_holds 64 0 vv = 0 := by rw [own_h_U64, if_neg (by first | omega | (simp only [c_zero64] at *; omega))]
                  rw [q] at b51; exact b51 (by decide)
                · refine own_iconst X50 C at_300 301 rfl (1) rfl ?_
                  refine own_goto X50 C at_301 305 (by decide) (by decide) ?_
                  refine own_iretN X50 C .boolean rfl (by simp) at_305 (by decide) (by decide) (1) (by decide) ?_
                  exact ⟨rfl, N50⟩
              · refine own_iconst X45 C at_281 282 rfl (1) rfl ?_
                refine own_goto X45 C at_282 286 (by decide) (by decide) ?_
                refine own_istore X45 C at_286 288 rfl #[.val (.int ia0), .val (.long ja1), .second, .val (.int ia2), .val (.int ia3), .val (.int ia4), .val (.int v2), .val (.ref b1), .val (.long vv), .second, .val (.ref a_U64), .val (.long (-9223372036854775808 : Int64)), .second, .val (.long (9223372036854775807 : Int64)), .second, .val (.int (1 : Int32))] rfl ?_
                refine own_aload X45 C at_288 290 rfl rfl rfl ?_
                refine own_lload X45 C at_290 292 rfl rfl ?_
                refine own_callV X45 C (own_w hw 14 rfl) (own_w hw 15 rfl) (own_w hw 17 rfl) (own_w hw 16 rfl) (own_w hw 12 rfl) (own_w hw 18 rfl) (by decide) (E_U64.keep Kp) (own_rm_holds l Z a0 hw a_U64 vv h11 64 0 (F_U64_bits.keep Kp nin0) (F_U64_signed.keep Kp nin0)) e45 own_pd_J_R_Z [(.long vv)] rfl rfl rfl rfl 0 rfl (by decide) (by decide) (by decide) (by decide) at_292 295 rfl (fun T52 L52 v52 X52 q52 => ?_)
                obtain ⟨rfl, eh52, rfl⟩ := q52
                have N52 := Fr.app N11 (Fr.nil h.size)
                refine own_iload X52 C at_295 297 rfl rfl ?_
                refine own_icmpne X52 C at_297 300 304 rfl (by decide) (by decide) (i := (own_holds 64 0 vv).toInt) rfl (j := 1) (by decide) (fun b53 => ?_) (fun b53 => ?_)
                · exfalso
                  have q : own_holds 64 0 vv = 1 := by rw [own_h_U64, if_pos (by first | omega | (simp only [c_zero64] at *; omega))]
                  rw [q] at b53; exact b53 (by decide)
                · refine own_iconst X52 C at_300 301 rfl (1) rfl ?_
                  refine own_goto X52 C at_301 305 (by decide) (by decide) ?_
                  refine own_iretN X52 C .boolean rfl (by simp) at_305 (by decide) (by decide) (1) (by decide) ?_
                  exact ⟨rfl, N52⟩
        · refine own_getstatic X11 C (host := "") (Or.inl (own_w hw 25 rfl)) Via.refl e11 (own_stak S_U32 Kp) at_162 165 rfl (fun T54 X54 e54 => ?_)
          refine own_astore X54 C at_165 167 rfl rfl #[.val (.int ia0), .val (.long ja1), .second, .val (.int ia2), .val (.int ia3), .val (.int ia4), .val (.int v2), .val (.ref b1), .val (.long vv), .second, .val (.ref a_U32), .unset, .unset, .unset, .unset, .unset] rfl ?_
          refine own_lconst X54 C at_167 168 rfl (0) rfl ?_
          refine own_lstore X54 C at_168 170 rfl #[.val (.int ia0), .val (.long ja1), .second, .val (.int ia2), .val (.int ia3), .val (.int ia4), .val (.int v2), .val (.ref b1), .val (.long vv), .second, .val (.ref a_U32), .val (.long (0 : Int64)), .second, .unset, .unset, .unset] rfl ?_
          refine own_ldc2 X54 C (own_w hw 8 rfl) at_170 173 rfl ?_
          refine own_lstore X54 C at_173 175 rfl #[.val (.int ia0), .val (.long ja1), .second, .val (.int ia2), .val (.int ia3), .val (.int ia4), .val (.int v2), .val (.ref b1), .val (.long vv), .second, .val (.ref a_U32), .val (.long (0 : Int64)), .second, .val (.long (4294967295 : Int64)), .second, .unset] rfl ?_
          refine own_goto X54 C at_175 265 (by decide) (by decide) ?_
          refine own_lload X54 C at_265 267 rfl rfl ?_
          refine own_lload X54 C at_267 269 rfl rfl ?_
          refine own_lcmp X54 C at_269 270 rfl (fun v11 ev11a ev11b ev11c => ?_)
          have l1 : ((0 : Int64)).toInt = 0 := by decide
          refine own_iflt X54 C at_270 273 285 rfl (by decide) (by decide) (i := v11.toInt) rfl (fun b55 => ?_) (fun b55 => ?_)
          · refine own_iconst X54 C at_285 286 rfl (0) rfl ?_
            refine own_istore X54 C at_286 288 rfl #[.val (.int ia0), .val (.long ja1), .second, .val (.int ia2), .val (.int ia3), .val (.int ia4), .val (.int v2), .val (.ref b1), .val (.long vv), .second, .val (.ref a_U32), .val (.long (0 : Int64)), .second, .val (.long (4294967295 : Int64)), .second, .val (.int (0 : Int32))] rfl ?_
            refine own_aload X54 C at_288 290 rfl rfl rfl ?_
            refine own_lload X54 C at_290 292 rfl rfl ?_
            refine own_callV X54 C (own_w hw 14 rfl) (own_w hw 15 rfl) (own_w hw 17 rfl) (own_w hw 16 rfl) (own_w hw 12 rfl) (own_w hw 18 rfl) (by decide) (E_U32.keep Kp) (own_rm_holds l Z a0 hw a_U32 vv h11 32 0 (F_U32_bits.keep Kp nin0) (F_U32_signed.keep Kp nin0)) e54 own_pd_J_R_Z [(.long vv)] rfl rfl rfl rfl 0 rfl (by decide) (by decide) (by decide) (by decide) at_292 295 rfl (fun T56 L56 v56 X56 q56 => ?_)
            obtain ⟨rfl, eh56, rfl⟩ := q56
            have N56 := Fr.app N11 (Fr.nil h.size)
            refine own_iload X56 C at_295 297 rfl rfl ?_
            refine own_icmpne X56 C at_297 300 304 rfl (by decide) (by decide) (i := (own_holds 32 0 vv).toInt) rfl (j := 0) (by decide) (fun b57 => ?_) (fun b57 => ?_)
            · exfalso
              have q : own_holds 32 0 vv = 0 := by rw [own_h_U32, if_neg (by first | omega | (simp only [c_zero64] at *; omega))]
              rw [q] at b57; exact b57 (by decide)
            · refine own_iconst X56 C at_300 301 rfl (1) rfl ?_
              refine own_goto X56 C at_301 305 (by decide) (by decide) ?_
              refine own_iretN X56 C .boolean rfl (by simp) at_305 (by decide) (by decide) (1) (by decide) ?_
              exact ⟨rfl, N56⟩
          · refine own_lload X54 C at_273 275 rfl rfl ?_
            refine own_lload X54 C at_275 277 rfl rfl ?_
            refine own_lcmp X54 C at_277 278 rfl (fun v12 ev12a ev12b ev12c => ?_)
            have l2 : ((4294967295 : Int64)).toInt = 4294967295 := by decide
            refine own_ifgt X54 C at_278 281 285 rfl (by decide) (by decide) (i := v12.toInt) rfl (fun b58 => ?_) (fun b58 => ?_)
            · refine own_iconst X54 C at_285 286 rfl (0) rfl ?_
              refine own_istore X54 C at_286 288 rfl #[.val (.int ia0), .val (.long ja1), .second, .val (.int ia2), .val (.int ia3), .val (.int ia4), .val (.int v2), .val (.ref b1), .val (.long vv), .second, .val (.ref a_U32), .val (.long (0 : Int64)), .second, .val (.long (4294967295 : Int64)), .second, .val (.int (0 : Int32))] rfl ?_
              refine own_aload X54 C at_288 290 rfl rfl rfl ?_
              refine own_lload X54 C at_290 292 rfl rfl ?_
              refine own_callV X54 C (own_w hw 14 rfl) (own_w hw 15 rfl) (own_w hw 17 rfl) (own_w hw 16 rfl) (own_w hw 12 rfl) (own_w hw 18 rfl) (by decide) (E_U32.keep Kp) (own_rm_holds l Z a0 hw a_U32 vv h11 32 0 (F_U32_bits.keep Kp nin0) (F_U32_signed.keep Kp nin0)) e54 own_pd_J_R_Z [(.long vv)] rfl rfl rfl rfl 0 rfl (by decide) (by decide) (by decide) (by decide) at_292 295 rfl (fun T59 L59 v59 X59 q59 => ?_)
              obtain ⟨rfl, eh59, rfl⟩ := q59
              have N59 := Fr.app N11 (Fr.nil h.size)
              refine own_iload X59 C at_295 297 rfl rfl ?_
              refine own_icmpne X59 C at_297 300 304 rfl (by decide) (by decide) (i := (own_holds 32 0 vv).toInt) rfl (j := 0) (by decide) (fun b60 => ?_) (fun b60 => ?_)
              · exfalso
                have q : own_holds 32 0 vv = 0 := by rw [own_h_U32, if_neg (by first | omega | (simp only [c_zero64] at *; omega))]
                rw [q] at b60; exact b60 (by decide)
              · refine own_iconst X59 C at_300 301 rfl (1) rfl ?_
                refine own_goto X59 C at_301 305 (by decide) (by decide) ?_
                refine own_iretN X59 C .boolean rfl (by simp) at_305 (by decide) (by decide) (1) (by decide) ?_
                exact ⟨rfl, N59⟩
            · refine own_iconst X54 C at_281 282 rfl (1) rfl ?_
              refine own_goto X54 C at_282 286 (by decide) (by decide) ?_
              refine own_istore X54 C at_286 288 rfl #[.val (.int ia0), .val (.long ja1), .second, .val (.int ia2), .val (.int ia3), .val (.int ia4), .val (.int v2), .val (.ref b1), .val (.long vv), .second, .val (.ref a_U32), .val (.long (0 : Int64)), .second, .val (.long (4294967295 : Int64)), .second, .val (.int (1 : Int32))] rfl ?_
              refine own_aload X54 C at_288 290 rfl rfl rfl ?_
              refine own_lload X54 C at_290 292 rfl rfl ?_
              refine own_callV X54 C (own_w hw 14 rfl) (own_w hw 15 rfl) (own_w hw 17 rfl) (own_w hw 16 rfl) (own_w hw 12 rfl) (own_w hw 18 rfl) (by decide) (E_U32.keep Kp) (own_rm_holds l Z a0 hw a_U32 vv h11 32 0 (F_U32_bits.keep Kp nin0) (F_U32_signed.keep Kp nin0)) e54 own_pd_J_R_Z [(.long vv)] rfl rfl rfl rfl 0 rfl (by decide) (by decide) (by decide) (by decide) at_292 295 rfl (fun T61 L61 v61 X61 q61 => ?_)
              obtain ⟨rfl, eh61, rfl⟩ := q61
              have N61 := Fr.app N11 (Fr.nil h.size)
              refine own_iload X61 C at_295 297 rfl rfl ?_
              refine own_icmpne X61 C at_297 300 304 rfl (by decide) (by decide) (i := (own_holds 32 0 vv).toInt) rfl (j := 1) (by decide) (fun b62 => ?_) (fun b62 => ?_)
              · exfalso
                have q : own_holds 32 0 vv = 1 := by rw [own_h_U32, if_pos (by first | omega | (simp only [c_zero64] at *; omega))]
                rw [q] at b62; exact b62 (by decide)
              · refine own_iconst X61 C at_300 301 rfl (1) rfl ?_
                refine own_goto X61 C at_301 305 (by decide) (by decide) ?_
                refine own_iretN X61 C .boolean rfl (by simp) at_305 (by decide) (by decide) (1) (by decide) ?_
                exact ⟨rfl, N61⟩
      · refine own_getstatic X11 C (host := "") (Or.inl (own_w hw 27 rfl)) Via.refl e11 (own_stak S_U16 Kp) at_140 143 rfl (fun T63 X63 e63 => ?_)
        refine own_astore X63 C at_143 145 rfl rfl #[.val (.int ia0), .val (.long ja1), .second, .val (.int ia2), .val (.int ia3), .val (.int ia4), .val (.int v2), .val (.ref b1), .val (.long vv), .second, .val (.ref a_U16), .unset, .unset, .unset, .unset, .unset] rfl ?_
        refine own_lconst X63 C at_145 146 rfl (0) rfl ?_
        refine own_lstore X63 C at_146 148 rfl #[.val (.int ia0), .val (.long ja1), .second, .val (.int ia2), .val (.int ia3), .val (.int ia4), .val (.int v2), .val (.ref b1), .val (.long vv), .second, .val (.ref a_U16), .val (.long (0 : Int64)), .second, .unset, .unset, .unset] rfl ?_
        refine own_ldc2 X63 C (own_w hw 3 rfl) at_148 151 rfl ?_
        refine own_lstore X63 C at_151 153 rfl #[.val (.int ia0), .val (.long ja1), .second, .val (.int ia2), .val (.int ia3), .val (.int ia4), .val (.int v2), .val (.ref b1), .val (.long vv), .second, .val (.ref a_U16), .val (.long (0 : Int64)), .second, .val (.long (65535 : Int64)), .second, .unset] rfl ?_
        refine own_goto X63 C at_153 265 (by decide) (by decide) ?_
        refine own_lload X63 C at_265 267 rfl rfl ?_
        refine own_lload X63 C at_267 269 rfl rfl ?_
        refine own_lcmp X63 C at_269 270 rfl (fun v13 ev13a ev13b ev13c => ?_)
        have l1 : ((0 : Int64)).toInt = 0 := by decide
        refine own_iflt X63 C at_270 273 285 rfl (by decide) (by decide) (i := v13.toInt) rfl (fun b64 => ?_) (fun b64 => ?_)
        · refine own_iconst X63 C at_285 286 rfl (0) rfl ?_
          refine own_istore X63 C at_286 288 rfl #[.val (.int ia0), .val (.long ja1), .second, .val (.int ia2), .val (.int ia3), .val (.int ia4), .val (.int v2), .val (.ref b1), .val (.long vv), .second, .val (.ref a_U16), .val (.long (0 : Int64)), .second, .val (.long (65535 : Int64)), .second, .val (.int (0 : Int32))] rfl ?_
          refine own_aload X63 C at_288 290 rfl rfl rfl ?_
          refine own_lload X63 C at_290 292 rfl rfl ?_
          refine own_callV X63 C (own_w hw 14 rfl) (own_w hw 15 rfl) (own_w hw 17 rfl) (own_w hw 16 rfl) (own_w hw 12 rfl) (own_w hw 18 rfl) (by decide) (E_U16.keep Kp) (own_rm_holds l Z a0 hw a_U16 vv h11 16 0 (F_U16_bits.keep Kp nin0) (F_U16_signed.keep Kp nin0)) e63 own_pd_J_R_Z [(.long vv)] rfl rfl rfl rfl 0 rfl (by decide) (by decide) (by decide) (by decide) at_292 295 rfl (fun T65 L65 v65 X65 q65 => ?_)
          obtain ⟨rfl, eh65, rfl⟩ := q65
          have N65 := Fr.app N11 (Fr.nil h.size)
          refine own_iload X65 C at_295 297 rfl rfl ?_
          refine own_icmpne X65 C at_297 300 304 rfl (by decide) (by decide) (i := (own_holds 16 0 vv).toInt) rfl (j := 0) (by decide) (fun b66 => ?_) (fun b66 => ?_)
          · exfalso
            have q : own_holds 16 0 vv = 0 := by rw [own_h_U16, if_neg (by first | omega | (simp only [c_zero64] at *; omega))]
            rw [q] at b66; exact b66 (by decide)
          · refine own_iconst X65 C at_300 301 rfl (1) rfl ?_
            refine own_goto X65 C at_301 305 (by decide) (by decide) ?_
            refine own_iretN X65 C .boolean rfl (by simp) at_305 (by decide) (by decide) (1) (by decide) ?_
            exact ⟨rfl, N65⟩
        · refine own_lload X63 C at_273 275 rfl rfl ?_
          refine own_lload X63 C at_275 277 rfl rfl ?_
          refine own_lcmp X63 C at_277 278 rfl (fun v14 ev14a ev14b ev14c => ?_)
          have l2 : ((65535 : Int64)).toInt = 65535 := by decide
          refine own_ifgt X63 C at_278 281 285 rfl (by decide) (by decide) (i := v14.toInt) rfl (fun b67 => ?_) (fun b67 => ?_)
          · refine own_iconst X63 C at_285 286 rfl (0) rfl ?_
            refine own_istore X63 C at_286 288 rfl #[.val (.int ia0), .val (.long ja1), .second, .val (.int ia2), .val (.int ia3), .val (.int ia4), .val (.int v2), .val (.ref b1), .val (.long vv), .second, .val (.ref a_U16), .val (.long (0 : Int64)), .second, .val (.long (65535 : Int64)), .second, .val (.int (0 : Int32))] rfl ?_
            refine own_aload X63 C at_288 290 rfl rfl rfl ?_
            refine own_lload X63 C at_290 292 rfl rfl ?_
            refine own_callV X63 C (own_w hw 14 rfl) (own_w hw 15 rfl) (own_w hw 17 rfl) (own_w hw 16 rfl) (own_w hw 12 rfl) (own_w hw 18 rfl) (by decide) (E_U16.keep Kp) (own_rm_holds l Z a0 hw a_U16 vv h11 16 0 (F_U16_bits.keep Kp nin0) (F_U16_signed.keep Kp nin0)) e63 own_pd_J_R_Z [(.long vv)] rfl rfl rfl rfl 0 rfl (by decide) (by decide) (by decide) (by decide) at_292 295 rfl (fun T68 L68 v68 X68 q68 => ?_)
            obtain ⟨rfl, eh68, rfl⟩ := q68
            have N68 := Fr.app N11 (Fr.nil h.size)
            refine own_iload X68 C at_295 297 rfl rfl ?_
            refine own_icmpne X68 C at_297 300 304 rfl (by decide) (by decide) (i := (own_holds 16 0 vv).toInt) rfl (j := 0) (by decide) (fun b69 => ?_) (fun b69 => ?_)
            · exfalso
              have q : own_holds 16 0 vv = 0 := by rw [own_h_U16, if_neg (by first | omega | (simp only [c_zero64] at *; omega))]
              rw [q] at b69; exact b69 (by decide)
            · refine own_iconst X68 C at_300 301 rfl (1) rfl ?_
              refine own_goto X68 C at_301 305 (by decide) (by decide) ?_
              refine own_iretN X68 C .boolean rfl (by simp) at_305 (by decide) (by decide) (1) (by decide) ?_
              exact ⟨rfl, N68⟩
          · refine own_iconst X63 C at_281 282 rfl (1) rfl ?_
            refine own_goto X63 C at_282 286 (by decide) (by decide) ?_
            refine own_istore X63 C at_286 288 rfl #[.val (.int ia0), .val (.long ja1), .second, .val (.int ia2), .val (.int ia3), .val (.int ia4), .val (.int v2), .val (.ref b1), .val (.long vv), .second, .val (.ref a_U16), .val (.long (0 : Int64)), .second, .val (.long (65535 : Int64)), .second, .val (.int (1 : Int32))] rfl ?_
            refine own_aload X63 C at_288 290 rfl rfl rfl ?_
            refine own_lload X63 C at_290 292 rfl rfl ?_
            refine own_callV X63 C (own_w hw 14 rfl) (own_w hw 15 rfl) (own_w hw 17 rfl) (own_w hw 16 rfl) (own_w hw 12 rfl) (own_w hw 18 rfl) (by decide) (E_U16.keep Kp) (own_rm_holds l Z a0 hw a_U16 vv h11 16 0 (F_U16_bits.keep Kp nin0) (F_U16_signed.keep Kp nin0)) e63 own_pd_J_R_Z [(.long vv)] rfl rfl rfl rfl 0 rfl (by decide) (by decide) (by decide) (by decide) at_292 295 rfl (fun T70 L70 v70 X70 q70 => ?_)
            obtain ⟨rfl, eh70, rfl⟩ := q70
            have N70 := Fr.app N11 (Fr.nil h.size)
            refine own_iload X70 C at_295 297 rfl rfl ?_
            refine own_icmpne X70 C at_297 300 304 rfl (by decide) (by decide) (i := (own_holds 16 0 vv).toInt) rfl (j := 1) (by decide) (fun b71 => ?_) (fun b71 => ?_)
            · exfalso
              have q : own_holds 16 0 vv = 1 := by rw [own_h_U16, if_pos (by first | omega | (simp only [c_zero64] at *; omega))]
              rw [q] at b71; exact b71 (by decide)
            · refine own_iconst X70 C at_300 301 rfl (1) rfl ?_
              refine own_goto X70 C at_301 305 (by decide) (by decide) ?_
              refine own_iretN X70 C .boolean rfl (by simp) at_305 (by decide) (by decide) (1) (by decide) ?_
              exact ⟨rfl, N70⟩
    · refine own_getstatic X11 C (host := "") (Or.inl (own_w hw 11 rfl)) Via.refl e11 (own_stak S_U8 Kp) at_118 121 rfl (fun T72 X72 e72 => ?_)
      refine own_astore X72 C at_121 123 rfl rfl #[.val (.int ia0), .val (.long ja1), .second, .val (.int ia2), .val (.int ia3), .val (.int ia4), .val (.int v2), .val (.ref b1), .val (.long vv), .second, .val (.ref a_U8), .unset, .unset, .unset, .unset, .unset] rfl ?_
      refine own_lconst X72 C at_123 124 rfl (0) rfl ?_
      refine own_lstore X72 C at_124 126 rfl #[.val (.int ia0), .val (.long ja1), .second, .val (.int ia2), .val (.int ia3), .val (.int ia4), .val (.int v2), .val (.ref b1), .val (.long vv), .second, .val (.ref a_U8), .val (.long (0 : Int64)), .second, .unset, .unset, .unset] rfl ?_
      refine own_ldc2 X72 C (own_w hw 2 rfl) at_126 129 rfl ?_
      refine own_lstore X72 C at_129 131 rfl #[.val (.int ia0), .val (.long ja1), .second, .val (.int ia2), .val (.int ia3), .val (.int ia4), .val (.int v2), .val (.ref b1), .val (.long vv), .second, .val (.ref a_U8), .val (.long (0 : Int64)), .second, .val (.long (255 : Int64)), .second, .unset] rfl ?_
      refine own_goto X72 C at_131 265 (by decide) (by decide) ?_
      refine own_lload X72 C at_265 267 rfl rfl ?_
      refine own_lload X72 C at_267 269 rfl rfl ?_
      refine own_lcmp X72 C at_269 270 rfl (fun v15 ev15a ev15b ev15c => ?_)
      have l1 : ((0 : Int64)).toInt = 0 := by decide
      refine own_iflt X72 C at_270 273 285 rfl (by decide) (by decide) (i := v15.toInt) rfl (fun b73 => ?_) (fun b73 => ?_)
      · refine own_iconst X72 C at_285 286 rfl (0) rfl ?_
        refine own_istore X72 C at_286 288 rfl #[.val (.int ia0), .val (.long ja1), .second, .val (.int ia2), .val (.int ia3), .val (.int ia4), .val (.int v2), .val (.ref b1), .val (.long vv), .second, .val (.ref a_U8), .val (.long (0 : Int64)), .second, .val (.long (255 : Int64)), .second, .val (.int (0 : Int32))] rfl ?_
        refine own_aload X72 C at_288 290 rfl rfl rfl ?_
        refine own_lload X72 C at_290 292 rfl rfl ?_
        refine own_callV X72 C (own_w hw 14 rfl) (own_w hw 15 rfl) (own_w hw 17 rfl) (own_w hw 16 rfl) (own_w hw 12 rfl) (own_w hw 18 rfl) (by decide) (E_U8.keep Kp) (own_rm_holds l Z a0 hw a_U8 vv h11 8 0 (F_U8_bits.keep Kp nin0) (F_U8_signed.keep Kp nin0)) e72 own_pd_J_R_Z [(.long vv)] rfl rfl rfl rfl 0 rfl (by decide) (by decide) (by decide) (by decide) at_292 295 rfl (fun T74 L74 v74 X74 q74 => ?_)
        obtain ⟨rfl, eh74, rfl⟩ := q74
        have N74 := Fr.app N11 (Fr.nil h.size)
        refine own_iload X74 C at_295 297 rfl rfl ?_
        refine own_icmpne X74 C at_297 300 304 rfl (by decide) (by decide) (i := (own_holds 8 0 vv).toInt) rfl (j := 0) (by decide) (fun b75 => ?_) (fun b75 => ?_)
        · exfalso
          have q : own_holds 8 0 vv = 0 := by rw [own_h_U8, if_neg (by first | omega | (simp only [c_zero64] at *; omega))]
          rw [q] at b75; exact b75 (by decide)
        · refine own_iconst X74 C at_300 301 rfl (1) rfl ?_
          refine own_goto X74 C at_301 305 (by decide) (by decide) ?_
          refine own_iretN X74 C .boolean rfl (by simp) at_305 (by decide) (by decide) (1) (by decide) ?_
          exact ⟨rfl, N74⟩
      · refine own_lload X72 C at_273 275 rfl rfl ?_
        refine own_lload X72 C at_275 277 rfl rfl ?_
        refine own_lcmp X72 C at_277 278 rfl (fun v16 ev16a ev16b ev16c => ?_)
        have l2 : ((255 : Int64)).toInt = 255 := by decide
        refine own_ifgt X72 C at_278 281 285 rfl (by decide) (by decide) (i := v16.toInt) rfl (fun b76 => ?_) (fun b76 => ?_)
        · refine own_iconst X72 C at_285 286 rfl (0) rfl ?_
          refine own_istore X72 C at_286 288 rfl #[.val (.int ia0), .val (.long ja1), .second, .val (.int ia2), .val (.int ia3), .val (.int ia4), .val (.int v2), .val (.ref b1), .val (.long vv), .second, .val (.ref a_U8), .val (.long (0 : Int64)), .second, .val (.long (255 : Int64)), .second, .val (.int (0 : Int32))] rfl ?_
          refine own_aload X72 C at_288 290 rfl rfl rfl ?_
          refine own_lload X72 C at_290 292 rfl rfl ?_
          refine own_callV X72 C (own_w hw 14 rfl) (own_w hw 15 rfl) (own_w hw 17 rfl) (own_w hw 16 rfl) (own_w hw 12 rfl) (own_w hw 18 rfl) (by decide) (E_U8.keep Kp) (own_rm_holds l Z a0 hw a_U8 vv h11 8 0 (F_U8_bits.keep Kp nin0) (F_U8_signed.keep Kp nin0)) e72 own_pd_J_R_Z [(.long vv)] rfl rfl rfl rfl 0 rfl (by decide) (by decide) (by decide) (by decide) at_292 295 rfl (fun T77 L77 v77 X77 q77 => ?_)
          obtain ⟨rfl, eh77, rfl⟩ := q77
          have N77 := Fr.app N11 (Fr.nil h.size)
          refine own_iload X77 C at_295 297 rfl rfl ?_
          refine own_icmpne X77 C at_297 300 304 rfl (by decide) (by decide) (i := (own_holds 8 0 vv).toInt) rfl (j := 0) (by decide) (fun b78 => ?_) (fun b78 => ?_)
          · exfalso
            have q : own_holds 8 0 vv = 0 := by rw [own_h_U8, if_neg (by first | omega | (simp only [c_zero64] at *; omega))]
            rw [q] at b78; exact b78 (by decide)
          · refine own_iconst X77 C at_300 301 rfl (1) rfl ?_
            refine own_goto X77 C at_301 305 (by decide) (by decide) ?_
            refine own_iretN X77 C .boolean rfl (by simp) at_305 (by decide) (by decide) (1) (by decide) ?_
            exact ⟨rfl, N77⟩
        · refine own_iconst X72 C at_281 282 rfl (1) rfl ?_
          refine own_goto X72 C at_282 286 (by decide) (by decide) ?_
          refine own_istore X72 C at_286 288 rfl #[.val (.int ia0), .val (.long ja1), .second, .val (.int ia2), .val (.int ia3), .val (.int ia4), .val (.int v2), .val (.ref b1), .val (.long vv), .second, .val (.ref a_U8), .val (.long (0 : Int64)), .second, .val (.long (255 : Int64)), .second, .val (.int (1 : Int32))] rfl ?_
          refine own_aload X72 C at_288 290 rfl rfl rfl ?_
          refine own_lload X72 C at_290 292 rfl rfl ?_
          refine own_callV X72 C (own_w hw 14 rfl) (own_w hw 15 rfl) (own_w hw 17 rfl) (own_w hw 16 rfl) (own_w hw 12 rfl) (own_w hw 18 rfl) (by decide) (E_U8.keep Kp) (own_rm_holds l Z a0 hw a_U8 vv h11 8 0 (F_U8_bits.keep Kp nin0) (F_U8_signed.keep Kp nin0)) e72 own_pd_J_R_Z [(.long vv)] rfl rfl rfl rfl 0 rfl (by decide) (by decide) (by decide) (by decide) at_292 295 rfl (fun T79 L79 v79 X79 q79 => ?_)
          obtain ⟨rfl, eh79, rfl⟩ := q79
          have N79 := Fr.app N11 (Fr.nil h.size)
          refine own_iload X79 C at_295 297 rfl rfl ?_
          refine own_icmpne X79 C at_297 300 304 rfl (by decide) (by decide) (i := (own_holds 8 0 vv).toInt) rfl (j := 1) (by decide) (fun b80 => ?_) (fun b80 => ?_)
          · exfalso
            have q : own_holds 8 0 vv = 1 := by rw [own_h_U8, if_pos (by first | omega | (simp only [c_zero64] at *; omega))]
            rw [q] at b80; exact b80 (by decide)
          · refine own_iconst X79 C at_300 301 rfl (1) rfl ?_
            refine own_goto X79 C at_301 305 (by decide) (by decide) ?_
            refine own_iretN X79 C .boolean rfl (by simp) at_305 (by decide) (by decide) (1) (by decide) ?_
            exact ⟨rfl, N79⟩
  refine own_iload X11 C at_77 79 rfl rfl ?_
  refine own_iconst X11 C at_79 80 rfl (1) rfl ?_
  refine own_iand X11 C at_80 81 rfl (fun v17 ev17 => ?_)
  refine own_ifeq X11 C at_81 84 90 rfl (by decide) (by decide) (i := v17.toInt) rfl (fun b81 => ?_) (fun b81 => ?_)
  · refine own_aload X11 C at_90 92 rfl rfl rfl ?_
    refine own_iload_n X11 C at_92 93 rfl rfl ?_
    refine own_ldc X11 C (own_w hw 0 rfl) at_93 95 rfl ?_
    refine own_iand X11 C at_95 96 rfl (fun v18 ev18 => ?_)
    refine own_bipush X11 C at_96 98 rfl (10) rfl ?_
    refine own_irem X11 C at_98 99 rfl (by decide) (fun v19 ev19 => ?_)
    have s1 := c_and ia2 2147483647 (by decide)
    rw [← ev18] at s1
    have s2 := (c_irem v18 10 10 (by decide)).1 s1.1
    rw [← ev19] at s2
    refine own_laload X11 C e11 A (by omega) (by omega) at_99 100 rfl (.long (G v19.toInt.toNat)) rfl ?_
    refine own_iload X11 C at_100 102 rfl rfl ?_
    refine own_ldc X11 C (own_w hw 0 rfl) at_102 104 rfl ?_
    refine own_iand X11 C at_104 105 rfl (fun v20 ev20 => ?_)
    refine own_iconst X11 C at_105 106 rfl (5) rfl ?_
    refine own_irem X11 C at_106 107 rfl (by decide) (fun v21 ev21 => ?_)
    refine own_iconst X11 C at_107 108 rfl (2) rfl ?_
    refine own_isub X11 C at_108 109 rfl (fun v22 ev22 => ?_)
    refine own_i2l X11 C at_109 110 rfl (fun v23 ev23 => ?_)
    refine own_ladd X11 C at_110 111 rfl (fun v24 ev24 => ?_)
    refine own_lstore X11 C at_111 113 rfl #[.val (.int ia0), .val (.long ja1), .second, .val (.int ia2), .val (.int ia3), .val (.int ia4), .val (.int v2), .val (.ref b1), .val (.long v24), .second, .unset, .unset, .unset, .unset, .unset, .unset] rfl ?_
    exact J113 _
  · refine own_lload_n X11 C at_84 85 rfl rfl ?_
    refine own_lstore X11 C at_85 87 rfl #[.val (.int ia0), .val (.long ja1), .second, .val (.int ia2), .val (.int ia3), .val (.int ia4), .val (.int v2), .val (.ref b1), .val (.long ja1), .second, .unset, .unset, .unset, .unset, .unset, .unset] rfl ?_
    refine own_goto X11 C at_87 113 (by decide) (by decide) ?_
    exact J113 _
set_option maxRecDepth 65536 in
set_option maxHeartbeats 4000000 in
theorem own_comes_1 {Post : Tables → Env → Array Value → State → Outcome → State → Prop} (hpost : ∀ tb e args s v u, (limb_1_1.after args s (.returned v) u = true ∧ limb_1_2.after args s (.returned v) u = true ∧ True) → FrameEnd s (.returned v) u (Jvm.fieldLocs frame_1_writes args s ++ Jvm.arrayLocs frame_1_arrays args s ++ Jvm.staticLocs frame_1_statics s) 16 128 → Post tb e args s (.returned v) u) :
    ArmFor flags0 classFile x code maxLocals ret World_1 tables_1 room_1 Calls_1 rest_1 Pre_1 Post := by
  intro l hfl _ _ p e ha hc hk s m args below hf hA hF happ hP
  obtain ⟨hcalls, hrest, hpre⟩ := hP
  obtain ⟨-, -, -, hnamed, -, -, -, hat⟩ := (Spec.applies_iff hf).mp happ
  obtain ⟨hg, hn⟩ := and_e (Cond.before_iff.mp (show (Jvm.Cond.and given_1 narrow_1).before args s = true from hpre))
  obtain ⟨g0, g0r⟩ := and_e hg
  obtain ⟨g1, g1r⟩ := and_e g0r
  obtain ⟨g2, g2r⟩ := and_e g1r
  obtain ⟨g3, g3r⟩ := and_e g2r
  obtain ⟨g4, g4r⟩ := and_e g3r
  obtain ⟨w0, w1, w2, w3, w4, rfl⟩ : ∃ w0 w1 w2 w3 w4 : Value, args = #[w0, w1, w2, w3, w4] := by
    have hs : args.size = 5 := by simpa [Cond.value, given_1] using g0
    obtain ⟨L⟩ := args
    match L, hs with
    | [w0, w1, w2, w3, w4], _ => exact ⟨w0, w1, w2, w3, w4, rfl⟩
  have hw := fun d (hd : d ∈ tables_1) => atoms_spec (ws := Jvm.Cond.code x code maxLocals ret :: tables_1) hat d (List.mem_cons_of_mem _ hd)
  have hfit : Fit s := fun {y c} hc i hi => by
    obtain ⟨ha, rfl⟩ := Array.getElem?_eq_some_iff.mp hc
    have q := List.all_eq_true.mp ((Array.all_eq_true_iff_forall_mem.mp hF) _ (Array.getElem_mem ha)) i (List.mem_range.mpr hi)
    simpa [Array.getElem?_eq_getElem hi] using q
  obtain ⟨i0, q0⟩ := is_v g1
  obtain rfl : w0 = (.int i0) := Option.some.inj q0
  obtain ⟨i1, q1⟩ := isL_v g2
  obtain rfl : w1 = (.long i1) := Option.some.inj q1
  obtain ⟨i2, q2⟩ := is_v g3
  obtain rfl : w2 = (.int i2) := Option.some.inj q2
  obtain ⟨i3, q3⟩ := is_v g4
  obtain rfl : w3 = (.int i3) := Option.some.inj q3
  obtain ⟨i4, q4⟩ := is_v g4r
  obtain rfl : w4 = (.int i4) := Option.some.inj q4
  obtain ⟨n0, n0r⟩ := and_e hn
  obtain ⟨n1, n1r⟩ := and_e n0r
  obtain ⟨n2, n2r⟩ := and_e n1r
  obtain ⟨n3, n3r⟩ := and_e n2r
  obtain ⟨n4, n4r⟩ := and_e n3r
  obtain ⟨n5, n5r⟩ := and_e n4r
  obtain ⟨n6, n6r⟩ := and_e n5r
  obtain ⟨n7, n7r⟩ := and_e n6r
  obtain ⟨n8, n8r⟩ := and_e n7r
  obtain ⟨n9, n9r⟩ := and_e n8r
  obtain ⟨n10, n10r⟩ := and_e n9r
  obtain ⟨n11, n11r⟩ := and_e n10r
  obtain ⟨n12, n12r⟩ := and_e n11r
  obtain ⟨n13, n13r⟩ := and_e n12r
  obtain ⟨n14, n14r⟩ := and_e n13r
  obtain ⟨n15, n15r⟩ := and_e n14r
  obtain ⟨n16, n16r⟩ := and_e n15r
  obtain ⟨n17, n17r⟩ := and_e n16r
  obtain ⟨n18, n18r⟩ := and_e n17r
  obtain ⟨n19, n19r⟩ := and_e n18r
  obtain ⟨a_U8, ev_U8⟩ := exa_v n0
  have S_U8 : Sta s s.heap "com/example/tinwire/tinwire/model/Primitive" "U8" "Lcom/example/tinwire/tinwire/model/Primitive;" (.ref a_U8) := Sta.start ev_U8 (Or.inr ⟨(own_w hw 12 rfl), (own_w hw 13 rfl)⟩)
  have E_U8 : Exa s s.heap a_U8 "com/example/tinwire/tinwire/model/Primitive" := Exa.start ev_U8 n0
  have ev_U8_bits := own_eqI n1
  have F_U8_bits : Fld s s.heap a_U8 "com/example/tinwire/tinwire/model/Primitive" "bits" "I" (.int (8 : Int32)) := Fld.start ((fld_at ev_U8).symm.trans ev_U8_bits)
  have ev_U8_signed := own_eqI n2
  have F_U8_signed : Fld s s.heap a_U8 "com/example/tinwire/tinwire/model/Primitive" "signed" "Z" (.int (0 : Int32)) := Fld.start ((fld_at ev_U8).symm.trans ev_U8_signed)
  obtain ⟨a_I16, ev_I16⟩ := exa_v n3
  have S_I16 : Sta s s.heap "com/example/tinwire/tinwire/model/Primitive" "I16" "Lcom/example/tinwire/tinwire/model/Primitive;" (.ref a_I16) := Sta.start ev_I16 (Or.inr ⟨(own_w hw 12 rfl), (own_w hw 24 rfl)⟩)
  have E_I16 : Exa s s.heap a_I16 "com/example/tinwire/tinwire/model/Primitive" := Exa.start ev_I16 n3
  have ev_I16_bits := own_eqI n4
  have F_I16_bits : Fld s s.heap a_I16 "com/example/tinwire/tinwire/model/Primitive" "bits" "I" (.int (16 : Int32)) := Fld.start ((fld_at ev_I16).symm.trans ev_I16_bits)
  have ev_I16_signed := own_eqI n5
  have F_I16_signed : Fld s s.heap a_I16 "com/example/tinwire/tinwire/model/Primitive" "signed" "Z" (.int (1 : Int32)) := Fld.start ((fld_at ev_I16).symm.trans ev_I16_signed)
  obtain ⟨a_U32, ev_U32⟩ := exa_v n6
  have S_U32 : Sta s s.heap "com/example/tinwire/tinwire/model/Primitive" "U32" "Lcom/example/tinwire/tinwire/model/Primitive;" (.ref a_U32) := Sta.start ev_U32 (Or.inr ⟨(own_w hw 12 rfl), (own_w hw 26 rfl)⟩)
  have E_U32 : Exa s s.heap a_U32 "com/example/tinwire/tinwire/model/Primitive" := Exa.start ev_U32 n6
  have ev_U32_bits := own_eqI n7
  have F_U32_bits : Fld s s.heap a_U32 "com/example/tinwire/tinwire/model/Primitive" "bits" "I" (.int (32 : Int32)) := Fld.start ((fld_at ev_U32).symm.trans ev_U32_bits)
  have ev_U32_signed := own_eqI n8
  have F_U32_signed : Fld s s.heap a_U32 "com/example/tinwire/tinwire/model/Primitive" "signed" "Z" (.int (0 : Int32)) := Fld.start ((fld_at ev_U32).symm.trans ev_U32_signed)
  obtain ⟨a_U16, ev_U16⟩ := exa_v n9
  have S_U16 : Sta s s.heap "com/example/tinwire/tinwire/model/Primitive" "U16" "Lcom/example/tinwire/tinwire/model/Primitive;" (.ref a_U16) := Sta.start ev_U16 (Or.inr ⟨(own_w hw 12 rfl), (own_w hw 28 rfl)⟩)
  have E_U16 : Exa s s.heap a_U16 "com/example/tinwire/tinwire/model/Primitive" := Exa.start ev_U16 n9
  have ev_U16_bits := own_eqI n10
  have F_U16_bits : Fld s s.heap a_U16 "com/example/tinwire/tinwire/model/Primitive" "bits" "I" (.int (16 : Int32)) := Fld.start ((fld_at ev_U16).symm.trans ev_U16_bits)
  have ev_U16_signed := own_eqI n11
  have F_U16_signed : Fld s s.heap a_U16 "com/example/tinwire/tinwire/model/Primitive" "signed" "Z" (.int (0 : Int32)) := Fld.start ((fld_at ev_U16).symm.trans ev_U16_signed)
  obtain ⟨a_U64, ev_U64⟩ := exa_v n12
  have S_U64 : Sta s s.heap "com/example/tinwire/tinwire/model/Primitive" "U64" "Lcom/example/tinwire/tinwire/model/Primitive;" (.ref a_U64) := Sta.start ev_U64 (Or.inr ⟨(own_w hw 12 rfl), (own_w hw 30 rfl)⟩)
  have E_U64 : Exa s s.heap a_U64 "com/example/tinwire/tinwire/model/Primitive" := Exa.start ev_U64 n12
  have ev_U64_bits := own_eqI n13
  have F_U64_bits : Fld s s.heap a_U64 "com/example/tinwire/tinwire/model/Primitive" "bits" "I" (.int (64 : Int32)) := Fld.start ((fld_at ev_U64).symm.trans ev_U64_bits)
  obtain ⟨a_I32, ev_I32⟩ := exa_v n14
  have S_I32 : Sta s s.heap "com/example/tinwire/tinwire/model/Primitive" "I32" "Lcom/example/tinwire/tinwire/model/Primitive;" (.ref a_I32) := Sta.start ev_I32 (Or.inr ⟨(own_w hw 12 rfl), (own_w hw 32 rfl)⟩)
  have E_I32 : Exa s s.heap a_I32 "com/example/tinwire/tinwire/model/Primitive" := Exa.start ev_I32 n14
  have ev_I32_bits := own_eqI n15
  have F_I32_bits : Fld s s.heap a_I32 "com/example/tinwire/tinwire/model/Primitive" "bits" "I" (.int (32 : Int32)) := Fld.start ((fld_at ev_I32).symm.trans ev_I32_bits)
  have ev_I32_signed := own_eqI n16
  have F_I32_signed : Fld s s.heap a_I32 "com/example/tinwire/tinwire/model/Primitive" "signed" "Z" (.int (1 : Int32)) := Fld.start ((fld_at ev_I32).symm.trans ev_I32_signed)
  obtain ⟨a_I64, ev_I64⟩ := exa_v n17
  have S_I64 : Sta s s.heap "com/example/tinwire/tinwire/model/Primitive" "I64" "Lcom/example/tinwire/tinwire/model/Primitive;" (.ref a_I64) := Sta.start ev_I64 (Or.inr ⟨(own_w hw 12 rfl), (own_w hw 34 rfl)⟩)
  have E_I64 : Exa s s.heap a_I64 "com/example/tinwire/tinwire/model/Primitive" := Exa.start ev_I64 n17
  have ev_I64_bits := own_eqI n18
  have F_I64_bits : Fld s s.heap a_I64 "com/example/tinwire/tinwire/model/Primitive" "bits" "I" (.int (64 : Int32)) := Fld.start ((fld_at ev_I64).symm.trans ev_I64_bits)
  have ev_U64_signed := own_eqI n19
  have F_U64_signed : Fld s s.heap a_U64 "com/example/tinwire/tinwire/model/Primitive" "signed" "Z" (.int (0 : Int32)) := Fld.start ((fld_at ev_U64).symm.trans ev_U64_signed)
  have ev_I64_signed := own_eqI n19r
  have F_I64_signed : Fld s s.heap a_I64 "com/example/tinwire/tinwire/model/Primitive" "signed" "Z" (.int (1 : Int32)) := Fld.start ((fld_at ev_I64).symm.trans ev_I64_signed)
  obtain ⟨n, o, h1, h2, h3, _, L, rfl, ⟨rfl, N⟩, hq⟩ := own_rm_law l s _ hw i0 i1 i2 i3 i4 s.heap a_U8 a_U16 a_U32 a_U64 a_I16 a_I32 a_I64 S_U8 E_U8 F_U8_bits F_U8_signed S_U16 E_U16 F_U16_bits F_U16_signed S_U32 E_U32 F_U32_bits F_U32_signed S_U64 E_U64 F_U64_bits F_U64_signed S_I16 E_I16 F_I16_bits F_I16_signed S_I32 E_I32 F_I32_bits F_I32_signed S_I64 E_I64 F_I64_bits F_I64_signed p e ha hc hk s m _ below hf ((Spec.applies_iff_loose hf).mp happ).1 ⟨rfl, State.Warmed39.refl s, rfl⟩ trivial
  refine ⟨n, _, h1, h2, h3, hpost _ _ _ _ _ _ ⟨Cond.after_iff.mpr rfl, Cond.after_iff.mpr (eq_i res_at (Term.int_eval (1)) rfl), trivial⟩ ⟨hq.1, hq.2.1, (hq.2.2.sift fun y hy => Or.inr (N y hy)).mono (by decide) (by decide)⟩⟩
theorem main_1_1 : Claimed_1_1 := own_comes_1 fun _ _ _ _ _ _ h hF => ⟨h.1, hF⟩
theorem main_1_2 : Claimed_1_2 := own_comes_1 fun _ _ _ _ _ _ h hF => ⟨h.2.1, hF⟩
end Jvm.Pilot.@@N@@
namespace Jvm.Pilot.@@N@@
open Jvm Jvm.ClassFile Sem Op Lib Jvm.Free Jvm.Stand Jvm.Pilot.@@N@@.Jvm.D
/-! MADE BY PROGRAM (witnessworld.py) out of the Statement's table words and the real class files: 15 classes; the members and pool entries that the words name. The judged class is class 1, her method 1. -/
namespace start1
open Jvm.ClassFile
def u (s : String) : CpInfo := .utf8 (stringToUtf16 s)
/-- a pool by its gaps: so many unusable entries, then the entry; so many at the end -/
def gap : Nat → List CpInfo → List CpInfo
  | 0, r => r
  | n + 1, r => .unusable :: gap n r
def poolList (es : List (Nat × CpInfo)) (last : Nat) : List CpInfo := es.foldr (fun e r => gap e.1 (e.2 :: r)) (gap last [])
def pool (es : List (Nat × CpInfo)) (last : Nat) : Array CpInfo := ⟨poolList es last⟩
def fileOf (pool : Array CpInfo) (this : Nat) (attrs : Array Attribute := #[]) (ms : Array MethodInfo := #[]) (fl : Nat := 33) (sup : Nat := 0) (ifs : Array Nat := #[]) (fds : Array FieldInfo := #[]) : ClassFile where
  minorVersion := 0
  majorVersion := 65
  constantPool := pool
  accessFlags := fl
  thisClass := this
  superClass := sup
  interfaces := ifs
  fields := fds
  methods := ms
  attributes := attrs
def plain (name : String) (sup : Option ClassId) : Class where
  name := name
  kind := .ordinary
  loader := none
  accessFlags := 33
  super := sup
  interfaces := #[]
  cf := none
  fields := #[]
  methods := #[]
  instanceTypes := #[]
  staticTypes := #[]
  resolved := #[]
  callSites := []
  init := .initialized
  statics := none
  mirror := none

def pool0 : Array CpInfo := pool [(5, u "<init>"), (0, u "()V"), (1, .class_ 10), (1, u "java/lang/Object")] 113

def k0m0 : Method := { name := "<init>", desc := "()V", sig := { parameters := [], returnType := none }, accessFlags := 1, code := none }
/-- java/lang/Object -/
def k0 : Class := { plain "java/lang/Object" none with
  accessFlags := 33
  interfaces := #[]
  cf := some (fileOf pool0 8 #[] #[{ accessFlags := 1, nameIndex := 5, descriptorIndex := 6, attributes := #[] }] 33 0 #[] #[])
  fields := #[]
  methods := #[k0m0]
  instanceTypes := #[]
  staticTypes := #[]
  resolved := Array.replicate 124 none
  statics := none }

def pool1 : Array CpInfo := pool [(2, .class_ 4), (1, u "java/lang/Object"), (0, u "<init>"), (0, u "()V"), (0, .integer 2147483647), (0, .long 255), (1, .long 65535), (1, .long 32767), (1, .long 18446744073709518848), (1, .long 2147483647), (1, .long 18446744071562067968), (1, .long 4294967295), (3, .long 9223372036854775807), (1, .long 9223372036854775808), (1, .fieldref 29 30), (0, .class_ 31), (0, .nameAndType 32 33), (0, u "com/example/tinwire/tinwire/model/Primitive"), (0, u "U8"), (0, u "Lcom/example/tinwire/tinwire/model/Primitive;"), (0, .fieldref 29 35), (0, .nameAndType 36 33), (0, u "U16"), (0, .fieldref 29 38), (0, .nameAndType 39 33), (0, u "U32"), (0, .fieldref 29 41), (0, .nameAndType 42 33), (0, u "U64"), (0, .fieldref 29 44), (0, .nameAndType 45 33), (0, u "I16"), (0, .fieldref 29 47), (0, .nameAndType 48 33), (0, u "I32"), (0, .fieldref 29 50), (0, .nameAndType 51 33), (0, u "I64"), (0, .methodref 29 53), (0, .nameAndType 54 55), (0, u "holds"), (0, u "(J)Z"), (0, .class_ 57), (0, u "com/example/tinwire/tinwire/model/PrimitiveHoldsPinLaw"), (2, u "law"), (0, u "(IJIII)Z")] 5

def k1m0 : Method := { name := "<init>", desc := "()V", sig := { parameters := [], returnType := none }, accessFlags := 1, code := none }
def k1c1 : Code := { maxStack := 5, maxLocals := 16, code := code, exceptionTable := #[], attributes := #[] }
def k1m1 : Method := { name := "law", desc := "(IJIII)Z", sig := { parameters := [.int, .long, .int, .int, .int], returnType := some .boolean }, accessFlags := 9, code := some k1c1 }
/-- com/example/tinwire/tinwire/model/PrimitiveHoldsPinLaw -/
def k1 : Class := { plain "com/example/tinwire/tinwire/model/PrimitiveHoldsPinLaw" (some 0) with
  accessFlags := 49
  interfaces := #[]
  cf := some (fileOf pool1 56 #[] #[{ accessFlags := 1, nameIndex := 5, descriptorIndex := 6, attributes := #[] }, { accessFlags := 9, nameIndex := 60, descriptorIndex := 61, attributes := #[] }] 49 2 #[] #[])
  fields := #[]
  methods := #[k1m0, k1m1]
  instanceTypes := #[]
  staticTypes := #[]
  resolved := Array.replicate 67 none
  statics := none }

def pool2 : Array CpInfo := pool [(1, .class_ 2), (0, u "java/lang/constant/Constable"), (0, .class_ 4), (0, u "java/lang/Object")] 6

/-- java/lang/constant/Constable -/
def k2 : Class := { plain "java/lang/constant/Constable" (some 0) with
  accessFlags := 1537
  interfaces := #[]
  cf := some (fileOf pool2 1 #[] #[] 1537 3 #[] #[])
  fields := #[]
  methods := #[]
  instanceTypes := #[]
  staticTypes := #[]
  resolved := Array.replicate 11 none
  statics := none }

def pool3 : Array CpInfo := pool [(1, .class_ 2), (0, u "java/lang/Comparable"), (0, .class_ 4), (0, u "java/lang/Object")] 7

/-- java/lang/Comparable -/
def k3 : Class := { plain "java/lang/Comparable" (some 0) with
  accessFlags := 1537
  interfaces := #[]
  cf := some (fileOf pool3 1 #[] #[] 1537 3 #[] #[])
  fields := #[]
  methods := #[]
  instanceTypes := #[]
  staticTypes := #[]
  resolved := Array.replicate 12 none
  statics := none }

def pool4 : Array CpInfo := pool [(1, .class_ 2), (0, u "java/io/Serializable"), (0, .class_ 4), (0, u "java/lang/Object")] 2

/-- java/io/Serializable -/
def k4 : Class := { plain "java/io/Serializable" (some 0) with
  accessFlags := 1537
  interfaces := #[]
  cf := some (fileOf pool4 1 #[] #[] 1537 3 #[] #[])
  fields := #[]
  methods := #[]
  instanceTypes := #[]
  staticTypes := #[]
  resolved := Array.replicate 7 none
  statics := none }

def pool5 : Array CpInfo := pool [(2, .class_ 4), (1, u "java/lang/Enum"), (0, u "name"), (0, u "Ljava/lang/String;"), (2, u "ordinal"), (0, u "I"), (1, .class_ 14), (1, u "java/lang/Object"), (4, u "hash"), (86, .class_ 108), (1, u "java/lang/Enum$EnumDesc"), (2, .class_ 112), (0, u "java/lang/constant/Constable"), (0, .class_ 114), (0, u "java/lang/Comparable"), (0, .class_ 116), (0, u "java/io/Serializable")] 87

/-- java/lang/Enum -/
def k5 : Class := { plain "java/lang/Enum" (some 0) with
  accessFlags := 1057
  interfaces := #[2, 3, 4]
  cf := some (fileOf pool5 2 #[.nestMembers #[106]] #[] 1057 12 #[111, 113, 115] #[{ accessFlags := 18, nameIndex := 5, descriptorIndex := 6, attributes := #[] }, { accessFlags := 18, nameIndex := 9, descriptorIndex := 10, attributes := #[] }, { accessFlags := 2, nameIndex := 19, descriptorIndex := 10, attributes := #[] }])
  fields := #[{ name := "name", type := (.object "java/lang/String"), accessFlags := 18, slot := 0, constantValue := 0 }, { name := "ordinal", type := .int, accessFlags := 18, slot := 1, constantValue := 0 }, { name := "hash", type := .int, accessFlags := 2, slot := 2, constantValue := 0 }]
  methods := #[]
  instanceTypes := #[(.object "java/lang/String"), .int, .int]
  staticTypes := #[]
  resolved := Array.replicate 204 none
  statics := none }

def pool6 : Array CpInfo := pool [(38, .class_ 40), (1, u "com/example/tinwire/tinwire/model/Type"), (7, .class_ 50), (1, u "com/example/tinwire/tinwire/model/Type$Kind"), (9, .class_ 62), (1, u "com/example/tinwire/tinwire/model/Type$HoldsValue"), (51, .class_ 115), (0, u "java/lang/Object")] 80

/-- com/example/tinwire/tinwire/model/Type -/
def k6 : Class := { plain "com/example/tinwire/tinwire/model/Type" (some 0) with
  accessFlags := 1537
  interfaces := #[]
  cf := some (fileOf pool6 38 #[.nestMembers #[48, 60]] #[] 1537 114 #[] #[])
  fields := #[]
  methods := #[]
  instanceTypes := #[]
  staticTypes := #[]
  resolved := Array.replicate 196 none
  statics := none }

def pool7 : Array CpInfo := pool [(1, .class_ 2), (0, u "com/example/tinwire/tinwire/model/Primitive"), (2, u "BOOL"), (0, u "Lcom/example/tinwire/tinwire/model/Primitive;"), (2, u "U8"), (2, u "U16"), (2, u "U32"), (2, u "U64"), (2, u "I16"), (2, u "I32"), (2, u "I64"), (2, u "F32"), (2, u "F64"), (2, u "C64"), (2, u "C128"), (2, u "STRING"), (2, u "ANY"), (2, u "TYPEOBJECT"), (2, u "$VALUES"), (0, u "[Lcom/example/tinwire/tinwire/model/Primitive;"), (6, .class_ 61), (1, u "java/lang/Enum"), (6, .fieldref 1 69), (0, .nameAndType 70 71), (0, u "bits"), (0, u "I"), (0, .fieldref 1 73), (0, .nameAndType 74 75), (0, u "signed"), (0, u "Z"), (2, u "keywords"), (0, u "[Ljava/lang/String;"), (18, u "holds"), (0, u "(J)Z"), (3, .class_ 105), (1, u "com/example/tinwire/tinwire/model/Type")] 128

def k7c0 : Code := { maxStack := 5, maxLocals := 5, code := prog_28_method_10_code, exceptionTable := #[], attributes := #[] }
def k7m0 : Method := { name := "holds", desc := "(J)Z", sig := { parameters := [.long], returnType := some .boolean }, accessFlags := 1, code := some k7c0 }
/-- com/example/tinwire/tinwire/model/Primitive -/
def k7 : Class := { plain "com/example/tinwire/tinwire/model/Primitive" (some 5) with
  accessFlags := 16433
  interfaces := #[6]
  cf := some (fileOf pool7 1 #[] #[{ accessFlags := 1, nameIndex := 98, descriptorIndex := 99, attributes := #[] }] 16433 59 #[103] #[{ accessFlags := 16409, nameIndex := 5, descriptorIndex := 6, attributes := #[] }, { accessFlags := 16409, nameIndex := 9, descriptorIndex := 6, attributes := #[] }, { accessFlags := 16409, nameIndex := 12, descriptorIndex := 6, attributes := #[] }, { accessFlags := 16409, nameIndex := 15, descriptorIndex := 6, attributes := #[] }, { accessFlags := 16409, nameIndex := 18, descriptorIndex := 6, attributes := #[] }, { accessFlags := 16409, nameIndex := 21, descriptorIndex := 6, attributes := #[] }, { accessFlags := 16409, nameIndex := 24, descriptorIndex := 6, attributes := #[] }, { accessFlags := 16409, nameIndex := 27, descriptorIndex := 6, attributes := #[] }, { accessFlags := 16409, nameIndex := 30, descriptorIndex := 6, attributes := #[] }, { accessFlags := 16409, nameIndex := 33, descriptorIndex := 6, attributes := #[] }, { accessFlags := 16409, nameIndex := 36, descriptorIndex := 6, attributes := #[] }, { accessFlags := 16409, nameIndex := 39, descriptorIndex := 6, attributes := #[] }, { accessFlags := 16409, nameIndex := 42, descriptorIndex := 6, attributes := #[] }, { accessFlags := 16409, nameIndex := 45, descriptorIndex := 6, attributes := #[] }, { accessFlags := 16409, nameIndex := 48, descriptorIndex := 6, attributes := #[] }, { accessFlags := 18, nameIndex := 70, descriptorIndex := 71, attributes := #[] }, { accessFlags := 18, nameIndex := 74, descriptorIndex := 75, attributes := #[] }, { accessFlags := 18, nameIndex := 78, descriptorIndex := 79, attributes := #[] }, { accessFlags := 4122, nameIndex := 51, descriptorIndex := 52, attributes := #[] }])
  fields := #[{ name := "BOOL", type := (.object "com/example/tinwire/tinwire/model/Primitive"), accessFlags := 16409, slot := 0, constantValue := 0 }, { name := "U8", type := (.object "com/example/tinwire/tinwire/model/Primitive"), accessFlags := 16409, slot := 1, constantValue := 0 }, { name := "U16", type := (.object "com/example/tinwire/tinwire/model/Primitive"), accessFlags := 16409, slot := 2, constantValue := 0 }, { name := "U32", type := (.object "com/example/tinwire/tinwire/model/Primitive"), accessFlags := 16409, slot := 3, constantValue := 0 }, { name := "U64", type := (.object "com/example/tinwire/tinwire/model/Primitive"), accessFlags := 16409, slot := 4, constantValue := 0 }, { name := "I16", type := (.object "com/example/tinwire/tinwire/model/Primitive"), accessFlags := 16409, slot := 5, constantValue := 0 }, { name := "I32", type := (.object "com/example/tinwire/tinwire/model/Primitive"), accessFlags := 16409, slot := 6, constantValue := 0 }, { name := "I64", type := (.object "com/example/tinwire/tinwire/model/Primitive"), accessFlags := 16409, slot := 7, constantValue := 0 }, { name := "F32", type := (.object "com/example/tinwire/tinwire/model/Primitive"), accessFlags := 16409, slot := 8, constantValue := 0 }, { name := "F64", type := (.object "com/example/tinwire/tinwire/model/Primitive"), accessFlags := 16409, slot := 9, constantValue := 0 }, { name := "C64", type := (.object "com/example/tinwire/tinwire/model/Primitive"), accessFlags := 16409, slot := 10, constantValue := 0 }, { name := "C128", type := (.object "com/example/tinwire/tinwire/model/Primitive"), accessFlags := 16409, slot := 11, constantValue := 0 }, { name := "STRING", type := (.object "com/example/tinwire/tinwire/model/Primitive"), accessFlags := 16409, slot := 12, constantValue := 0 }, { name := "ANY", type := (.object "com/example/tinwire/tinwire/model/Primitive"), accessFlags := 16409, slot := 13, constantValue := 0 }, { name := "TYPEOBJECT", type := (.object "com/example/tinwire/tinwire/model/Primitive"), accessFlags := 16409, slot := 14, constantValue := 0 }, { name := "bits", type := .int, accessFlags := 18, slot := 3, constantValue := 0 }, { name := "signed", type := .boolean, accessFlags := 18, slot := 4, constantValue := 0 }, { name := "keywords", type := (.array (.object "java/lang/String")), accessFlags := 18, slot := 5, constantValue := 0 }, { name := "$VALUES", type := (.array (.object "com/example/tinwire/tinwire/model/Primitive")), accessFlags := 4122, slot := 15, constantValue := 0 }]
  methods := #[k7m0]
  instanceTypes := #[(.object "java/lang/String"), .int, .int, .int, .boolean, (.array (.object "java/lang/String"))]
  staticTypes := #[(.object "com/example/tinwire/tinwire/model/Primitive"), (.object "com/example/tinwire/tinwire/model/Primitive"), (.object "com/example/tinwire/tinwire/model/Primitive"), (.object "com/example/tinwire/tinwire/model/Primitive"), (.object "com/example/tinwire/tinwire/model/Primitive"), (.object "com/example/tinwire/tinwire/model/Primitive"), (.object "com/example/tinwire/tinwire/model/Primitive"), (.object "com/example/tinwire/tinwire/model/Primitive"), (.object "com/example/tinwire/tinwire/model/Primitive"), (.object "com/example/tinwire/tinwire/model/Primitive"), (.object "com/example/tinwire/tinwire/model/Primitive"), (.object "com/example/tinwire/tinwire/model/Primitive"), (.object "com/example/tinwire/tinwire/model/Primitive"), (.object "com/example/tinwire/tinwire/model/Primitive"), (.object "com/example/tinwire/tinwire/model/Primitive"), (.array (.object "com/example/tinwire/tinwire/model/Primitive"))]
  resolved := Array.replicate 234 none
  statics := some 0 }

def pool8 : Array CpInfo := pool [(1, u "java/lang/Cloneable"), (0, .class_ 1), (0, u "java/lang/Object"), (0, .class_ 3)] 3

/-- java/lang/Cloneable -/
def k8 : Class := { plain "java/lang/Cloneable" (some 0) with
  accessFlags := 1537
  interfaces := #[]
  cf := some (fileOf pool8 2 #[] #[] 1537 4 #[] #[])
  fields := #[]
  methods := #[]
  instanceTypes := #[]
  staticTypes := #[]
  resolved := Array.replicate 8 none
  statics := none }

/-- the primitive byte -/
def k9 : Class := { plain "byte" none with kind := .primitive 'B', accessFlags := 0x411 }
/-- [B -/
def k10 : Class := { plain "[B" (some 0) with kind := .array 9 .byte, interfaces := #[8, 4], accessFlags := 1041 }

/-- the primitive int -/
def k11 : Class := { plain "int" none with kind := .primitive 'I', accessFlags := 0x411 }
/-- [I -/
def k12 : Class := { plain "[I" (some 0) with kind := .array 11 .int, interfaces := #[8, 4], accessFlags := 1041 }

/-- the primitive long -/
def k13 : Class := { plain "long" none with kind := .primitive 'J', accessFlags := 0x411 }
/-- [J -/
def k14 : Class := { plain "[J" (some 0) with kind := .array 13 .long, interfaces := #[8, 4], accessFlags := 1041 }

def heap : Heap := #[{ cls := 7, slots := #[.null, .ref 1, .ref 2, .ref 3, .ref 4, .ref 5, .ref 6, .ref 7, .null, .null, .null, .null, .null, .null, .null, .null], vm := .statics 7 },
  { cls := 7, slots := #[.null, .int 0, .int 0, .int 8, .int 0, .null], vm := .none },
  { cls := 7, slots := #[.null, .int 1, .int 0, .int 16, .int 0, .null], vm := .none },
  { cls := 7, slots := #[.null, .int 2, .int 0, .int 32, .int 0, .null], vm := .none },
  { cls := 7, slots := #[.null, .int 3, .int 0, .int 64, .int 0, .null], vm := .none },
  { cls := 7, slots := #[.null, .int 4, .int 0, .int 16, .int 1, .null], vm := .none },
  { cls := 7, slots := #[.null, .int 5, .int 0, .int 32, .int 1, .null], vm := .none },
  { cls := 7, slots := #[.null, .int 6, .int 0, .int 64, .int 1, .null], vm := .none }]
def classes : Array Class := #[k0, k1, k2, k3, k4, k5, k6, k7, k8, k9, k10, k11, k12, k13, k14]
def interned : List (Array UInt16 × Addr) := []
def slotsUsed : Nat := 58
def theMethod : MethodId := ⟨1, 1⟩
def args0 : Array Value := #[.int 1, .long 2, .int 3, .int 4, .int 5]
def aboutOver (below : List Frame) : State where
  vm := { classes := classes, interned := interned.toArray }
  heap := heap
  slotsUsed := slotsUsed
  threads := #[{ frames := .invoking theMethod args0 :: below }]
def below0 : List Frame := [.native { method := ⟨0, 0⟩, args := #[] }]
def about1 : State := aboutOver below0
def p0 : Program := .bare "" "" ""
def e0 : Env := launch0.env 0 0 0
theorem w_frames : about1.frames = Frame.invoking theMethod args0 :: below0 := rfl
set_option maxRecDepth 65536 in
theorem w_args : argsFit about1.vm theMethod args0 = true := by decide +kernel
set_option maxRecDepth 65536 in
theorem w_heap : heapFits about1 = true := by decide +kernel
set_option maxRecDepth 65536 in
theorem w_runnable : about1.curStatus? = some .runnable := by decide +kernel
set_option maxRecDepth 65536 in
theorem w_alone : about1.alone = true := by decide +kernel
set_option maxRecDepth 65536 in
theorem w_named : about1.methodNamed? x = some theMethod := by decide +kernel
set_option maxRecDepth 65536 in
theorem w_hears : about1.hears theMethod below0 = true := by decide +kernel
set_option maxRecDepth 65536 in
theorem w_ripe : about1.ripe theMethod args0 below0 = true := by decide +kernel
theorem w_running : about1.status = .running := rfl
set_option maxRecDepth 65536 in
theorem w_room : about1.hasRoom e0.platform room_1 = true :=
  launch0.hasRoom_least _ room_1 (by decide +kernel) (by decide +kernel) (by decide +kernel) (by decide +kernel) (by decide +kernel) (by decide +kernel)
theorem allAtoms_all (ts : List Jvm.Cond) (a : Array Jvm.Value) (st : Jvm.State) : (allAtoms ts).before a st = ts.all (fun c => c.before a st) := by
  induction ts with
  | nil => rfl
  | cons c t ih =>
    show (Jvm.Cond.and c (allAtoms t)).before a st = _
    rw [Jvm.Cond.before_and, ih, List.all_cons]
def words1 : List Jvm.Cond := Jvm.Cond.code x code maxLocals ret :: tables_1
/-- a 'code' word, met by the world's own term for the bytes: nothing is compared byte by byte -/
theorem code_word {y : MethodName} {bytes : ByteArray} {mx : Nat} {rt : Option FieldType} {a : Array Value} {s : State} {m : MethodId} {meth : Method} {c : Code} (h1 : s.methodNamed? y = some m) (h2 : s.vm.method? m = some meth) (h3 : meth.code = some c) (h4 : c.code = bytes)
    (h5 : (c.maxLocals == mx && c.exceptionTable.isEmpty && decide (c.maxStack ≤ mostOperands) && decide (meth.sig.returnType = rt) && !meth.locks && decide (parseMethodDescriptor y.desc = some meth.sig)) = true) : (Jvm.Cond.code y bytes mx rt).before a s = true := by
  simp only [Bool.and_eq_true, beq_iff_eq, Bool.not_eq_true', decide_eq_true_eq] at h5
  obtain ⟨⟨⟨⟨⟨g1, g2⟩, g3⟩, g4⟩, g5⟩, g6⟩ := h5
  simp [Cond.before, Cond.holds, Cond.value, h1, h2, h3, h4, g1, g2, g3, g4, g5, g6]
def isCode : Jvm.Cond → Bool
  | .code _ _ _ _ => true
  | _ => false
theorem all_split {L : List Jvm.Cond} {P : Jvm.Cond → Bool} (h1 : L.all (fun c => isCode c || P c) = true) (h2 : ∀ c ∈ L.filter isCode, P c = true) : L.all P = true := by
  refine List.all_eq_true.mpr fun c hc => ?_
  have h := List.all_eq_true.mp h1 c hc
  rcases Bool.eq_false_or_eq_true (isCode c) with hi | hi
  · exact h2 c (List.mem_filter.mpr ⟨hc, hi⟩)
  · simpa [hi] using h
set_option maxRecDepth 65536 in
theorem w_c0 : (Jvm.Cond.code x code maxLocals ret).before args0 about1 = true := code_word (m := ⟨1, 1⟩) (meth := k1m1) (c := k1c1) (by decide +kernel) rfl rfl rfl (by decide +kernel)
set_option maxRecDepth 65536 in
theorem w_c1 : (Jvm.Cond.code ({ cls := "com/example/tinwire/tinwire/model/Primitive", name := "holds", desc := "(J)Z" } : Jvm.MethodName) prog_28_method_10_code (5 : Nat) (Option.some Jvm.ClassFile.FieldType.boolean)).before args0 about1 = true := code_word (m := ⟨7, 0⟩) (meth := k7m0) (c := k7c0) (by decide +kernel) rfl rfl rfl (by decide +kernel)
def codes1 : List Jvm.Cond := [Jvm.Cond.code x code maxLocals ret, Jvm.Cond.code ({ cls := "com/example/tinwire/tinwire/model/Primitive", name := "holds", desc := "(J)Z" } : Jvm.MethodName) prog_28_method_10_code (5 : Nat) (Option.some Jvm.ClassFile.FieldType.boolean)]
set_option maxRecDepth 65536 in
theorem codes_eq : words1.filter isCode = codes1 := rfl
theorem w_codes : ∀ c ∈ words1.filter isCode, c.before args0 about1 = true := by
  rw [codes_eq]
  intro c hc
  simp only [codes1, List.mem_cons, List.not_mem_nil, or_false] at hc
  rcases hc with rfl | rfl
  · exact w_c0
  · exact w_c1
set_option maxRecDepth 65536 in
theorem w_t1 : (words1.take 24).all (fun c => isCode c || c.before args0 about1) = true := by decide +kernel
set_option maxRecDepth 65536 in
theorem w_t2 : (words1.drop 24).all (fun c => isCode c || c.before args0 about1) = true := by decide +kernel
theorem w_tables : (allAtoms (Jvm.Cond.code x code maxLocals ret :: tables_1)).before args0 about1 = true := by
  rw [allAtoms_all]
  show words1.all (fun c => c.before args0 about1) = true
  refine all_split ?_ w_codes
  rw [← List.take_append_drop 24 words1, List.all_append, w_t1, w_t2]
  rfl
set_option maxRecDepth 65536 in
theorem w_case : (Jvm.Cond.and given_1 narrow_1).before args0 about1 = true := by decide +kernel
theorem w_applies : (headSpec (Jvm.Cond.code x code maxLocals ret :: tables_1) room_1).applies x e0.platform about1 = true :=
  (Spec.applies_iff w_frames).mpr ⟨w_running, w_runnable, w_alone, w_named, w_hears, w_ripe, w_room, w_tables⟩
theorem atStart : AtStart classFile x code maxLocals ret World_1 tables_1 room_1 Calls_1 rest_1 Pre_1 launch0 p0 e0 about1 theMethod args0 below0 :=
  ⟨lists_1, trivial, launch0.admits_env _ _ _, launch0.least_env, fairChoices_fair.cas, fairChoices_fair.clock, w_frames, w_args, w_heap, w_applies, trivial, trivial, w_case⟩
end start1
theorem witness_1 : WitnessClaimed_1 := ⟨start1.p0, start1.e0, start1.about1, start1.theMethod, start1.args0, start1.below0, start1.atStart⟩
end Jvm.Pilot.@@N@@
