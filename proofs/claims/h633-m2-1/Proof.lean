import JvmDerived
import JvmDerived.Pilot.@@N@@Statement
import JvmDerived.Pilot.@@N@@Code
set_option linter.unusedVariables false
set_option linter.unusedSimpArgs false
namespace Jvm.Pilot.@@N@@
open Jvm Jvm.ClassFile Sem Op Lib Jvm.Free Jvm.Stand Jvm.LawKit Jvm.RoadKit Bundle Jvm.Pilot.@@N@@.Jvm.D
section OwnLayer
variable {p : Program} {l : Launch} {e : Env} {R : Room} {s : State} {m : MethodId} {args : Array Value} {below : List Frame} {meth : Method} {c : Code} {T : State} {locs : List Loc} {cells slots : Nat} {Z : State} {y : MethodName} {bs : ByteArray} {maxL : Nat} {rt : Option FieldType} {ce sl : Nat} {Q : Option Value → Heap → List Loc → Prop} {G : Outcome → State → Prop} {pc : Nat} {Ls : Array Slot} {st rest : List Value} {h : Heap} {a0 : Array Value}
/-- from S the body runs on, returns, and Q says what it leaves -/
def OwnEnds (p : Program) (e : Env) (below : List Frame) (G : Outcome → State → Prop) (S : State) : Prop :=
  ∃ s₂ o, Steps p.tables e below S s₂ ∧ s₂.status = .running ∧ Ended s₂ below o ∧ G o s₂
def OwnG (s : State) (ce sl : Nat) (Q : Option Value → Heap → List Loc → Prop) : Outcome → State → Prop := fun o s₂ => ∃ v L, o = .returned v ∧ Q v s₂.heap L ∧ FrameEnd s o s₂ L ce sl
/-- what stands throughout a body's walk -/
def OwnCx (p : Program) (s : State) (m : MethodId) (meth : Method) (c : Code) (Z : State) (y : MethodName) (bs : ByteArray) (maxL : Nat) (rt : Option FieldType) : Prop :=
  p.tables.exec = Jvm.exec ∧ Z.Warmed39 s.vm ∧ s.vm.findClass y.cls = some m.cls ∧ c.code = bs ∧ c.maxLocals = maxL ∧ meth.sig.returnType = rt ∧ meth.locks = false ∧ meth.name = y.name
/-- a body's contract over the heap h at these arguments -/
def OwnMet (l : Launch) (Z : State) (y : MethodName) (bs : ByteArray) (maxL : Nat) (rt : Option FieldType) (ws : List Jvm.Cond) (rm : Room) (as' : Array Value) (h : Heap) (Q : Option Value → Heap → List Loc → Prop) : Prop :=
  MetFree l y (head1 (Jvm.Cond.code y bs maxL rt :: ws) rm) (fun a U => a = as' ∧ Z.Warmed39 U.vm ∧ U.heap = h) (fun _ _ _ _ _ => True) (fun _ U o U' => ∃ v L, o = .returned v ∧ Q v U'.heap L ∧ FrameEnd U o U' L rm.cells rm.slots)
theorem own_nz32 {d : Int32} (q : d.toInt ≠ 0) : d ≠ 0 := fun r => q (by rw [r]; rfl)
theorem own_nz64 {d : Int64} (q : d.toInt ≠ 0) : d ≠ 0 := fun r => q (by rw [r]; rfl)
theorem own_st {S S' : State} (k : ∀ t, Steps p.tables e below S' t → Steps p.tables e below S t) (r : OwnEnds p e below G S') : OwnEnds p e below G S := by
  obtain ⟨s₂, o, h1, r⟩ := r
  exact ⟨s₂, o, k _ h1, r⟩
theorem own_tr {S S' : State} (k : Steps p.tables e below S S') (r : OwnEnds p e below G S') : OwnEnds p e below G S := own_st (fun _ q => k.trans q) r
theorem own_enter {ws : List Jvm.Cond} {rm : Room} {as' : Array Value} {f0 : MethodId → JFrame} (hp : plainFor y = true) (hf : ∀ m, entryFrame m as' maxL = f0 m)
    (H : ∀ p e s m below meth c T, Stand p l e rm s m as' below meth c T [] 0 0 → OwnCx p s m meth c Z y bs maxL rt → T.heap = h → OwnEnds p e below (OwnG s rm.cells rm.slots Q) (T.setTop (f0 m))) : OwnMet l Z y bs maxL rt ws rm as' h Q := by
  refine MetFree.of_bodySF hp hisR ?_
  intro p e s m args below meth c s₁ Bd hml0 hP hK
  obtain ⟨rfl, hZ, hh⟩ := hP
  have k := H p e s m below meth c s₁ (Stand.of_body Bd) ⟨Bd.exec, hZ, findClass_of_methodNamed Bd.named, Bd.bytes, hml0, Bd.returns, Bd.notSynchronized, (name_of_methodNamed Bd.named Bd.method).1⟩ (by rw [← hh, Bd.state]; rfl)
  rw [← hf m] at k
  exact k
theorem own_mono {ws : List Jvm.Cond} {rm : Room} {as' : Array Value} {Q' : Option Value → Heap → List Loc → Prop} (H : OwnMet l Z y bs maxL rt ws rm as' h Q) (q : ∀ v h' L, Q v h' L → Q' v h' L) : OwnMet l Z y bs maxL rt ws rm as' h Q' := by
  intro p e ha hc hk s m args below hf happ hP hK
  obtain ⟨n, o, h1, h2, h3, v, L, h4, h5, h6⟩ := H p e ha hc hk s m args below hf happ hP hK
  exact ⟨n, o, h1, h2, h3, v, L, h4, q _ _ _ h5, h6⟩
theorem own_iload (X : Stand p l e R s m args below meth c T locs cells slots) (C : OwnCx p s m meth c Z y bs maxL rt) {k : Nat} {v : Int32} (hd : decode bs pc = .ok (.iload k, 2)) (pc' : Nat) (hp : pc + 2 = pc') (hl : Ls[k]? = some (.val (.int v)))
    (hr : OwnEnds p e below G (T.setTop (mkF m pc' Ls (.int v :: st)))) : OwnEnds p e below G (T.setTop (mkF m pc Ls st)) := by
  subst hp; exact own_st (fun _ q => XS.iload X.here C.1 rfl (hb C.2.2.2.1 hd) hl q) hr
theorem own_lload (X : Stand p l e R s m args below meth c T locs cells slots) (C : OwnCx p s m meth c Z y bs maxL rt) {k : Nat} {v : Int64} (hd : decode bs pc = .ok (.lload k, 2)) (pc' : Nat) (hp : pc + 2 = pc') (hl : Ls[k]? = some (.val (.long v)))
    (hr : OwnEnds p e below G (T.setTop (mkF m pc' Ls (.long v :: st)))) : OwnEnds p e below G (T.setTop (mkF m pc Ls st)) := by
  subst hp; exact own_st (fun _ q => XS.lload X.here C.1 rfl (hb C.2.2.2.1 hd) hl q) hr
theorem own_iload_n (X : Stand p l e R s m args below meth c T locs cells slots) (C : OwnCx p s m meth c Z y bs maxL rt) {k : Fin 4} {v : Int32} (hd : decode bs pc = .ok (.iload_n k, 1)) (pc' : Nat) (hp : pc + 1 = pc') (hl : Ls[k.val]? = some (.val (.int v)))
    (hr : OwnEnds p e below G (T.setTop (mkF m pc' Ls (.int v :: st)))) : OwnEnds p e below G (T.setTop (mkF m pc Ls st)) := by
  subst hp; exact own_st (fun _ q => XS.iloadN X.here C.1 rfl (hb C.2.2.2.1 hd) hl q) hr
theorem own_lload_n (X : Stand p l e R s m args below meth c T locs cells slots) (C : OwnCx p s m meth c Z y bs maxL rt) {k : Fin 4} {v : Int64} (hd : decode bs pc = .ok (.lload_n k, 1)) (pc' : Nat) (hp : pc + 1 = pc') (hl : Ls[k.val]? = some (.val (.long v)))
    (hr : OwnEnds p e below G (T.setTop (mkF m pc' Ls (.long v :: st)))) : OwnEnds p e below G (T.setTop (mkF m pc Ls st)) := by
  subst hp; exact own_st (fun _ q => XS.lloadN X.here C.1 rfl (hb C.2.2.2.1 hd) hl q) hr
theorem own_aload (X : Stand p l e R s m args below meth c T locs cells slots) (C : OwnCx p s m meth c Z y bs maxL rt) {k : Nat} {v : Value} (hd : decode bs pc = .ok (.aload k, 2)) (pc' : Nat) (hp : pc + 2 = pc') (hl : Ls[k]? = some (.val v)) (hv : v.isRef = true)
    (hr : OwnEnds p e below G (T.setTop (mkF m pc' Ls (v :: st)))) : OwnEnds p e below G (T.setTop (mkF m pc Ls st)) := by
  subst hp; exact own_st (fun _ q => XS.aload X.here C.1 rfl (hb C.2.2.2.1 hd) hl hv q) hr
theorem own_aload_n (X : Stand p l e R s m args below meth c T locs cells slots) (C : OwnCx p s m meth c Z y bs maxL rt) {k : Fin 4} {v : Value} (hd : decode bs pc = .ok (.aload_n k, 1)) (pc' : Nat) (hp : pc + 1 = pc') (hl : Ls[k.val]? = some (.val v)) (hv : v.isRef = true)
    (hr : OwnEnds p e below G (T.setTop (mkF m pc' Ls (v :: st)))) : OwnEnds p e below G (T.setTop (mkF m pc Ls st)) := by
  subst hp; exact own_st (fun _ q => XS.aloadN X.here C.1 rfl (hb C.2.2.2.1 hd) hl hv q) hr
theorem own_istore (X : Stand p l e R s m args below meth c T locs cells slots) (C : OwnCx p s m meth c Z y bs maxL rt) {k : Nat} {v : Int32} (hd : decode bs pc = .ok (.istore k, 2)) (pc' : Nat) (hp : pc + 2 = pc') (L' : Array Slot) (hl : storeLocals Ls k (.int v) = some L')
    (hr : OwnEnds p e below G (T.setTop (mkF m pc' L' st))) : OwnEnds p e below G (T.setTop (mkF m pc Ls (.int v :: st))) := by
  subst hp; exact own_st (fun _ q => XS.istore X.here C.1 rfl (hb C.2.2.2.1 hd) rfl hl q) hr
theorem own_lstore (X : Stand p l e R s m args below meth c T locs cells slots) (C : OwnCx p s m meth c Z y bs maxL rt) {k : Nat} {v : Int64} (hd : decode bs pc = .ok (.lstore k, 2)) (pc' : Nat) (hp : pc + 2 = pc') (L' : Array Slot) (hl : storeLocals Ls k (.long v) = some L')
    (hr : OwnEnds p e below G (T.setTop (mkF m pc' L' st))) : OwnEnds p e below G (T.setTop (mkF m pc Ls (.long v :: st))) := by
  subst hp; exact own_st (fun _ q => XS.lstore X.here C.1 rfl (hb C.2.2.2.1 hd) rfl hl q) hr
theorem own_istore_n (X : Stand p l e R s m args below meth c T locs cells slots) (C : OwnCx p s m meth c Z y bs maxL rt) {k : Fin 4} {v : Int32} (hd : decode bs pc = .ok (.istore_n k, 1)) (pc' : Nat) (hp : pc + 1 = pc') (L' : Array Slot) (hl : storeLocals Ls k.val (.int v) = some L')
    (hr : OwnEnds p e below G (T.setTop (mkF m pc' L' st))) : OwnEnds p e below G (T.setTop (mkF m pc Ls (.int v :: st))) := by
  subst hp; exact own_st (fun _ q => XS.istoreN X.here C.1 rfl (hb C.2.2.2.1 hd) rfl hl q) hr
theorem own_lstore_n (X : Stand p l e R s m args below meth c T locs cells slots) (C : OwnCx p s m meth c Z y bs maxL rt) {k : Fin 4} {v : Int64} (hd : decode bs pc = .ok (.lstore_n k, 1)) (pc' : Nat) (hp : pc + 1 = pc') (L' : Array Slot) (hl : storeLocals Ls k.val (.long v) = some L')
    (hr : OwnEnds p e below G (T.setTop (mkF m pc' L' st))) : OwnEnds p e below G (T.setTop (mkF m pc Ls (.long v :: st))) := by
  subst hp; exact own_st (fun _ q => XS.lstoreN X.here C.1 rfl (hb C.2.2.2.1 hd) rfl hl q) hr
theorem own_astore (X : Stand p l e R s m args below meth c T locs cells slots) (C : OwnCx p s m meth c Z y bs maxL rt) {k : Nat} {v : Value} (hd : decode bs pc = .ok (.astore k, 2)) (pc' : Nat) (hp : pc + 2 = pc') (hv : v.isRef = true) (L' : Array Slot) (hl : storeLocals Ls k v = some L')
    (hr : OwnEnds p e below G (T.setTop (mkF m pc' L' st))) : OwnEnds p e below G (T.setTop (mkF m pc Ls (v :: st))) := by
  subst hp; exact own_st (fun _ q => XS.astore X.here C.1 rfl (hb C.2.2.2.1 hd) rfl hv hl q) hr
theorem own_astore_n (X : Stand p l e R s m args below meth c T locs cells slots) (C : OwnCx p s m meth c Z y bs maxL rt) {k : Fin 4} {v : Value} (hd : decode bs pc = .ok (.astore_n k, 1)) (pc' : Nat) (hp : pc + 1 = pc') (hv : v.isRef = true) (L' : Array Slot) (hl : storeLocals Ls k.val v = some L')
    (hr : OwnEnds p e below G (T.setTop (mkF m pc' L' st))) : OwnEnds p e below G (T.setTop (mkF m pc Ls (v :: st))) := by
  subst hp; exact own_st (fun _ q => XS.astoreN X.here C.1 rfl (hb C.2.2.2.1 hd) rfl hv hl q) hr
theorem own_iinc (X : Stand p l e R s m args below meth c T locs cells slots) (C : OwnCx p s m meth c Z y bs maxL rt) {k : Nat} {cst : Int} {v : Int32} (hd : decode bs pc = .ok (.iinc k cst, 3)) (pc' : Nat) (hp : pc + 3 = pc') (hl : Ls[k]? = some (.val (.int v))) (w : Int32) (hw : Int32.ofInt cst = w) (F : Int32 → Array Slot) (hl' : ∀ z, storeLocals Ls k (.int z) = some (F z))
    (hr : ∀ z, z = v + w → OwnEnds p e below G (T.setTop (mkF m pc' (F z) st))) : OwnEnds p e below G (T.setTop (mkF m pc Ls st)) := by
  subst hp hw; exact own_st (fun _ q => XS.iinc X.here C.1 rfl (hb C.2.2.2.1 hd) hl (hl' _) q) (hr _ rfl)
theorem own_iconst (X : Stand p l e R s m args below meth c T locs cells slots) (C : OwnCx p s m meth c Z y bs maxL rt) {i : Int} (hd : decode bs pc = .ok (.iconst i, 1)) (pc' : Nat) (hp : pc + 1 = pc') (k : Int32) (hk : Int32.ofInt i = k)
    (hr : OwnEnds p e below G (T.setTop (mkF m pc' Ls (.int k :: st)))) : OwnEnds p e below G (T.setTop (mkF m pc Ls st)) := by
  subst hp hk; exact own_st (fun _ q => XS.iconst X.here C.1 rfl (hb C.2.2.2.1 hd) q) hr
theorem own_bipush (X : Stand p l e R s m args below meth c T locs cells slots) (C : OwnCx p s m meth c Z y bs maxL rt) {i : Int} (hd : decode bs pc = .ok (.bipush i, 2)) (pc' : Nat) (hp : pc + 2 = pc') (k : Int32) (hk : (Int8.ofInt i).toInt32 = k)
    (hr : OwnEnds p e below G (T.setTop (mkF m pc' Ls (.int k :: st)))) : OwnEnds p e below G (T.setTop (mkF m pc Ls st)) := by
  subst hp hk; exact own_st (fun _ q => XS.bipush X.here C.1 rfl (hb C.2.2.2.1 hd) q) hr
theorem own_sipush (X : Stand p l e R s m args below meth c T locs cells slots) (C : OwnCx p s m meth c Z y bs maxL rt) {i : Int} (hd : decode bs pc = .ok (.sipush i, 3)) (pc' : Nat) (hp : pc + 3 = pc') (k : Int32) (hk : (Int16.ofInt i).toInt32 = k)
    (hr : OwnEnds p e below G (T.setTop (mkF m pc' Ls (.int k :: st)))) : OwnEnds p e below G (T.setTop (mkF m pc Ls st)) := by
  subst hp hk; exact own_st (fun _ q => XS.sipush X.here C.1 rfl (hb C.2.2.2.1 hd) q) hr
theorem own_lconst (X : Stand p l e R s m args below meth c T locs cells slots) (C : OwnCx p s m meth c Z y bs maxL rt) {i : Fin 2} (hd : decode bs pc = .ok (.lconst i, 1)) (pc' : Nat) (hp : pc + 1 = pc') (k : Int64) (hk : Int64.ofNat i = k)
    (hr : OwnEnds p e below G (T.setTop (mkF m pc' Ls (.long k :: st)))) : OwnEnds p e below G (T.setTop (mkF m pc Ls st)) := by
  subst hp hk; exact own_st (fun _ q => XS.lconst X.here C.1 rfl (hb C.2.2.2.1 hd) q) hr
theorem own_aconst_null (X : Stand p l e R s m args below meth c T locs cells slots) (C : OwnCx p s m meth c Z y bs maxL rt) (hd : decode bs pc = .ok (.aconst_null, 1)) (pc' : Nat) (hp : pc + 1 = pc')
    (hr : OwnEnds p e below G (T.setTop (mkF m pc' Ls (.null :: st)))) : OwnEnds p e below G (T.setTop (mkF m pc Ls st)) := by
  subst hp; exact own_st (fun _ q => XS.aconstNull X.here C.1 rfl (hb C.2.2.2.1 hd) q) hr
theorem own_ldc (X : Stand p l e R s m args below meth c T locs cells slots) (C : OwnCx p s m meth c Z y bs maxL rt) {i : Nat} {v : Int32} (w : (Jvm.Cond.constant y.cls i v).before a0 Z = true) (hd : decode bs pc = .ok (.ldc i, 2)) (pc' : Nat) (hp : pc + 2 = pc')
    (hr : OwnEnds p e below G (T.setTop (mkF m pc' Ls (.int v :: st)))) : OwnEnds p e below G (T.setTop (mkF m pc Ls st)) := by
  subst hp; exact own_st (X.ldcInt C.1 C.2.2.1 (mvT C.2.1 w) (g := mkF m pc Ls st) rfl (hb C.2.2.2.1 hd)) hr
theorem own_ldcw (X : Stand p l e R s m args below meth c T locs cells slots) (C : OwnCx p s m meth c Z y bs maxL rt) {i : Nat} {v : Int32} (w : (Jvm.Cond.constant y.cls i v).before a0 Z = true) (hd : decode bs pc = .ok (.ldc_w i, 3)) (pc' : Nat) (hp : pc + 3 = pc')
    (hr : OwnEnds p e below G (T.setTop (mkF m pc' Ls (.int v :: st)))) : OwnEnds p e below G (T.setTop (mkF m pc Ls st)) := by
  subst hp; exact own_st (X.ldcwInt C.1 C.2.2.1 (mvT C.2.1 w) (g := mkF m pc Ls st) rfl (hb C.2.2.2.1 hd)) hr
theorem own_ldc2 (X : Stand p l e R s m args below meth c T locs cells slots) (C : OwnCx p s m meth c Z y bs maxL rt) {i : Nat} {v : Int64} (w : (Jvm.Cond.constantLong y.cls i v).before a0 Z = true) (hd : decode bs pc = .ok (.ldc2_w i, 3)) (pc' : Nat) (hp : pc + 3 = pc')
    (hr : OwnEnds p e below G (T.setTop (mkF m pc' Ls (.long v :: st)))) : OwnEnds p e below G (T.setTop (mkF m pc Ls st)) := by
  subst hp; exact own_st (X.ldc2Long C.1 C.2.2.1 (mvT C.2.1 w) (g := mkF m pc Ls st) rfl (hb C.2.2.2.1 hd)) hr
theorem own_iadd (X : Stand p l e R s m args below meth c T locs cells slots) (C : OwnCx p s m meth c Z y bs maxL rt) {a b : Int32} (hd : decode bs pc = .ok (.iadd, 1)) (pc' : Nat) (hp : pc + 1 = pc')
    (hr : ∀ z, z = a + b → OwnEnds p e below G (T.setTop (mkF m pc' Ls (.int z :: st)))) : OwnEnds p e below G (T.setTop (mkF m pc Ls (.int b :: .int a :: st))) := by
  subst hp; exact own_st (fun _ q => XS.iadd X.here C.1 rfl (hb C.2.2.2.1 hd) rfl q) (hr _ rfl)
theorem own_isub (X : Stand p l e R s m args below meth c T locs cells slots) (C : OwnCx p s m meth c Z y bs maxL rt) {a b : Int32} (hd : decode bs pc = .ok (.isub, 1)) (pc' : Nat) (hp : pc + 1 = pc')
    (hr : ∀ z, z = a - b → OwnEnds p e below G (T.setTop (mkF m pc' Ls (.int z :: st)))) : OwnEnds p e below G (T.setTop (mkF m pc Ls (.int b :: .int a :: st))) := by
  subst hp; exact own_st (fun _ q => XS.isub X.here C.1 rfl (hb C.2.2.2.1 hd) rfl q) (hr _ rfl)
theorem own_imul (X : Stand p l e R s m args below meth c T locs cells slots) (C : OwnCx p s m meth c Z y bs maxL rt) {a b : Int32} (hd : decode bs pc = .ok (.imul, 1)) (pc' : Nat) (hp : pc + 1 = pc')
    (hr : ∀ z, z = a * b → OwnEnds p e below G (T.setTop (mkF m pc' Ls (.int z :: st)))) : OwnEnds p e below G (T.setTop (mkF m pc Ls (.int b :: .int a :: st))) := by
  subst hp; exact own_st (fun _ q => XS.imul X.here C.1 rfl (hb C.2.2.2.1 hd) rfl q) (hr _ rfl)
theorem own_iand (X : Stand p l e R s m args below meth c T locs cells slots) (C : OwnCx p s m meth c Z y bs maxL rt) {a b : Int32} (hd : decode bs pc = .ok (.iand, 1)) (pc' : Nat) (hp : pc + 1 = pc')
    (hr : ∀ z, z = a &&& b → OwnEnds p e below G (T.setTop (mkF m pc' Ls (.int z :: st)))) : OwnEnds p e below G (T.setTop (mkF m pc Ls (.int b :: .int a :: st))) := by
  subst hp; exact own_st (fun _ q => XS.iand X.here C.1 rfl (hb C.2.2.2.1 hd) rfl q) (hr _ rfl)
theorem own_ior (X : Stand p l e R s m args below meth c T locs cells slots) (C : OwnCx p s m meth c Z y bs maxL rt) {a b : Int32} (hd : decode bs pc = .ok (.ior, 1)) (pc' : Nat) (hp : pc + 1 = pc')
    (hr : ∀ z, z = a ||| b → OwnEnds p e below G (T.setTop (mkF m pc' Ls (.int z :: st)))) : OwnEnds p e below G (T.setTop (mkF m pc Ls (.int b :: .int a :: st))) := by
  subst hp; exact own_st (fun _ q => XS.ior X.here C.1 rfl (hb C.2.2.2.1 hd) rfl q) (hr _ rfl)
theorem own_ixor (X : Stand p l e R s m args below meth c T locs cells slots) (C : OwnCx p s m meth c Z y bs maxL rt) {a b : Int32} (hd : decode bs pc = .ok (.ixor, 1)) (pc' : Nat) (hp : pc + 1 = pc')
    (hr : ∀ z, z = a ^^^ b → OwnEnds p e below G (T.setTop (mkF m pc' Ls (.int z :: st)))) : OwnEnds p e below G (T.setTop (mkF m pc Ls (.int b :: .int a :: st))) := by
  subst hp; exact own_st (fun _ q => XS.ixor X.here C.1 rfl (hb C.2.2.2.1 hd) rfl q) (hr _ rfl)
theorem own_idiv (X : Stand p l e R s m args below meth c T locs cells slots) (C : OwnCx p s m meth c Z y bs maxL rt) {a b : Int32} (hd : decode bs pc = .ok (.idiv, 1)) (pc' : Nat) (hp : pc + 1 = pc') (hz : b ≠ 0)
    (hr : ∀ z, z = a / b → OwnEnds p e below G (T.setTop (mkF m pc' Ls (.int z :: st)))) : OwnEnds p e below G (T.setTop (mkF m pc Ls (.int b :: .int a :: st))) := by
  subst hp; exact own_st (fun _ q => XS.idiv X.here C.1 rfl (hb C.2.2.2.1 hd) rfl hz q) (hr _ rfl)
theorem own_ladd (X : Stand p l e R s m args below meth c T locs cells slots) (C : OwnCx p s m meth c Z y bs maxL rt) {a b : Int64} (hd : decode bs pc = .ok (.ladd, 1)) (pc' : Nat) (hp : pc + 1 = pc')
    (hr : ∀ z, z = a + b → OwnEnds p e below G (T.setTop (mkF m pc' Ls (.long z :: st)))) : OwnEnds p e below G (T.setTop (mkF m pc Ls (.long b :: .long a :: st))) := by
  subst hp; exact own_st (fun _ q => XS.ladd X.here C.1 rfl (hb C.2.2.2.1 hd) rfl q) (hr _ rfl)
theorem own_lsub (X : Stand p l e R s m args below meth c T locs cells slots) (C : OwnCx p s m meth c Z y bs maxL rt) {a b : Int64} (hd : decode bs pc = .ok (.lsub, 1)) (pc' : Nat) (hp : pc + 1 = pc')
    (hr : ∀ z, z = a - b → OwnEnds p e below G (T.setTop (mkF m pc' Ls (.long z :: st)))) : OwnEnds p e below G (T.setTop (mkF m pc Ls (.long b :: .long a :: st))) := by
  subst hp; exact own_st (fun _ q => XS.lsub X.here C.1 rfl (hb C.2.2.2.1 hd) rfl q) (hr _ rfl)
theorem own_lmul (X : Stand p l e R s m args below meth c T locs cells slots) (C : OwnCx p s m meth c Z y bs maxL rt) {a b : Int64} (hd : decode bs pc = .ok (.lmul, 1)) (pc' : Nat) (hp : pc + 1 = pc')
    (hr : ∀ z, z = a * b → OwnEnds p e below G (T.setTop (mkF m pc' Ls (.long z :: st)))) : OwnEnds p e below G (T.setTop (mkF m pc Ls (.long b :: .long a :: st))) := by
  subst hp; exact own_st (fun _ q => XS.lmul X.here C.1 rfl (hb C.2.2.2.1 hd) rfl q) (hr _ rfl)
theorem own_land (X : Stand p l e R s m args below meth c T locs cells slots) (C : OwnCx p s m meth c Z y bs maxL rt) {a b : Int64} (hd : decode bs pc = .ok (.land, 1)) (pc' : Nat) (hp : pc + 1 = pc')
    (hr : ∀ z, z = a &&& b → OwnEnds p e below G (T.setTop (mkF m pc' Ls (.long z :: st)))) : OwnEnds p e below G (T.setTop (mkF m pc Ls (.long b :: .long a :: st))) := by
  subst hp; exact own_st (fun _ q => XS.land X.here C.1 rfl (hb C.2.2.2.1 hd) rfl q) (hr _ rfl)
theorem own_lor (X : Stand p l e R s m args below meth c T locs cells slots) (C : OwnCx p s m meth c Z y bs maxL rt) {a b : Int64} (hd : decode bs pc = .ok (.lor, 1)) (pc' : Nat) (hp : pc + 1 = pc')
    (hr : ∀ z, z = a ||| b → OwnEnds p e below G (T.setTop (mkF m pc' Ls (.long z :: st)))) : OwnEnds p e below G (T.setTop (mkF m pc Ls (.long b :: .long a :: st))) := by
  subst hp; exact own_st (fun _ q => XS.lor X.here C.1 rfl (hb C.2.2.2.1 hd) rfl q) (hr _ rfl)
theorem own_lxor (X : Stand p l e R s m args below meth c T locs cells slots) (C : OwnCx p s m meth c Z y bs maxL rt) {a b : Int64} (hd : decode bs pc = .ok (.lxor, 1)) (pc' : Nat) (hp : pc + 1 = pc')
    (hr : ∀ z, z = a ^^^ b → OwnEnds p e below G (T.setTop (mkF m pc' Ls (.long z :: st)))) : OwnEnds p e below G (T.setTop (mkF m pc Ls (.long b :: .long a :: st))) := by
  subst hp; exact own_st (fun _ q => XS.lxor X.here C.1 rfl (hb C.2.2.2.1 hd) rfl q) (hr _ rfl)
theorem own_ldiv (X : Stand p l e R s m args below meth c T locs cells slots) (C : OwnCx p s m meth c Z y bs maxL rt) {a b : Int64} (hd : decode bs pc = .ok (.ldiv, 1)) (pc' : Nat) (hp : pc + 1 = pc') (hz : b ≠ 0)
    (hr : ∀ z, z = a / b → OwnEnds p e below G (T.setTop (mkF m pc' Ls (.long z :: st)))) : OwnEnds p e below G (T.setTop (mkF m pc Ls (.long b :: .long a :: st))) := by
  subst hp; exact own_st (fun _ q => XS.ldiv X.here C.1 rfl (hb C.2.2.2.1 hd) rfl hz q) (hr _ rfl)
theorem own_irem (X : Stand p l e R s m args below meth c T locs cells slots) (C : OwnCx p s m meth c Z y bs maxL rt) {a b : Int32} (hd : decode bs pc = .ok (.irem, 1)) (pc' : Nat) (hp : pc + 1 = pc') (hz : b ≠ 0)
    (hr : ∀ z, z = a % b → OwnEnds p e below G (T.setTop (mkF m pc' Ls (.int z :: st)))) : OwnEnds p e below G (T.setTop (mkF m pc Ls (.int b :: .int a :: st))) := by
  subst hp; exact own_st (fun _ q => iremM X C.1 rfl (hb C.2.2.2.1 hd) rfl hz q) (hr _ rfl)
theorem own_lrem (X : Stand p l e R s m args below meth c T locs cells slots) (C : OwnCx p s m meth c Z y bs maxL rt) {a b : Int64} (hd : decode bs pc = .ok (.lrem, 1)) (pc' : Nat) (hp : pc + 1 = pc') (hz : b ≠ 0)
    (hr : ∀ z, z = a % b → OwnEnds p e below G (T.setTop (mkF m pc' Ls (.long z :: st)))) : OwnEnds p e below G (T.setTop (mkF m pc Ls (.long b :: .long a :: st))) := by
  subst hp; exact own_st (fun _ q => XS.lrem X.here C.1 rfl (hb C.2.2.2.1 hd) rfl hz q) (hr _ (lrem_mod a b))
theorem own_ishl (X : Stand p l e R s m args below meth c T locs cells slots) (C : OwnCx p s m meth c Z y bs maxL rt) {a : Int32} {b : Int32} (hd : decode bs pc = .ok (.ishl, 1)) (pc' : Nat) (hp : pc + 1 = pc')
    (hr : ∀ z, z = (a <<< (b &&& 31)) → OwnEnds p e below G (T.setTop (mkF m pc' Ls (.int z :: st)))) : OwnEnds p e below G (T.setTop (mkF m pc Ls (.int b :: .int a :: st))) := by
  subst hp; exact own_st (fun _ q => XS.ishl X.here C.1 rfl (hb C.2.2.2.1 hd) rfl q) (hr _ rfl)
theorem own_ishr (X : Stand p l e R s m args below meth c T locs cells slots) (C : OwnCx p s m meth c Z y bs maxL rt) {a : Int32} {b : Int32} (hd : decode bs pc = .ok (.ishr, 1)) (pc' : Nat) (hp : pc + 1 = pc')
    (hr : ∀ z, z = (a >>> (b &&& 31)) → OwnEnds p e below G (T.setTop (mkF m pc' Ls (.int z :: st)))) : OwnEnds p e below G (T.setTop (mkF m pc Ls (.int b :: .int a :: st))) := by
  subst hp; exact own_st (fun _ q => XS.ishr X.here C.1 rfl (hb C.2.2.2.1 hd) rfl q) (hr _ rfl)
theorem own_iushr (X : Stand p l e R s m args below meth c T locs cells slots) (C : OwnCx p s m meth c Z y bs maxL rt) {a : Int32} {b : Int32} (hd : decode bs pc = .ok (.iushr, 1)) (pc' : Nat) (hp : pc + 1 = pc')
    (hr : ∀ z, z = ((a.toUInt32 >>> (b &&& 31).toUInt32).toInt32) → OwnEnds p e below G (T.setTop (mkF m pc' Ls (.int z :: st)))) : OwnEnds p e below G (T.setTop (mkF m pc Ls (.int b :: .int a :: st))) := by
  subst hp; exact own_st (fun _ q => XS.iushr X.here C.1 rfl (hb C.2.2.2.1 hd) rfl q) (hr _ rfl)
theorem own_lshl (X : Stand p l e R s m args below meth c T locs cells slots) (C : OwnCx p s m meth c Z y bs maxL rt) {a : Int64} {b : Int32} (hd : decode bs pc = .ok (.lshl, 1)) (pc' : Nat) (hp : pc + 1 = pc')
    (hr : ∀ z, z = (a <<< (b &&& 0x3f).toInt64) → OwnEnds p e below G (T.setTop (mkF m pc' Ls (.long z :: st)))) : OwnEnds p e below G (T.setTop (mkF m pc Ls (.int b :: .long a :: st))) := by
  subst hp; exact own_st (fun _ q => XS.lshl X.here C.1 rfl (hb C.2.2.2.1 hd) rfl q) (hr _ rfl)
theorem own_lshr (X : Stand p l e R s m args below meth c T locs cells slots) (C : OwnCx p s m meth c Z y bs maxL rt) {a : Int64} {b : Int32} (hd : decode bs pc = .ok (.lshr, 1)) (pc' : Nat) (hp : pc + 1 = pc')
    (hr : ∀ z, z = (a >>> (b &&& 0x3f).toInt64) → OwnEnds p e below G (T.setTop (mkF m pc' Ls (.long z :: st)))) : OwnEnds p e below G (T.setTop (mkF m pc Ls (.int b :: .long a :: st))) := by
  subst hp; exact own_st (fun _ q => XS.lshr X.here C.1 rfl (hb C.2.2.2.1 hd) rfl q) (hr _ rfl)
theorem own_lushr (X : Stand p l e R s m args below meth c T locs cells slots) (C : OwnCx p s m meth c Z y bs maxL rt) {a : Int64} {b : Int32} (hd : decode bs pc = .ok (.lushr, 1)) (pc' : Nat) (hp : pc + 1 = pc')
    (hr : ∀ z, z = ((a.toUInt64 >>> (b &&& 0x3f).toInt64.toUInt64).toInt64) → OwnEnds p e below G (T.setTop (mkF m pc' Ls (.long z :: st)))) : OwnEnds p e below G (T.setTop (mkF m pc Ls (.int b :: .long a :: st))) := by
  subst hp; exact own_st (fun _ q => XS.lushr X.here C.1 rfl (hb C.2.2.2.1 hd) rfl q) (hr _ rfl)
theorem own_ineg (X : Stand p l e R s m args below meth c T locs cells slots) (C : OwnCx p s m meth c Z y bs maxL rt) {a : Int32} (hd : decode bs pc = .ok (.ineg, 1)) (pc' : Nat) (hp : pc + 1 = pc')
    (hr : ∀ z, z = -a → OwnEnds p e below G (T.setTop (mkF m pc' Ls (.int z :: st)))) : OwnEnds p e below G (T.setTop (mkF m pc Ls (.int a :: st))) := by
  subst hp; exact own_st (fun _ q => XS.ineg X.here C.1 rfl (hb C.2.2.2.1 hd) rfl q) (hr _ rfl)
theorem own_lneg (X : Stand p l e R s m args below meth c T locs cells slots) (C : OwnCx p s m meth c Z y bs maxL rt) {a : Int64} (hd : decode bs pc = .ok (.lneg, 1)) (pc' : Nat) (hp : pc + 1 = pc')
    (hr : ∀ z, z = -a → OwnEnds p e below G (T.setTop (mkF m pc' Ls (.long z :: st)))) : OwnEnds p e below G (T.setTop (mkF m pc Ls (.long a :: st))) := by
  subst hp; exact own_st (fun _ q => XS.lneg X.here C.1 rfl (hb C.2.2.2.1 hd) rfl q) (hr _ rfl)
theorem own_i2l (X : Stand p l e R s m args below meth c T locs cells slots) (C : OwnCx p s m meth c Z y bs maxL rt) {a : Int32} (hd : decode bs pc = .ok (.i2l, 1)) (pc' : Nat) (hp : pc + 1 = pc')
    (hr : ∀ z, z = a.toInt64 → OwnEnds p e below G (T.setTop (mkF m pc' Ls (.long z :: st)))) : OwnEnds p e below G (T.setTop (mkF m pc Ls (.int a :: st))) := by
  subst hp; exact own_st (fun _ q => XS.i2l X.here C.1 rfl (hb C.2.2.2.1 hd) rfl q) (hr _ rfl)
theorem own_l2i (X : Stand p l e R s m args below meth c T locs cells slots) (C : OwnCx p s m meth c Z y bs maxL rt) {a : Int64} (hd : decode bs pc = .ok (.l2i, 1)) (pc' : Nat) (hp : pc + 1 = pc')
    (hr : ∀ z, z = a.toInt32 → OwnEnds p e below G (T.setTop (mkF m pc' Ls (.int z :: st)))) : OwnEnds p e below G (T.setTop (mkF m pc Ls (.long a :: st))) := by
  subst hp; exact own_st (fun _ q => XS.l2i X.here C.1 rfl (hb C.2.2.2.1 hd) rfl q) (hr _ rfl)
theorem own_i2b (X : Stand p l e R s m args below meth c T locs cells slots) (C : OwnCx p s m meth c Z y bs maxL rt) {a : Int32} (hd : decode bs pc = .ok (.i2b, 1)) (pc' : Nat) (hp : pc + 1 = pc')
    (hr : ∀ z, z = a.toInt8.toInt32 → OwnEnds p e below G (T.setTop (mkF m pc' Ls (.int z :: st)))) : OwnEnds p e below G (T.setTop (mkF m pc Ls (.int a :: st))) := by
  subst hp; exact own_st (fun _ q => XS.i2b X.here C.1 rfl (hb C.2.2.2.1 hd) rfl q) (hr _ rfl)
theorem own_i2s (X : Stand p l e R s m args below meth c T locs cells slots) (C : OwnCx p s m meth c Z y bs maxL rt) {a : Int32} (hd : decode bs pc = .ok (.i2s, 1)) (pc' : Nat) (hp : pc + 1 = pc')
    (hr : ∀ z, z = a.toInt16.toInt32 → OwnEnds p e below G (T.setTop (mkF m pc' Ls (.int z :: st)))) : OwnEnds p e below G (T.setTop (mkF m pc Ls (.int a :: st))) := by
  subst hp; exact own_st (fun _ q => XS.i2s X.here C.1 rfl (hb C.2.2.2.1 hd) rfl q) (hr _ rfl)
theorem own_i2c (X : Stand p l e R s m args below meth c T locs cells slots) (C : OwnCx p s m meth c Z y bs maxL rt) {a : Int32} (hd : decode bs pc = .ok (.i2c, 1)) (pc' : Nat) (hp : pc + 1 = pc')
    (hr : ∀ z, z = a.toUInt32.toUInt16.toUInt32.toInt32 → OwnEnds p e below G (T.setTop (mkF m pc' Ls (.int z :: st)))) : OwnEnds p e below G (T.setTop (mkF m pc Ls (.int a :: st))) := by
  subst hp; exact own_st (fun _ q => XS.i2c X.here C.1 rfl (hb C.2.2.2.1 hd) rfl q) (hr _ rfl)
theorem own_lcmp (X : Stand p l e R s m args below meth c T locs cells slots) (C : OwnCx p s m meth c Z y bs maxL rt) {a b : Int64} (hd : decode bs pc = .ok (.lcmp, 1)) (pc' : Nat) (hp : pc + 1 = pc')
    (hr : ∀ z : Int32, (a.toInt < b.toInt → z.toInt = -1) → (a.toInt = b.toInt → z.toInt = 0) → (b.toInt < a.toInt → z.toInt = 1) → OwnEnds p e below G (T.setTop (mkF m pc' Ls (.int z :: st)))) : OwnEnds p e below G (T.setTop (mkF m pc Ls (.long b :: .long a :: st))) := by
  subst hp; exact own_st (fun _ q => XS.lcmp X.here C.1 rfl (hb C.2.2.2.1 hd) rfl q) (hr _ (c_lcmp a b).1 (c_lcmp a b).2.1 (c_lcmp a b).2.2)
theorem own_dup (X : Stand p l e R s m args below meth c T locs cells slots) (C : OwnCx p s m meth c Z y bs maxL rt) {v : Value} (hd : decode bs pc = .ok (.dup, 1)) (pc' : Nat) (hp : pc + 1 = pc') (hc : v.category = 1)
    (hr : OwnEnds p e below G (T.setTop (mkF m pc' Ls (v :: v :: st)))) : OwnEnds p e below G (T.setTop (mkF m pc Ls (v :: st))) := by
  subst hp; exact own_st (fun _ q => XS.dup X.here C.1 rfl (hb C.2.2.2.1 hd) rfl hc q) hr
theorem own_dup_x1 (X : Stand p l e R s m args below meth c T locs cells slots) (C : OwnCx p s m meth c Z y bs maxL rt) {v w : Value} (hd : decode bs pc = .ok (.dup_x1, 1)) (pc' : Nat) (hp : pc + 1 = pc') (hc : v.category = 1) (hc' : w.category = 1)
    (hr : OwnEnds p e below G (T.setTop (mkF m pc' Ls (v :: w :: v :: st)))) : OwnEnds p e below G (T.setTop (mkF m pc Ls (v :: w :: st))) := by
  subst hp; exact own_st (fun _ q => XS.dupX1 X.here C.1 rfl (hb C.2.2.2.1 hd) rfl hc hc' q) hr
theorem own_pop (X : Stand p l e R s m args below meth c T locs cells slots) (C : OwnCx p s m meth c Z y bs maxL rt) {v : Value} (hd : decode bs pc = .ok (.pop, 1)) (pc' : Nat) (hp : pc + 1 = pc') (hc : v.category = 1)
    (hr : OwnEnds p e below G (T.setTop (mkF m pc' Ls st))) : OwnEnds p e below G (T.setTop (mkF m pc Ls (v :: st))) := by
  subst hp; exact own_st (fun _ q => XS.pop X.here C.1 rfl (hb C.2.2.2.1 hd) rfl hc q) hr
theorem own_dup2 (X : Stand p l e R s m args below meth c T locs cells slots) (C : OwnCx p s m meth c Z y bs maxL rt) {v w : Value} (hd : decode bs pc = .ok (.dup2, 1)) (pc' : Nat) (hp : pc + 1 = pc') (hc : v.category = 1) (hc' : w.category = 1)
    (hr : OwnEnds p e below G (T.setTop (mkF m pc' Ls (v :: w :: v :: w :: st)))) : OwnEnds p e below G (T.setTop (mkF m pc Ls (v :: w :: st))) := by
  subst hp; exact own_st (fun _ q => XT.dup2 X.here C.1 rfl (hb C.2.2.2.1 hd) rfl hc hc' q) hr
theorem own_goto (X : Stand p l e R s m args below meth c T locs cells slots) (C : OwnCx p s m meth c Z y bs maxL rt) {o : Int} (hd : decode bs pc = .ok (.goto o, 3)) (pc' : Nat) (ho : 0 ≤ (pc : Int) + o) (hp : ((pc : Int) + o).toNat = pc')
    (hr : OwnEnds p e below G (T.setTop (mkF m pc' Ls st))) : OwnEnds p e below G (T.setTop (mkF m pc Ls st)) :=
  own_st (fun _ q => XS.goto X.here C.1 rfl rfl (hb C.2.2.2.1 hd) ho hp q) hr
theorem own_icmplt (X : Stand p l e R s m args below meth c T locs cells slots) (C : OwnCx p s m meth c Z y bs maxL rt) {x' y' : Int32} {o : Int} (hd : decode bs pc = .ok (.if_icmp .lt o, 3)) (pn pc' : Nat) (hpn : pc + 3 = pn) (ho : 0 ≤ (pc : Int) + o) (hp : ((pc : Int) + o).toNat = pc') {i : Int} (hi : x'.toInt = i) {j : Int} (hj : y'.toInt = j) 
    (hy : i < j → OwnEnds p e below G (T.setTop (mkF m pc' Ls st))) (hn : j ≤ i → OwnEnds p e below G (T.setTop (mkF m pn Ls st))) : OwnEnds p e below G (T.setTop (mkF m pc Ls (.int y' :: .int x' :: st))) := by
  subst hpn
  by_cases k : x' < y'
  · exact own_st (fun _ q => XS.icmpYes X.here C.1 rfl rfl (hb C.2.2.2.1 hd) rfl (((tlt k).1)) ho hp q) (hy (by rw [Int32.lt_iff_toInt_lt] at k; have q : y'.toInt = j := hj; omega))
  · exact own_st (fun _ q => XS.icmpNo X.here C.1 rfl (hb C.2.2.2.1 hd) rfl (((flt k).1)) q) (hn (by rw [Int32.lt_iff_toInt_lt] at k; have q : y'.toInt = j := hj; omega))
theorem own_icmpge (X : Stand p l e R s m args below meth c T locs cells slots) (C : OwnCx p s m meth c Z y bs maxL rt) {x' y' : Int32} {o : Int} (hd : decode bs pc = .ok (.if_icmp .ge o, 3)) (pn pc' : Nat) (hpn : pc + 3 = pn) (ho : 0 ≤ (pc : Int) + o) (hp : ((pc : Int) + o).toNat = pc') {i : Int} (hi : x'.toInt = i) {j : Int} (hj : y'.toInt = j) 
    (hy : j ≤ i → OwnEnds p e below G (T.setTop (mkF m pc' Ls st))) (hn : i < j → OwnEnds p e below G (T.setTop (mkF m pn Ls st))) : OwnEnds p e below G (T.setTop (mkF m pc Ls (.int y' :: .int x' :: st))) := by
  subst hpn
  by_cases k : x' < y'
  · exact own_st (fun _ q => XS.icmpNo X.here C.1 rfl (hb C.2.2.2.1 hd) rfl (((tlt k).2.1)) q) (hn (by rw [Int32.lt_iff_toInt_lt] at k; have q : y'.toInt = j := hj; omega))
  · exact own_st (fun _ q => XS.icmpYes X.here C.1 rfl rfl (hb C.2.2.2.1 hd) rfl (((flt k).2.1)) ho hp q) (hy (by rw [Int32.lt_iff_toInt_lt] at k; have q : y'.toInt = j := hj; omega))
theorem own_icmpgt (X : Stand p l e R s m args below meth c T locs cells slots) (C : OwnCx p s m meth c Z y bs maxL rt) {x' y' : Int32} {o : Int} (hd : decode bs pc = .ok (.if_icmp .gt o, 3)) (pn pc' : Nat) (hpn : pc + 3 = pn) (ho : 0 ≤ (pc : Int) + o) (hp : ((pc : Int) + o).toNat = pc') {i : Int} (hi : x'.toInt = i) {j : Int} (hj : y'.toInt = j) 
    (hy : j < i → OwnEnds p e below G (T.setTop (mkF m pc' Ls st))) (hn : i ≤ j → OwnEnds p e below G (T.setTop (mkF m pn Ls st))) : OwnEnds p e below G (T.setTop (mkF m pc Ls (.int y' :: .int x' :: st))) := by
  subst hpn
  by_cases k : y' < x'
  · exact own_st (fun _ q => XS.icmpYes X.here C.1 rfl rfl (hb C.2.2.2.1 hd) rfl (((tlt k).2.2.1)) ho hp q) (hy (by rw [Int32.lt_iff_toInt_lt] at k; have q : y'.toInt = j := hj; omega))
  · exact own_st (fun _ q => XS.icmpNo X.here C.1 rfl (hb C.2.2.2.1 hd) rfl (((flt k).2.2.1)) q) (hn (by rw [Int32.lt_iff_toInt_lt] at k; have q : y'.toInt = j := hj; omega))
theorem own_icmple (X : Stand p l e R s m args below meth c T locs cells slots) (C : OwnCx p s m meth c Z y bs maxL rt) {x' y' : Int32} {o : Int} (hd : decode bs pc = .ok (.if_icmp .le o, 3)) (pn pc' : Nat) (hpn : pc + 3 = pn) (ho : 0 ≤ (pc : Int) + o) (hp : ((pc : Int) + o).toNat = pc') {i : Int} (hi : x'.toInt = i) {j : Int} (hj : y'.toInt = j) 
    (hy : i ≤ j → OwnEnds p e below G (T.setTop (mkF m pc' Ls st))) (hn : j < i → OwnEnds p e below G (T.setTop (mkF m pn Ls st))) : OwnEnds p e below G (T.setTop (mkF m pc Ls (.int y' :: .int x' :: st))) := by
  subst hpn
  by_cases k : y' < x'
  · exact own_st (fun _ q => XS.icmpNo X.here C.1 rfl (hb C.2.2.2.1 hd) rfl (((tlt k).2.2.2)) q) (hn (by rw [Int32.lt_iff_toInt_lt] at k; have q : y'.toInt = j := hj; omega))
  · exact own_st (fun _ q => XS.icmpYes X.here C.1 rfl rfl (hb C.2.2.2.1 hd) rfl (((flt k).2.2.2)) ho hp q) (hy (by rw [Int32.lt_iff_toInt_lt] at k; have q : y'.toInt = j := hj; omega))
theorem own_icmpeq (X : Stand p l e R s m args below meth c T locs cells slots) (C : OwnCx p s m meth c Z y bs maxL rt) {x' y' : Int32} {o : Int} (hd : decode bs pc = .ok (.if_icmp .eq o, 3)) (pn pc' : Nat) (hpn : pc + 3 = pn) (ho : 0 ≤ (pc : Int) + o) (hp : ((pc : Int) + o).toNat = pc') {i : Int} (hi : x'.toInt = i) {j : Int} (hj : y'.toInt = j) 
    (hy : i = j → OwnEnds p e below G (T.setTop (mkF m pc' Ls st))) (hn : i ≠ j → OwnEnds p e below G (T.setTop (mkF m pn Ls st))) : OwnEnds p e below G (T.setTop (mkF m pc Ls (.int y' :: .int x' :: st))) := by
  subst hpn
  by_cases k : x' = y'
  · exact own_st (fun _ q => XS.icmpYes X.here C.1 rfl rfl (hb C.2.2.2.1 hd) rfl (((teq k).1)) ho hp q) (hy (by subst k; exact hi.symm.trans hj))
  · exact own_st (fun _ q => XS.icmpNo X.here C.1 rfl (hb C.2.2.2.1 hd) rfl (((feq k).1)) q) (hn (fun q => k (Int32.toInt_inj.mp (hi.trans (q.trans hj.symm)))))
theorem own_icmpne (X : Stand p l e R s m args below meth c T locs cells slots) (C : OwnCx p s m meth c Z y bs maxL rt) {x' y' : Int32} {o : Int} (hd : decode bs pc = .ok (.if_icmp .ne o, 3)) (pn pc' : Nat) (hpn : pc + 3 = pn) (ho : 0 ≤ (pc : Int) + o) (hp : ((pc : Int) + o).toNat = pc') {i : Int} (hi : x'.toInt = i) {j : Int} (hj : y'.toInt = j) 
    (hy : i ≠ j → OwnEnds p e below G (T.setTop (mkF m pc' Ls st))) (hn : i = j → OwnEnds p e below G (T.setTop (mkF m pn Ls st))) : OwnEnds p e below G (T.setTop (mkF m pc Ls (.int y' :: .int x' :: st))) := by
  subst hpn
  by_cases k : x' = y'
  · exact own_st (fun _ q => XS.icmpNo X.here C.1 rfl (hb C.2.2.2.1 hd) rfl (((teq k).2)) q) (hn (by subst k; exact hi.symm.trans hj))
  · exact own_st (fun _ q => XS.icmpYes X.here C.1 rfl rfl (hb C.2.2.2.1 hd) rfl (((feq k).2)) ho hp q) (hy (fun q => k (Int32.toInt_inj.mp (hi.trans (q.trans hj.symm)))))
theorem own_iflt (X : Stand p l e R s m args below meth c T locs cells slots) (C : OwnCx p s m meth c Z y bs maxL rt) {x' : Int32} {o : Int} (hd : decode bs pc = .ok (.ifCond .lt o, 3)) (pn pc' : Nat) (hpn : pc + 3 = pn) (ho : 0 ≤ (pc : Int) + o) (hp : ((pc : Int) + o).toNat = pc') {i : Int} (hi : x'.toInt = i) 
    (hy : i < 0 → OwnEnds p e below G (T.setTop (mkF m pc' Ls st))) (hn : 0 ≤ i → OwnEnds p e below G (T.setTop (mkF m pn Ls st))) : OwnEnds p e below G (T.setTop (mkF m pc Ls (.int x' :: st))) := by
  subst hpn
  by_cases k : x' < (0 : Int32)
  · exact own_st (fun _ q => XS.ifYes X.here C.1 rfl rfl (hb C.2.2.2.1 hd) rfl ((if0 _ _).trans ((tlt k).1)) ho hp q) (hy (by rw [Int32.lt_iff_toInt_lt] at k; have q : (0 : Int32).toInt = 0 := (rfl : (0 : Int32).toInt = 0); omega))
  · exact own_st (fun _ q => XS.ifNo X.here C.1 rfl (hb C.2.2.2.1 hd) rfl ((if0 _ _).trans ((flt k).1)) q) (hn (by rw [Int32.lt_iff_toInt_lt] at k; have q : (0 : Int32).toInt = 0 := (rfl : (0 : Int32).toInt = 0); omega))
theorem own_ifge (X : Stand p l e R s m args below meth c T locs cells slots) (C : OwnCx p s m meth c Z y bs maxL rt) {x' : Int32} {o : Int} (hd : decode bs pc = .ok (.ifCond .ge o, 3)) (pn pc' : Nat) (hpn : pc + 3 = pn) (ho : 0 ≤ (pc : Int) + o) (hp : ((pc : Int) + o).toNat = pc') {i : Int} (hi : x'.toInt = i) 
    (hy : 0 ≤ i → OwnEnds p e below G (T.setTop (mkF m pc' Ls st))) (hn : i < 0 → OwnEnds p e below G (T.setTop (mkF m pn Ls st))) : OwnEnds p e below G (T.setTop (mkF m pc Ls (.int x' :: st))) := by
  subst hpn
  by_cases k : x' < (0 : Int32)
  · exact own_st (fun _ q => XS.ifNo X.here C.1 rfl (hb C.2.2.2.1 hd) rfl ((if0 _ _).trans ((tlt k).2.1)) q) (hn (by rw [Int32.lt_iff_toInt_lt] at k; have q : (0 : Int32).toInt = 0 := (rfl : (0 : Int32).toInt = 0); omega))
  · exact own_st (fun _ q => XS.ifYes X.here C.1 rfl rfl (hb C.2.2.2.1 hd) rfl ((if0 _ _).trans ((flt k).2.1)) ho hp q) (hy (by rw [Int32.lt_iff_toInt_lt] at k; have q : (0 : Int32).toInt = 0 := (rfl : (0 : Int32).toInt = 0); omega))
theorem own_ifgt (X : Stand p l e R s m args below meth c T locs cells slots) (C : OwnCx p s m meth c Z y bs maxL rt) {x' : Int32} {o : Int} (hd : decode bs pc = .ok (.ifCond .gt o, 3)) (pn pc' : Nat) (hpn : pc + 3 = pn) (ho : 0 ≤ (pc : Int) + o) (hp : ((pc : Int) + o).toNat = pc') {i : Int} (hi : x'.toInt = i) 
    (hy : 0 < i → OwnEnds p e below G (T.setTop (mkF m pc' Ls st))) (hn : i ≤ 0 → OwnEnds p e below G (T.setTop (mkF m pn Ls st))) : OwnEnds p e below G (T.setTop (mkF m pc Ls (.int x' :: st))) := by
  subst hpn
  by_cases k : (0 : Int32) < x'
  · exact own_st (fun _ q => XS.ifYes X.here C.1 rfl rfl (hb C.2.2.2.1 hd) rfl ((if0 _ _).trans ((tlt k).2.2.1)) ho hp q) (hy (by rw [Int32.lt_iff_toInt_lt] at k; have q : (0 : Int32).toInt = 0 := (rfl : (0 : Int32).toInt = 0); omega))
  · exact own_st (fun _ q => XS.ifNo X.here C.1 rfl (hb C.2.2.2.1 hd) rfl ((if0 _ _).trans ((flt k).2.2.1)) q) (hn (by rw [Int32.lt_iff_toInt_lt] at k; have q : (0 : Int32).toInt = 0 := (rfl : (0 : Int32).toInt = 0); omega))
theorem own_ifle (X : Stand p l e R s m args below meth c T locs cells slots) (C : OwnCx p s m meth c Z y bs maxL rt) {x' : Int32} {o : Int} (hd : decode bs pc = .ok (.ifCond .le o, 3)) (pn pc' : Nat) (hpn : pc + 3 = pn) (ho : 0 ≤ (pc : Int) + o) (hp : ((pc : Int) + o).toNat = pc') {i : Int} (hi : x'.toInt = i) 
    (hy : i ≤ 0 → OwnEnds p e below G (T.setTop (mkF m pc' Ls st))) (hn : 0 < i → OwnEnds p e below G (T.setTop (mkF m pn Ls st))) : OwnEnds p e below G (T.setTop (mkF m pc Ls (.int x' :: st))) := by
  subst hpn
  by_cases k : (0 : Int32) < x'
  · exact own_st (fun _ q => XS.ifNo X.here C.1 rfl (hb C.2.2.2.1 hd) rfl ((if0 _ _).trans ((tlt k).2.2.2)) q) (hn (by rw [Int32.lt_iff_toInt_lt] at k; have q : (0 : Int32).toInt = 0 := (rfl : (0 : Int32).toInt = 0); omega))
  · exact own_st (fun _ q => XS.ifYes X.here C.1 rfl rfl (hb C.2.2.2.1 hd) rfl ((if0 _ _).trans ((flt k).2.2.2)) ho hp q) (hy (by rw [Int32.lt_iff_toInt_lt] at k; have q : (0 : Int32).toInt = 0 := (rfl : (0 : Int32).toInt = 0); omega))
theorem own_ifeq (X : Stand p l e R s m args below meth c T locs cells slots) (C : OwnCx p s m meth c Z y bs maxL rt) {x' : Int32} {o : Int} (hd : decode bs pc = .ok (.ifCond .eq o, 3)) (pn pc' : Nat) (hpn : pc + 3 = pn) (ho : 0 ≤ (pc : Int) + o) (hp : ((pc : Int) + o).toNat = pc') {i : Int} (hi : x'.toInt = i) 
    (hy : i = 0 → OwnEnds p e below G (T.setTop (mkF m pc' Ls st))) (hn : i ≠ 0 → OwnEnds p e below G (T.setTop (mkF m pn Ls st))) : OwnEnds p e below G (T.setTop (mkF m pc Ls (.int x' :: st))) := by
  subst hpn
  by_cases k : x' = (0 : Int32)
  · exact own_st (fun _ q => XS.ifYes X.here C.1 rfl rfl (hb C.2.2.2.1 hd) rfl ((if0 _ _).trans ((teq k).1)) ho hp q) (hy (by subst k; exact hi.symm.trans (rfl : (0 : Int32).toInt = 0)))
  · exact own_st (fun _ q => XS.ifNo X.here C.1 rfl (hb C.2.2.2.1 hd) rfl ((if0 _ _).trans ((feq k).1)) q) (hn (fun q => k (Int32.toInt_inj.mp (hi.trans (q.trans (rfl : (0 : Int32).toInt = 0).symm)))))
theorem own_ifne (X : Stand p l e R s m args below meth c T locs cells slots) (C : OwnCx p s m meth c Z y bs maxL rt) {x' : Int32} {o : Int} (hd : decode bs pc = .ok (.ifCond .ne o, 3)) (pn pc' : Nat) (hpn : pc + 3 = pn) (ho : 0 ≤ (pc : Int) + o) (hp : ((pc : Int) + o).toNat = pc') {i : Int} (hi : x'.toInt = i) 
    (hy : i ≠ 0 → OwnEnds p e below G (T.setTop (mkF m pc' Ls st))) (hn : i = 0 → OwnEnds p e below G (T.setTop (mkF m pn Ls st))) : OwnEnds p e below G (T.setTop (mkF m pc Ls (.int x' :: st))) := by
  subst hpn
  by_cases k : x' = (0 : Int32)
  · exact own_st (fun _ q => XS.ifNo X.here C.1 rfl (hb C.2.2.2.1 hd) rfl ((if0 _ _).trans ((teq k).2)) q) (hn (by subst k; exact hi.symm.trans (rfl : (0 : Int32).toInt = 0)))
  · exact own_st (fun _ q => XS.ifYes X.here C.1 rfl rfl (hb C.2.2.2.1 hd) rfl ((if0 _ _).trans ((feq k).2)) ho hp q) (hy (fun q => k (Int32.toInt_inj.mp (hi.trans (q.trans (rfl : (0 : Int32).toInt = 0).symm)))))
theorem own_ifnonnull_y (X : Stand p l e R s m args below meth c T locs cells slots) (C : OwnCx p s m meth c Z y bs maxL rt) {b : Addr} {o : Int} (hd : decode bs pc = .ok (.ifnonnull o, 3)) (pc' : Nat) (ho : 0 ≤ (pc : Int) + o) (hp : ((pc : Int) + o).toNat = pc')
    (hr : OwnEnds p e below G (T.setTop (mkF m pc' Ls st))) : OwnEnds p e below G (T.setTop (mkF m pc Ls (.ref b :: st))) :=
  own_st (fun _ q => XS.ifnonnullYes X.here C.1 rfl rfl (hb C.2.2.2.1 hd) rfl ho hp q) hr
theorem own_ifnull_n (X : Stand p l e R s m args below meth c T locs cells slots) (C : OwnCx p s m meth c Z y bs maxL rt) {b : Addr} {o : Int} (hd : decode bs pc = .ok (.ifnull o, 3)) (pn : Nat) (hp : pc + 3 = pn)
    (hr : OwnEnds p e below G (T.setTop (mkF m pn Ls st))) : OwnEnds p e below G (T.setTop (mkF m pc Ls (.ref b :: st))) := by
  subst hp; exact own_st (fun _ q => XS.ifnullNo X.here C.1 rfl (hb C.2.2.2.1 hd) rfl q) hr
theorem own_ifnull_y (X : Stand p l e R s m args below meth c T locs cells slots) (C : OwnCx p s m meth c Z y bs maxL rt) {o : Int} (hd : decode bs pc = .ok (.ifnull o, 3)) (pc' : Nat) (ho : 0 ≤ (pc : Int) + o) (hp : ((pc : Int) + o).toNat = pc')
    (hr : OwnEnds p e below G (T.setTop (mkF m pc' Ls st))) : OwnEnds p e below G (T.setTop (mkF m pc Ls (.null :: st))) :=
  own_st (fun _ q => XS.ifnullYes X.here C.1 rfl rfl (hb C.2.2.2.1 hd) rfl ho hp q) hr
theorem own_ifnonnull_n (X : Stand p l e R s m args below meth c T locs cells slots) (C : OwnCx p s m meth c Z y bs maxL rt) {o : Int} (hd : decode bs pc = .ok (.ifnonnull o, 3)) (pn : Nat) (hp : pc + 3 = pn)
    (hr : OwnEnds p e below G (T.setTop (mkF m pn Ls st))) : OwnEnds p e below G (T.setTop (mkF m pc Ls (.null :: st))) := by
  subst hp; exact own_st (fun _ q => XS.ifnonnullNo X.here C.1 rfl (hb C.2.2.2.1 hd) rfl q) hr
theorem own_acmpeq (X : Stand p l e R s m args below meth c T locs cells slots) (C : OwnCx p s m meth c Z y bs maxL rt) {a b : Addr} {o : Int} (hd : decode bs pc = .ok (.if_acmp .eq o, 3)) (pn pc' : Nat) (hpn : pc + 3 = pn) (ho : 0 ≤ (pc : Int) + o) (hp : ((pc : Int) + o).toNat = pc')
    (hy : a = b → OwnEnds p e below G (T.setTop (mkF m pc' Ls st))) (hn : a ≠ b → OwnEnds p e below G (T.setTop (mkF m pn Ls st))) : OwnEnds p e below G (T.setTop (mkF m pc Ls (.ref b :: .ref a :: st))) := by
  subst hpn
  by_cases k : a = b
  · exact own_st (fun _ q => XS.acmpYes X.here C.1 rfl rfl (hb C.2.2.2.1 hd) rfl (by simp [if_acmp.holds, k]) ho hp q) (hy k)
  · exact own_st (fun _ q => XS.acmpNo X.here C.1 rfl (hb C.2.2.2.1 hd) rfl (by simp [if_acmp.holds, k]) q) (hn k)
theorem own_acmpne (X : Stand p l e R s m args below meth c T locs cells slots) (C : OwnCx p s m meth c Z y bs maxL rt) {a b : Addr} {o : Int} (hd : decode bs pc = .ok (.if_acmp .ne o, 3)) (pn pc' : Nat) (hpn : pc + 3 = pn) (ho : 0 ≤ (pc : Int) + o) (hp : ((pc : Int) + o).toNat = pc')
    (hy : a ≠ b → OwnEnds p e below G (T.setTop (mkF m pc' Ls st))) (hn : a = b → OwnEnds p e below G (T.setTop (mkF m pn Ls st))) : OwnEnds p e below G (T.setTop (mkF m pc Ls (.ref b :: .ref a :: st))) := by
  subst hpn
  by_cases k : a = b
  · exact own_st (fun _ q => XS.acmpNo X.here C.1 rfl (hb C.2.2.2.1 hd) rfl (by simp [if_acmp.holds, k]) q) (hn k)
  · exact own_st (fun _ q => XS.acmpYes X.here C.1 rfl rfl (hb C.2.2.2.1 hd) rfl (by simp [if_acmp.holds, k]) ho hp q) (hy k)
theorem own_leave (X : Stand p l e R s m args below meth c T locs cells slots) (C : OwnCx p s m meth c Z y bs maxL rt) (v : Option Value) (hv : meth.sig.returnType = none → v = none) (hce : cells ≤ ce) (hsl : slots ≤ sl) (hQ : Q v T.heap locs) {S : State}
    (k : ∀ fs, (∀ (f : JFrame) (acts : List Action), f.method = m → f.locked = none → f.entered = [] → (doReturn e (T.setTop f) acts v).1 = T.setFrames fs) → Steps p.tables e below S (T.setFrames fs)) : OwnEnds p e below (OwnG s ce sl Q) S := by
  obtain ⟨fs, hr, hrun, hended, hW, hsame⟩ := X.leave (v := v) hv C.2.2.2.2.2.2.1
  exact ⟨_, _, k fs hr, hrun, hended, _, _, rfl, hQ, ⟨_, rfl⟩, hW, hsame.mono hce hsl⟩
theorem own_return (X : Stand p l e R s m args below meth c T locs cells slots) (C : OwnCx p s m meth c Z y bs maxL rt) (hrt : rt = none) (hd : decode bs pc = .ok (.return_, 1)) (hce : cells ≤ ce) (hsl : slots ≤ sl) (hQ : Q none T.heap locs) : OwnEnds p e below (OwnG s ce sl Q) (T.setTop (mkF m pc Ls [])) := by
  subst hrt
  exact own_leave X C none (fun _ => rfl) hce hsl hQ fun fs hr => X.returnOut C.1 C.2.2.2.2.2.1 (hb C.2.2.2.1 hd) hr
theorem own_iretN (X : Stand p l e R s m args below meth c T locs cells slots) (C : OwnCx p s m meth c Z y bs maxL rt) {z : Int32} (t : FieldType) (hrt : rt = some t) (ht : t = .boolean ∨ t = .byte ∨ t = .char ∨ t = .short) (hd : decode bs pc = .ok (.ireturn, 1)) (hce : cells ≤ ce) (hsl : slots ≤ sl) (w : Int32) (hw : nar t z = w) (hQ : Q (some (.int w)) T.heap locs) : OwnEnds p e below (OwnG s ce sl Q) (T.setTop (mkF m pc Ls (.int z :: st))) := by
  subst hrt hw
  exact own_leave X C (some (.int (nar t z))) (fun q => by rw [C.2.2.2.2.2.1] at q; cases q) hce hsl hQ fun fs hr => retN X C.1 C.2.2.2.2.2.1 ht (hb C.2.2.2.1 hd) hr
theorem own_ireturn (X : Stand p l e R s m args below meth c T locs cells slots) (C : OwnCx p s m meth c Z y bs maxL rt) {z : Int32} (hrt : rt = some .int) (hd : decode bs pc = .ok (.ireturn, 1)) (hce : cells ≤ ce) (hsl : slots ≤ sl) (hQ : Q (some (.int z)) T.heap locs) : OwnEnds p e below (OwnG s ce sl Q) (T.setTop (mkF m pc Ls (.int z :: st))) := by
  subst hrt
  exact own_leave X C (some (.int z)) (fun q => by rw [C.2.2.2.2.2.1] at q; cases q) hce hsl hQ fun fs hr => retOut X C.1 C.2.2.2.2.2.1 rfl (Or.inl ⟨rfl, Or.inl rfl, z, rfl⟩) (hb C.2.2.2.1 hd) hr
theorem own_lreturn (X : Stand p l e R s m args below meth c T locs cells slots) (C : OwnCx p s m meth c Z y bs maxL rt) {z : Int64} (hrt : rt = some .long) (hd : decode bs pc = .ok (.lreturn, 1)) (hce : cells ≤ ce) (hsl : slots ≤ sl) (hQ : Q (some (.long z)) T.heap locs) : OwnEnds p e below (OwnG s ce sl Q) (T.setTop (mkF m pc Ls (.long z :: st))) := by
  subst hrt
  exact own_leave X C (some (.long z)) (fun q => by rw [C.2.2.2.2.2.1] at q; cases q) hce hsl hQ fun fs hr => retOut X C.1 C.2.2.2.2.2.1 rfl (Or.inr (Or.inl ⟨rfl, rfl, z, rfl⟩)) (hb C.2.2.2.1 hd) hr
theorem own_areturn (X : Stand p l e R s m args below meth c T locs cells slots) (C : OwnCx p s m meth c Z y bs maxL rt) {z : Value} (t : FieldType) (hrt : rt = some t) (ht : t.isReference = true) (hz : z.isRef = true) (hn : narrow t z = z) (hd : decode bs pc = .ok (.areturn, 1)) (hce : cells ≤ ce) (hsl : slots ≤ sl) (hQ : Q (some z) T.heap locs) : OwnEnds p e below (OwnG s ce sl Q) (T.setTop (mkF m pc Ls (z :: st))) := by
  subst hrt
  exact own_leave X C (some z) (fun q => by rw [C.2.2.2.2.2.1] at q; cases q) hce hsl hQ fun fs hr => retOut X C.1 C.2.2.2.2.2.1 hn (Or.inr (Or.inr (Or.inr (Or.inr ⟨rfl, ht, hz⟩)))) (hb C.2.2.2.1 hd) hr
theorem own_callS (X : Stand p l e R s m args below meth c T locs cells slots) (C : OwnCx p s m meth c Z y bs maxL rt) {idx : Nat} {y' : MethodName} {bs' : ByteArray} {maxL' : Nat} {rt' : Option FieldType} {rm : Room} {as' : Array Value} {Q' : Option Value → Heap → List Loc → Prop}
    (w1 : (Jvm.Cond.methodLink y.cls idx y').before a0 Z = true) (w2 : (Jvm.Cond.static y').before a0 Z = true) (w3 : (Jvm.Cond.initialized y'.cls).before a0 Z = true) (w4 : (Jvm.Cond.code y' bs' maxL' rt').before a0 Z = true) (hy : y'.cls ≠ "java/lang/invoke/MethodHandle" ∧ y'.cls ≠ "java/lang/invoke/VarHandle")
    (hM : OwnMet l Z y' bs' maxL' rt' [] rm as' h Q') (eT : T.heap = h) {ps : List FieldType} {r : Option FieldType} (hpd : parseMethodDescriptor y'.desc = some ⟨ps, r⟩) (argsL : List Value) (has : argsL.toArray = as') (hlen : argsL.length = ps.length) (hst : st = argsL.reverse ++ rest) (hsz : Ls.size = maxL)
    (W : Nat) (hW : (rest.map fun v => v.category).sum = W) (hf : rm.frames + 1 ≤ R.frames) (hlo : W + (maxL' + 11) + rm.locals ≤ R.locals) (hce : cells + rm.cells ≤ R.cells) (hsl : slots + rm.slots ≤ R.slots) (hd : decode bs pc = .ok (.invokestatic idx, 3)) (pc' : Nat) (hp : pc + 3 = pc')
    (hr : ∀ T' L v, Stand p l e R s m args below meth c T' (locs ++ L) (cells + rm.cells) (slots + rm.slots) → Q' v T'.heap L → OwnEnds p e below G (T'.setTop (mkF m pc' Ls (v.toList ++ rest)))) : OwnEnds p e below G (T.setTop (mkF m pc Ls st)) := by
  subst hp has hW
  obtain ⟨v, _, ⟨T', L, k, n⟩, -, X', ⟨L', hQ, l1, l2, l3⟩, stp⟩ := Jvm.LawKit.callS X C.1 C.2.2.1 (mvT C.2.1 w1) (mvT C.2.1 w2) (mvT C.2.1 w3) (mvT C.2.1 w4) hy (backOf (len := 3) (W := (rest.map fun v => v.category).sum) hM C.2.1 w4 w3 hf hlo) (g := mkF m pc Ls st) rfl (by rw [C.2.2.2.2.1]; exact hsz) (argsL := argsL) (rest := rest) (lenOf hpd hlen) hst (by show 2 * 0 + _ ≤ _; omega) (hb C.2.2.2.1 hd) (fun _ _ => ⟨rfl, eT, hce, hsl⟩)
  dsimp only [Pt.U, Pt.locs, Pt.cells, Pt.slots] at X' l1 l2 l3 stp hQ
  subst l1 l2 l3
  exact own_st stp (hr T' L' v X' hQ)
/-- a callee that returns w and leaves the heap alone -/
def OwnPure (w : Value) (h : Heap) : Option Value → Heap → List Loc → Prop := fun v h' L => v = some w ∧ h' = h ∧ L = []
theorem own_conv {ws : List Jvm.Cond} {rm : Room} {as' : Array Value} {w w' : Value} (H : OwnMet l Z y bs maxL rt ws rm as' h (OwnPure w h)) (q : w = w') : OwnMet l Z y bs maxL rt ws rm as' h (OwnPure w' h) := q ▸ H
theorem own_callP (X : Stand p l e R s m args below meth c T locs cells slots) (C : OwnCx p s m meth c Z y bs maxL rt) {idx : Nat} {y' : MethodName} {bs' : ByteArray} {maxL' : Nat} {rt' : Option FieldType} {rm : Room} {as' : Array Value} {w : Value}
    (w1 : (Jvm.Cond.methodLink y.cls idx y').before a0 Z = true) (w2 : (Jvm.Cond.static y').before a0 Z = true) (w3 : (Jvm.Cond.initialized y'.cls).before a0 Z = true) (w4 : (Jvm.Cond.code y' bs' maxL' rt').before a0 Z = true) (hy : y'.cls ≠ "java/lang/invoke/MethodHandle" ∧ y'.cls ≠ "java/lang/invoke/VarHandle")
    (hM : OwnMet l Z y' bs' maxL' rt' [] rm as' h (OwnPure w h)) (eT : T.heap = h) {ps : List FieldType} {r : Option FieldType} (hpd : parseMethodDescriptor y'.desc = some ⟨ps, r⟩) (argsL : List Value) (has : argsL.toArray = as') (hlen : argsL.length = ps.length) (hst : st = argsL.reverse ++ rest) (hsz : Ls.size = maxL)
    (W : Nat) (hW : (rest.map fun v => v.category).sum = W) (hf : rm.frames + 1 ≤ R.frames) (hlo : W + (maxL' + 11) + rm.locals ≤ R.locals) (hce : rm.cells = 0) (hsl : rm.slots = 0) (hc0 : cells ≤ R.cells) (hs0 : slots ≤ R.slots) (hd : decode bs pc = .ok (.invokestatic idx, 3)) (pc' : Nat) (hp : pc + 3 = pc')
    (hr : ∀ T', Stand p l e R s m args below meth c T' locs cells slots → T'.heap = h → OwnEnds p e below G (T'.setTop (mkF m pc' Ls (w :: rest)))) : OwnEnds p e below G (T.setTop (mkF m pc Ls st)) := by
  refine own_callS X C w1 w2 w3 w4 hy hM eT hpd argsL has hlen hst hsz W hW hf hlo (by omega) (by omega) hd pc' hp ?_
  rintro T' L v X' ⟨rfl, e, rfl⟩
  rw [List.append_nil, hce, hsl] at X'
  exact hr T' X' e
/-- a callee that leaves the heap alone and returns a value of which Pw says something -/
def OwnSome (Pw : Value → Prop) (h : Heap) : Option Value → Heap → List Loc → Prop := fun v h' L => (∃ w, v = some w ∧ Pw w) ∧ h' = h ∧ L = []
theorem own_callE (X : Stand p l e R s m args below meth c T locs cells slots) (C : OwnCx p s m meth c Z y bs maxL rt) {idx : Nat} {y' : MethodName} {bs' : ByteArray} {maxL' : Nat} {rt' : Option FieldType} {rm : Room} {as' : Array Value} {Pw : Value → Prop}
    (w1 : (Jvm.Cond.methodLink y.cls idx y').before a0 Z = true) (w2 : (Jvm.Cond.static y').before a0 Z = true) (w3 : (Jvm.Cond.initialized y'.cls).before a0 Z = true) (w4 : (Jvm.Cond.code y' bs' maxL' rt').before a0 Z = true) (hy : y'.cls ≠ "java/lang/invoke/MethodHandle" ∧ y'.cls ≠ "java/lang/invoke/VarHandle")
    (hM : OwnMet l Z y' bs' maxL' rt' [] rm as' h (OwnSome Pw h)) (eT : T.heap = h) {ps : List FieldType} {r : Option FieldType} (hpd : parseMethodDescriptor y'.desc = some ⟨ps, r⟩) (argsL : List Value) (has : argsL.toArray = as') (hlen : argsL.length = ps.length) (hst : st = argsL.reverse ++ rest) (hsz : Ls.size = maxL)
    (W : Nat) (hW : (rest.map fun v => v.category).sum = W) (hf : rm.frames + 1 ≤ R.frames) (hlo : W + (maxL' + 11) + rm.locals ≤ R.locals) (hce : rm.cells = 0) (hsl : rm.slots = 0) (hc0 : cells ≤ R.cells) (hs0 : slots ≤ R.slots) (hd : decode bs pc = .ok (.invokestatic idx, 3)) (pc' : Nat) (hp : pc + 3 = pc')
    (hr : ∀ T' w, Pw w → Stand p l e R s m args below meth c T' locs cells slots → T'.heap = h → OwnEnds p e below G (T'.setTop (mkF m pc' Ls (w :: rest)))) : OwnEnds p e below G (T.setTop (mkF m pc Ls st)) := by
  refine own_callS X C w1 w2 w3 w4 hy hM eT hpd argsL has hlen hst hsz W hW hf hlo (by omega) (by omega) hd pc' hp ?_
  rintro T' L v X' ⟨⟨w, rfl, hw⟩, e, rfl⟩
  rw [List.append_nil, hce, hsl] at X'
  exact hr T' w hw X' e
end OwnLayer
section OwnHeap
variable {p : Program} {l : Launch} {e : Env} {R : Room} {s : State} {m : MethodId} {args : Array Value} {below : List Frame} {meth : Method} {c : Code} {T : State} {locs : List Loc} {cells slots : Nat} {Z : State} {y : MethodName} {bs : ByteArray} {maxL : Nat} {rt : Option FieldType} {ce sl : Nat} {Q : Option Value → Heap → List Loc → Prop} {G : Outcome → State → Prop} {pc : Nat} {Ls : Array Slot} {st rest : List Value} {h h' : Heap} {a0 : Array Value} {a : Addr}
/-- an array: its length and what lies at each place -/
def OwnAr (Z : State) (h : Heap) (a : Addr) (ty : FieldType) (n : Nat) (f : Nat → Value) : Prop := ∃ cl : Cell, Arr Z h a cl ty ∧ cl.slots.size = n ∧ ∀ i, i < n → cl.slots[i]? = some (f i)
theorem OwnAr.lt {ty : FieldType} {n : Nat} {f : Nat → Value} (F : OwnAr Z h a ty n f) : a < h.size := by obtain ⟨cl, A, -⟩ := F; exact A.lt
theorem OwnAr.ext {ty : FieldType} {n : Nat} {f : Nat → Value} (F : OwnAr Z h a ty n f) (E : Ext h h') : OwnAr Z h' a ty n f := by obtain ⟨cl, A, r⟩ := F; exact ⟨cl, A.ext E, r⟩
theorem OwnAr.other {ty : FieldType} {n : Nat} {f : Nat → Value} {b : Addr} {sl : Nat} {v : Value} (F : OwnAr Z h a ty n f) (W : Wr h h' b sl v) (q : a ≠ b) : OwnAr Z h' a ty n f := by obtain ⟨cl, A, r⟩ := F; exact ⟨cl, A.other W q, r⟩
theorem OwnAr.keep {ty : FieldType} {n : Nat} {f : Nat → Value} {ws : List Addr} (F : OwnAr Z h a ty n f) (K : Keep h h' ws) (q : a ∉ ws) : OwnAr Z h' a ty n f := by obtain ⟨cl, A, r⟩ := F; exact ⟨cl, ⟨K.2.1 a cl A.1 q, A.2⟩, r⟩
theorem OwnAr.eqv {ty : FieldType} {n : Nat} {f g : Nat → Value} (F : OwnAr Z h a ty n f) (q : ∀ i, i < n → f i = g i) : OwnAr Z h a ty n g := by obtain ⟨cl, A, S, r⟩ := F; exact ⟨cl, A, S, fun i hi => by rw [r i hi, q i hi]⟩
theorem OwnAr.set {ty : FieldType} {n : Nat} {f : Nat → Value} {k : Nat} {v : Value} (F : OwnAr Z h a ty n f) (W : Wr h h' a k v) : OwnAr Z h' a ty n (fun i => if i = k then v else f i) := by
  obtain ⟨cl, A, S, r⟩ := F
  obtain ⟨cl', w1, w2, w3, w4⟩ := id W
  cases A.1.symm.trans w1
  refine ⟨cl.setSlot k v, A.same W, by rw [sz_set]; exact S, fun i hi => ?_⟩
  by_cases q : i = k
  · subst q; simp [Cell.setSlot, w3]
  · simp [Cell.setSlot, q, Array.getElem?_setIfInBounds_ne (Ne.symm q), r i hi]
theorem OwnAr.new {ty : FieldType} {n : Int32} {cA : ClassId} (A : Arr Z h a (newA cA ty n) ty) : OwnAr Z h a ty n.toNatClampNeg (fun _ => defaultValue ty) := ⟨_, A, sz_new _ _ _, fun i hi => by simp [newA, hi]⟩
theorem own_fr1 {k : Nat} {L : List Loc} {a : Addr} {sl : Nat} (N : Fr k L) (q : k ≤ a) : Fr k (L ++ [⟨a, sl⟩]) := N.app fun y hy => by cases List.mem_singleton.mp hy; exact q
theorem own_stak {C n d : String} {v : Value} (F : Sta Z h C n d v) (K : Keep h h' []) : Sta Z h' C n d v := by
  obtain ⟨cf, i, k, f, st, cell, h1, h2, h3, h4, h5, r⟩ := F
  exact ⟨cf, i, k, f, st, cell, h1, h2, h3, h4, K.2.1 _ _ h5 nin0, r⟩
theorem own_arl {a : Nat} {ty : FieldType} {n : Nat} {f : Nat → Value} (F : OwnAr Z h a ty n f) : a < h.size := F.lt
theorem own_exl {a : Nat} {K : String} (F : Exa Z h a K) : a < h.size := F.lt
theorem own_iteI {q : Prop} [Decidable q] {a b : Int32} : (if q then Value.int a else Value.int b) = Value.int (if q then a else b) := by split <;> rfl
theorem own_iteL {q : Prop} [Decidable q] {a b : Int64} : (if q then Value.long a else Value.long b) = Value.long (if q then a else b) := by split <;> rfl
theorem own_ne {x y : Nat} (q : x ≠ y) : @Ne Addr x y := q
theorem own_in {j : Int32} {n : Nat} (h0 : 0 ≤ j.toInt) (h1 : j.toInt < n) : ¬ (j < 0 ∨ n ≤ j.toNatClampNeg) := by
  rintro (q | q)
  · rw [Int32.lt_iff_toInt_lt] at q; have : (0 : Int32).toInt = 0 := rfl; omega
  · have e : j.toNatClampNeg = j.toInt.toNat := rfl
    omega
theorem own_len {n : Nat} (h : n < 2147483648) : (n.toInt32).toInt = n := by
  show (Int32.ofNat n).toInt = _
  rw [Int32.toInt_ofNat_of_lt (by omega)]
theorem own_iastore (X : Stand p l e R s m args below meth c T locs cells slots) (C : OwnCx p s m meth c Z y bs maxL rt) {v : Int32} {j : Int32} {n : Nat} {f : Nat → Value} (eT : T.heap = h) (F : OwnAr Z h a .int n f) (h0 : 0 ≤ j.toInt) (h1 : j.toInt < n) (hd : decode bs pc = .ok (.iastore, 1)) (pc' : Nat) (hp : pc + 1 = pc')
    (hr : ∀ T' h', Stand p l e R s m args below meth c T' (locs ++ [⟨a, j.toInt.toNat⟩]) cells slots → T'.heap = h' → Wr h h' a j.toInt.toNat (.int v) → OwnEnds p e below G (T'.setTop (mkF m pc' Ls st))) : OwnEnds p e below G (T.setTop (mkF m pc Ls ((.int v) :: .int j :: .ref a :: st))) := by
  subst hp
  obtain ⟨cl, A, S, r⟩ := F
  obtain ⟨T', h', X', e', W, stp⟩ := stI X C.1 C.2.1 eT A (j := j) (x := v) (by rw [S]; exact own_in h0 h1) (g := mkF m pc Ls _) rfl rfl (hb C.2.2.2.1 hd)
  exact own_st stp (hr T' h' X' e' W)
theorem own_lastore (X : Stand p l e R s m args below meth c T locs cells slots) (C : OwnCx p s m meth c Z y bs maxL rt) {v : Int64} {j : Int32} {n : Nat} {f : Nat → Value} (eT : T.heap = h) (F : OwnAr Z h a .long n f) (h0 : 0 ≤ j.toInt) (h1 : j.toInt < n) (hd : decode bs pc = .ok (.lastore, 1)) (pc' : Nat) (hp : pc + 1 = pc')
    (hr : ∀ T' h', Stand p l e R s m args below meth c T' (locs ++ [⟨a, j.toInt.toNat⟩]) cells slots → T'.heap = h' → Wr h h' a j.toInt.toNat (.long v) → OwnEnds p e below G (T'.setTop (mkF m pc' Ls st))) : OwnEnds p e below G (T.setTop (mkF m pc Ls ((.long v) :: .int j :: .ref a :: st))) := by
  subst hp
  obtain ⟨cl, A, S, r⟩ := F
  obtain ⟨T', h', X', e', W, stp⟩ := stJ X C.1 C.2.1 eT A (j := j) (x := v) (by rw [S]; exact own_in h0 h1) (g := mkF m pc Ls _) rfl rfl (hb C.2.2.2.1 hd)
  exact own_st stp (hr T' h' X' e' W)
theorem own_bastoreB (X : Stand p l e R s m args below meth c T locs cells slots) (C : OwnCx p s m meth c Z y bs maxL rt) {v : Int32} {j : Int32} {n : Nat} {f : Nat → Value} (eT : T.heap = h) (F : OwnAr Z h a .byte n f) (h0 : 0 ≤ j.toInt) (h1 : j.toInt < n) (hd : decode bs pc = .ok (.bastore, 1)) (pc' : Nat) (hp : pc + 1 = pc') (w : Int32) (hw : v.toInt8.toInt32 = w)
    (hr : ∀ T' h', Stand p l e R s m args below meth c T' (locs ++ [⟨a, j.toInt.toNat⟩]) cells slots → T'.heap = h' → Wr h h' a j.toInt.toNat (.int w) → OwnEnds p e below G (T'.setTop (mkF m pc' Ls st))) : OwnEnds p e below G (T.setTop (mkF m pc Ls (.int v :: .int j :: .ref a :: st))) := by
  subst hp hw
  obtain ⟨cl, A, S, r⟩ := F
  obtain ⟨T', h', X', e', W, stp⟩ := stB X C.1 C.2.1 eT A (j := j) (x := v) (by rw [S]; exact own_in h0 h1) (g := mkF m pc Ls _) rfl rfl (hb C.2.2.2.1 hd)
  exact own_st stp (hr T' h' X' e' W)
theorem own_castore (X : Stand p l e R s m args below meth c T locs cells slots) (C : OwnCx p s m meth c Z y bs maxL rt) {v : Int32} {j : Int32} {n : Nat} {f : Nat → Value} (eT : T.heap = h) (F : OwnAr Z h a .char n f) (h0 : 0 ≤ j.toInt) (h1 : j.toInt < n) (hd : decode bs pc = .ok (.castore, 1)) (pc' : Nat) (hp : pc + 1 = pc') (w : Int32) (hw : nar .char v = w)
    (hr : ∀ T' h', Stand p l e R s m args below meth c T' (locs ++ [⟨a, j.toInt.toNat⟩]) cells slots → T'.heap = h' → Wr h h' a j.toInt.toNat (.int w) → OwnEnds p e below G (T'.setTop (mkF m pc' Ls st))) : OwnEnds p e below G (T.setTop (mkF m pc Ls (.int v :: .int j :: .ref a :: st))) := by
  subst hp hw
  obtain ⟨cl, A, S, r⟩ := F
  obtain ⟨T', h', X', e', W, stp⟩ := stC X C.1 C.2.1 eT A (j := j) (x := v) (by rw [S]; exact own_in h0 h1) (g := mkF m pc Ls _) rfl rfl (hb C.2.2.2.1 hd)
  exact own_st stp (hr T' h' X' e' W)
theorem own_bastoreZ (X : Stand p l e R s m args below meth c T locs cells slots) (C : OwnCx p s m meth c Z y bs maxL rt) {v : Int32} {j : Int32} {n : Nat} {f : Nat → Value} (eT : T.heap = h) (F : OwnAr Z h a .boolean n f) (h0 : 0 ≤ j.toInt) (h1 : j.toInt < n) (hd : decode bs pc = .ok (.bastore, 1)) (pc' : Nat) (hp : pc + 1 = pc') (w : Int32) (hw : nar .boolean v = w)
    (hr : ∀ T' h', Stand p l e R s m args below meth c T' (locs ++ [⟨a, j.toInt.toNat⟩]) cells slots → T'.heap = h' → Wr h h' a j.toInt.toNat (.int w) → OwnEnds p e below G (T'.setTop (mkF m pc' Ls st))) : OwnEnds p e below G (T.setTop (mkF m pc Ls (.int v :: .int j :: .ref a :: st))) := by
  subst hp hw
  obtain ⟨cl, A, S, r⟩ := F
  obtain ⟨T', h', X', e', W, stp⟩ := stZ X C.1 C.2.1 eT A (j := j) (x := v) (by rw [S]; exact own_in h0 h1) (g := mkF m pc Ls _) rfl rfl (hb C.2.2.2.1 hd)
  exact own_st stp (hr T' h' X' e' W)
theorem own_iaload (X : Stand p l e R s m args below meth c T locs cells slots) (C : OwnCx p s m meth c Z y bs maxL rt) {j : Int32} {n : Nat} {f : Nat → Value} (eT : T.heap = h) (F : OwnAr Z h a .int n f) (h0 : 0 ≤ j.toInt) (h1 : j.toInt < n) (hd : decode bs pc = .ok (.iaload, 1)) (pc' : Nat) (hp : pc + 1 = pc') (v : Value) (hv : f j.toInt.toNat = v)
    (hr : OwnEnds p e below G (T.setTop (mkF m pc' Ls (v :: st)))) : OwnEnds p e below G (T.setTop (mkF m pc Ls (.int j :: .ref a :: st))) := by
  subst hp hv
  obtain ⟨cl, A, S, r⟩ := F
  exact own_st (fun _ q => X.iaload C.1 (j := j) (v := f j.toInt.toNat) (by rw [eT]; exact A.1) (State.isArrayOf_alike C.2.1.alike A.2.1) A.2.2 (by rw [S]; exact own_in h0 h1) (show cl.slots[j.toNatClampNeg]? = _ from r j.toInt.toNat (by omega)) (g := mkF m pc Ls _) rfl rfl (hb C.2.2.2.1 hd) _ q) hr
theorem own_laload (X : Stand p l e R s m args below meth c T locs cells slots) (C : OwnCx p s m meth c Z y bs maxL rt) {j : Int32} {n : Nat} {f : Nat → Value} (eT : T.heap = h) (F : OwnAr Z h a .long n f) (h0 : 0 ≤ j.toInt) (h1 : j.toInt < n) (hd : decode bs pc = .ok (.laload, 1)) (pc' : Nat) (hp : pc + 1 = pc') (v : Value) (hv : f j.toInt.toNat = v)
    (hr : OwnEnds p e below G (T.setTop (mkF m pc' Ls (v :: st)))) : OwnEnds p e below G (T.setTop (mkF m pc Ls (.int j :: .ref a :: st))) := by
  subst hp hv
  obtain ⟨cl, A, S, r⟩ := F
  exact own_st (fun _ q => X.laload C.1 (j := j) (v := f j.toInt.toNat) (by rw [eT]; exact A.1) (State.isArrayOf_alike C.2.1.alike A.2.1) A.2.2 (by rw [S]; exact own_in h0 h1) (show cl.slots[j.toNatClampNeg]? = _ from r j.toInt.toNat (by omega)) (g := mkF m pc Ls _) rfl rfl (hb C.2.2.2.1 hd) _ q) hr
theorem own_caload (X : Stand p l e R s m args below meth c T locs cells slots) (C : OwnCx p s m meth c Z y bs maxL rt) {j : Int32} {n : Nat} {f : Nat → Value} (eT : T.heap = h) (F : OwnAr Z h a .char n f) (h0 : 0 ≤ j.toInt) (h1 : j.toInt < n) (hd : decode bs pc = .ok (.caload, 1)) (pc' : Nat) (hp : pc + 1 = pc') (v : Value) (hv : f j.toInt.toNat = v)
    (hr : OwnEnds p e below G (T.setTop (mkF m pc' Ls (v :: st)))) : OwnEnds p e below G (T.setTop (mkF m pc Ls (.int j :: .ref a :: st))) := by
  subst hp hv
  obtain ⟨cl, A, S, r⟩ := F
  exact own_st (fun _ q => X.caload C.1 (j := j) (v := f j.toInt.toNat) (by rw [eT]; exact A.1) (State.isArrayOf_alike C.2.1.alike A.2.1) A.2.2 (by rw [S]; exact own_in h0 h1) (show cl.slots[j.toNatClampNeg]? = _ from r j.toInt.toNat (by omega)) (g := mkF m pc Ls _) rfl rfl (hb C.2.2.2.1 hd) _ q) hr
theorem own_baloadB (X : Stand p l e R s m args below meth c T locs cells slots) (C : OwnCx p s m meth c Z y bs maxL rt) {j : Int32} {n : Nat} {f : Nat → Value} (eT : T.heap = h) (F : OwnAr Z h a .byte n f) (h0 : 0 ≤ j.toInt) (h1 : j.toInt < n) (hd : decode bs pc = .ok (.baload, 1)) (pc' : Nat) (hp : pc + 1 = pc') (v : Value) (hv : f j.toInt.toNat = v)
    (hr : OwnEnds p e below G (T.setTop (mkF m pc' Ls (v :: st)))) : OwnEnds p e below G (T.setTop (mkF m pc Ls (.int j :: .ref a :: st))) := by
  subst hp hv
  obtain ⟨cl, A, S, r⟩ := F
  exact own_st (fun _ q => X.baloadBytes C.1 (j := j) (v := f j.toInt.toNat) (by rw [eT]; exact A.1) (State.isArrayOf_alike C.2.1.alike A.2.1) A.2.2 (by rw [S]; exact own_in h0 h1) (show cl.slots[j.toNatClampNeg]? = _ from r j.toInt.toNat (by omega)) (g := mkF m pc Ls _) rfl rfl (hb C.2.2.2.1 hd) _ q) hr
theorem own_baloadZ (X : Stand p l e R s m args below meth c T locs cells slots) (C : OwnCx p s m meth c Z y bs maxL rt) {j : Int32} {n : Nat} {f : Nat → Value} (eT : T.heap = h) (F : OwnAr Z h a .boolean n f) (h0 : 0 ≤ j.toInt) (h1 : j.toInt < n) (hd : decode bs pc = .ok (.baload, 1)) (pc' : Nat) (hp : pc + 1 = pc') (v : Value) (hv : f j.toInt.toNat = v)
    (hr : OwnEnds p e below G (T.setTop (mkF m pc' Ls (v :: st)))) : OwnEnds p e below G (T.setTop (mkF m pc Ls (.int j :: .ref a :: st))) := by
  subst hp hv
  obtain ⟨cl, A, S, r⟩ := F
  exact own_st (fun _ q => X.baloadBooleans C.1 (j := j) (v := f j.toInt.toNat) (by rw [eT]; exact A.1) (State.isArrayOf_alike C.2.1.alike A.2.1) A.2.2 (by rw [S]; exact own_in h0 h1) (show cl.slots[j.toNatClampNeg]? = _ from r j.toInt.toNat (by omega)) (g := mkF m pc Ls _) rfl rfl (hb C.2.2.2.1 hd) _ q) hr
theorem own_arraylength (X : Stand p l e R s m args below meth c T locs cells slots) (C : OwnCx p s m meth c Z y bs maxL rt) {ty : FieldType} {n : Nat} {f : Nat → Value} (eT : T.heap = h) (F : OwnAr Z h a ty n f) (hd : decode bs pc = .ok (.arraylength, 1)) (pc' : Nat) (hp : pc + 1 = pc') (hn : n < 2147483648)
    (hr : ∀ z : Int32, z.toInt = n → z = n.toInt32 → OwnEnds p e below G (T.setTop (mkF m pc' Ls (.int z :: st)))) : OwnEnds p e below G (T.setTop (mkF m pc Ls (.ref a :: st))) := by
  subst hp
  obtain ⟨cl, A, S, r⟩ := F
  have k := hr n.toInt32 (own_len hn) rfl
  rw [← S] at k
  exact own_st (fun _ q => X.arraylength C.1 (by rw [eT]; exact A.1) (State.isArrayOf_alike C.2.1.alike A.2.1) (g := mkF m pc Ls _) rfl rfl (hb C.2.2.2.1 hd) _ q) k
theorem own_newarray (X : Stand p l e R s m args below meth c T locs cells slots) (C : OwnCx p s m meth c Z y bs maxL rt) {aty : ArrayType} {n : Int32} (w : (Jvm.Cond.arrayClass (newarray.typeOf aty)).before a0 Z = true) (eT : T.heap = h) (hd : decode bs pc = .ok (.newarray aty, 2)) (pc' : Nat) (hp : pc + 2 = pc') (h0 : 0 ≤ n.toInt) (cap : Nat) (hcap : n.toInt ≤ cap) (hbig : cap * 8 ≤ 536870912) (hc : cells + 1 ≤ R.cells) (hl : slots + cap ≤ R.slots)
    (hr : ∀ T' h' b, b = h.size → Stand p l e R s m args below meth c T' locs (cells + 1) (slots + cap) → T'.heap = h' → Ext h h' → OwnAr Z h' b (newarray.typeOf aty) n.toInt.toNat (fun _ => defaultValue (newarray.typeOf aty)) → OwnEnds p e below G (T'.setTop (mkF m pc' Ls (.ref b :: st)))) : OwnEnds p e below G (T.setTop (mkF m pc Ls (.int n :: st))) := by
  subst hp
  have hn0 : ¬ n < 0 := fun q => by rw [Int32.lt_iff_toInt_lt] at q; have : (0 : Int32).toInt = 0 := rfl; omega
  obtain ⟨T', h', cA, X', e', E', A, stp⟩ := newP X C.1 C.2.1 w eT (g := mkF m pc Ls (.int n :: st)) rfl (hb C.2.2.2.1 hd) rfl hn0 (cap := cap) (by show n.toInt.toNat ≤ cap; omega) hbig hc hl
  exact own_st stp (hr T' h' _ rfl X' e' E' (OwnAr.new A))
theorem own_new (X : Stand p l e R s m args below meth c T locs cells slots) (C : OwnCx p s m meth c Z y bs maxL rt) {idx n : Nat} {K : String} (w : (Jvm.Cond.classLink y.cls idx K).before a0 Z = true) (wi : (Jvm.Cond.instantiable K n).before a0 Z = true) (wz : (Jvm.Cond.initialized K).before a0 Z = true) (eT : T.heap = h) (hd : decode bs pc = .ok (.new idx, 3)) (pc' : Nat) (hp : pc + 3 = pc') (hc : cells + 1 ≤ R.cells) (hl : slots + n ≤ R.slots)
    (hr : ∀ T' h' b, b = h.size → Stand p l e R s m args below meth c T' locs (cells + 1) (slots + n) → T'.heap = h' → Ext h h' → Exa Z h' b K → (∀ {O nm d : String} {ty : FieldType}, Laid Z a0 K O nm d → parseFieldDescriptor d = some ty → Fld Z h' b O nm d (defaultValue ty)) → OwnEnds p e below G (T'.setTop (mkF m pc' Ls (.ref b :: st)))) : OwnEnds p e below G (T.setTop (mkF m pc Ls st)) := by
  subst hp
  obtain ⟨T', h', X', e', E', A, D, -, stp⟩ := newO X C.1 C.2.1 C.2.2.1 w wi wz eT (g := mkF m pc Ls st) rfl (hb C.2.2.2.1 hd) hc hl
  exact own_st stp (hr T' h' _ rfl X' e' E' A D)
theorem own_getfield (X : Stand p l e R s m args below meth c T locs cells slots) (C : OwnCx p s m meth c Z y bs maxL rt) {idx : Nat} {R0 O n d host : String} {v : Value} (w : (Jvm.Cond.fieldLink y.cls idx R0 n d).before a0 Z = true ∨ (Jvm.Cond.fieldLinkNest y.cls idx R0 n d host).before a0 Z = true) (via : Via Z R0 O n d) (eT : T.heap = h) (F : Fld Z h a O n d v) (hd : decode bs pc = .ok (.getfield idx, 3)) (pc' : Nat) (hp : pc + 3 = pc')
    (hr : ∀ T', Stand p l e R s m args below meth c T' locs cells slots → T'.heap = h → OwnEnds p e below G (T'.setTop (mkF m pc' Ls (v :: st)))) : OwnEnds p e below G (T.setTop (mkF m pc Ls (.ref a :: st))) := by
  subst hp
  obtain ⟨T', X', e', stp⟩ := getF X C.1 C.2.1 C.2.2.1 w via eT F (g := mkF m pc Ls _) rfl rfl (hb C.2.2.2.1 hd)
  exact own_st stp (hr T' X' e')
theorem own_getstatic (X : Stand p l e R s m args below meth c T locs cells slots) (C : OwnCx p s m meth c Z y bs maxL rt) {idx : Nat} {R0 O n d host : String} {v : Value} (w : (Jvm.Cond.fieldLink y.cls idx R0 n d).before a0 Z = true ∨ (Jvm.Cond.fieldLinkNest y.cls idx R0 n d host).before a0 Z = true) (via : Via Z R0 O n d) (eT : T.heap = h) (F : Sta Z h O n d v) (hd : decode bs pc = .ok (.getstatic idx, 3)) (pc' : Nat) (hp : pc + 3 = pc')
    (hr : ∀ T', Stand p l e R s m args below meth c T' locs cells slots → T'.heap = h → OwnEnds p e below G (T'.setTop (mkF m pc' Ls (v :: st)))) : OwnEnds p e below G (T.setTop (mkF m pc Ls st)) := by
  subst hp
  obtain ⟨T', X', e', stp⟩ := getS2 X C.1 C.2.1 C.2.2.1 w via eT F (g := mkF m pc Ls st) rfl (hb C.2.2.2.1 hd)
  exact own_st stp (hr T' X' e')
theorem own_putfield (X : Stand p l e R s m args below meth c T locs cells slots) (C : OwnCx p s m meth c Z y bs maxL rt) {idx kk : Nat} {R0 O n d host K : String} {ty : FieldType} {v old : Value} (w : (Jvm.Cond.fieldLink y.cls idx R0 n d).before a0 Z = true ∨ (Jvm.Cond.fieldLinkNest y.cls idx R0 n d host).before a0 Z = true) (via : Via Z R0 O n d) (eT : T.heap = h) (F : Fld Z h a O n d old) (E : Exa Z h a K) (L : (Jvm.Cond.lays K O n d).before a0 Z = true ∨ ((Jvm.Cond.laysFinal K O n d).before a0 Z = true ∧ y.cls = O ∧ y.name = "<init>")) (wi : (Jvm.Cond.instantiable K kk).before a0 Z = true)
    (hty : parseFieldDescriptor d = some ty) (hn : narrow ty v = v) (hf : fits ty v = true) (hd : decode bs pc = .ok (.putfield idx, 3)) (pc' : Nat) (hp : pc + 3 = pc')
    (hr : ∀ T' h', Stand p l e R s m args below meth c T' (locs ++ [⟨a, Jvm.RoadKit.slotOf Z O n d⟩]) cells slots → T'.heap = h' → Wr h h' a (Jvm.RoadKit.slotOf Z O n d) v → OwnEnds p e below G (T'.setTop (mkF m pc' Ls st))) : OwnEnds p e below G (T.setTop (mkF m pc Ls (v :: .ref a :: st))) := by
  subst hp
  obtain ⟨T', h', X', e', W, stp⟩ := putF X C.1 C.2.1 C.2.2.1 w via eT F E (L.imp id fun q => ⟨q.1, q.2.1, C.2.2.2.2.2.2.2.trans q.2.2⟩) wi hty hn hf (g := mkF m pc Ls _) rfl rfl (hb C.2.2.2.1 hd)
  exact own_st stp (hr T' h' X' e' W)
theorem own_putfieldN (X : Stand p l e R s m args below meth c T locs cells slots) (C : OwnCx p s m meth c Z y bs maxL rt) {idx kk : Nat} {R0 O n d K : String} {ty : FieldType} {v v' old : Value} (w : (Jvm.Cond.fieldLink y.cls idx R0 n d).before a0 Z = true) (via : Via Z R0 O n d) (eT : T.heap = h) (F : Fld Z h a O n d old) (E : Exa Z h a K) (L : (Jvm.Cond.lays K O n d).before a0 Z = true ∨ ((Jvm.Cond.laysFinal K O n d).before a0 Z = true ∧ y.cls = O ∧ y.name = "<init>")) (wi : (Jvm.Cond.instantiable K kk).before a0 Z = true)
    (hty : parseFieldDescriptor d = some ty) (hn : narrow ty v = v') (hf : fits ty v' = true) (hd : decode bs pc = .ok (.putfield idx, 3)) (pc' : Nat) (hp : pc + 3 = pc')
    (hr : ∀ T' h', Stand p l e R s m args below meth c T' (locs ++ [⟨a, Jvm.RoadKit.slotOf Z O n d⟩]) cells slots → T'.heap = h' → Wr h h' a (Jvm.RoadKit.slotOf Z O n d) v' → OwnEnds p e below G (T'.setTop (mkF m pc' Ls st))) : OwnEnds p e below G (T.setTop (mkF m pc Ls (v :: .ref a :: st))) := by
  subst hp
  obtain ⟨T', h', X', e', W, stp⟩ := putFN X C.1 C.2.1 C.2.2.1 w via eT F E (L.imp id fun q => ⟨q.1, q.2.1, C.2.2.2.2.2.2.2.trans q.2.2⟩) wi hty hn hf (g := mkF m pc Ls _) rfl rfl (hb C.2.2.2.1 hd)
  exact own_st stp (hr T' h' X' e' W)
theorem own_initO (X : Stand p l e R s m args below meth c T locs cells slots) (C : OwnCx p s m meth c Z y bs maxL rt) {idx : Nat} (w1 : (Jvm.Cond.methodLink y.cls idx Lib.objectInit).before a0 Z = true) (w2 : (Jvm.Cond.instanceMethod Lib.objectInit).before a0 Z = true) (w3 : (Jvm.Cond.code Lib.objectInit object_method_1_code 1 none).before a0 Z = true) (eT : T.heap = h) (hsz : Ls.size = maxL) (hd : decode bs pc = .ok (.invokespecial idx, 3)) (pc' : Nat) (hp : pc + 3 = pc') (hf : 1 ≤ R.frames) (W : Nat) (hW : (st.map fun v => v.category).sum = W) (hl : W + 12 ≤ R.locals)
    (hr : ∀ T', Stand p l e R s m args below meth c T' locs cells slots → T'.heap = h → OwnEnds p e below G (T'.setTop (mkF m pc' Ls st))) : OwnEnds p e below G (T.setTop (mkF m pc Ls (.ref a :: st))) := by
  subst hp
  obtain ⟨T', X', e', stp⟩ := initO X C.1 C.2.1 C.2.2.1 w1 w2 w3 eT (g := mkF m pc Ls (.ref a :: st)) rfl (by rw [C.2.2.2.2.1]; exact hsz) (a := a) (rest := st) rfl (hb C.2.2.2.1 hd) hf (W := W) (by show 2 * 0 + _ ≤ _; omega) hl
  exact own_st stp (hr T' X' e')
theorem own_callI (X : Stand p l e R s m args below meth c T locs cells slots) (C : OwnCx p s m meth c Z y bs maxL rt) {idx : Nat} {y' : MethodName} {bs' : ByteArray} {maxL' : Nat} {rt' : Option FieldType} {rm : Room} {as' : Array Value} {Q' : Option Value → Heap → List Loc → Prop} (hrt' : rt' = none)
    (w1 : (Jvm.Cond.methodLink y.cls idx y').before a0 Z = true) (w2 : (Jvm.Cond.instanceMethod y').before a0 Z = true) (w3 : (Jvm.Cond.initialized y'.cls).before a0 Z = true) (w4 : (Jvm.Cond.code y' bs' maxL' rt').before a0 Z = true) (hy1 : y'.name = "<init>") (hy : y'.cls ≠ "java/lang/invoke/MethodHandle" ∧ y'.cls ≠ "java/lang/invoke/VarHandle")
    (hM : OwnMet l Z y' bs' maxL' rt' [] rm as' h Q') (eT : T.heap = h) {ps : List FieldType} {r : Option FieldType} (hpd : parseMethodDescriptor y'.desc = some ⟨ps, r⟩) (argsL : List Value) (has : (Value.ref a :: argsL).toArray = as') (hlen : argsL.length = ps.length) (hst : st = argsL.reverse ++ .ref a :: rest) (hsz : Ls.size = maxL)
    (W : Nat) (hW : (rest.map fun v => v.category).sum = W) (hf : rm.frames + 1 ≤ R.frames) (hlo : W + (maxL' + 11) + rm.locals ≤ R.locals) (hce : cells + rm.cells ≤ R.cells) (hsl : slots + rm.slots ≤ R.slots) (hd : decode bs pc = .ok (.invokespecial idx, 3)) (pc' : Nat) (hp : pc + 3 = pc')
    (hr : ∀ T' L v, Stand p l e R s m args below meth c T' (locs ++ L) (cells + rm.cells) (slots + rm.slots) → Q' v T'.heap L → OwnEnds p e below G (T'.setTop (mkF m pc' Ls (v.toList ++ rest)))) : OwnEnds p e below G (T.setTop (mkF m pc Ls st)) := by
  subst hp has hW hrt'
  obtain ⟨v, _, ⟨T', L, k, n⟩, -, X', ⟨L', hQ, l1, l2, l3⟩, stp⟩ := X.specialBack C.1 hy1 C.2.2.1 (mvT C.2.1 w1) (mvT C.2.1 w2) (mvT C.2.1 w4) hy (backOf (len := 3) (W := (rest.map fun v => v.category).sum) hM C.2.1 w4 w3 hf hlo) (g := mkF m pc Ls st) rfl (by rw [C.2.2.2.2.1]; exact hsz) (Steps.refl _) (a := a) (argsL := argsL) (rest := rest) (lenOf hpd hlen) hst (by show 2 * 0 + _ ≤ _; omega) (hb C.2.2.2.1 hd) (fun _ _ => ⟨rfl, eT, hce, hsl⟩)
  dsimp only [Pt.U, Pt.locs, Pt.cells, Pt.slots] at X' l1 l2 l3 stp hQ
  subst l1 l2 l3
  exact own_tr stp (hr T' L' v X' hQ)
theorem own_callV (X : Stand p l e R s m args below meth c T locs cells slots) (C : OwnCx p s m meth c Z y bs maxL rt) {idx : Nat} {K : String} {y' : MethodName} {bs' : ByteArray} {maxL' : Nat} {rt' : Option FieldType} {rm : Room} {as' : Array Value} {Q' : Option Value → Heap → List Loc → Prop}
    (w1 : (Jvm.Cond.methodLink y.cls idx y').before a0 Z = true) (wd : (Jvm.Cond.declares y').before a0 Z = true) (ws : (Jvm.Cond.selects K y' y').before a0 Z = true) (w2 : (Jvm.Cond.instanceMethod y').before a0 Z = true) (w3 : (Jvm.Cond.initialized y'.cls).before a0 Z = true) (w4 : (Jvm.Cond.code y' bs' maxL' rt').before a0 Z = true) (hy : y'.cls ≠ "java/lang/invoke/MethodHandle" ∧ y'.cls ≠ "java/lang/invoke/VarHandle") (E : Exa Z h a K)
    (hM : OwnMet l Z y' bs' maxL' rt' [] rm as' h Q') (eT : T.heap = h) {ps : List FieldType} {r : Option FieldType} (hpd : parseMethodDescriptor y'.desc = some ⟨ps, r⟩) (argsL : List Value) (has : (Value.ref a :: argsL).toArray = as') (hlen : argsL.length = ps.length) (hst : st = argsL.reverse ++ .ref a :: rest) (hsz : Ls.size = maxL)
    (W : Nat) (hW : (rest.map fun v => v.category).sum = W) (hf : rm.frames + 1 ≤ R.frames) (hlo : W + (maxL' + 11) + rm.locals ≤ R.locals) (hce : cells + rm.cells ≤ R.cells) (hsl : slots + rm.slots ≤ R.slots) (hd : decode bs pc = .ok (.invokevirtual idx, 3)) (pc' : Nat) (hp : pc + 3 = pc')
    (hr : ∀ T' L v, Stand p l e R s m args below meth c T' (locs ++ L) (cells + rm.cells) (slots + rm.slots) → Q' v T'.heap L → OwnEnds p e below G (T'.setTop (mkF m pc' Ls (v.toList ++ rest)))) : OwnEnds p e below G (T.setTop (mkF m pc Ls st)) := by
  subst hp has hW
  obtain ⟨cq, kq, qa, qb, qc⟩ := isOf C.2.1 eT E
  obtain ⟨v, _, ⟨T', L, k, n⟩, -, X', ⟨L', hQ, l1, l2, l3⟩, stp⟩ := X.virtualBack C.1 (y := y') (z := y') C.2.2.1 (mvT C.2.1 w1) (mvT C.2.1 wd) (notFace_of_selects (args := #[]) (mvT C.2.1 ws)) (mvT C.2.1 ws) (mvT C.2.1 w2) hy (backOf (len := 3) (W := (rest.map fun v => v.category).sum) hM C.2.1 w4 w3 hf hlo) qa qc (g := mkF m pc Ls st) rfl (by rw [C.2.2.2.2.1]; exact hsz) (Steps.refl _) (argsL := argsL) (rest := rest) (lenOf hpd hlen) hst (by show 2 * 0 + _ ≤ _; omega) (hb C.2.2.2.1 hd) (fun _ _ => ⟨rfl, eT, hce, hsl⟩)
  dsimp only [Pt.U, Pt.locs, Pt.cells, Pt.slots] at X' l1 l2 l3 stp hQ
  subst l1 l2 l3
  exact own_tr stp (hr T' L' v X' hQ)
theorem own_instY (X : Stand p l e R s m args below meth c T locs cells slots) (C : OwnCx p s m meth c Z y bs maxL rt) {idx : Nat} {K : String} (w : (Jvm.Cond.classLink y.cls idx K).before a0 Z = true) (eT : T.heap = h) (F : Ins Z h a K true) (hd : decode bs pc = .ok (.instanceof idx, 3)) (pc' : Nat) (hp : pc + 3 = pc')
    (hr : ∀ T', Stand p l e R s m args below meth c T' locs cells slots → T'.heap = h → OwnEnds p e below G (T'.setTop (mkF m pc' Ls (.int 1 :: st)))) : OwnEnds p e below G (T.setTop (mkF m pc Ls (.ref a :: st))) := by
  subst hp
  obtain ⟨T', X', e', stp⟩ := instY X C.1 C.2.1 C.2.2.1 w eT F (g := mkF m pc Ls _) rfl rfl (hb C.2.2.2.1 hd)
  exact own_st stp (hr T' X' e')
theorem own_castY (X : Stand p l e R s m args below meth c T locs cells slots) (C : OwnCx p s m meth c Z y bs maxL rt) {idx : Nat} {K : String} (w : (Jvm.Cond.classLink y.cls idx K).before a0 Z = true) (eT : T.heap = h) (F : Ins Z h a K true) (hd : decode bs pc = .ok (.checkcast idx, 3)) (pc' : Nat) (hp : pc + 3 = pc')
    (hr : ∀ T', Stand p l e R s m args below meth c T' locs cells slots → T'.heap = h → OwnEnds p e below G (T'.setTop (mkF m pc' Ls (.ref a :: st)))) : OwnEnds p e below G (T.setTop (mkF m pc Ls (.ref a :: st))) := by
  subst hp
  obtain ⟨T', X', e', stp⟩ := castY X C.1 C.2.1 C.2.2.1 w eT F (g := mkF m pc Ls (.ref a :: st)) rfl (rest := st) rfl (hb C.2.2.2.1 hd)
  exact own_st stp (hr T' X' e')
end OwnHeap
theorem own_w {Z : State} {a0 : Array Value} (hw : ∀ d ∈ tables_1, d.before a0 Z = true) (k : Nat) {d : Jvm.Cond} (q : tables_1[k]? = some d) : d.before a0 Z = true := hw _ (List.mem_of_getElem? q)
def own_h (G : Nat → Int32) (s : Nat) : Nat → Int32
  | 0 => (-2128831035)
  | k + 1 => (own_h G s k ^^^ (G (s + k) &&& 255)) * 16777619
theorem own_pn_Record : plainName "java/lang/Record" = true := by first | (simp [plainName, overriddenIn]; done) | decide +kernel
theorem own_pd__R_V : parseMethodDescriptor "()V" = some ⟨[], none⟩ := by decide +kernel
theorem own_d_jdk_30_method_1_code_0 : decode jdk_30_method_1_code 0 = .ok (.aload_n 0, 1) := by decide +kernel
theorem own_d_jdk_30_method_1_code_1 : decode jdk_30_method_1_code 1 = .ok (.invokespecial 1, 3) := by decide +kernel
theorem own_d_jdk_30_method_1_code_4 : decode jdk_30_method_1_code 4 = .ok (.return_, 1) := by decide +kernel
set_option maxRecDepth 65536 in
set_option maxHeartbeats 4000000 in
theorem own_ef_own_rm_record (m : MethodId) (oa0 : Nat) : entryFrame m #[(.ref oa0)] 1 = (mkF m 0 #[.val (.ref oa0)] []) := by first | (simp [entryFrame, mkF, argsToLocals, Value.category]; done) | rfl
set_option maxRecDepth 65536 in
set_option maxHeartbeats 4000000 in
theorem own_rm_record (l : Launch) (Z : State) (a0 : Array Value) (hw : ∀ d ∈ tables_1, d.before a0 Z = true) (oa0 : Nat) (h : Heap)  :
    OwnMet l Z (⟨"java/lang/Record", "<init>", "()V"⟩ : MethodName) jdk_30_method_1_code 1 none [] ({ frames := 1, cells := 0, slots := 0, locals := 12 } : Room) #[(.ref oa0)] h (fun v h' L => v = none ∧ h' = h ∧ L = []) := by
  refine own_enter (f0 := fun m => mkF m 0 #[.val (.ref oa0)] []) (plainFor_of_name own_pn_Record) (fun m => own_ef_own_rm_record m oa0) ?_
  intro p e s m below meth c T0 X0 C e0
  refine own_aload_n X0 C own_d_jdk_30_method_1_code_0 1 rfl rfl rfl ?_
  refine own_initO X0 C (own_w hw 13 rfl) (own_w hw 14 rfl) (own_w hw 15 rfl) e0 rfl own_d_jdk_30_method_1_code_1 4 rfl (by decide) 0 rfl (by decide) (fun T1 X1 e1 => ?_)
  refine own_return X1 C rfl own_d_jdk_30_method_1_code_4 (by decide) (by decide) ?_
  exact ⟨rfl, e1, rfl⟩
theorem own_pn_ByteRun : plainName "com/example/tinwire/tinwire/bytes/ByteRun" = true := by first | (simp [plainName, overriddenIn]; done) | decide +kernel
theorem own_pd_ABII_R_V : parseMethodDescriptor "([BII)V" = some ⟨[(.array .byte), .int, .int], none⟩ := by decide +kernel
theorem own_d_prog_8_method_1_code_0 : decode prog_8_method_1_code 0 = .ok (.aload_n 0, 1) := by decide +kernel
theorem own_d_prog_8_method_1_code_1 : decode prog_8_method_1_code 1 = .ok (.invokespecial 1, 3) := by decide +kernel
theorem own_d_prog_8_method_1_code_4 : decode prog_8_method_1_code 4 = .ok (.aload_n 0, 1) := by decide +kernel
theorem own_d_prog_8_method_1_code_5 : decode prog_8_method_1_code 5 = .ok (.aload_n 1, 1) := by decide +kernel
theorem own_d_prog_8_method_1_code_6 : decode prog_8_method_1_code 6 = .ok (.putfield 7, 3) := by decide +kernel
theorem own_d_prog_8_method_1_code_9 : decode prog_8_method_1_code 9 = .ok (.aload_n 0, 1) := by decide +kernel
theorem own_d_prog_8_method_1_code_10 : decode prog_8_method_1_code 10 = .ok (.iload_n 2, 1) := by decide +kernel
theorem own_d_prog_8_method_1_code_11 : decode prog_8_method_1_code 11 = .ok (.putfield 13, 3) := by decide +kernel
theorem own_d_prog_8_method_1_code_14 : decode prog_8_method_1_code 14 = .ok (.aload_n 0, 1) := by decide +kernel
theorem own_d_prog_8_method_1_code_15 : decode prog_8_method_1_code 15 = .ok (.iload_n 3, 1) := by decide +kernel
theorem own_d_prog_8_method_1_code_16 : decode prog_8_method_1_code 16 = .ok (.putfield 17, 3) := by decide +kernel
theorem own_d_prog_8_method_1_code_19 : decode prog_8_method_1_code 19 = .ok (.return_, 1) := by decide +kernel
set_option maxRecDepth 65536 in
set_option maxHeartbeats 4000000 in
theorem own_ef_own_rm_ctor (m : MethodId) (oa0 : Nat) (oa1 : Nat) (ia2 : Int32) (ia3 : Int32) : entryFrame m #[(.ref oa0), (.ref oa1), (.int ia2), (.int ia3)] 4 = (mkF m 0 #[.val (.ref oa0), .val (.ref oa1), .val (.int ia2), .val (.int ia3)] []) := by first | (simp [entryFrame, mkF, argsToLocals, Value.category]; done) | rfl
set_option maxRecDepth 65536 in
set_option maxHeartbeats 4000000 in
theorem own_rm_ctor (l : Launch) (Z : State) (a0 : Array Value) (hw : ∀ d ∈ tables_1, d.before a0 Z = true) (oa0 : Nat) (oa1 : Nat) (ia2 : Int32) (ia3 : Int32) (h : Heap) (n0 : Nat) (go : n0 ≤ oa0) (Eo : Exa Z h oa0 "com/example/tinwire/tinwire/bytes/ByteRun") (F_bytes : Fld Z h oa0 "com/example/tinwire/tinwire/bytes/ByteRun" "bytes" "[B" .null) (F_start : Fld Z h oa0 "com/example/tinwire/tinwire/bytes/ByteRun" "start" "I" (.int (0 : Int32))) (F_end : Fld Z h oa0 "com/example/tinwire/tinwire/bytes/ByteRun" "end" "I" (.int (0 : Int32))) :
    OwnMet l Z (⟨"com/example/tinwire/tinwire/bytes/ByteRun", "<init>", "([BII)V"⟩ : MethodName) prog_8_method_1_code 4 none [] ({ frames := 2, cells := 0, slots := 0, locals := 40 } : Room) #[(.ref oa0), (.ref oa1), (.int ia2), (.int ia3)] h (fun v h' L => v = none ∧ Fr n0 L ∧ Keep h h' [oa0] ∧ Exa Z h' oa0 "com/example/tinwire/tinwire/bytes/ByteRun" ∧ Fld Z h' oa0 "com/example/tinwire/tinwire/bytes/ByteRun" "bytes" "[B" (.ref oa1) ∧ Fld Z h' oa0 "com/example/tinwire/tinwire/bytes/ByteRun" "start" "I" (.int ia2) ∧ Fld Z h' oa0 "com/example/tinwire/tinwire/bytes/ByteRun" "end" "I" (.int ia3)) := by
  refine own_enter (f0 := fun m => mkF m 0 #[.val (.ref oa0), .val (.ref oa1), .val (.int ia2), .val (.int ia3)] []) (plainFor_of_name own_pn_ByteRun) (fun m => own_ef_own_rm_ctor m oa0 oa1 ia2 ia3) ?_
  intro p e s m below meth c T0 X0 C e0
  have Kp := Keep.refl h [oa0]
  refine own_aload_n X0 C own_d_prog_8_method_1_code_0 1 rfl rfl rfl ?_
  refine own_callI X0 C rfl (own_w hw 8 rfl) (own_w hw 9 rfl) (own_w hw 11 rfl) (own_w hw 12 rfl) rfl (by decide) (own_rm_record l Z a0 hw oa0 h) e0 own_pd__R_V [] rfl rfl rfl rfl 0 rfl (by decide) (by decide) (by decide) (by decide) own_d_prog_8_method_1_code_1 4 rfl (fun T1 L1 v1 X1 q1 => ?_)
  obtain ⟨rfl, eh1, rfl⟩ := q1
  have N1 := Fr.app (Fr.nil n0) (Fr.nil n0)
  refine own_aload_n X1 C own_d_prog_8_method_1_code_4 5 rfl rfl rfl ?_
  refine own_aload_n X1 C own_d_prog_8_method_1_code_5 6 rfl rfl rfl ?_
  refine own_putfield X1 C (host := "") (Or.inl (own_w hw 16 rfl)) Via.refl eh1 F_bytes Eo (Or.inr ⟨(own_w hw 17 rfl), rfl, rfl⟩) (own_w hw 3 rfl) (ty := (.array .byte)) (by decide) rfl rfl own_d_prog_8_method_1_code_6 9 rfl (fun T2 h2 X2 e2 W2 => ?_)
  have N2 := own_fr1 (sl := Jvm.RoadKit.slotOf Z "com/example/tinwire/tinwire/bytes/ByteRun" "bytes" "[B") N1 go
  replace Eo := Eo.wr W2
  replace F_bytes := F_bytes.same W2
  replace Kp := Kp.wr W2 (Or.inl (List.mem_singleton.mpr rfl))
  replace F_start := F_start.other W2 (Or.inr (slot_ne (Or.inr (own_w hw 19 rfl)) (Or.inr (own_w hw 17 rfl)) (by decide) (t := .int) (t' := (.array .byte)) (by decide) (by decide)))
  replace F_end := F_end.other W2 (Or.inr (slot_ne (Or.inr (own_w hw 21 rfl)) (Or.inr (own_w hw 17 rfl)) (by decide) (t := .int) (t' := (.array .byte)) (by decide) (by decide)))
  refine own_aload_n X2 C own_d_prog_8_method_1_code_9 10 rfl rfl rfl ?_
  refine own_iload_n X2 C own_d_prog_8_method_1_code_10 11 rfl rfl ?_
  refine own_putfield X2 C (host := "") (Or.inl (own_w hw 18 rfl)) Via.refl e2 F_start Eo (Or.inr ⟨(own_w hw 19 rfl), rfl, rfl⟩) (own_w hw 3 rfl) (ty := .int) (by decide) rfl rfl own_d_prog_8_method_1_code_11 14 rfl (fun T3 h3 X3 e3 W3 => ?_)
  have N3 := own_fr1 (sl := Jvm.RoadKit.slotOf Z "com/example/tinwire/tinwire/bytes/ByteRun" "start" "I") N2 go
  replace Eo := Eo.wr W3
  replace F_start := F_start.same W3
  replace Kp := Kp.wr W3 (Or.inl (List.mem_singleton.mpr rfl))
  replace F_bytes := F_bytes.other W3 (Or.inr (slot_ne (Or.inr (own_w hw 17 rfl)) (Or.inr (own_w hw 19 rfl)) (by decide) (t := (.array .byte)) (t' := .int) (by decide) (by decide)))
  replace F_end := F_end.other W3 (Or.inr (slot_ne (Or.inr (own_w hw 21 rfl)) (Or.inr (own_w hw 19 rfl)) (by decide) (t := .int) (t' := .int) (by decide) (by decide)))
  refine own_aload_n X3 C own_d_prog_8_method_1_code_14 15 rfl rfl rfl ?_
  refine own_iload_n X3 C own_d_prog_8_method_1_code_15 16 rfl rfl ?_
  refine own_putfield X3 C (host := "") (Or.inl (own_w hw 20 rfl)) Via.refl e3 F_end Eo (Or.inr ⟨(own_w hw 21 rfl), rfl, rfl⟩) (own_w hw 3 rfl) (ty := .int) (by decide) rfl rfl own_d_prog_8_method_1_code_16 19 rfl (fun T4 h4 X4 e4 W4 => ?_)
  have N4 := own_fr1 (sl := Jvm.RoadKit.slotOf Z "com/example/tinwire/tinwire/bytes/ByteRun" "end" "I") N3 go
  replace Eo := Eo.wr W4
  replace F_end := F_end.same W4
  replace Kp := Kp.wr W4 (Or.inl (List.mem_singleton.mpr rfl))
  replace F_bytes := F_bytes.other W4 (Or.inr (slot_ne (Or.inr (own_w hw 17 rfl)) (Or.inr (own_w hw 21 rfl)) (by decide) (t := (.array .byte)) (t' := .int) (by decide) (by decide)))
  replace F_start := F_start.other W4 (Or.inr (slot_ne (Or.inr (own_w hw 19 rfl)) (Or.inr (own_w hw 21 rfl)) (by decide) (t := .int) (t' := .int) (by decide) (by decide)))
  refine own_return X4 C rfl own_d_prog_8_method_1_code_19 (by decide) (by decide) ?_
  rw [e4]; exact ⟨rfl, N4, Kp, Eo, F_bytes, F_start, F_end⟩
theorem own_pd__R_I : parseMethodDescriptor "()I" = some ⟨[], some .int⟩ := by decide +kernel
theorem own_d_prog_8_method_3_code_0 : decode prog_8_method_3_code 0 = .ok (.ldc 26, 2) := by decide +kernel
theorem own_d_prog_8_method_3_code_2 : decode prog_8_method_3_code 2 = .ok (.istore_n 1, 1) := by decide +kernel
theorem own_d_prog_8_method_3_code_3 : decode prog_8_method_3_code 3 = .ok (.aload_n 0, 1) := by decide +kernel
theorem own_d_prog_8_method_3_code_4 : decode prog_8_method_3_code 4 = .ok (.getfield 13, 3) := by decide +kernel
theorem own_d_prog_8_method_3_code_7 : decode prog_8_method_3_code 7 = .ok (.istore_n 2, 1) := by decide +kernel
theorem own_d_prog_8_method_3_code_8 : decode prog_8_method_3_code 8 = .ok (.iload_n 2, 1) := by decide +kernel
theorem own_d_prog_8_method_3_code_9 : decode prog_8_method_3_code 9 = .ok (.aload_n 0, 1) := by decide +kernel
theorem own_d_prog_8_method_3_code_10 : decode prog_8_method_3_code 10 = .ok (.getfield 17, 3) := by decide +kernel
theorem own_d_prog_8_method_3_code_13 : decode prog_8_method_3_code 13 = .ok (.if_icmp .ge 25, 3) := by decide +kernel
theorem own_d_prog_8_method_3_code_16 : decode prog_8_method_3_code 16 = .ok (.iload_n 1, 1) := by decide +kernel
theorem own_d_prog_8_method_3_code_17 : decode prog_8_method_3_code 17 = .ok (.aload_n 0, 1) := by decide +kernel
theorem own_d_prog_8_method_3_code_18 : decode prog_8_method_3_code 18 = .ok (.getfield 7, 3) := by decide +kernel
theorem own_d_prog_8_method_3_code_21 : decode prog_8_method_3_code 21 = .ok (.iload_n 2, 1) := by decide +kernel
theorem own_d_prog_8_method_3_code_22 : decode prog_8_method_3_code 22 = .ok (.baload, 1) := by decide +kernel
theorem own_d_prog_8_method_3_code_23 : decode prog_8_method_3_code 23 = .ok (.sipush 255, 3) := by decide +kernel
theorem own_d_prog_8_method_3_code_26 : decode prog_8_method_3_code 26 = .ok (.iand, 1) := by decide +kernel
theorem own_d_prog_8_method_3_code_27 : decode prog_8_method_3_code 27 = .ok (.ixor, 1) := by decide +kernel
theorem own_d_prog_8_method_3_code_28 : decode prog_8_method_3_code 28 = .ok (.ldc 27, 2) := by decide +kernel
theorem own_d_prog_8_method_3_code_30 : decode prog_8_method_3_code 30 = .ok (.imul, 1) := by decide +kernel
theorem own_d_prog_8_method_3_code_31 : decode prog_8_method_3_code 31 = .ok (.istore_n 1, 1) := by decide +kernel
theorem own_d_prog_8_method_3_code_32 : decode prog_8_method_3_code 32 = .ok (.iinc 2 1, 3) := by decide +kernel
theorem own_d_prog_8_method_3_code_35 : decode prog_8_method_3_code 35 = .ok (.goto (-27), 3) := by decide +kernel
theorem own_d_prog_8_method_3_code_38 : decode prog_8_method_3_code 38 = .ok (.iload_n 1, 1) := by decide +kernel
theorem own_d_prog_8_method_3_code_39 : decode prog_8_method_3_code 39 = .ok (.ireturn, 1) := by decide +kernel
set_option maxRecDepth 65536 in
set_option maxHeartbeats 4000000 in
theorem own_ef_own_rm_hash (m : MethodId) (oa0 : Nat) : entryFrame m #[(.ref oa0)] 3 = (mkF m 0 #[.val (.ref oa0), .unset, .unset] []) := by first | (simp [entryFrame, mkF, argsToLocals, Value.category]; done) | rfl
set_option maxRecDepth 65536 in
set_option maxHeartbeats 4000000 in
theorem own_rm_hash (l : Launch) (Z : State) (a0 : Array Value) (hw : ∀ d ∈ tables_1, d.before a0 Z = true) (oa0 : Nat) (h : Heap) (b : Addr) (zs ze : Int32) (F_bytes : Fld Z h oa0 "com/example/tinwire/tinwire/bytes/ByteRun" "bytes" "[B" (.ref b)) (F_start : Fld Z h oa0 "com/example/tinwire/tinwire/bytes/ByteRun" "start" "I" (.int zs)) (F_end : Fld Z h oa0 "com/example/tinwire/tinwire/bytes/ByteRun" "end" "I" (.int ze)) (G : Nat → Int32) (A : OwnAr Z h b .byte 8 (fun i => .int (G i))) (s0 len : Nat) (h1 : zs.toInt = s0) (h2 : ze.toInt = s0 + len) (h3 : s0 + len ≤ 8) :
    OwnMet l Z (⟨"com/example/tinwire/tinwire/bytes/ByteRun", "hashCode", "()I"⟩ : MethodName) prog_8_method_3_code 3 (some .int) [] ({ frames := 0, cells := 0, slots := 0, locals := 0 } : Room) #[(.ref oa0)] h (OwnPure (.int (own_h G s0 len)) h) := by
  refine own_enter (f0 := fun m => mkF m 0 #[.val (.ref oa0), .unset, .unset] []) (plainFor_of_name own_pn_ByteRun) (fun m => own_ef_own_rm_hash m oa0) ?_
  intro p e s m below meth c T0 X0 C e0
  refine own_ldc X0 C (own_w hw 27 rfl) own_d_prog_8_method_3_code_0 2 rfl ?_
  refine own_istore_n X0 C own_d_prog_8_method_3_code_2 3 rfl #[.val (.ref oa0), .val (.int (-2128831035 : Int32)), .unset] rfl ?_
  refine own_aload_n X0 C own_d_prog_8_method_3_code_3 4 rfl rfl rfl ?_
  refine own_getfield X0 C (host := "") (Or.inl (own_w hw 18 rfl)) Via.refl e0 F_start own_d_prog_8_method_3_code_4 7 rfl (fun T1 X1 e1 => ?_)
  refine own_istore_n X1 C own_d_prog_8_method_3_code_7 8 rfl #[.val (.ref oa0), .val (.int (-2128831035 : Int32)), .val (.int zs)] rfl ?_
  have loop : ∀ r k, k + r = len → ∀ T, Stand p l e ({ frames := 0, cells := 0, slots := 0, locals := 0 } : Room) s m #[(.ref oa0)] below meth c T [] 0 0 → T.heap = h → ∀ vh vi : Int32, vh = own_h G s0 k → vi.toInt = s0 + k → OwnEnds p e below (OwnG s (({ frames := 0, cells := 0, slots := 0, locals := 0 } : Room)).cells (({ frames := 0, cells := 0, slots := 0, locals := 0 } : Room)).slots (OwnPure (.int (own_h G s0 len)) h)) (T.setTop (mkF m 8 #[.val (.ref oa0), .val (.int vh), .val (.int vi)] [])) := by
    intro r
    induction r with
    | zero =>
      intro k hk T X eT vh vi hvh hvi
      refine own_iload_n X C own_d_prog_8_method_3_code_8 9 rfl rfl ?_
      refine own_aload_n X C own_d_prog_8_method_3_code_9 10 rfl rfl rfl ?_
      refine own_getfield X C (host := "") (Or.inl (own_w hw 20 rfl)) Via.refl eT F_end own_d_prog_8_method_3_code_10 13 rfl (fun T2 X2 e2 => ?_)
      refine own_icmpge X2 C own_d_prog_8_method_3_code_13 16 38 rfl (by decide) (by decide) (i := vi.toInt) rfl (j := ze.toInt) rfl (fun b3 => ?_) (fun b3 => ?_)
      · refine own_iload_n X2 C own_d_prog_8_method_3_code_38 39 rfl rfl ?_
        refine own_ireturn X2 C rfl own_d_prog_8_method_3_code_39 (by decide) (by decide) ?_
        exact ⟨by rw [hvh, show k = len by omega], e2, rfl⟩
      · exfalso
        omega
    | succ r ih =>
      intro k hk T X eT vh vi hvh hvi
      refine own_iload_n X C own_d_prog_8_method_3_code_8 9 rfl rfl ?_
      refine own_aload_n X C own_d_prog_8_method_3_code_9 10 rfl rfl rfl ?_
      refine own_getfield X C (host := "") (Or.inl (own_w hw 20 rfl)) Via.refl eT F_end own_d_prog_8_method_3_code_10 13 rfl (fun T4 X4 e4 => ?_)
      refine own_icmpge X4 C own_d_prog_8_method_3_code_13 16 38 rfl (by decide) (by decide) (i := vi.toInt) rfl (j := ze.toInt) rfl (fun b5 => ?_) (fun b5 => ?_)
      · exfalso
        omega
      · refine own_iload_n X4 C own_d_prog_8_method_3_code_16 17 rfl rfl ?_
        refine own_aload_n X4 C own_d_prog_8_method_3_code_17 18 rfl rfl rfl ?_
        refine own_getfield X4 C (host := "") (Or.inl (own_w hw 16 rfl)) Via.refl e4 F_bytes own_d_prog_8_method_3_code_18 21 rfl (fun T6 X6 e6 => ?_)
        refine own_iload_n X6 C own_d_prog_8_method_3_code_21 22 rfl rfl ?_
        refine own_baloadB X6 C e6 A (by omega) (by omega) own_d_prog_8_method_3_code_22 23 rfl (.int (G (s0 + k))) (by show Value.int (G _) = _; rw [show vi.toInt.toNat = s0 + k by omega]) ?_
        refine own_sipush X6 C own_d_prog_8_method_3_code_23 26 rfl (255) rfl ?_
        refine own_iand X6 C own_d_prog_8_method_3_code_26 27 rfl (fun v1 ev1 => ?_)
        refine own_ixor X6 C own_d_prog_8_method_3_code_27 28 rfl (fun v2 ev2 => ?_)
        refine own_ldc X6 C (own_w hw 28 rfl) own_d_prog_8_method_3_code_28 30 rfl ?_
        refine own_imul X6 C own_d_prog_8_method_3_code_30 31 rfl (fun v3 ev3 => ?_)
        refine own_istore_n X6 C own_d_prog_8_method_3_code_31 32 rfl #[.val (.ref oa0), .val (.int v3), .val (.int vi)] rfl ?_
        refine own_iinc X6 C own_d_prog_8_method_3_code_32 35 rfl rfl (1) rfl (fun z => #[.val (.ref oa0), .val (.int v3), .val (.int z)]) (fun z => rfl) (fun v4 ev4 => ?_)
        refine own_goto X6 C own_d_prog_8_method_3_code_35 8 (by decide) (by decide) ?_
        refine ih (k + 1) (by omega) T6 X6 e6 _ _ ?_ ?_
        · rw [own_h, ← hvh]; subst_vars; rfl
        · have q := c_iadd vi 1
          rw [← ev4] at q
          have q1 : (1 : Int32).toInt = 1 := by decide
          have q2 := rng32 v4
          omega
  exact loop len 0 (by omega) T1 X1 e1 _ _ rfl (by omega)
theorem own_pn_ByteRunHashCodePinLaw : plainName "com/example/tinwire/tinwire/bytes/ByteRunHashCodePinLaw" = true := by first | (simp [plainName, overriddenIn]; done) | decide +kernel
theorem own_pd_IIII_R_Z : parseMethodDescriptor "(IIII)Z" = some ⟨[.int, .int, .int, .int], some .boolean⟩ := by decide +kernel
set_option maxRecDepth 65536 in
set_option maxHeartbeats 4000000 in
theorem own_ef_own_rm_law (m : MethodId) (ia0 : Int32) (ia1 : Int32) (ia2 : Int32) (ia3 : Int32) : entryFrame m #[(.int ia0), (.int ia1), (.int ia2), (.int ia3)] maxLocals = (mkF m 0 #[.val (.int ia0), .val (.int ia1), .val (.int ia2), .val (.int ia3), .unset, .unset, .unset, .unset, .unset, .unset, .unset, .unset, .unset, .unset, .unset, .unset] []) := by first | (simp [entryFrame, mkF, argsToLocals, Value.category, maxLocals]; done) | rfl
set_option maxRecDepth 65536 in
set_option maxHeartbeats 4000000 in
theorem own_rm_law (l : Launch) (Z : State) (a0 : Array Value) (hw : ∀ d ∈ tables_1, d.before a0 Z = true) (ia0 : Int32) (ia1 : Int32) (ia2 : Int32) (ia3 : Int32) (h : Heap)  :
    OwnMet l Z x code maxLocals ret tables_1 room_1 #[(.int ia0), (.int ia1), (.int ia2), (.int ia3)] h (fun v h' L => v = some (.int 1) ∧ Fr h.size L) := by
  refine own_enter (f0 := fun m => mkF m 0 #[.val (.int ia0), .val (.int ia1), .val (.int ia2), .val (.int ia3), .unset, .unset, .unset, .unset, .unset, .unset, .unset, .unset, .unset, .unset, .unset, .unset] []) (plainFor_of_name own_pn_ByteRunHashCodePinLaw) (fun m => own_ef_own_rm_law m ia0 ia1 ia2 ia3) ?_
  intro p e s m below meth c T0 X0 C e0
  refine own_bipush X0 C at_0 2 rfl (8) rfl ?_
  refine own_newarray X0 C (own_w hw 0 rfl) e0 at_2 4 rfl (by decide) 8 (by decide) (by decide) (by decide) (by decide) (fun T1 h1 b1 g1 X1 e1 E1 A1 => ?_)
  have gb : h.size ≤ b1 := Nat.le_of_eq g1.symm
  have Ar : OwnAr Z h1 b1 .byte 8 (fun i => .int ((fun _ => (0 : Int32)) i)) := A1
  obtain ⟨G, Ar⟩ : ∃ G : Nat → Int32, OwnAr Z h1 b1 .byte 8 (fun i => .int (G i)) := ⟨_, Ar⟩
  refine own_astore X1 C at_4 6 rfl rfl #[.val (.int ia0), .val (.int ia1), .val (.int ia2), .val (.int ia3), .val (.ref b1), .unset, .unset, .unset, .unset, .unset, .unset, .unset, .unset, .unset, .unset, .unset] rfl ?_
  refine own_aload X1 C at_6 8 rfl rfl rfl ?_
  refine own_iconst X1 C at_8 9 rfl (0) rfl ?_
  refine own_iload_n X1 C at_9 10 rfl rfl ?_
  refine own_i2b X1 C at_10 11 rfl (fun v1 ev1 => ?_)
  refine own_bastoreB X1 C e1 Ar (by decide) (by decide) at_11 12 rfl _ rfl (fun T2 h2 X2 e2 W2 => ?_)
  have N2 := own_fr1 (sl := ((0 : Int32)).toInt.toNat) (Fr.nil h.size) gb
  replace Ar : ∃ G : Nat → Int32, OwnAr Z h2 b1 .byte 8 (fun i => .int (G i)) := ⟨fun i => if i = 0 then v1.toInt8.toInt32 else G i, (Ar.set W2).eqv fun i _ => by by_cases q : i = 0 <;> simp [q]⟩
  obtain ⟨G, Ar⟩ := Ar
  refine own_aload X2 C at_12 14 rfl rfl rfl ?_
  refine own_iconst X2 C at_14 15 rfl (1) rfl ?_
  refine own_iload_n X2 C at_15 16 rfl rfl ?_
  refine own_bipush X2 C at_16 18 rfl (8) rfl ?_
  refine own_iushr X2 C at_18 19 rfl (fun v2 ev2 => ?_)
  refine own_i2b X2 C at_19 20 rfl (fun v3 ev3 => ?_)
  refine own_bastoreB X2 C e2 Ar (by decide) (by decide) at_20 21 rfl _ rfl (fun T3 h3 X3 e3 W3 => ?_)
  have N3 := own_fr1 (sl := ((1 : Int32)).toInt.toNat) N2 gb
  replace Ar : ∃ G : Nat → Int32, OwnAr Z h3 b1 .byte 8 (fun i => .int (G i)) := ⟨fun i => if i = 1 then v3.toInt8.toInt32 else G i, (Ar.set W3).eqv fun i _ => by by_cases q : i = 1 <;> simp [q]⟩
  obtain ⟨G, Ar⟩ := Ar
  refine own_aload X3 C at_21 23 rfl rfl rfl ?_
  refine own_iconst X3 C at_23 24 rfl (2) rfl ?_
  refine own_iload_n X3 C at_24 25 rfl rfl ?_
  refine own_bipush X3 C at_25 27 rfl (16) rfl ?_
  refine own_iushr X3 C at_27 28 rfl (fun v4 ev4 => ?_)
  refine own_i2b X3 C at_28 29 rfl (fun v5 ev5 => ?_)
  refine own_bastoreB X3 C e3 Ar (by decide) (by decide) at_29 30 rfl _ rfl (fun T4 h4 X4 e4 W4 => ?_)
  have N4 := own_fr1 (sl := ((2 : Int32)).toInt.toNat) N3 gb
  replace Ar : ∃ G : Nat → Int32, OwnAr Z h4 b1 .byte 8 (fun i => .int (G i)) := ⟨fun i => if i = 2 then v5.toInt8.toInt32 else G i, (Ar.set W4).eqv fun i _ => by by_cases q : i = 2 <;> simp [q]⟩
  obtain ⟨G, Ar⟩ := Ar
  refine own_aload X4 C at_30 32 rfl rfl rfl ?_
  refine own_iconst X4 C at_32 33 rfl (3) rfl ?_
  refine own_iload_n X4 C at_33 34 rfl rfl ?_
  refine own_bipush X4 C at_34 36 rfl (24) rfl ?_
  refine own_iushr X4 C at_36 37 rfl (fun v6 ev6 => ?_)
  refine own_i2b X4 C at_37 38 rfl (fun v7 ev7 => ?_)
  refine own_bastoreB X4 C e4 Ar (by decide) (by decide) at_38 39 rfl _ rfl (fun T5 h5 X5 e5 W5 => ?_)
  have N5 := own_fr1 (sl := ((3 : Int32)).toInt.toNat) N4 gb
  replace Ar : ∃ G : Nat → Int32, OwnAr Z h5 b1 .byte 8 (fun i => .int (G i)) := ⟨fun i => if i = 3 then v7.toInt8.toInt32 else G i, (Ar.set W5).eqv fun i _ => by by_cases q : i = 3 <;> simp [q]⟩
  obtain ⟨G, Ar⟩ := Ar
  refine own_aload X5 C at_39 41 rfl rfl rfl ?_
  refine own_iconst X5 C at_41 42 rfl (4) rfl ?_
  refine own_iload_n X5 C at_42 43 rfl rfl ?_
  refine own_i2b X5 C at_43 44 rfl (fun v8 ev8 => ?_)
  refine own_bastoreB X5 C e5 Ar (by decide) (by decide) at_44 45 rfl _ rfl (fun T6 h6 X6 e6 W6 => ?_)
  have N6 := own_fr1 (sl := ((4 : Int32)).toInt.toNat) N5 gb
  replace Ar : ∃ G : Nat → Int32, OwnAr Z h6 b1 .byte 8 (fun i => .int (G i)) := ⟨fun i => if i = 4 then v8.toInt8.toInt32 else G i, (Ar.set W6).eqv fun i _ => by by_cases q : i = 4 <;> simp [q]⟩
  obtain ⟨G, Ar⟩ := Ar
  refine own_aload X6 C at_45 47 rfl rfl rfl ?_
  refine own_iconst X6 C at_47 48 rfl (5) rfl ?_
  refine own_iload_n X6 C at_48 49 rfl rfl ?_
  refine own_bipush X6 C at_49 51 rfl (8) rfl ?_
  refine own_iushr X6 C at_51 52 rfl (fun v9 ev9 => ?_)
  refine own_i2b X6 C at_52 53 rfl (fun v10 ev10 => ?_)
  refine own_bastoreB X6 C e6 Ar (by decide) (by decide) at_53 54 rfl _ rfl (fun T7 h7 X7 e7 W7 => ?_)
  have N7 := own_fr1 (sl := ((5 : Int32)).toInt.toNat) N6 gb
  replace Ar : ∃ G : Nat → Int32, OwnAr Z h7 b1 .byte 8 (fun i => .int (G i)) := ⟨fun i => if i = 5 then v10.toInt8.toInt32 else G i, (Ar.set W7).eqv fun i _ => by by_cases q : i = 5 <;> simp [q]⟩
  obtain ⟨G, Ar⟩ := Ar
  refine own_aload X7 C at_54 56 rfl rfl rfl ?_
  refine own_bipush X7 C at_56 58 rfl (6) rfl ?_
  refine own_iload_n X7 C at_58 59 rfl rfl ?_
  refine own_bipush X7 C at_59 61 rfl (16) rfl ?_
  refine own_iushr X7 C at_61 62 rfl (fun v11 ev11 => ?_)
  refine own_i2b X7 C at_62 63 rfl (fun v12 ev12 => ?_)
  refine own_bastoreB X7 C e7 Ar (by decide) (by decide) at_63 64 rfl _ rfl (fun T8 h8 X8 e8 W8 => ?_)
  have N8 := own_fr1 (sl := ((6 : Int32)).toInt.toNat) N7 gb
  replace Ar : ∃ G : Nat → Int32, OwnAr Z h8 b1 .byte 8 (fun i => .int (G i)) := ⟨fun i => if i = 6 then v12.toInt8.toInt32 else G i, (Ar.set W8).eqv fun i _ => by by_cases q : i = 6 <;> simp [q]⟩
  obtain ⟨G, Ar⟩ := Ar
  refine own_aload X8 C at_64 66 rfl rfl rfl ?_
  refine own_bipush X8 C at_66 68 rfl (7) rfl ?_
  refine own_iload_n X8 C at_68 69 rfl rfl ?_
  refine own_bipush X8 C at_69 71 rfl (24) rfl ?_
  refine own_iushr X8 C at_71 72 rfl (fun v13 ev13 => ?_)
  refine own_i2b X8 C at_72 73 rfl (fun v14 ev14 => ?_)
  refine own_bastoreB X8 C e8 Ar (by decide) (by decide) at_73 74 rfl _ rfl (fun T9 h9 X9 e9 W9 => ?_)
  have N9 := own_fr1 (sl := ((7 : Int32)).toInt.toNat) N8 gb
  replace Ar : ∃ G : Nat → Int32, OwnAr Z h9 b1 .byte 8 (fun i => .int (G i)) := ⟨fun i => if i = 7 then v14.toInt8.toInt32 else G i, (Ar.set W9).eqv fun i _ => by by_cases q : i = 7 <;> simp [q]⟩
  obtain ⟨G, Ar⟩ := Ar
  refine own_iload_n X9 C at_74 75 rfl rfl ?_
  refine own_ldc X9 C (own_w hw 1 rfl) at_75 77 rfl ?_
  refine own_iand X9 C at_77 78 rfl (fun v15 ev15 => ?_)
  refine own_bipush X9 C at_78 80 rfl (8) rfl ?_
  refine own_irem X9 C at_80 81 rfl (by decide) (fun v16 ev16 => ?_)
  have r1 := c_and ia2 2147483647 (by decide)
  rw [← ev15] at r1
  have r2 := (c_irem v15 8 8 (by decide)).1 r1.1
  rw [← ev16] at r2
  refine own_istore X9 C at_81 83 rfl #[.val (.int ia0), .val (.int ia1), .val (.int ia2), .val (.int ia3), .val (.ref b1), .val (.int v16), .unset, .unset, .unset, .unset, .unset, .unset, .unset, .unset, .unset, .unset] rfl ?_
  refine own_iload_n X9 C at_83 84 rfl rfl ?_
  refine own_ldc X9 C (own_w hw 1 rfl) at_84 86 rfl ?_
  refine own_iand X9 C at_86 87 rfl (fun v17 ev17 => ?_)
  refine own_bipush X9 C at_87 89 rfl (8) rfl ?_
  refine own_iload X9 C at_89 91 rfl rfl ?_
  refine own_isub X9 C at_91 92 rfl (fun v18 ev18 => ?_)
  have r3 := c_and ia3 2147483647 (by decide)
  rw [← ev17] at r3
  have r4 := c_isub 8 v16
  rw [← ev18] at r4
  have r5 : (8 : Int32).toInt = 8 := by decide
  have r6 := rng32 v18
  have r7 : v18.toInt = 8 - v16.toInt := by omega
  have hnz : v18 ≠ 0 := own_nz32 (by omega)
  refine own_irem X9 C at_92 93 rfl hnz (fun v19 ev19 => ?_)
  have r8 := (c_iremV v17 v18).1 r3.1 (by omega)
  rw [← ev19] at r8
  refine own_istore X9 C at_93 95 rfl #[.val (.int ia0), .val (.int ia1), .val (.int ia2), .val (.int ia3), .val (.ref b1), .val (.int v16), .val (.int v19), .unset, .unset, .unset, .unset, .unset, .unset, .unset, .unset, .unset] rfl ?_
  refine own_iload X9 C at_95 97 rfl rfl ?_
  refine own_iload X9 C at_97 99 rfl rfl ?_
  refine own_iadd X9 C at_99 100 rfl (fun v20 ev20 => ?_)
  have t1 := c_iadd v16 v19
  rw [← ev20] at t1
  have t2 := rng32 v20
  have t3 : v20.toInt = v16.toInt + v19.toInt := by omega
  obtain ⟨s0, hs0⟩ : ∃ n : Nat, (n : Int) = v16.toInt := ⟨v16.toInt.toNat, by omega⟩
  obtain ⟨ln, hln⟩ : ∃ n : Nat, (n : Int) = v19.toInt := ⟨v19.toInt.toNat, by omega⟩
  refine own_istore X9 C at_100 102 rfl #[.val (.int ia0), .val (.int ia1), .val (.int ia2), .val (.int ia3), .val (.ref b1), .val (.int v16), .val (.int v19), .val (.int v20), .unset, .unset, .unset, .unset, .unset, .unset, .unset, .unset] rfl ?_
  refine own_new X9 C (own_w hw 2 rfl) (own_w hw 3 rfl) (own_w hw 4 rfl) e9 at_102 105 rfl (by decide) (by decide) (fun T10 h10 b10 g10 X10 e10 E10 A10 D10 => ?_)
  have F1_bytes : Fld Z h10 b10 "com/example/tinwire/tinwire/bytes/ByteRun" "bytes" "[B" .null := D10 (Or.inr (own_w hw 17 rfl)) (ty := (.array .byte)) (by decide)
  have F1_start : Fld Z h10 b10 "com/example/tinwire/tinwire/bytes/ByteRun" "start" "I" (.int (0 : Int32)) := D10 (Or.inr (own_w hw 19 rfl)) (ty := .int) (by decide)
  have F1_end : Fld Z h10 b10 "com/example/tinwire/tinwire/bytes/ByteRun" "end" "I" (.int (0 : Int32)) := D10 (Or.inr (own_w hw 21 rfl)) (ty := .int) (by decide)
  have g_1 : h.size ≤ b10 := by have q := E10.1; have q1 := own_arl Ar; omega
  have nb_1 : b1 ≠ b10 := by have q1 := own_arl Ar; omega
  replace Ar := Ar.ext E10
  refine own_dup X10 C at_105 106 rfl rfl ?_
  refine own_aload X10 C at_106 108 rfl rfl rfl ?_
  refine own_iload X10 C at_108 110 rfl rfl ?_
  refine own_iload X10 C at_110 112 rfl rfl ?_
  refine own_callI X10 C rfl (own_w hw 5 rfl) (own_w hw 6 rfl) (own_w hw 4 rfl) (own_w hw 7 rfl) rfl (by decide) (own_rm_ctor l Z a0 hw b10 b1 v16 v16 h10 h.size g_1 A10 F1_bytes F1_start F1_end) e10 own_pd_ABII_R_V [(.ref b1), (.int v16), (.int v16)] rfl rfl rfl rfl 1 rfl (by decide) (by decide) (by decide) (by decide) at_112 115 rfl (fun T11 L11 v11 X11 q11 => ?_)
  obtain ⟨rfl, NL11, K11, E_1, F_1_bytes, F_1_start, F_1_end⟩ := q11
  have N11 := Fr.app N9 NL11
  replace Ar := Ar.keep K11 (ninS nb_1 nin0)
  refine own_astore X11 C at_115 117 rfl rfl #[.val (.int ia0), .val (.int ia1), .val (.int ia2), .val (.int ia3), .val (.ref b1), .val (.int v16), .val (.int v19), .val (.int v20), .val (.ref b10), .unset, .unset, .unset, .unset, .unset, .unset, .unset] rfl ?_
  refine own_new X11 C (own_w hw 2 rfl) (own_w hw 3 rfl) (own_w hw 4 rfl) rfl at_117 120 rfl (by decide) (by decide) (fun T12 h12 b12 g12 X12 e12 E12 A12 D12 => ?_)
  have F2_bytes : Fld Z h12 b12 "com/example/tinwire/tinwire/bytes/ByteRun" "bytes" "[B" .null := D12 (Or.inr (own_w hw 17 rfl)) (ty := (.array .byte)) (by decide)
  have F2_start : Fld Z h12 b12 "com/example/tinwire/tinwire/bytes/ByteRun" "start" "I" (.int (0 : Int32)) := D12 (Or.inr (own_w hw 19 rfl)) (ty := .int) (by decide)
  have F2_end : Fld Z h12 b12 "com/example/tinwire/tinwire/bytes/ByteRun" "end" "I" (.int (0 : Int32)) := D12 (Or.inr (own_w hw 21 rfl)) (ty := .int) (by decide)
  have g_2 : h.size ≤ b12 := by have q := E12.1; have q1 := own_arl Ar; omega
  have nb_2 : b1 ≠ b12 := by have q1 := own_arl Ar; omega
  replace Ar := Ar.ext E12
  have ne_1_2 : b10 ≠ b12 := by have q1 := own_exl E_1; omega
  replace E_1 := E_1.ext E12
  replace F_1_bytes := F_1_bytes.ext E12
  replace F_1_start := F_1_start.ext E12
  replace F_1_end := F_1_end.ext E12
  refine own_dup X12 C at_120 121 rfl rfl ?_
  refine own_aload X12 C at_121 123 rfl rfl rfl ?_
  refine own_iload X12 C at_123 125 rfl rfl ?_
  refine own_iload X12 C at_125 127 rfl rfl ?_
  refine own_callI X12 C rfl (own_w hw 5 rfl) (own_w hw 6 rfl) (own_w hw 4 rfl) (own_w hw 7 rfl) rfl (by decide) (own_rm_ctor l Z a0 hw b12 b1 v16 v20 h12 h.size g_2 A12 F2_bytes F2_start F2_end) e12 own_pd_ABII_R_V [(.ref b1), (.int v16), (.int v20)] rfl rfl rfl rfl 1 rfl (by decide) (by decide) (by decide) (by decide) at_127 130 rfl (fun T13 L13 v13 X13 q13 => ?_)
  obtain ⟨rfl, NL13, K13, E_2, F_2_bytes, F_2_start, F_2_end⟩ := q13
  have N13 := Fr.app N11 NL13
  replace Ar := Ar.keep K13 (ninS nb_2 nin0)
  replace E_1 := E_1.keep K13
  replace F_1_bytes := F_1_bytes.keep K13 (ninS ne_1_2 nin0)
  replace F_1_start := F_1_start.keep K13 (ninS ne_1_2 nin0)
  replace F_1_end := F_1_end.keep K13 (ninS ne_1_2 nin0)
  refine own_astore X13 C at_130 132 rfl rfl #[.val (.int ia0), .val (.int ia1), .val (.int ia2), .val (.int ia3), .val (.ref b1), .val (.int v16), .val (.int v19), .val (.int v20), .val (.ref b10), .val (.ref b12), .unset, .unset, .unset, .unset, .unset, .unset] rfl ?_
  refine own_new X13 C (own_w hw 2 rfl) (own_w hw 3 rfl) (own_w hw 4 rfl) rfl at_132 135 rfl (by decide) (by decide) (fun T14 h14 b14 g14 X14 e14 E14 A14 D14 => ?_)
  have F3_bytes : Fld Z h14 b14 "com/example/tinwire/tinwire/bytes/ByteRun" "bytes" "[B" .null := D14 (Or.inr (own_w hw 17 rfl)) (ty := (.array .byte)) (by decide)
  have F3_start : Fld Z h14 b14 "com/example/tinwire/tinwire/bytes/ByteRun" "start" "I" (.int (0 : Int32)) := D14 (Or.inr (own_w hw 19 rfl)) (ty := .int) (by decide)
  have F3_end : Fld Z h14 b14 "com/example/tinwire/tinwire/bytes/ByteRun" "end" "I" (.int (0 : Int32)) := D14 (Or.inr (own_w hw 21 rfl)) (ty := .int) (by decide)
  have g_3 : h.size ≤ b14 := by have q := E14.1; have q1 := own_arl Ar; omega
  have nb_3 : b1 ≠ b14 := by have q1 := own_arl Ar; omega
  replace Ar := Ar.ext E14
  have ne_1_3 : b10 ≠ b14 := by have q1 := own_exl E_1; omega
  replace E_1 := E_1.ext E14
  replace F_1_bytes := F_1_bytes.ext E14
  replace F_1_start := F_1_start.ext E14
  replace F_1_end := F_1_end.ext E14
  have ne_2_3 : b12 ≠ b14 := by have q1 := own_exl E_2; omega
  replace E_2 := E_2.ext E14
  replace F_2_bytes := F_2_bytes.ext E14
  replace F_2_start := F_2_start.ext E14
  replace F_2_end := F_2_end.ext E14
  refine own_dup X14 C at_135 136 rfl rfl ?_
  refine own_aload X14 C at_136 138 rfl rfl rfl ?_
  refine own_iload X14 C at_138 140 rfl rfl ?_
  refine own_iload X14 C at_140 142 rfl rfl ?_
  refine own_iconst X14 C at_142 143 rfl (1) rfl ?_
  refine own_iadd X14 C at_143 144 rfl (fun v21 ev21 => ?_)
  have t4 := c_iadd v20 1
  rw [← ev21] at t4
  have t5 := rng32 v21
  have t6 : (1 : Int32).toInt = 1 := by decide
  have t7 : v21.toInt = v20.toInt + 1 := by omega
  refine own_callI X14 C rfl (own_w hw 5 rfl) (own_w hw 6 rfl) (own_w hw 4 rfl) (own_w hw 7 rfl) rfl (by decide) (own_rm_ctor l Z a0 hw b14 b1 v16 v21 h14 h.size g_3 A14 F3_bytes F3_start F3_end) e14 own_pd_ABII_R_V [(.ref b1), (.int v16), (.int v21)] rfl rfl rfl rfl 1 rfl (by decide) (by decide) (by decide) (by decide) at_144 147 rfl (fun T15 L15 v15 X15 q15 => ?_)
  obtain ⟨rfl, NL15, K15, E_3, F_3_bytes, F_3_start, F_3_end⟩ := q15
  have N15 := Fr.app N13 NL15
  replace Ar := Ar.keep K15 (ninS nb_3 nin0)
  replace E_1 := E_1.keep K15
  replace F_1_bytes := F_1_bytes.keep K15 (ninS ne_1_3 nin0)
  replace F_1_start := F_1_start.keep K15 (ninS ne_1_3 nin0)
  replace F_1_end := F_1_end.keep K15 (ninS ne_1_3 nin0)
  replace E_2 := E_2.keep K15
  replace F_2_bytes := F_2_bytes.keep K15 (ninS ne_2_3 nin0)
  replace F_2_start := F_2_start.keep K15 (ninS ne_2_3 nin0)
  replace F_2_end := F_2_end.keep K15 (ninS ne_2_3 nin0)
  refine own_astore X15 C at_147 149 rfl rfl #[.val (.int ia0), .val (.int ia1), .val (.int ia2), .val (.int ia3), .val (.ref b1), .val (.int v16), .val (.int v19), .val (.int v20), .val (.ref b10), .val (.ref b12), .val (.ref b14), .unset, .unset, .unset, .unset, .unset] rfl ?_
  refine own_aload X15 C at_149 151 rfl rfl rfl ?_
  refine own_callV X15 C (own_w hw 22 rfl) (own_w hw 23 rfl) (own_w hw 25 rfl) (own_w hw 24 rfl) (own_w hw 4 rfl) (own_w hw 26 rfl) (by decide) E_1 (own_rm_hash l Z a0 hw b10 T15.heap b1 v16 v16 F_1_bytes F_1_start F_1_end G Ar s0 0 (by omega) (by omega) (by omega)) rfl own_pd__R_I [] rfl rfl rfl rfl 0 rfl (by decide) (by decide) (by decide) (by decide) at_151 154 rfl (fun T16 L16 v16 X16 q16 => ?_)
  obtain ⟨rfl, eh16, rfl⟩ := q16
  have N16 := Fr.app N15 (Fr.nil h.size)
  refine own_istore X16 C at_154 156 rfl #[.val (.int ia0), .val (.int ia1), .val (.int ia2), .val (.int ia3), .val (.ref b1), .val (.int v16), .val (.int v19), .val (.int v20), .val (.ref b10), .val (.ref b12), .val (.ref b14), .val (.int (own_h G s0 0)), .unset, .unset, .unset, .unset] rfl ?_
  refine own_aload X16 C at_156 158 rfl rfl rfl ?_
  refine own_callV X16 C (own_w hw 22 rfl) (own_w hw 23 rfl) (own_w hw 25 rfl) (own_w hw 24 rfl) (own_w hw 4 rfl) (own_w hw 26 rfl) (by decide) E_2 (own_rm_hash l Z a0 hw b12 T15.heap b1 v16 v20 F_2_bytes F_2_start F_2_end G Ar s0 ln (by omega) (by omega) (by omega)) eh16 own_pd__R_I [] rfl rfl rfl rfl 0 rfl (by decide) (by decide) (by decide) (by decide) at_158 161 rfl (fun T17 L17 v17 X17 q17 => ?_)
  obtain ⟨rfl, eh17, rfl⟩ := q17
  have N17 := Fr.app N16 (Fr.nil h.size)
  refine own_istore X17 C at_161 163 rfl #[.val (.int ia0), .val (.int ia1), .val (.int ia2), .val (.int ia3), .val (.ref b1), .val (.int v16), .val (.int v19), .val (.int v20), .val (.ref b10), .val (.ref b12), .val (.ref b14), .val (.int (own_h G s0 0)), .val (.int (own_h G s0 ln)), .unset, .unset, .unset] rfl ?_
  refine own_aload X17 C at_163 165 rfl rfl rfl ?_
  refine own_callV X17 C (own_w hw 22 rfl) (own_w hw 23 rfl) (own_w hw 25 rfl) (own_w hw 24 rfl) (own_w hw 4 rfl) (own_w hw 26 rfl) (by decide) E_3 (own_rm_hash l Z a0 hw b14 T15.heap b1 v16 v21 F_3_bytes F_3_start F_3_end G Ar s0 (ln + 1) (by omega) (by omega) (by omega)) eh17 own_pd__R_I [] rfl rfl rfl rfl 0 rfl (by decide) (by decide) (by decide) (by decide) at_165 168 rfl (fun T18 L18 v18 X18 q18 => ?_)
  obtain ⟨rfl, eh18, rfl⟩ := q18
  have N18 := Fr.app N17 (Fr.nil h.size)
  refine own_istore X18 C at_168 170 rfl #[.val (.int ia0), .val (.int ia1), .val (.int ia2), .val (.int ia3), .val (.ref b1), .val (.int v16), .val (.int v19), .val (.int v20), .val (.ref b10), .val (.ref b12), .val (.ref b14), .val (.int (own_h G s0 0)), .val (.int (own_h G s0 ln)), .val (.int (own_h G s0 (ln + 1))), .unset, .unset] rfl ?_
  refine own_iload X18 C at_170 172 rfl rfl ?_
  refine own_ldc X18 C (own_w hw 29 rfl) at_172 174 rfl ?_
  refine own_icmpne X18 C at_174 177 181 rfl (by decide) (by decide) (i := (own_h G s0 0).toInt) rfl (j := (-2128831035)) (by decide) (fun b19 => ?_) (fun b19 => ?_)
  · exfalso
    exact b19 (by rw [own_h]; decide)
  · refine own_iconst X18 C at_177 178 rfl (1) rfl ?_
    refine own_goto X18 C at_178 182 (by decide) (by decide) ?_
    refine own_istore X18 C at_182 184 rfl #[.val (.int ia0), .val (.int ia1), .val (.int ia2), .val (.int ia3), .val (.ref b1), .val (.int v16), .val (.int v19), .val (.int v20), .val (.ref b10), .val (.ref b12), .val (.ref b14), .val (.int (own_h G s0 0)), .val (.int (own_h G s0 ln)), .val (.int (own_h G s0 (ln + 1))), .val (.int (1 : Int32)), .unset] rfl ?_
    refine own_iload X18 C at_184 186 rfl rfl ?_
    refine own_iload X18 C at_186 188 rfl rfl ?_
    refine own_aload X18 C at_188 190 rfl rfl rfl ?_
    refine own_iload X18 C at_190 192 rfl rfl ?_
    refine own_baloadB X18 C eh18 Ar (by omega) (by omega) at_192 193 rfl (.int (G (s0 + ln))) (by show Value.int (G _) = _; rw [show v20.toInt.toNat = s0 + ln by omega]) ?_
    refine own_sipush X18 C at_193 196 rfl (255) rfl ?_
    refine own_iand X18 C at_196 197 rfl (fun v22 ev22 => ?_)
    refine own_ixor X18 C at_197 198 rfl (fun v23 ev23 => ?_)
    refine own_ldc X18 C (own_w hw 30 rfl) at_198 200 rfl ?_
    refine own_imul X18 C at_200 201 rfl (fun v24 ev24 => ?_)
    refine own_icmpne X18 C at_201 204 208 rfl (by decide) (by decide) (i := (own_h G s0 (ln + 1)).toInt) rfl (j := v24.toInt) rfl (fun b20 => ?_) (fun b20 => ?_)
    · exfalso
      apply b20
      rw [own_h]; subst_vars; rfl
    · refine own_iconst X18 C at_204 205 rfl (1) rfl ?_
      refine own_goto X18 C at_205 209 (by decide) (by decide) ?_
      refine own_istore X18 C at_209 211 rfl #[.val (.int ia0), .val (.int ia1), .val (.int ia2), .val (.int ia3), .val (.ref b1), .val (.int v16), .val (.int v19), .val (.int v20), .val (.ref b10), .val (.ref b12), .val (.ref b14), .val (.int (own_h G s0 0)), .val (.int (own_h G s0 ln)), .val (.int (own_h G s0 (ln + 1))), .val (.int (1 : Int32)), .val (.int (1 : Int32))] rfl ?_
      refine own_iload X18 C at_211 213 rfl rfl ?_
      refine own_ifeq X18 C at_213 216 225 rfl (by decide) (by decide) (i := 1) (by decide) (fun b21 => ?_) (fun b21 => ?_)
      · exfalso
        omega
      · refine own_iload X18 C at_216 218 rfl rfl ?_
        refine own_ifeq X18 C at_218 221 225 rfl (by decide) (by decide) (i := 1) (by decide) (fun b22 => ?_) (fun b22 => ?_)
        · exfalso
          omega
        · refine own_iconst X18 C at_221 222 rfl (1) rfl ?_
          refine own_goto X18 C at_222 226 (by decide) (by decide) ?_
          refine own_iretN X18 C .boolean rfl (by simp) at_226 (by decide) (by decide) (1) (by decide) ?_
          exact ⟨rfl, N18⟩
set_option maxRecDepth 65536 in
set_option maxHeartbeats 4000000 in
theorem own_comes_1 {Post : Tables → Env → Array Value → State → Outcome → State → Prop} (hpost : ∀ tb e args s v u, (limb_1_1.after args s (.returned v) u = true ∧ limb_1_2.after args s (.returned v) u = true ∧ True) → FrameEnd s (.returned v) u (Jvm.fieldLocs frame_1_writes args s ++ Jvm.arrayLocs frame_1_arrays args s ++ Jvm.staticLocs frame_1_statics s) 16 128 → Post tb e args s (.returned v) u) :
    ArmFor flags0 classFile x code maxLocals ret World_1 tables_1 room_1 Calls_1 rest_1 Pre_1 Post := by
  intro l hfl _ _ p e ha hc hk s m args below hf hA hF happ hP
  obtain ⟨hcalls, hrest, hpre⟩ := hP
  obtain ⟨-, -, -, hnamed, -, -, -, hat⟩ := (Spec.applies_iff hf).mp happ
  obtain ⟨hg, hn⟩ := and_e (Cond.before_iff.mp (show (Jvm.Cond.and given_1 narrow_1).before args s = true from hpre))
  obtain ⟨g0, g0r⟩ := and_e hg
  obtain ⟨g1, g1r⟩ := and_e g0r
  obtain ⟨g2, g2r⟩ := and_e g1r
  obtain ⟨g3, g3r⟩ := and_e g2r
  obtain ⟨w0, w1, w2, w3, rfl⟩ : ∃ w0 w1 w2 w3 : Value, args = #[w0, w1, w2, w3] := by
    have hs : args.size = 4 := by simpa [Cond.value, given_1] using g0
    obtain ⟨L⟩ := args
    match L, hs with
    | [w0, w1, w2, w3], _ => exact ⟨w0, w1, w2, w3, rfl⟩
  have hw := fun d (hd : d ∈ tables_1) => atoms_spec (ws := Jvm.Cond.code x code maxLocals ret :: tables_1) hat d (List.mem_cons_of_mem _ hd)
  have hfit : Fit s := fun {y c} hc i hi => by
    obtain ⟨ha, rfl⟩ := Array.getElem?_eq_some_iff.mp hc
    have q := List.all_eq_true.mp ((Array.all_eq_true_iff_forall_mem.mp hF) _ (Array.getElem_mem ha)) i (List.mem_range.mpr hi)
    simpa [Array.getElem?_eq_getElem hi] using q
  obtain ⟨i0, q0⟩ := is_v g1
  obtain rfl : w0 = (.int i0) := Option.some.inj q0
  obtain ⟨i1, q1⟩ := is_v g2
  obtain rfl : w1 = (.int i1) := Option.some.inj q1
  obtain ⟨i2, q2⟩ := is_v g3
  obtain rfl : w2 = (.int i2) := Option.some.inj q2
  obtain ⟨i3, q3⟩ := is_v g3r
  obtain rfl : w3 = (.int i3) := Option.some.inj q3
  obtain ⟨n, o, h1, h2, h3, _, L, rfl, ⟨rfl, N⟩, hq⟩ := own_rm_law l s _ hw i0 i1 i2 i3 s.heap p e ha hc hk s m _ below hf ((Spec.applies_iff_loose hf).mp happ).1 ⟨rfl, State.Warmed39.refl s, rfl⟩ trivial
  refine ⟨n, _, h1, h2, h3, hpost _ _ _ _ _ _ ⟨Cond.after_iff.mpr rfl, Cond.after_iff.mpr (eq_i res_at (Term.int_eval (1)) rfl), trivial⟩ ⟨hq.1, hq.2.1, (hq.2.2.sift fun y hy => Or.inr (N y hy)).mono (by decide) (by decide)⟩⟩
theorem main_1_1 : Claimed_1_1 := own_comes_1 fun _ _ _ _ _ _ h hF => ⟨h.1, hF⟩
theorem main_1_2 : Claimed_1_2 := own_comes_1 fun _ _ _ _ _ _ h hF => ⟨h.2.1, hF⟩
end Jvm.Pilot.@@N@@
namespace Jvm.Pilot.@@N@@
open Jvm Jvm.ClassFile Sem Op Lib Jvm.Free Jvm.Stand Jvm.Pilot.@@N@@.Jvm.D
/-! MADE BY PROGRAM (witnessworld.py) out of the Statement's table words and the real class files: 11 classes; the members and pool entries that the words name. The judged class is class 1, her method 1. -/
namespace start1
open Jvm.ClassFile
def u (s : String) : CpInfo := .utf8 (stringToUtf16 s)
/-- a pool by its gaps: so many unusable entries, then the entry; so many at the end -/
def gap : Nat → List CpInfo → List CpInfo
  | 0, r => r
  | n + 1, r => .unusable :: gap n r
def poolList (es : List (Nat × CpInfo)) (last : Nat) : List CpInfo := es.foldr (fun e r => gap e.1 (e.2 :: r)) (gap last [])
def pool (es : List (Nat × CpInfo)) (last : Nat) : Array CpInfo := ⟨poolList es last⟩
def fileOf (pool : Array CpInfo) (this : Nat) (attrs : Array Attribute := #[]) (ms : Array MethodInfo := #[]) (fl : Nat := 33) (sup : Nat := 0) (ifs : Array Nat := #[]) (fds : Array FieldInfo := #[]) : ClassFile where
  minorVersion := 0
  majorVersion := 65
  constantPool := pool
  accessFlags := fl
  thisClass := this
  superClass := sup
  interfaces := ifs
  fields := fds
  methods := ms
  attributes := attrs
def plain (name : String) (sup : Option ClassId) : Class where
  name := name
  kind := .ordinary
  loader := none
  accessFlags := 33
  super := sup
  interfaces := #[]
  cf := none
  fields := #[]
  methods := #[]
  instanceTypes := #[]
  staticTypes := #[]
  resolved := #[]
  callSites := []
  init := .initialized
  statics := none
  mirror := none

def pool0 : Array CpInfo := pool [(5, u "<init>"), (0, u "()V"), (1, .class_ 10), (1, u "java/lang/Object")] 113

def k0c0 : Code := { maxStack := 0, maxLocals := 1, code := object_method_1_code, exceptionTable := #[], attributes := #[] }
def k0m0 : Method := { name := "<init>", desc := "()V", sig := { parameters := [], returnType := none }, accessFlags := 1, code := some k0c0 }
/-- java/lang/Object -/
def k0 : Class := { plain "java/lang/Object" none with
  accessFlags := 33
  interfaces := #[]
  cf := some (fileOf pool0 8 #[] #[{ accessFlags := 1, nameIndex := 5, descriptorIndex := 6, attributes := #[] }] 33 0 #[] #[])
  fields := #[]
  methods := #[k0m0]
  instanceTypes := #[]
  staticTypes := #[]
  resolved := Array.replicate 124 none
  statics := none }

def pool1 : Array CpInfo := pool [(2, .class_ 4), (1, u "java/lang/Object"), (0, u "<init>"), (0, u "()V"), (0, .integer 2147483647), (0, .class_ 9), (0, u "com/example/tinwire/tinwire/bytes/ByteRun"), (0, .methodref 8 11), (0, .nameAndType 5 12), (0, u "([BII)V"), (0, .methodref 8 14), (0, .nameAndType 15 16), (0, u "hashCode"), (0, u "()I"), (0, .integer 2166136261), (0, .integer 16777619), (0, .class_ 20), (0, u "com/example/tinwire/tinwire/bytes/ByteRunHashCodePinLaw"), (2, u "law"), (0, u "(IIII)Z")] 5

def k1m0 : Method := { name := "<init>", desc := "()V", sig := { parameters := [], returnType := none }, accessFlags := 2, code := none }
def k1c1 : Code := { maxStack := 6, maxLocals := 16, code := code, exceptionTable := #[], attributes := #[] }
def k1m1 : Method := { name := "law", desc := "(IIII)Z", sig := { parameters := [.int, .int, .int, .int], returnType := some .boolean }, accessFlags := 9, code := some k1c1 }
/-- com/example/tinwire/tinwire/bytes/ByteRunHashCodePinLaw -/
def k1 : Class := { plain "com/example/tinwire/tinwire/bytes/ByteRunHashCodePinLaw" (some 0) with
  accessFlags := 49
  interfaces := #[]
  cf := some (fileOf pool1 19 #[] #[{ accessFlags := 2, nameIndex := 5, descriptorIndex := 6, attributes := #[] }, { accessFlags := 9, nameIndex := 23, descriptorIndex := 24, attributes := #[] }] 49 2 #[] #[])
  fields := #[]
  methods := #[k1m0, k1m1]
  instanceTypes := #[]
  staticTypes := #[]
  resolved := Array.replicate 30 none
  statics := none }

def pool2 : Array CpInfo := pool [(1, .methodref 2 3), (0, .class_ 4), (0, .nameAndType 5 6), (0, u "java/lang/Object"), (0, u "<init>"), (0, u "()V"), (0, .class_ 8), (0, u "java/lang/Record")] 13

def k2c0 : Code := { maxStack := 1, maxLocals := 1, code := jdk_30_method_1_code, exceptionTable := #[], attributes := #[] }
def k2m0 : Method := { name := "<init>", desc := "()V", sig := { parameters := [], returnType := none }, accessFlags := 4, code := some k2c0 }
/-- java/lang/Record -/
def k2 : Class := { plain "java/lang/Record" (some 0) with
  accessFlags := 1057
  interfaces := #[]
  cf := some (fileOf pool2 7 #[] #[{ accessFlags := 4, nameIndex := 5, descriptorIndex := 6, attributes := #[] }] 1057 2 #[] #[])
  fields := #[]
  methods := #[k2m0]
  instanceTypes := #[]
  staticTypes := #[]
  resolved := Array.replicate 22 none
  statics := none }

def pool3 : Array CpInfo := pool [(1, .class_ 2), (0, u "java/lang/Comparable"), (0, .class_ 4), (0, u "java/lang/Object")] 7

/-- java/lang/Comparable -/
def k3 : Class := { plain "java/lang/Comparable" (some 0) with
  accessFlags := 1537
  interfaces := #[]
  cf := some (fileOf pool3 1 #[] #[] 1537 3 #[] #[])
  fields := #[]
  methods := #[]
  instanceTypes := #[]
  staticTypes := #[]
  resolved := Array.replicate 12 none
  statics := none }

def pool4 : Array CpInfo := pool [(1, .methodref 2 3), (0, .class_ 4), (0, .nameAndType 5 6), (0, u "java/lang/Record"), (0, u "<init>"), (0, u "()V"), (0, .fieldref 8 9), (0, .class_ 10), (0, .nameAndType 11 12), (0, u "com/example/tinwire/tinwire/bytes/ByteRun"), (0, u "bytes"), (0, u "[B"), (0, .fieldref 8 14), (0, .nameAndType 15 16), (0, u "start"), (0, u "I"), (0, .fieldref 8 18), (0, .nameAndType 19 16), (0, u "end"), (6, .integer 2166136261), (0, .integer 16777619), (12, .class_ 41), (0, u "java/lang/Comparable"), (0, u "([BII)V"), (5, u "hashCode"), (0, u "()I")] 27

def k4c0 : Code := { maxStack := 2, maxLocals := 4, code := prog_8_method_1_code, exceptionTable := #[], attributes := #[] }
def k4m0 : Method := { name := "<init>", desc := "([BII)V", sig := { parameters := [(.array .byte), .int, .int], returnType := none }, accessFlags := 0, code := some k4c0 }
def k4c1 : Code := { maxStack := 3, maxLocals := 3, code := prog_8_method_3_code, exceptionTable := #[], attributes := #[] }
def k4m1 : Method := { name := "hashCode", desc := "()I", sig := { parameters := [], returnType := some .int }, accessFlags := 1, code := some k4c1 }
/-- com/example/tinwire/tinwire/bytes/ByteRun -/
def k4 : Class := { plain "com/example/tinwire/tinwire/bytes/ByteRun" (some 2) with
  accessFlags := 48
  interfaces := #[3]
  cf := some (fileOf pool4 8 #[] #[{ accessFlags := 0, nameIndex := 5, descriptorIndex := 42, attributes := #[] }, { accessFlags := 1, nameIndex := 48, descriptorIndex := 49, attributes := #[] }] 48 2 #[40] #[{ accessFlags := 18, nameIndex := 11, descriptorIndex := 12, attributes := #[] }, { accessFlags := 18, nameIndex := 15, descriptorIndex := 16, attributes := #[] }, { accessFlags := 18, nameIndex := 19, descriptorIndex := 16, attributes := #[] }])
  fields := #[{ name := "bytes", type := (.array .byte), accessFlags := 18, slot := 0, constantValue := 0 }, { name := "start", type := .int, accessFlags := 18, slot := 1, constantValue := 0 }, { name := "end", type := .int, accessFlags := 18, slot := 2, constantValue := 0 }]
  methods := #[k4m0, k4m1]
  instanceTypes := #[(.array .byte), .int, .int]
  staticTypes := #[]
  resolved := Array.replicate 77 none
  statics := none }

def pool5 : Array CpInfo := pool [(1, u "java/lang/Cloneable"), (0, .class_ 1), (0, u "java/lang/Object"), (0, .class_ 3)] 3

/-- java/lang/Cloneable -/
def k5 : Class := { plain "java/lang/Cloneable" (some 0) with
  accessFlags := 1537
  interfaces := #[]
  cf := some (fileOf pool5 2 #[] #[] 1537 4 #[] #[])
  fields := #[]
  methods := #[]
  instanceTypes := #[]
  staticTypes := #[]
  resolved := Array.replicate 8 none
  statics := none }

def pool6 : Array CpInfo := pool [(1, u "java/io/Serializable"), (0, .class_ 1), (0, u "java/lang/Object"), (0, .class_ 3)] 3

/-- java/io/Serializable -/
def k6 : Class := { plain "java/io/Serializable" (some 0) with
  accessFlags := 1537
  interfaces := #[]
  cf := some (fileOf pool6 2 #[] #[] 1537 4 #[] #[])
  fields := #[]
  methods := #[]
  instanceTypes := #[]
  staticTypes := #[]
  resolved := Array.replicate 8 none
  statics := none }

/-- the primitive byte -/
def k7 : Class := { plain "byte" none with kind := .primitive 'B', accessFlags := 0x411 }
/-- [B -/
def k8 : Class := { plain "[B" (some 0) with kind := .array 7 .byte, interfaces := #[5, 6], accessFlags := 1041 }

/-- the primitive int -/
def k9 : Class := { plain "int" none with kind := .primitive 'I', accessFlags := 0x411 }
/-- [I -/
def k10 : Class := { plain "[I" (some 0) with kind := .array 9 .int, interfaces := #[5, 6], accessFlags := 1041 }

def heap : Heap := #[]
def classes : Array Class := #[k0, k1, k2, k3, k4, k5, k6, k7, k8, k9, k10]
def interned : List (Array UInt16 × Addr) := []
def slotsUsed : Nat := 0
def theMethod : MethodId := ⟨1, 1⟩
def args0 : Array Value := #[.int 1, .int 2, .int 3, .int 4]
def aboutOver (below : List Frame) : State where
  vm := { classes := classes, interned := interned.toArray }
  heap := heap
  slotsUsed := slotsUsed
  threads := #[{ frames := .invoking theMethod args0 :: below }]
def below0 : List Frame := [.native { method := ⟨0, 0⟩, args := #[] }]
def about1 : State := aboutOver below0
def p0 : Program := .bare "" "" ""
def e0 : Env := launch0.env 0 0 0
theorem w_frames : about1.frames = Frame.invoking theMethod args0 :: below0 := rfl
set_option maxRecDepth 65536 in
theorem w_args : argsFit about1.vm theMethod args0 = true := by decide +kernel
set_option maxRecDepth 65536 in
theorem w_heap : heapFits about1 = true := by decide +kernel
set_option maxRecDepth 65536 in
theorem w_runnable : about1.curStatus? = some .runnable := by decide +kernel
set_option maxRecDepth 65536 in
theorem w_alone : about1.alone = true := by decide +kernel
set_option maxRecDepth 65536 in
theorem w_named : about1.methodNamed? x = some theMethod := by decide +kernel
set_option maxRecDepth 65536 in
theorem w_hears : about1.hears theMethod below0 = true := by decide +kernel
set_option maxRecDepth 65536 in
theorem w_ripe : about1.ripe theMethod args0 below0 = true := by decide +kernel
theorem w_running : about1.status = .running := rfl
set_option maxRecDepth 65536 in
theorem w_room : about1.hasRoom e0.platform room_1 = true :=
  launch0.hasRoom_least _ room_1 (by decide +kernel) (by decide +kernel) (by decide +kernel) (by decide +kernel) (by decide +kernel) (by decide +kernel)
theorem allAtoms_all (ts : List Jvm.Cond) (a : Array Jvm.Value) (st : Jvm.State) : (allAtoms ts).before a st = ts.all (fun c => c.before a st) := by
  induction ts with
  | nil => rfl
  | cons c t ih =>
    show (Jvm.Cond.and c (allAtoms t)).before a st = _
    rw [Jvm.Cond.before_and, ih, List.all_cons]
def words1 : List Jvm.Cond := Jvm.Cond.code x code maxLocals ret :: tables_1
/-- a 'code' word, met by the world's own term for the bytes: nothing is compared byte by byte -/
theorem code_word {y : MethodName} {bytes : ByteArray} {mx : Nat} {rt : Option FieldType} {a : Array Value} {s : State} {m : MethodId} {meth : Method} {c : Code} (h1 : s.methodNamed? y = some m) (h2 : s.vm.method? m = some meth) (h3 : meth.code = some c) (h4 : c.code = bytes)
    (h5 : (c.maxLocals == mx && c.exceptionTable.isEmpty && decide (c.maxStack ≤ mostOperands) && decide (meth.sig.returnType = rt) && !meth.locks && decide (parseMethodDescriptor y.desc = some meth.sig)) = true) : (Jvm.Cond.code y bytes mx rt).before a s = true := by
  simp only [Bool.and_eq_true, beq_iff_eq, Bool.not_eq_true', decide_eq_true_eq] at h5
  obtain ⟨⟨⟨⟨⟨g1, g2⟩, g3⟩, g4⟩, g5⟩, g6⟩ := h5
  simp [Cond.before, Cond.holds, Cond.value, h1, h2, h3, h4, g1, g2, g3, g4, g5, g6]
def isCode : Jvm.Cond → Bool
  | .code _ _ _ _ => true
  | _ => false
theorem all_split {L : List Jvm.Cond} {P : Jvm.Cond → Bool} (h1 : L.all (fun c => isCode c || P c) = true) (h2 : ∀ c ∈ L.filter isCode, P c = true) : L.all P = true := by
  refine List.all_eq_true.mpr fun c hc => ?_
  have h := List.all_eq_true.mp h1 c hc
  rcases Bool.eq_false_or_eq_true (isCode c) with hi | hi
  · exact h2 c (List.mem_filter.mpr ⟨hc, hi⟩)
  · simpa [hi] using h
set_option maxRecDepth 65536 in
theorem w_c0 : (Jvm.Cond.code x code maxLocals ret).before args0 about1 = true := code_word (m := ⟨1, 1⟩) (meth := k1m1) (c := k1c1) (by decide +kernel) rfl rfl rfl (by decide +kernel)
set_option maxRecDepth 65536 in
theorem w_c1 : (Jvm.Cond.code ({ cls := "com/example/tinwire/tinwire/bytes/ByteRun", name := "<init>", desc := "([BII)V" } : Jvm.MethodName) prog_8_method_1_code (4 : Nat) (Option.none : Option Jvm.ClassFile.FieldType)).before args0 about1 = true := code_word (m := ⟨4, 0⟩) (meth := k4m0) (c := k4c0) (by decide +kernel) rfl rfl rfl (by decide +kernel)
set_option maxRecDepth 65536 in
theorem w_c2 : (Jvm.Cond.code ({ cls := "java/lang/Record", name := "<init>", desc := "()V" } : Jvm.MethodName) jdk_30_method_1_code (1 : Nat) (Option.none : Option Jvm.ClassFile.FieldType)).before args0 about1 = true := code_word (m := ⟨2, 0⟩) (meth := k2m0) (c := k2c0) (by decide +kernel) rfl rfl rfl (by decide +kernel)
set_option maxRecDepth 65536 in
theorem w_c3 : (Jvm.Cond.code ({ cls := "java/lang/Object", name := "<init>", desc := "()V" } : Jvm.MethodName) object_method_1_code (1 : Nat) (Option.none : Option Jvm.ClassFile.FieldType)).before args0 about1 = true := code_word (m := ⟨0, 0⟩) (meth := k0m0) (c := k0c0) (by decide +kernel) rfl rfl rfl (by decide +kernel)
set_option maxRecDepth 65536 in
theorem w_c4 : (Jvm.Cond.code ({ cls := "com/example/tinwire/tinwire/bytes/ByteRun", name := "hashCode", desc := "()I" } : Jvm.MethodName) prog_8_method_3_code (3 : Nat) (Option.some Jvm.ClassFile.FieldType.int)).before args0 about1 = true := code_word (m := ⟨4, 1⟩) (meth := k4m1) (c := k4c1) (by decide +kernel) rfl rfl rfl (by decide +kernel)
def codes1 : List Jvm.Cond := [Jvm.Cond.code x code maxLocals ret, Jvm.Cond.code ({ cls := "com/example/tinwire/tinwire/bytes/ByteRun", name := "<init>", desc := "([BII)V" } : Jvm.MethodName) prog_8_method_1_code (4 : Nat) (Option.none : Option Jvm.ClassFile.FieldType), Jvm.Cond.code ({ cls := "java/lang/Record", name := "<init>", desc := "()V" } : Jvm.MethodName) jdk_30_method_1_code (1 : Nat) (Option.none : Option Jvm.ClassFile.FieldType), Jvm.Cond.code ({ cls := "java/lang/Object", name := "<init>", desc := "()V" } : Jvm.MethodName) object_method_1_code (1 : Nat) (Option.none : Option Jvm.ClassFile.FieldType), Jvm.Cond.code ({ cls := "com/example/tinwire/tinwire/bytes/ByteRun", name := "hashCode", desc := "()I" } : Jvm.MethodName) prog_8_method_3_code (3 : Nat) (Option.some Jvm.ClassFile.FieldType.int)]
set_option maxRecDepth 65536 in
theorem codes_eq : words1.filter isCode = codes1 := rfl
theorem w_codes : ∀ c ∈ words1.filter isCode, c.before args0 about1 = true := by
  rw [codes_eq]
  intro c hc
  simp only [codes1, List.mem_cons, List.not_mem_nil, or_false] at hc
  rcases hc with rfl | rfl | rfl | rfl | rfl
  · exact w_c0
  · exact w_c1
  · exact w_c2
  · exact w_c3
  · exact w_c4
set_option maxRecDepth 65536 in
theorem w_t1 : (words1.take 24).all (fun c => isCode c || c.before args0 about1) = true := by decide +kernel
set_option maxRecDepth 65536 in
theorem w_t2 : (words1.drop 24).all (fun c => isCode c || c.before args0 about1) = true := by decide +kernel
theorem w_tables : (allAtoms (Jvm.Cond.code x code maxLocals ret :: tables_1)).before args0 about1 = true := by
  rw [allAtoms_all]
  show words1.all (fun c => c.before args0 about1) = true
  refine all_split ?_ w_codes
  rw [← List.take_append_drop 24 words1, List.all_append, w_t1, w_t2]
  rfl
set_option maxRecDepth 65536 in
theorem w_case : (Jvm.Cond.and given_1 narrow_1).before args0 about1 = true := by decide +kernel
theorem w_applies : (headSpec (Jvm.Cond.code x code maxLocals ret :: tables_1) room_1).applies x e0.platform about1 = true :=
  (Spec.applies_iff w_frames).mpr ⟨w_running, w_runnable, w_alone, w_named, w_hears, w_ripe, w_room, w_tables⟩
theorem atStart : AtStart classFile x code maxLocals ret World_1 tables_1 room_1 Calls_1 rest_1 Pre_1 launch0 p0 e0 about1 theMethod args0 below0 :=
  ⟨lists_1, trivial, launch0.admits_env _ _ _, launch0.least_env, fairChoices_fair.cas, fairChoices_fair.clock, w_frames, w_args, w_heap, w_applies, trivial, trivial, w_case⟩
end start1
theorem witness_1 : WitnessClaimed_1 := ⟨start1.p0, start1.e0, start1.about1, start1.theMethod, start1.args0, start1.below0, start1.atStart⟩
end Jvm.Pilot.@@N@@
