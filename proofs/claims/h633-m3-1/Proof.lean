import JvmDerived
import JvmDerived.Pilot.@@N@@Statement
import JvmDerived.Pilot.@@N@@Code
set_option linter.unusedVariables false
set_option linter.unusedSimpArgs false
namespace Jvm.Pilot.@@N@@
open Jvm Jvm.ClassFile Sem Op Lib Jvm.Free Jvm.Stand Jvm.LawKit Jvm.RoadKit Bundle Jvm.Pilot.@@N@@.Jvm.D
section OwnLayer
variable {p : Program} {l : Launch} {e : Env} {R : Room} {s : State} {m : MethodId} {args : Array Value} {below : List Frame} {meth : Method} {c : Code} {T : State} {locs : List Loc} {cells slots : Nat} {Z : State} {y : MethodName} {bs : ByteArray} {maxL : Nat} {rt : Option FieldType} {ce sl : Nat} {Q : Option Value → Heap → List Loc → Prop} {G : Outcome → State → Prop} {pc : Nat} {Ls : Array Slot} {st rest : List Value} {h : Heap} {a0 : Array Value}
/-- from S the body runs on, returns, and Q says what it leaves -/
def OwnEnds (p : Program) (e : Env) (below : List Frame) (G : Outcome → State → Prop) (S : State) : Prop :=
  ∃ s₂ o, Steps p.tables e below S s₂ ∧ s₂.status = .running ∧ Ended s₂ below o ∧ G o s₂
def OwnG (s : State) (ce sl : Nat) (Q : Option Value → Heap → List Loc → Prop) : Outcome → State → Prop := fun o s₂ => ∃ v L, o = .returned v ∧ Q v s₂.heap L ∧ FrameEnd s o s₂ L ce sl
/-- what stands throughout a body's walk -/
def OwnCx (p : Program) (s : State) (m : MethodId) (meth : Method) (c : Code) (Z : State) (y : MethodName) (bs : ByteArray) (maxL : Nat) (rt : Option FieldType) : Prop :=
  p.tables.exec = Jvm.exec ∧ Z.Warmed39 s.vm ∧ s.vm.findClass y.cls = some m.cls ∧ c.code = bs ∧ c.maxLocals = maxL ∧ meth.sig.returnType = rt ∧ meth.locks = false ∧ meth.name = y.name
/-- a body's contract over the heap h at these arguments -/
def OwnMet (l : Launch) (Z : State) (y : MethodName) (bs : ByteArray) (maxL : Nat) (rt : Option FieldType) (ws : List Jvm.Cond) (rm : Room) (as' : Array Value) (h : Heap) (Q : Option Value → Heap → List Loc → Prop) : Prop :=
  MetFree l y (head1 (Jvm.Cond.code y bs maxL rt :: ws) rm) (fun a U => a = as' ∧ Z.Warmed39 U.vm ∧ U.heap = h) (fun _ _ _ _ _ => True) (fun _ U o U' => ∃ v L, o = .returned v ∧ Q v U'.heap L ∧ FrameEnd U o U' L rm.cells rm.slots)
theorem own_nz32 {d : Int32} (q : d.toInt ≠ 0) : d ≠ 0 := fun r => q (by rw [r]; rfl)
theorem own_nz64 {d : Int64} (q : d.toInt ≠ 0) : d ≠ 0 := fun r => q (by rw [r]; rfl)
theorem own_st {S S' : State} (k : ∀ t, Steps p.tables e below S' t → Steps p.tables e below S t) (r : OwnEnds p e below G S') : OwnEnds p e below G S := by
  obtain ⟨s₂, o, h1, r⟩ := r
  exact ⟨s₂, o, k _ h1, r⟩
theorem own_tr {S S' : State} (k : Steps p.tables e below S S') (r : OwnEnds p e below G S') : OwnEnds p e below G S := own_st (fun _ q => k.trans q) r
theorem own_enter {ws : List Jvm.Cond} {rm : Room} {as' : Array Value} {f0 : MethodId → JFrame} (hp : plainFor y = true) (hf : ∀ m, entryFrame m as' maxL = f0 m)
    (H : ∀ p e s m below meth c T, Stand p l e rm s m as' below meth c T [] 0 0 → OwnCx p s m meth c Z y bs maxL rt → T.heap = h → OwnEnds p e below (OwnG s rm.cells rm.slots Q) (T.setTop (f0 m))) : OwnMet l Z y bs maxL rt ws rm as' h Q := by
  refine MetFree.of_bodySF hp hisR ?_
  intro p e s m args below meth c s₁ Bd hml0 hP hK
  obtain ⟨rfl, hZ, hh⟩ := hP
  have k := H p e s m below meth c s₁ (Stand.of_body Bd) ⟨Bd.exec, hZ, findClass_of_methodNamed Bd.named, Bd.bytes, hml0, Bd.returns, Bd.notSynchronized, (name_of_methodNamed Bd.named Bd.method).1⟩ (by rw [← hh, Bd.state]; rfl)
  rw [← hf m] at k
  exact k
theorem own_mono {ws : List Jvm.Cond} {rm : Room} {as' : Array Value} {Q' : Option Value → Heap → List Loc → Prop} (H : OwnMet l Z y bs maxL rt ws rm as' h Q) (q : ∀ v h' L, Q v h' L → Q' v h' L) : OwnMet l Z y bs maxL rt ws rm as' h Q' := by
  intro p e ha hc hk s m args below hf happ hP hK
  obtain ⟨n, o, h1, h2, h3, v, L, h4, h5, h6⟩ := H p e ha hc hk s m args below hf happ hP hK
  exact ⟨n, o, h1, h2, h3, v, L, h4, q _ _ _ h5, h6⟩
theorem own_iload (X : Stand p l e R s m args below meth c T locs cells slots) (C : OwnCx p s m meth c Z y bs maxL rt) {k : Nat} {v : Int32} (hd : decode bs pc = .ok (.iload k, 2)) (pc' : Nat) (hp : pc + 2 = pc') (hl : Ls[k]? = some (.val (.int v)))
    (hr : OwnEnds p e below G (T.setTop (mkF m pc' Ls (.int v :: st)))) : OwnEnds p e below G (T.setTop (mkF m pc Ls st)) := by
  subst hp; exact own_st (fun _ q => XS.iload X.here C.1 rfl (hb C.2.2.2.1 hd) hl q) hr
theorem own_lload (X : Stand p l e R s m args below meth c T locs cells slots) (C : OwnCx p s m meth c Z y bs maxL rt) {k : Nat} {v : Int64} (hd : decode bs pc = .ok (.lload k, 2)) (pc' : Nat) (hp : pc + 2 = pc') (hl : Ls[k]? = some (.val (.long v)))
    (hr : OwnEnds p e below G (T.setTop (mkF m pc' Ls (.long v :: st)))) : OwnEnds p e below G (T.setTop (mkF m pc Ls st)) := by
  subst hp; exact own_st (fun _ q => XS.lload X.here C.1 rfl (hb C.2.2.2.1 hd) hl q) hr
theorem own_iload_n (X : Stand p l e R s m args below meth c T locs cells slots) (C : OwnCx p s m meth c Z y bs maxL rt) {k : Fin 4} {v : Int32} (hd : decode bs pc = .ok (.iload_n k, 1)) (pc' : Nat) (hp : pc + 1 = pc') (hl : Ls[k.val]? = some (.val (.int v)))
    (hr : OwnEnds p e below G (T.setTop (mkF m pc' Ls (.int v :: st)))) : OwnEnds p e below G (T.setTop (mkF m pc Ls st)) := by
  subst hp; exact own_st (fun _ q => XS.iloadN X.here C.1 rfl (hb C.2.2.2.1 hd) hl q) hr
theorem own_lload_n (X : Stand p l e R s m args below meth c T locs cells slots) (C : OwnCx p s m meth c Z y bs maxL rt) {k : Fin 4} {v : Int64} (hd : decode bs pc = .ok (.lload_n k, 1)) (pc' : Nat) (hp : pc + 1 = pc') (hl : Ls[k.val]? = some (.val (.long v)))
    (hr : OwnEnds p e below G (T.setTop (mkF m pc' Ls (.long v :: st)))) : OwnEnds p e below G (T.setTop (mkF m pc Ls st)) := by
  subst hp; exact own_st (fun _ q => XS.lloadN X.here C.1 rfl (hb C.2.2.2.1 hd) hl q) hr
theorem own_aload (X : Stand p l e R s m args below meth c T locs cells slots) (C : OwnCx p s m meth c Z y bs maxL rt) {k : Nat} {v : Value} (hd : decode bs pc = .ok (.aload k, 2)) (pc' : Nat) (hp : pc + 2 = pc') (hl : Ls[k]? = some (.val v)) (hv : v.isRef = true)
    (hr : OwnEnds p e below G (T.setTop (mkF m pc' Ls (v :: st)))) : OwnEnds p e below G (T.setTop (mkF m pc Ls st)) := by
  subst hp; exact own_st (fun _ q => XS.aload X.here C.1 rfl (hb C.2.2.2.1 hd) hl hv q) hr
theorem own_aload_n (X : Stand p l e R s m args below meth c T locs cells slots) (C : OwnCx p s m meth c Z y bs maxL rt) {k : Fin 4} {v : Value} (hd : decode bs pc = .ok (.aload_n k, 1)) (pc' : Nat) (hp : pc + 1 = pc') (hl : Ls[k.val]? = some (.val v)) (hv : v.isRef = true)
    (hr : OwnEnds p e below G (T.setTop (mkF m pc' Ls (v :: st)))) : OwnEnds p e below G (T.setTop (mkF m pc Ls st)) := by
  subst hp; exact own_st (fun _ q => XS.aloadN X.here C.1 rfl (hb C.2.2.2.1 hd) hl hv q) hr
theorem own_istore (X : Stand p l e R s m args below meth c T locs cells slots) (C : OwnCx p s m meth c Z y bs maxL rt) {k : Nat} {v : Int32} (hd : decode bs pc = .ok (.istore k, 2)) (pc' : Nat) (hp : pc + 2 = pc') (L' : Array Slot) (hl : storeLocals Ls k (.int v) = some L')
    (hr : OwnEnds p e below G (T.setTop (mkF m pc' L' st))) : OwnEnds p e below G (T.setTop (mkF m pc Ls (.int v :: st))) := by
  subst hp; exact own_st (fun _ q => XS.istore X.here C.1 rfl (hb C.2.2.2.1 hd) rfl hl q) hr
theorem own_lstore (X : Stand p l e R s m args below meth c T locs cells slots) (C : OwnCx p s m meth c Z y bs maxL rt) {k : Nat} {v : Int64} (hd : decode bs pc = .ok (.lstore k, 2)) (pc' : Nat) (hp : pc + 2 = pc') (L' : Array Slot) (hl : storeLocals Ls k (.long v) = some L')
    (hr : OwnEnds p e below G (T.setTop (mkF m pc' L' st))) : OwnEnds p e below G (T.setTop (mkF m pc Ls (.long v :: st))) := by
  subst hp; exact own_st (fun _ q => XS.lstore X.here C.1 rfl (hb C.2.2.2.1 hd) rfl hl q) hr
theorem own_istore_n (X : Stand p l e R s m args below meth c T locs cells slots) (C : OwnCx p s m meth c Z y bs maxL rt) {k : Fin 4} {v : Int32} (hd : decode bs pc = .ok (.istore_n k, 1)) (pc' : Nat) (hp : pc + 1 = pc') (L' : Array Slot) (hl : storeLocals Ls k.val (.int v) = some L')
    (hr : OwnEnds p e below G (T.setTop (mkF m pc' L' st))) : OwnEnds p e below G (T.setTop (mkF m pc Ls (.int v :: st))) := by
  subst hp; exact own_st (fun _ q => XS.istoreN X.here C.1 rfl (hb C.2.2.2.1 hd) rfl hl q) hr
theorem own_lstore_n (X : Stand p l e R s m args below meth c T locs cells slots) (C : OwnCx p s m meth c Z y bs maxL rt) {k : Fin 4} {v : Int64} (hd : decode bs pc = .ok (.lstore_n k, 1)) (pc' : Nat) (hp : pc + 1 = pc') (L' : Array Slot) (hl : storeLocals Ls k.val (.long v) = some L')
    (hr : OwnEnds p e below G (T.setTop (mkF m pc' L' st))) : OwnEnds p e below G (T.setTop (mkF m pc Ls (.long v :: st))) := by
  subst hp; exact own_st (fun _ q => XS.lstoreN X.here C.1 rfl (hb C.2.2.2.1 hd) rfl hl q) hr
theorem own_astore (X : Stand p l e R s m args below meth c T locs cells slots) (C : OwnCx p s m meth c Z y bs maxL rt) {k : Nat} {v : Value} (hd : decode bs pc = .ok (.astore k, 2)) (pc' : Nat) (hp : pc + 2 = pc') (hv : v.isRef = true) (L' : Array Slot) (hl : storeLocals Ls k v = some L')
    (hr : OwnEnds p e below G (T.setTop (mkF m pc' L' st))) : OwnEnds p e below G (T.setTop (mkF m pc Ls (v :: st))) := by
  subst hp; exact own_st (fun _ q => XS.astore X.here C.1 rfl (hb C.2.2.2.1 hd) rfl hv hl q) hr
theorem own_astore_n (X : Stand p l e R s m args below meth c T locs cells slots) (C : OwnCx p s m meth c Z y bs maxL rt) {k : Fin 4} {v : Value} (hd : decode bs pc = .ok (.astore_n k, 1)) (pc' : Nat) (hp : pc + 1 = pc') (hv : v.isRef = true) (L' : Array Slot) (hl : storeLocals Ls k.val v = some L')
    (hr : OwnEnds p e below G (T.setTop (mkF m pc' L' st))) : OwnEnds p e below G (T.setTop (mkF m pc Ls (v :: st))) := by
  subst hp; exact own_st (fun _ q => XS.astoreN X.here C.1 rfl (hb C.2.2.2.1 hd) rfl hv hl q) hr
theorem own_iinc (X : Stand p l e R s m args below meth c T locs cells slots) (C : OwnCx p s m meth c Z y bs maxL rt) {k : Nat} {cst : Int} {v : Int32} (hd : decode bs pc = .ok (.iinc k cst, 3)) (pc' : Nat) (hp : pc + 3 = pc') (hl : Ls[k]? = some (.val (.int v))) (w : Int32) (hw : Int32.ofInt cst = w) (F : Int32 → Array Slot) (hl' : ∀ z, storeLocals Ls k (.int z) = some (F z))
    (hr : ∀ z, z = v + w → OwnEnds p e below G (T.setTop (mkF m pc' (F z) st))) : OwnEnds p e below G (T.setTop (mkF m pc Ls st)) := by
  subst hp hw; exact own_st (fun _ q => XS.iinc X.here C.1 rfl (hb C.2.2.2.1 hd) hl (hl' _) q) (hr _ rfl)
theorem own_iconst (X : Stand p l e R s m args below meth c T locs cells slots) (C : OwnCx p s m meth c Z y bs maxL rt) {i : Int} (hd : decode bs pc = .ok (.iconst i, 1)) (pc' : Nat) (hp : pc + 1 = pc') (k : Int32) (hk : Int32.ofInt i = k)
    (hr : OwnEnds p e below G (T.setTop (mkF m pc' Ls (.int k :: st)))) : OwnEnds p e below G (T.setTop (mkF m pc Ls st)) := by
  subst hp hk; exact own_st (fun _ q => XS.iconst X.here C.1 rfl (hb C.2.2.2.1 hd) q) hr
theorem own_bipush (X : Stand p l e R s m args below meth c T locs cells slots) (C : OwnCx p s m meth c Z y bs maxL rt) {i : Int} (hd : decode bs pc = .ok (.bipush i, 2)) (pc' : Nat) (hp : pc + 2 = pc') (k : Int32) (hk : (Int8.ofInt i).toInt32 = k)
    (hr : OwnEnds p e below G (T.setTop (mkF m pc' Ls (.int k :: st)))) : OwnEnds p e below G (T.setTop (mkF m pc Ls st)) := by
  subst hp hk; exact own_st (fun _ q => XS.bipush X.here C.1 rfl (hb C.2.2.2.1 hd) q) hr
theorem own_sipush (X : Stand p l e R s m args below meth c T locs cells slots) (C : OwnCx p s m meth c Z y bs maxL rt) {i : Int} (hd : decode bs pc = .ok (.sipush i, 3)) (pc' : Nat) (hp : pc + 3 = pc') (k : Int32) (hk : (Int16.ofInt i).toInt32 = k)
    (hr : OwnEnds p e below G (T.setTop (mkF m pc' Ls (.int k :: st)))) : OwnEnds p e below G (T.setTop (mkF m pc Ls st)) := by
  subst hp hk; exact own_st (fun _ q => XS.sipush X.here C.1 rfl (hb C.2.2.2.1 hd) q) hr
theorem own_lconst (X : Stand p l e R s m args below meth c T locs cells slots) (C : OwnCx p s m meth c Z y bs maxL rt) {i : Fin 2} (hd : decode bs pc = .ok (.lconst i, 1)) (pc' : Nat) (hp : pc + 1 = pc') (k : Int64) (hk : Int64.ofNat i = k)
    (hr : OwnEnds p e below G (T.setTop (mkF m pc' Ls (.long k :: st)))) : OwnEnds p e below G (T.setTop (mkF m pc Ls st)) := by
  subst hp hk; exact own_st (fun _ q => XS.lconst X.here C.1 rfl (hb C.2.2.2.1 hd) q) hr
theorem own_aconst_null (X : Stand p l e R s m args below meth c T locs cells slots) (C : OwnCx p s m meth c Z y bs maxL rt) (hd : decode bs pc = .ok (.aconst_null, 1)) (pc' : Nat) (hp : pc + 1 = pc')
    (hr : OwnEnds p e below G (T.setTop (mkF m pc' Ls (.null :: st)))) : OwnEnds p e below G (T.setTop (mkF m pc Ls st)) := by
  subst hp; exact own_st (fun _ q => XS.aconstNull X.here C.1 rfl (hb C.2.2.2.1 hd) q) hr
theorem own_ldc (X : Stand p l e R s m args below meth c T locs cells slots) (C : OwnCx p s m meth c Z y bs maxL rt) {i : Nat} {v : Int32} (w : (Jvm.Cond.constant y.cls i v).before a0 Z = true) (hd : decode bs pc = .ok (.ldc i, 2)) (pc' : Nat) (hp : pc + 2 = pc')
    (hr : OwnEnds p e below G (T.setTop (mkF m pc' Ls (.int v :: st)))) : OwnEnds p e below G (T.setTop (mkF m pc Ls st)) := by
  subst hp; exact own_st (X.ldcInt C.1 C.2.2.1 (mvT C.2.1 w) (g := mkF m pc Ls st) rfl (hb C.2.2.2.1 hd)) hr
theorem own_ldcw (X : Stand p l e R s m args below meth c T locs cells slots) (C : OwnCx p s m meth c Z y bs maxL rt) {i : Nat} {v : Int32} (w : (Jvm.Cond.constant y.cls i v).before a0 Z = true) (hd : decode bs pc = .ok (.ldc_w i, 3)) (pc' : Nat) (hp : pc + 3 = pc')
    (hr : OwnEnds p e below G (T.setTop (mkF m pc' Ls (.int v :: st)))) : OwnEnds p e below G (T.setTop (mkF m pc Ls st)) := by
  subst hp; exact own_st (X.ldcwInt C.1 C.2.2.1 (mvT C.2.1 w) (g := mkF m pc Ls st) rfl (hb C.2.2.2.1 hd)) hr
theorem own_ldc2 (X : Stand p l e R s m args below meth c T locs cells slots) (C : OwnCx p s m meth c Z y bs maxL rt) {i : Nat} {v : Int64} (w : (Jvm.Cond.constantLong y.cls i v).before a0 Z = true) (hd : decode bs pc = .ok (.ldc2_w i, 3)) (pc' : Nat) (hp : pc + 3 = pc')
    (hr : OwnEnds p e below G (T.setTop (mkF m pc' Ls (.long v :: st)))) : OwnEnds p e below G (T.setTop (mkF m pc Ls st)) := by
  subst hp; exact own_st (X.ldc2Long C.1 C.2.2.1 (mvT C.2.1 w) (g := mkF m pc Ls st) rfl (hb C.2.2.2.1 hd)) hr
theorem own_iadd (X : Stand p l e R s m args below meth c T locs cells slots) (C : OwnCx p s m meth c Z y bs maxL rt) {a b : Int32} (hd : decode bs pc = .ok (.iadd, 1)) (pc' : Nat) (hp : pc + 1 = pc')
    (hr : ∀ z, z = a + b → OwnEnds p e below G (T.setTop (mkF m pc' Ls (.int z :: st)))) : OwnEnds p e below G (T.setTop (mkF m pc Ls (.int b :: .int a :: st))) := by
  subst hp; exact own_st (fun _ q => XS.iadd X.here C.1 rfl (hb C.2.2.2.1 hd) rfl q) (hr _ rfl)
theorem own_isub (X : Stand p l e R s m args below meth c T locs cells slots) (C : OwnCx p s m meth c Z y bs maxL rt) {a b : Int32} (hd : decode bs pc = .ok (.isub, 1)) (pc' : Nat) (hp : pc + 1 = pc')
    (hr : ∀ z, z = a - b → OwnEnds p e below G (T.setTop (mkF m pc' Ls (.int z :: st)))) : OwnEnds p e below G (T.setTop (mkF m pc Ls (.int b :: .int a :: st))) := by
  subst hp; exact own_st (fun _ q => XS.isub X.here C.1 rfl (hb C.2.2.2.1 hd) rfl q) (hr _ rfl)
theorem own_imul (X : Stand p l e R s m args below meth c T locs cells slots) (C : OwnCx p s m meth c Z y bs maxL rt) {a b : Int32} (hd : decode bs pc = .ok (.imul, 1)) (pc' : Nat) (hp : pc + 1 = pc')
    (hr : ∀ z, z = a * b → OwnEnds p e below G (T.setTop (mkF m pc' Ls (.int z :: st)))) : OwnEnds p e below G (T.setTop (mkF m pc Ls (.int b :: .int a :: st))) := by
  subst hp; exact own_st (fun _ q => XS.imul X.here C.1 rfl (hb C.2.2.2.1 hd) rfl q) (hr _ rfl)
theorem own_iand (X : Stand p l e R s m args below meth c T locs cells slots) (C : OwnCx p s m meth c Z y bs maxL rt) {a b : Int32} (hd : decode bs pc = .ok (.iand, 1)) (pc' : Nat) (hp : pc + 1 = pc')
    (hr : ∀ z, z = a &&& b → OwnEnds p e below G (T.setTop (mkF m pc' Ls (.int z :: st)))) : OwnEnds p e below G (T.setTop (mkF m pc Ls (.int b :: .int a :: st))) := by
  subst hp; exact own_st (fun _ q => XS.iand X.here C.1 rfl (hb C.2.2.2.1 hd) rfl q) (hr _ rfl)
theorem own_ior (X : Stand p l e R s m args below meth c T locs cells slots) (C : OwnCx p s m meth c Z y bs maxL rt) {a b : Int32} (hd : decode bs pc = .ok (.ior, 1)) (pc' : Nat) (hp : pc + 1 = pc')
    (hr : ∀ z, z = a ||| b → OwnEnds p e below G (T.setTop (mkF m pc' Ls (.int z :: st)))) : OwnEnds p e below G (T.setTop (mkF m pc Ls (.int b :: .int a :: st))) := by
  subst hp; exact own_st (fun _ q => XS.ior X.here C.1 rfl (hb C.2.2.2.1 hd) rfl q) (hr _ rfl)
theorem own_ixor (X : Stand p l e R s m args below meth c T locs cells slots) (C : OwnCx p s m meth c Z y bs maxL rt) {a b : Int32} (hd : decode bs pc = .ok (.ixor, 1)) (pc' : Nat) (hp : pc + 1 = pc')
    (hr : ∀ z, z = a ^^^ b → OwnEnds p e below G (T.setTop (mkF m pc' Ls (.int z :: st)))) : OwnEnds p e below G (T.setTop (mkF m pc Ls (.int b :: .int a :: st))) := by
  subst hp; exact own_st (fun _ q => XS.ixor X.here C.1 rfl (hb C.2.2.2.1 hd) rfl q) (hr _ rfl)
theorem own_idiv (X : Stand p l e R s m args below meth c T locs cells slots) (C : OwnCx p s m meth c Z y bs maxL rt) {a b : Int32} (hd : decode bs pc = .ok (.idiv, 1)) (pc' : Nat) (hp : pc + 1 = pc') (hz : b ≠ 0)
    (hr : ∀ z, z = a / b → OwnEnds p e below G (T.setTop (mkF m pc' Ls (.int z :: st)))) : OwnEnds p e below G (T.setTop (mkF m pc Ls (.int b :: .int a :: st))) := by
  subst hp; exact own_st (fun _ q => XS.idiv X.here C.1 rfl (hb C.2.2.2.1 hd) rfl hz q) (hr _ rfl)
theorem own_ladd (X : Stand p l e R s m args below meth c T locs cells slots) (C : OwnCx p s m meth c Z y bs maxL rt) {a b : Int64} (hd : decode bs pc = .ok (.ladd, 1)) (pc' : Nat) (hp : pc + 1 = pc')
    (hr : ∀ z, z = a + b → OwnEnds p e below G (T.setTop (mkF m pc' Ls (.long z :: st)))) : OwnEnds p e below G (T.setTop (mkF m pc Ls (.long b :: .long a :: st))) := by
  subst hp; exact own_st (fun _ q => XS.ladd X.here C.1 rfl (hb C.2.2.2.1 hd) rfl q) (hr _ rfl)
theorem own_lsub (X : Stand p l e R s m args below meth c T locs cells slots) (C : OwnCx p s m meth c Z y bs maxL rt) {a b : Int64} (hd : decode bs pc = .ok (.lsub, 1)) (pc' : Nat) (hp : pc + 1 = pc')
    (hr : ∀ z, z = a - b → OwnEnds p e below G (T.setTop (mkF m pc' Ls (.long z :: st)))) : OwnEnds p e below G (T.setTop (mkF m pc Ls (.long b :: .long a :: st))) := by
  subst hp; exact own_st (fun _ q => XS.lsub X.here C.1 rfl (hb C.2.2.2.1 hd) rfl q) (hr _ rfl)
theorem own_lmul (X : Stand p l e R s m args below meth c T locs cells slots) (C : OwnCx p s m meth c Z y bs maxL rt) {a b : Int64} (hd : decode bs pc = .ok (.lmul, 1)) (pc' : Nat) (hp : pc + 1 = pc')
    (hr : ∀ z, z = a * b → OwnEnds p e below G (T.setTop (mkF m pc' Ls (.long z :: st)))) : OwnEnds p e below G (T.setTop (mkF m pc Ls (.long b :: .long a :: st))) := by
  subst hp; exact own_st (fun _ q => XS.lmul X.here C.1 rfl (hb C.2.2.2.1 hd) rfl q) (hr _ rfl)
theorem own_land (X : Stand p l e R s m args below meth c T locs cells slots) (C : OwnCx p s m meth c Z y bs maxL rt) {a b : Int64} (hd : decode bs pc = .ok (.land, 1)) (pc' : Nat) (hp : pc + 1 = pc')
    (hr : ∀ z, z = a &&& b → OwnEnds p e below G (T.setTop (mkF m pc' Ls (.long z :: st)))) : OwnEnds p e below G (T.setTop (mkF m pc Ls (.long b :: .long a :: st))) := by
  subst hp; exact own_st (fun _ q => XS.land X.here C.1 rfl (hb C.2.2.2.1 hd) rfl q) (hr _ rfl)
theorem own_lor (X : Stand p l e R s m args below meth c T locs cells slots) (C : OwnCx p s m meth c Z y bs maxL rt) {a b : Int64} (hd : decode bs pc = .ok (.lor, 1)) (pc' : Nat) (hp : pc + 1 = pc')
    (hr : ∀ z, z = a ||| b → OwnEnds p e below G (T.setTop (mkF m pc' Ls (.long z :: st)))) : OwnEnds p e below G (T.setTop (mkF m pc Ls (.long b :: .long a :: st))) := by
  subst hp; exact own_st (fun _ q => XS.lor X.here C.1 rfl (hb C.2.2.2.1 hd) rfl q) (hr _ rfl)
theorem own_lxor (X : Stand p l e R s m args below meth c T locs cells slots) (C : OwnCx p s m meth c Z y bs maxL rt) {a b : Int64} (hd : decode bs pc = .ok (.lxor, 1)) (pc' : Nat) (hp : pc + 1 = pc')
    (hr : ∀ z, z = a ^^^ b → OwnEnds p e below G (T.setTop (mkF m pc' Ls (.long z :: st)))) : OwnEnds p e below G (T.setTop (mkF m pc Ls (.long b :: .long a :: st))) := by
  subst hp; exact own_st (fun _ q => XS.lxor X.here C.1 rfl (hb C.2.2.2.1 hd) rfl q) (hr _ rfl)
theorem own_ldiv (X : Stand p l e R s m args below meth c T locs cells slots) (C : OwnCx p s m meth c Z y bs maxL rt) {a b : Int64} (hd : decode bs pc = .ok (.ldiv, 1)) (pc' : Nat) (hp : pc + 1 = pc') (hz : b ≠ 0)
    (hr : ∀ z, z = a / b → OwnEnds p e below G (T.setTop (mkF m pc' Ls (.long z :: st)))) : OwnEnds p e below G (T.setTop (mkF m pc Ls (.long b :: .long a :: st))) := by
  subst hp; exact own_st (fun _ q => XS.ldiv X.here C.1 rfl (hb C.2.2.2.1 hd) rfl hz q) (hr _ rfl)
theorem own_irem (X : Stand p l e R s m args below meth c T locs cells slots) (C : OwnCx p s m meth c Z y bs maxL rt) {a b : Int32} (hd : decode bs pc = .ok (.irem, 1)) (pc' : Nat) (hp : pc + 1 = pc') (hz : b ≠ 0)
    (hr : ∀ z, z = a % b → OwnEnds p e below G (T.setTop (mkF m pc' Ls (.int z :: st)))) : OwnEnds p e below G (T.setTop (mkF m pc Ls (.int b :: .int a :: st))) := by
  subst hp; exact own_st (fun _ q => iremM X C.1 rfl (hb C.2.2.2.1 hd) rfl hz q) (hr _ rfl)
theorem own_lrem (X : Stand p l e R s m args below meth c T locs cells slots) (C : OwnCx p s m meth c Z y bs maxL rt) {a b : Int64} (hd : decode bs pc = .ok (.lrem, 1)) (pc' : Nat) (hp : pc + 1 = pc') (hz : b ≠ 0)
    (hr : ∀ z, z = a % b → OwnEnds p e below G (T.setTop (mkF m pc' Ls (.long z :: st)))) : OwnEnds p e below G (T.setTop (mkF m pc Ls (.long b :: .long a :: st))) := by
  subst hp; exact own_st (fun _ q => XS.lrem X.here C.1 rfl (hb C.2.2.2.1 hd) rfl hz q) (hr _ (lrem_mod a b))
theorem own_ishl (X : Stand p l e R s m args below meth c T locs cells slots) (C : OwnCx p s m meth c Z y bs maxL rt) {a : Int32} {b : Int32} (hd : decode bs pc = .ok (.ishl, 1)) (pc' : Nat) (hp : pc + 1 = pc')
    (hr : ∀ z, z = (a <<< (b &&& 31)) → OwnEnds p e below G (T.setTop (mkF m pc' Ls (.int z :: st)))) : OwnEnds p e below G (T.setTop (mkF m pc Ls (.int b :: .int a :: st))) := by
  subst hp; exact own_st (fun _ q => XS.ishl X.here C.1 rfl (hb C.2.2.2.1 hd) rfl q) (hr _ rfl)
theorem own_ishr (X : Stand p l e R s m args below meth c T locs cells slots) (C : OwnCx p s m meth c Z y bs maxL rt) {a : Int32} {b : Int32} (hd : decode bs pc = .ok (.ishr, 1)) (pc' : Nat) (hp : pc + 1 = pc')
    (hr : ∀ z, z = (a >>> (b &&& 31)) → OwnEnds p e below G (T.setTop (mkF m pc' Ls (.int z :: st)))) : OwnEnds p e below G (T.setTop (mkF m pc Ls (.int b :: .int a :: st))) := by
  subst hp; exact own_st (fun _ q => XS.ishr X.here C.1 rfl (hb C.2.2.2.1 hd) rfl q) (hr _ rfl)
theorem own_iushr (X : Stand p l e R s m args below meth c T locs cells slots) (C : OwnCx p s m meth c Z y bs maxL rt) {a : Int32} {b : Int32} (hd : decode bs pc = .ok (.iushr, 1)) (pc' : Nat) (hp : pc + 1 = pc')
    (hr : ∀ z, z = ((a.toUInt32 >>> (b &&& 31).toUInt32).toInt32) → OwnEnds p e below G (T.setTop (mkF m pc' Ls (.int z :: st)))) : OwnEnds p e below G (T.setTop (mkF m pc Ls (.int b :: .int a :: st))) := by
  subst hp; exact own_st (fun _ q => XS.iushr X.here C.1 rfl (hb C.2.2.2.1 hd) rfl q) (hr _ rfl)
theorem own_lshl (X : Stand p l e R s m args below meth c T locs cells slots) (C : OwnCx p s m meth c Z y bs maxL rt) {a : Int64} {b : Int32} (hd : decode bs pc = .ok (.lshl, 1)) (pc' : Nat) (hp : pc + 1 = pc')
    (hr : ∀ z, z = (a <<< (b &&& 0x3f).toInt64) → OwnEnds p e below G (T.setTop (mkF m pc' Ls (.long z :: st)))) : OwnEnds p e below G (T.setTop (mkF m pc Ls (.int b :: .long a :: st))) := by
  subst hp; exact own_st (fun _ q => XS.lshl X.here C.1 rfl (hb C.2.2.2.1 hd) rfl q) (hr _ rfl)
theorem own_lshr (X : Stand p l e R s m args below meth c T locs cells slots) (C : OwnCx p s m meth c Z y bs maxL rt) {a : Int64} {b : Int32} (hd : decode bs pc = .ok (.lshr, 1)) (pc' : Nat) (hp : pc + 1 = pc')
    (hr : ∀ z, z = (a >>> (b &&& 0x3f).toInt64) → OwnEnds p e below G (T.setTop (mkF m pc' Ls (.long z :: st)))) : OwnEnds p e below G (T.setTop (mkF m pc Ls (.int b :: .long a :: st))) := by
  subst hp; exact own_st (fun _ q => XS.lshr X.here C.1 rfl (hb C.2.2.2.1 hd) rfl q) (hr _ rfl)
theorem own_lushr (X : Stand p l e R s m args below meth c T locs cells slots) (C : OwnCx p s m meth c Z y bs maxL rt) {a : Int64} {b : Int32} (hd : decode bs pc = .ok (.lushr, 1)) (pc' : Nat) (hp : pc + 1 = pc')
    (hr : ∀ z, z = ((a.toUInt64 >>> (b &&& 0x3f).toInt64.toUInt64).toInt64) → OwnEnds p e below G (T.setTop (mkF m pc' Ls (.long z :: st)))) : OwnEnds p e below G (T.setTop (mkF m pc Ls (.int b :: .long a :: st))) := by
  subst hp; exact own_st (fun _ q => XS.lushr X.here C.1 rfl (hb C.2.2.2.1 hd) rfl q) (hr _ rfl)
theorem own_ineg (X : Stand p l e R s m args below meth c T locs cells slots) (C : OwnCx p s m meth c Z y bs maxL rt) {a : Int32} (hd : decode bs pc = .ok (.ineg, 1)) (pc' : Nat) (hp : pc + 1 = pc')
    (hr : ∀ z, z = -a → OwnEnds p e below G (T.setTop (mkF m pc' Ls (.int z :: st)))) : OwnEnds p e below G (T.setTop (mkF m pc Ls (.int a :: st))) := by
  subst hp; exact own_st (fun _ q => XS.ineg X.here C.1 rfl (hb C.2.2.2.1 hd) rfl q) (hr _ rfl)
theorem own_lneg (X : Stand p l e R s m args below meth c T locs cells slots) (C : OwnCx p s m meth c Z y bs maxL rt) {a : Int64} (hd : decode bs pc = .ok (.lneg, 1)) (pc' : Nat) (hp : pc + 1 = pc')
    (hr : ∀ z, z = -a → OwnEnds p e below G (T.setTop (mkF m pc' Ls (.long z :: st)))) : OwnEnds p e below G (T.setTop (mkF m pc Ls (.long a :: st))) := by
  subst hp; exact own_st (fun _ q => XS.lneg X.here C.1 rfl (hb C.2.2.2.1 hd) rfl q) (hr _ rfl)
theorem own_i2l (X : Stand p l e R s m args below meth c T locs cells slots) (C : OwnCx p s m meth c Z y bs maxL rt) {a : Int32} (hd : decode bs pc = .ok (.i2l, 1)) (pc' : Nat) (hp : pc + 1 = pc')
    (hr : ∀ z, z = a.toInt64 → OwnEnds p e below G (T.setTop (mkF m pc' Ls (.long z :: st)))) : OwnEnds p e below G (T.setTop (mkF m pc Ls (.int a :: st))) := by
  subst hp; exact own_st (fun _ q => XS.i2l X.here C.1 rfl (hb C.2.2.2.1 hd) rfl q) (hr _ rfl)
theorem own_l2i (X : Stand p l e R s m args below meth c T locs cells slots) (C : OwnCx p s m meth c Z y bs maxL rt) {a : Int64} (hd : decode bs pc = .ok (.l2i, 1)) (pc' : Nat) (hp : pc + 1 = pc')
    (hr : ∀ z, z = a.toInt32 → OwnEnds p e below G (T.setTop (mkF m pc' Ls (.int z :: st)))) : OwnEnds p e below G (T.setTop (mkF m pc Ls (.long a :: st))) := by
  subst hp; exact own_st (fun _ q => XS.l2i X.here C.1 rfl (hb C.2.2.2.1 hd) rfl q) (hr _ rfl)
theorem own_i2b (X : Stand p l e R s m args below meth c T locs cells slots) (C : OwnCx p s m meth c Z y bs maxL rt) {a : Int32} (hd : decode bs pc = .ok (.i2b, 1)) (pc' : Nat) (hp : pc + 1 = pc')
    (hr : ∀ z, z = a.toInt8.toInt32 → OwnEnds p e below G (T.setTop (mkF m pc' Ls (.int z :: st)))) : OwnEnds p e below G (T.setTop (mkF m pc Ls (.int a :: st))) := by
  subst hp; exact own_st (fun _ q => XS.i2b X.here C.1 rfl (hb C.2.2.2.1 hd) rfl q) (hr _ rfl)
theorem own_i2s (X : Stand p l e R s m args below meth c T locs cells slots) (C : OwnCx p s m meth c Z y bs maxL rt) {a : Int32} (hd : decode bs pc = .ok (.i2s, 1)) (pc' : Nat) (hp : pc + 1 = pc')
    (hr : ∀ z, z = a.toInt16.toInt32 → OwnEnds p e below G (T.setTop (mkF m pc' Ls (.int z :: st)))) : OwnEnds p e below G (T.setTop (mkF m pc Ls (.int a :: st))) := by
  subst hp; exact own_st (fun _ q => XS.i2s X.here C.1 rfl (hb C.2.2.2.1 hd) rfl q) (hr _ rfl)
theorem own_i2c (X : Stand p l e R s m args below meth c T locs cells slots) (C : OwnCx p s m meth c Z y bs maxL rt) {a : Int32} (hd : decode bs pc = .ok (.i2c, 1)) (pc' : Nat) (hp : pc + 1 = pc')
    (hr : ∀ z, z = a.toUInt32.toUInt16.toUInt32.toInt32 → OwnEnds p e below G (T.setTop (mkF m pc' Ls (.int z :: st)))) : OwnEnds p e below G (T.setTop (mkF m pc Ls (.int a :: st))) := by
  subst hp; exact own_st (fun _ q => XS.i2c X.here C.1 rfl (hb C.2.2.2.1 hd) rfl q) (hr _ rfl)
theorem own_lcmp (X : Stand p l e R s m args below meth c T locs cells slots) (C : OwnCx p s m meth c Z y bs maxL rt) {a b : Int64} (hd : decode bs pc = .ok (.lcmp, 1)) (pc' : Nat) (hp : pc + 1 = pc')
    (hr : ∀ z : Int32, (a.toInt < b.toInt → z.toInt = -1) → (a.toInt = b.toInt → z.toInt = 0) → (b.toInt < a.toInt → z.toInt = 1) → OwnEnds p e below G (T.setTop (mkF m pc' Ls (.int z :: st)))) : OwnEnds p e below G (T.setTop (mkF m pc Ls (.long b :: .long a :: st))) := by
  subst hp; exact own_st (fun _ q => XS.lcmp X.here C.1 rfl (hb C.2.2.2.1 hd) rfl q) (hr _ (c_lcmp a b).1 (c_lcmp a b).2.1 (c_lcmp a b).2.2)
theorem own_dup (X : Stand p l e R s m args below meth c T locs cells slots) (C : OwnCx p s m meth c Z y bs maxL rt) {v : Value} (hd : decode bs pc = .ok (.dup, 1)) (pc' : Nat) (hp : pc + 1 = pc') (hc : v.category = 1)
    (hr : OwnEnds p e below G (T.setTop (mkF m pc' Ls (v :: v :: st)))) : OwnEnds p e below G (T.setTop (mkF m pc Ls (v :: st))) := by
  subst hp; exact own_st (fun _ q => XS.dup X.here C.1 rfl (hb C.2.2.2.1 hd) rfl hc q) hr
theorem own_dup_x1 (X : Stand p l e R s m args below meth c T locs cells slots) (C : OwnCx p s m meth c Z y bs maxL rt) {v w : Value} (hd : decode bs pc = .ok (.dup_x1, 1)) (pc' : Nat) (hp : pc + 1 = pc') (hc : v.category = 1) (hc' : w.category = 1)
    (hr : OwnEnds p e below G (T.setTop (mkF m pc' Ls (v :: w :: v :: st)))) : OwnEnds p e below G (T.setTop (mkF m pc Ls (v :: w :: st))) := by
  subst hp; exact own_st (fun _ q => XS.dupX1 X.here C.1 rfl (hb C.2.2.2.1 hd) rfl hc hc' q) hr
theorem own_pop (X : Stand p l e R s m args below meth c T locs cells slots) (C : OwnCx p s m meth c Z y bs maxL rt) {v : Value} (hd : decode bs pc = .ok (.pop, 1)) (pc' : Nat) (hp : pc + 1 = pc') (hc : v.category = 1)
    (hr : OwnEnds p e below G (T.setTop (mkF m pc' Ls st))) : OwnEnds p e below G (T.setTop (mkF m pc Ls (v :: st))) := by
  subst hp; exact own_st (fun _ q => XS.pop X.here C.1 rfl (hb C.2.2.2.1 hd) rfl hc q) hr
theorem own_dup2 (X : Stand p l e R s m args below meth c T locs cells slots) (C : OwnCx p s m meth c Z y bs maxL rt) {v w : Value} (hd : decode bs pc = .ok (.dup2, 1)) (pc' : Nat) (hp : pc + 1 = pc') (hc : v.category = 1) (hc' : w.category = 1)
    (hr : OwnEnds p e below G (T.setTop (mkF m pc' Ls (v :: w :: v :: w :: st)))) : OwnEnds p e below G (T.setTop (mkF m pc Ls (v :: w :: st))) := by
  subst hp; exact own_st (fun _ q => XT.dup2 X.here C.1 rfl (hb C.2.2.2.1 hd) rfl hc hc' q) hr
theorem own_goto (X : Stand p l e R s m args below meth c T locs cells slots) (C : OwnCx p s m meth c Z y bs maxL rt) {o : Int} (hd : decode bs pc = .ok (.goto o, 3)) (pc' : Nat) (ho : 0 ≤ (pc : Int) + o) (hp : ((pc : Int) + o).toNat = pc')
    (hr : OwnEnds p e below G (T.setTop (mkF m pc' Ls st))) : OwnEnds p e below G (T.setTop (mkF m pc Ls st)) :=
  own_st (fun _ q => XS.goto X.here C.1 rfl rfl (hb C.2.2.2.1 hd) ho hp q) hr
theorem own_icmplt (X : Stand p l e R s m args below meth c T locs cells slots) (C : OwnCx p s m meth c Z y bs maxL rt) {x' y' : Int32} {o : Int} (hd : decode bs pc = .ok (.if_icmp .lt o, 3)) (pn pc' : Nat) (hpn : pc + 3 = pn) (ho : 0 ≤ (pc : Int) + o) (hp : ((pc : Int) + o).toNat = pc') {i : Int} (hi : x'.toInt = i) {j : Int} (hj : y'.toInt = j) 
    (hy : i < j → OwnEnds p e below G (T.setTop (mkF m pc' Ls st))) (hn : j ≤ i → OwnEnds p e below G (T.setTop (mkF m pn Ls st))) : OwnEnds p e below G (T.setTop (mkF m pc Ls (.int y' :: .int x' :: st))) := by
  subst hpn
  by_cases k : x' < y'
  · exact own_st (fun _ q => XS.icmpYes X.here C.1 rfl rfl (hb C.2.2.2.1 hd) rfl (((tlt k).1)) ho hp q) (hy (by rw [Int32.lt_iff_toInt_lt] at k; have q : y'.toInt = j := hj; omega))
  · exact own_st (fun _ q => XS.icmpNo X.here C.1 rfl (hb C.2.2.2.1 hd) rfl (((flt k).1)) q) (hn (by rw [Int32.lt_iff_toInt_lt] at k; have q : y'.toInt = j := hj; omega))
theorem own_icmpge (X : Stand p l e R s m args below meth c T locs cells slots) (C : OwnCx p s m meth c Z y bs maxL rt) {x' y' : Int32} {o : Int} (hd : decode bs pc = .ok (.if_icmp .ge o, 3)) (pn pc' : Nat) (hpn : pc + 3 = pn) (ho : 0 ≤ (pc : Int) + o) (hp : ((pc : Int) + o).toNat = pc') {i : Int} (hi : x'.toInt = i) {j : Int} (hj : y'.toInt = j) 
    (hy : j ≤ i → OwnEnds p e below G (T.setTop (mkF m pc' Ls st))) (hn : i < j → OwnEnds p e below G (T.setTop (mkF m pn Ls st))) : OwnEnds p e below G (T.setTop (mkF m pc Ls (.int y' :: .int x' :: st))) := by
  subst hpn
  by_cases k : x' < y'
  · exact own_st (fun _ q => XS.icmpNo X.here C.1 rfl (hb C.2.2.2.1 hd) rfl (((tlt k).2.1)) q) (hn (by rw [Int32.lt_iff_toInt_lt] at k; have q : y'.toInt = j := hj; omega))
  · exact own_st (fun _ q => XS.icmpYes X.here C.1 rfl rfl (hb C.2.2.2.1 hd) rfl (((flt k).2.1)) ho hp q) (hy (by rw [Int32.lt_iff_toInt_lt] at k; have q : y'.toInt = j := hj; omega))
theorem own_icmpgt (X : Stand p l e R s m args below meth c T locs cells slots) (C : OwnCx p s m meth c Z y bs maxL rt) {x' y' : Int32} {o : Int} (hd : decode bs pc = .ok (.if_icmp .gt o, 3)) (pn pc' : Nat) (hpn : pc + 3 = pn) (ho : 0 ≤ (pc : Int) + o) (hp : ((pc : Int) + o).toNat = pc') {i : Int} (hi : x'.toInt = i) {j : Int} (hj : y'.toInt = j) 
    (hy : j < i → OwnEnds p e below G (T.setTop (mkF m pc' Ls st))) (hn : i ≤ j → OwnEnds p e below G (T.setTop (mkF m pn Ls st))) : OwnEnds p e below G (T.setTop (mkF m pc Ls (.int y' :: .int x' :: st))) := by
  subst hpn
  by_cases k : y' < x'
  · exact own_st (fun _ q => XS.icmpYes X.here C.1 rfl rfl (hb C.2.2.2.1 hd) rfl (((tlt k).2.2.1)) ho hp q) (hy (by rw [Int32.lt_iff_toInt_lt] at k; have q : y'.toInt = j := hj; omega))
  · exact own_st (fun _ q => XS.icmpNo X.here C.1 rfl (hb C.2.2.2.1 hd) rfl (((flt k).2.2.1)) q) (hn (by rw [Int32.lt_iff_toInt_lt] at k; have q : y'.toInt = j := hj; omega))
theorem own_icmple (X : Stand p l e R s m args below meth c T locs cells slots) (C : OwnCx p s m meth c Z y bs maxL rt) {x' y' : Int32} {o : Int} (hd : decode bs pc = .ok (.if_icmp .le o, 3)) (pn pc' : Nat) (hpn : pc + 3 = pn) (ho : 0 ≤ (pc : Int) + o) (hp : ((pc : Int) + o).toNat = pc') {i : Int} (hi : x'.toInt = i) {j : Int} (hj : y'.toInt = j) 
    (hy : i ≤ j → OwnEnds p e below G (T.setTop (mkF m pc' Ls st))) (hn : j < i → OwnEnds p e below G (T.setTop (mkF m pn Ls st))) : OwnEnds p e below G (T.setTop (mkF m pc Ls (.int y' :: .int x' :: st))) := by
  subst hpn
  by_cases k : y' < x'
  · exact own_st (fun _ q => XS.icmpNo X.here C.1 rfl (hb C.2.2.2.1 hd) rfl (((tlt k).2.2.2)) q) (hn (by rw [Int32.lt_iff_toInt_lt] at k; have q : y'.toInt = j := hj; omega))
  · exact own_st (fun _ q => XS.icmpYes X.here C.1 rfl rfl (hb C.2.2.2.1 hd) rfl (((flt k).2.2.2)) ho hp q) (hy (by rw [Int32.lt_iff_toInt_lt] at k; have q : y'.toInt = j := hj; omega))
theorem own_icmpeq (X : Stand p l e R s m args below meth c T locs cells slots) (C : OwnCx p s m meth c Z y bs maxL rt) {x' y' : Int32} {o : Int} (hd : decode bs pc = .ok (.if_icmp .eq o, 3)) (pn pc' : Nat) (hpn : pc + 3 = pn) (ho : 0 ≤ (pc : Int) + o) (hp : ((pc : Int) + o).toNat = pc') {i : Int} (hi : x'.toInt = i) {j : Int} (hj : y'.toInt = j) 
    (hy : i = j → OwnEnds p e below G (T.setTop (mkF m pc' Ls st))) (hn : i ≠ j → OwnEnds p e below G (T.setTop (mkF m pn Ls st))) : OwnEnds p e below G (T.setTop (mkF m pc Ls (.int y' :: .int x' :: st))) := by
  subst hpn
  by_cases k : x' = y'
  · exact own_st (fun _ q => XS.icmpYes X.here C.1 rfl rfl (hb C.2.2.2.1 hd) rfl (((teq k).1)) ho hp q) (hy (by subst k; exact hi.symm.trans hj))
  · exact own_st (fun _ q => XS.icmpNo X.here C.1 rfl (hb C.2.2.2.1 hd) rfl (((feq k).1)) q) (hn (fun q => k (Int32.toInt_inj.mp (hi.trans (q.trans hj.symm)))))
theorem own_icmpne (X : Stand p l e R s m args below meth c T locs cells slots) (C : OwnCx p s m meth c Z y bs maxL rt) {x' y' : Int32} {o : Int} (hd : decode bs pc = .ok (.if_icmp .ne o, 3)) (pn pc' : Nat) (hpn : pc + 3 = pn) (ho : 0 ≤ (pc : Int) + o) (hp : ((pc : Int) + o).toNat = pc') {i : Int} (hi : x'.toInt = i) {j : Int} (hj : y'.toInt = j) 
    (hy : i ≠ j → OwnEnds p e below G (T.setTop (mkF m pc' Ls st))) (hn : i = j → OwnEnds p e below G (T.setTop (mkF m pn Ls st))) : OwnEnds p e below G (T.setTop (mkF m pc Ls (.int y' :: .int x' :: st))) := by
  subst hpn
  by_cases k : x' = y'
  · exact own_st (fun _ q => XS.icmpNo X.here C.1 rfl (hb C.2.2.2.1 hd) rfl (((teq k).2)) q) (hn (by subst k; exact hi.symm.trans hj))
  · exact own_st (fun _ q => XS.icmpYes X.here C.1 rfl rfl (hb C.2.2.2.1 hd) rfl (((feq k).2)) ho hp q) (hy (fun q => k (Int32.toInt_inj.mp (hi.trans (q.trans hj.symm)))))
theorem own_iflt (X : Stand p l e R s m args below meth c T locs cells slots) (C : OwnCx p s m meth c Z y bs maxL rt) {x' : Int32} {o : Int} (hd : decode bs pc = .ok (.ifCond .lt o, 3)) (pn pc' : Nat) (hpn : pc + 3 = pn) (ho : 0 ≤ (pc : Int) + o) (hp : ((pc : Int) + o).toNat = pc') {i : Int} (hi : x'.toInt = i) 
    (hy : i < 0 → OwnEnds p e below G (T.setTop (mkF m pc' Ls st))) (hn : 0 ≤ i → OwnEnds p e below G (T.setTop (mkF m pn Ls st))) : OwnEnds p e below G (T.setTop (mkF m pc Ls (.int x' :: st))) := by
  subst hpn
  by_cases k : x' < (0 : Int32)
  · exact own_st (fun _ q => XS.ifYes X.here C.1 rfl rfl (hb C.2.2.2.1 hd) rfl ((if0 _ _).trans ((tlt k).1)) ho hp q) (hy (by rw [Int32.lt_iff_toInt_lt] at k; have q : (0 : Int32).toInt = 0 := (rfl : (0 : Int32).toInt = 0); omega))
  · exact own_st (fun _ q => XS.ifNo X.here C.1 rfl (hb C.2.2.2.1 hd) rfl ((if0 _ _).trans ((flt k).1)) q) (hn (by rw [Int32.lt_iff_toInt_lt] at k; have q : (0 : Int32).toInt = 0 := (rfl : (0 : Int32).toInt = 0); omega))
theorem own_ifge (X : Stand p l e R s m args below meth c T locs cells slots) (C : OwnCx p s m meth c Z y bs maxL rt) {x' : Int32} {o : Int} (hd : decode bs pc = .ok (.ifCond .ge o, 3)) (pn pc' : Nat) (hpn : pc + 3 = pn) (ho : 0 ≤ (pc : Int) + o) (hp : ((pc : Int) + o).toNat = pc') {i : Int} (hi : x'.toInt = i) 
    (hy : 0 ≤ i → OwnEnds p e below G (T.setTop (mkF m pc' Ls st))) (hn : i < 0 → OwnEnds p e below G (T.setTop (mkF m pn Ls st))) : OwnEnds p e below G (T.setTop (mkF m pc Ls (.int x' :: st))) := by
  subst hpn
  by_cases k : x' < (0 : Int32)
  · exact own_st (fun _ q => XS.ifNo X.here C.1 rfl (hb C.2.2.2.1 hd) rfl ((if0 _ _).trans ((tlt k).2.1)) q) (hn (by rw [Int32.lt_iff_toInt_lt] at k; have q : (0 : Int32).toInt = 0 := (rfl : (0 : Int32).toInt = 0); omega))
  · exact own_st (fun _ q => XS.ifYes X.here C.1 rfl rfl (hb C.2.2.2.1 hd) rfl ((if0 _ _).trans ((flt k).2.1)) ho hp q) (hy (by rw [Int32.lt_iff_toInt_lt] at k; have q : (0 : Int32).toInt = 0 := (rfl : (0 : Int32).toInt = 0); omega))
theorem own_ifgt (X : Stand p l e R s m args below meth c T locs cells slots) (C : OwnCx p s m meth c Z y bs maxL rt) {x' : Int32} {o : Int} (hd : decode bs pc = .ok (.ifCond .gt o, 3)) (pn pc' : Nat) (hpn : pc + 3 = pn) (ho : 0 ≤ (pc : Int) + o) (hp : ((pc : Int) + o).toNat = pc') {i : Int} (hi : x'.toInt = i) 
    (hy : 0 < i → OwnEnds p e below G (T.setTop (mkF m pc' Ls st))) (hn : i ≤ 0 → OwnEnds p e below G (T.setTop (mkF m pn Ls st))) : OwnEnds p e below G (T.setTop (mkF m pc Ls (.int x' :: st))) := by
  subst hpn
  by_cases k : (0 : Int32) < x'
  · exact own_st (fun _ q => XS.ifYes X.here C.1 rfl rfl (hb C.2.2.2.1 hd) rfl ((if0 _ _).trans ((tlt k).2.2.1)) ho hp q) (hy (by rw [Int32.lt_iff_toInt_lt] at k; have q : (0 : Int32).toInt = 0 := (rfl : (0 : Int32).toInt = 0); omega))
  · exact own_st (fun _ q => XS.ifNo X.here C.1 rfl (hb C.2.2.2.1 hd) rfl ((if0 _ _).trans ((flt k).2.2.1)) q) (hn (by rw [Int32.lt_iff_toInt_lt] at k; have q : (0 : Int32).toInt = 0 := (rfl : (0 : Int32).toInt = 0); omega))
theorem own_ifle (X : Stand p l e R s m args below meth c T locs cells slots) (C : OwnCx p s m meth c Z y bs maxL rt) {x' : Int32} {o : Int} (hd : decode bs pc = .ok (.ifCond .le o, 3)) (pn pc' : Nat) (hpn : pc + 3 = pn) (ho : 0 ≤ (pc : Int) + o) (hp : ((pc : Int) + o).toNat = pc') {i : Int} (hi : x'.toInt = i) 
    (hy : i ≤ 0 → OwnEnds p e below G (T.setTop (mkF m pc' Ls st))) (hn : 0 < i → OwnEnds p e below G (T.setTop (mkF m pn Ls st))) : OwnEnds p e below G (T.setTop (mkF m pc Ls (.int x' :: st))) := by
  subst hpn
  by_cases k : (0 : Int32) < x'
  · exact own_st (fun _ q => XS.ifNo X.here C.1 rfl (hb C.2.2.2.1 hd) rfl ((if0 _ _).trans ((tlt k).2.2.2)) q) (hn (by rw [Int32.lt_iff_toInt_lt] at k; have q : (0 : Int32).toInt = 0 := (rfl : (0 : Int32).toInt = 0); omega))
  · exact own_st (fun _ q => XS.ifYes X.here C.1 rfl rfl (hb C.2.2.2.1 hd) rfl ((if0 _ _).trans ((flt k).2.2.2)) ho hp q) (hy (by rw [Int32.lt_iff_toInt_lt] at k; have q : (0 : Int32).toInt = 0 := (rfl : (0 : Int32).toInt = 0); omega))
theorem own_ifeq (X : Stand p l e R s m args below meth c T locs cells slots) (C : OwnCx p s m meth c Z y bs maxL rt) {x' : Int32} {o : Int} (hd : decode bs pc = .ok (.ifCond .eq o, 3)) (pn pc' : Nat) (hpn : pc + 3 = pn) (ho : 0 ≤ (pc : Int) + o) (hp : ((pc : Int) + o).toNat = pc') {i : Int} (hi : x'.toInt = i) 
    (hy : i = 0 → OwnEnds p e below G (T.setTop (mkF m pc' Ls st))) (hn : i ≠ 0 → OwnEnds p e below G (T.setTop (mkF m pn Ls st))) : OwnEnds p e below G (T.setTop (mkF m pc Ls (.int x' :: st))) := by
  subst hpn
  by_cases k : x' = (0 : Int32)
  · exact own_st (fun _ q => XS.ifYes X.here C.1 rfl rfl (hb C.2.2.2.1 hd) rfl ((if0 _ _).trans ((teq k).1)) ho hp q) (hy (by subst k; exact hi.symm.trans (rfl : (0 : Int32).toInt = 0)))
  · exact own_st (fun _ q => XS.ifNo X.here C.1 rfl (hb C.2.2.2.1 hd) rfl ((if0 _ _).trans ((feq k).1)) q) (hn (fun q => k (Int32.toInt_inj.mp (hi.trans (q.trans (rfl : (0 : Int32).toInt = 0).symm)))))
theorem own_ifne (X : Stand p l e R s m args below meth c T locs cells slots) (C : OwnCx p s m meth c Z y bs maxL rt) {x' : Int32} {o : Int} (hd : decode bs pc = .ok (.ifCond .ne o, 3)) (pn pc' : Nat) (hpn : pc + 3 = pn) (ho : 0 ≤ (pc : Int) + o) (hp : ((pc : Int) + o).toNat = pc') {i : Int} (hi : x'.toInt = i) 
    (hy : i ≠ 0 → OwnEnds p e below G (T.setTop (mkF m pc' Ls st))) (hn : i = 0 → OwnEnds p e below G (T.setTop (mkF m pn Ls st))) : OwnEnds p e below G (T.setTop (mkF m pc Ls (.int x' :: st))) := by
  subst hpn
  by_cases k : x' = (0 : Int32)
  · exact own_st (fun _ q => XS.ifNo X.here C.1 rfl (hb C.2.2.2.1 hd) rfl ((if0 _ _).trans ((teq k).2)) q) (hn (by subst k; exact hi.symm.trans (rfl : (0 : Int32).toInt = 0)))
  · exact own_st (fun _ q => XS.ifYes X.here C.1 rfl rfl (hb C.2.2.2.1 hd) rfl ((if0 _ _).trans ((feq k).2)) ho hp q) (hy (fun q => k (Int32.toInt_inj.mp (hi.trans (q.trans (rfl : (0 : Int32).toInt = 0).symm)))))
theorem own_ifnonnull_y (X : Stand p l e R s m args below meth c T locs cells slots) (C : OwnCx p s m meth c Z y bs maxL rt) {b : Addr} {o : Int} (hd : decode bs pc = .ok (.ifnonnull o, 3)) (pc' : Nat) (ho : 0 ≤ (pc : Int) + o) (hp : ((pc : Int) + o).toNat = pc')
    (hr : OwnEnds p e below G (T.setTop (mkF m pc' Ls st))) : OwnEnds p e below G (T.setTop (mkF m pc Ls (.ref b :: st))) :=
  own_st (fun _ q => XS.ifnonnullYes X.here C.1 rfl rfl (hb C.2.2.2.1 hd) rfl ho hp q) hr
theorem own_ifnull_n (X : Stand p l e R s m args below meth c T locs cells slots) (C : OwnCx p s m meth c Z y bs maxL rt) {b : Addr} {o : Int} (hd : decode bs pc = .ok (.ifnull o, 3)) (pn : Nat) (hp : pc + 3 = pn)
    (hr : OwnEnds p e below G (T.setTop (mkF m pn Ls st))) : OwnEnds p e below G (T.setTop (mkF m pc Ls (.ref b :: st))) := by
  subst hp; exact own_st (fun _ q => XS.ifnullNo X.here C.1 rfl (hb C.2.2.2.1 hd) rfl q) hr
theorem own_ifnull_y (X : Stand p l e R s m args below meth c T locs cells slots) (C : OwnCx p s m meth c Z y bs maxL rt) {o : Int} (hd : decode bs pc = .ok (.ifnull o, 3)) (pc' : Nat) (ho : 0 ≤ (pc : Int) + o) (hp : ((pc : Int) + o).toNat = pc')
    (hr : OwnEnds p e below G (T.setTop (mkF m pc' Ls st))) : OwnEnds p e below G (T.setTop (mkF m pc Ls (.null :: st))) :=
  own_st (fun _ q => XS.ifnullYes X.here C.1 rfl rfl (hb C.2.2.2.1 hd) rfl ho hp q) hr
theorem own_ifnonnull_n (X : Stand p l e R s m args below meth c T locs cells slots) (C : OwnCx p s m meth c Z y bs maxL rt) {o : Int} (hd : decode bs pc = .ok (.ifnonnull o, 3)) (pn : Nat) (hp : pc + 3 = pn)
    (hr : OwnEnds p e below G (T.setTop (mkF m pn Ls st))) : OwnEnds p e below G (T.setTop (mkF m pc Ls (.null :: st))) := by
  subst hp; exact own_st (fun _ q => XS.ifnonnullNo X.here C.1 rfl (hb C.2.2.2.1 hd) rfl q) hr
theorem own_acmpeq (X : Stand p l e R s m args below meth c T locs cells slots) (C : OwnCx p s m meth c Z y bs maxL rt) {a b : Addr} {o : Int} (hd : decode bs pc = .ok (.if_acmp .eq o, 3)) (pn pc' : Nat) (hpn : pc + 3 = pn) (ho : 0 ≤ (pc : Int) + o) (hp : ((pc : Int) + o).toNat = pc')
    (hy : a = b → OwnEnds p e below G (T.setTop (mkF m pc' Ls st))) (hn : a ≠ b → OwnEnds p e below G (T.setTop (mkF m pn Ls st))) : OwnEnds p e below G (T.setTop (mkF m pc Ls (.ref b :: .ref a :: st))) := by
  subst hpn
  by_cases k : a = b
  · exact own_st (fun _ q => XS.acmpYes X.here C.1 rfl rfl (hb C.2.2.2.1 hd) rfl (by simp [if_acmp.holds, k]) ho hp q) (hy k)
  · exact own_st (fun _ q => XS.acmpNo X.here C.1 rfl (hb C.2.2.2.1 hd) rfl (by simp [if_acmp.holds, k]) q) (hn k)
theorem own_acmpne (X : Stand p l e R s m args below meth c T locs cells slots) (C : OwnCx p s m meth c Z y bs maxL rt) {a b : Addr} {o : Int} (hd : decode bs pc = .ok (.if_acmp .ne o, 3)) (pn pc' : Nat) (hpn : pc + 3 = pn) (ho : 0 ≤ (pc : Int) + o) (hp : ((pc : Int) + o).toNat = pc')
    (hy : a ≠ b → OwnEnds p e below G (T.setTop (mkF m pc' Ls st))) (hn : a = b → OwnEnds p e below G (T.setTop (mkF m pn Ls st))) : OwnEnds p e below G (T.setTop (mkF m pc Ls (.ref b :: .ref a :: st))) := by
  subst hpn
  by_cases k : a = b
  · exact own_st (fun _ q => XS.acmpNo X.here C.1 rfl (hb C.2.2.2.1 hd) rfl (by simp [if_acmp.holds, k]) q) (hn k)
  · exact own_st (fun _ q => XS.acmpYes X.here C.1 rfl rfl (hb C.2.2.2.1 hd) rfl (by simp [if_acmp.holds, k]) ho hp q) (hy k)
theorem own_leave (X : Stand p l e R s m args below meth c T locs cells slots) (C : OwnCx p s m meth c Z y bs maxL rt) (v : Option Value) (hv : meth.sig.returnType = none → v = none) (hce : cells ≤ ce) (hsl : slots ≤ sl) (hQ : Q v T.heap locs) {S : State}
    (k : ∀ fs, (∀ (f : JFrame) (acts : List Action), f.method = m → f.locked = none → f.entered = [] → (doReturn e (T.setTop f) acts v).1 = T.setFrames fs) → Steps p.tables e below S (T.setFrames fs)) : OwnEnds p e below (OwnG s ce sl Q) S := by
  obtain ⟨fs, hr, hrun, hended, hW, hsame⟩ := X.leave (v := v) hv C.2.2.2.2.2.2.1
  exact ⟨_, _, k fs hr, hrun, hended, _, _, rfl, hQ, ⟨_, rfl⟩, hW, hsame.mono hce hsl⟩
theorem own_return (X : Stand p l e R s m args below meth c T locs cells slots) (C : OwnCx p s m meth c Z y bs maxL rt) (hrt : rt = none) (hd : decode bs pc = .ok (.return_, 1)) (hce : cells ≤ ce) (hsl : slots ≤ sl) (hQ : Q none T.heap locs) : OwnEnds p e below (OwnG s ce sl Q) (T.setTop (mkF m pc Ls [])) := by
  subst hrt
  exact own_leave X C none (fun _ => rfl) hce hsl hQ fun fs hr => X.returnOut C.1 C.2.2.2.2.2.1 (hb C.2.2.2.1 hd) hr
theorem own_iretN (X : Stand p l e R s m args below meth c T locs cells slots) (C : OwnCx p s m meth c Z y bs maxL rt) {z : Int32} (t : FieldType) (hrt : rt = some t) (ht : t = .boolean ∨ t = .byte ∨ t = .char ∨ t = .short) (hd : decode bs pc = .ok (.ireturn, 1)) (hce : cells ≤ ce) (hsl : slots ≤ sl) (w : Int32) (hw : nar t z = w) (hQ : Q (some (.int w)) T.heap locs) : OwnEnds p e below (OwnG s ce sl Q) (T.setTop (mkF m pc Ls (.int z :: st))) := by
  subst hrt hw
  exact own_leave X C (some (.int (nar t z))) (fun q => by rw [C.2.2.2.2.2.1] at q; cases q) hce hsl hQ fun fs hr => retN X C.1 C.2.2.2.2.2.1 ht (hb C.2.2.2.1 hd) hr
theorem own_ireturn (X : Stand p l e R s m args below meth c T locs cells slots) (C : OwnCx p s m meth c Z y bs maxL rt) {z : Int32} (hrt : rt = some .int) (hd : decode bs pc = .ok (.ireturn, 1)) (hce : cells ≤ ce) (hsl : slots ≤ sl) (hQ : Q (some (.int z)) T.heap locs) : OwnEnds p e below (OwnG s ce sl Q) (T.setTop (mkF m pc Ls (.int z :: st))) := by
  subst hrt
  exact own_leave X C (some (.int z)) (fun q => by rw [C.2.2.2.2.2.1] at q; cases q) hce hsl hQ fun fs hr => retOut X C.1 C.2.2.2.2.2.1 rfl (Or.inl ⟨rfl, Or.inl rfl, z, rfl⟩) (hb C.2.2.2.1 hd) hr
theorem own_lreturn (X : Stand p l e R s m args below meth c T locs cells slots) (C : OwnCx p s m meth c Z y bs maxL rt) {z : Int64} (hrt : rt = some .long) (hd : decode bs pc = .ok (.lreturn, 1)) (hce : cells ≤ ce) (hsl : slots ≤ sl) (hQ : Q (some (.long z)) T.heap locs) : OwnEnds p e below (OwnG s ce sl Q) (T.setTop (mkF m pc Ls (.long z :: st))) := by
  subst hrt
  exact own_leave X C (some (.long z)) (fun q => by rw [C.2.2.2.2.2.1] at q; cases q) hce hsl hQ fun fs hr => retOut X C.1 C.2.2.2.2.2.1 rfl (Or.inr (Or.inl ⟨rfl, rfl, z, rfl⟩)) (hb C.2.2.2.1 hd) hr
theorem own_areturn (X : Stand p l e R s m args below meth c T locs cells slots) (C : OwnCx p s m meth c Z y bs maxL rt) {z : Value} (t : FieldType) (hrt : rt = some t) (ht : t.isReference = true) (hz : z.isRef = true) (hn : narrow t z = z) (hd : decode bs pc = .ok (.areturn, 1)) (hce : cells ≤ ce) (hsl : slots ≤ sl) (hQ : Q (some z) T.heap locs) : OwnEnds p e below (OwnG s ce sl Q) (T.setTop (mkF m pc Ls (z :: st))) := by
  subst hrt
  exact own_leave X C (some z) (fun q => by rw [C.2.2.2.2.2.1] at q; cases q) hce hsl hQ fun fs hr => retOut X C.1 C.2.2.2.2.2.1 hn (Or.inr (Or.inr (Or.inr (Or.inr ⟨rfl, ht, hz⟩)))) (hb C.2.2.2.1 hd) hr
theorem own_callS (X : Stand p l e R s m args below meth c T locs cells slots) (C : OwnCx p s m meth c Z y bs maxL rt) {idx : Nat} {y' : MethodName} {bs' : ByteArray} {maxL' : Nat} {rt' : Option FieldType} {rm : Room} {as' : Array Value} {Q' : Option Value → Heap → List Loc → Prop}
    (w1 : (Jvm.Cond.methodLink y.cls idx y').before a0 Z = true) (w2 : (Jvm.Cond.static y').before a0 Z = true) (w3 : (Jvm.Cond.initialized y'.cls).before a0 Z = true) (w4 : (Jvm.Cond.code y' bs' maxL' rt').before a0 Z = true) (hy : y'.cls ≠ "java/lang/invoke/MethodHandle" ∧ y'.cls ≠ "java/lang/invoke/VarHandle")
    (hM : OwnMet l Z y' bs' maxL' rt' [] rm as' h Q') (eT : T.heap = h) {ps : List FieldType} {r : Option FieldType} (hpd : parseMethodDescriptor y'.desc = some ⟨ps, r⟩) (argsL : List Value) (has : argsL.toArray = as') (hlen : argsL.length = ps.length) (hst : st = argsL.reverse ++ rest) (hsz : Ls.size = maxL)
    (W : Nat) (hW : (rest.map fun v => v.category).sum = W) (hf : rm.frames + 1 ≤ R.frames) (hlo : W + (maxL' + 11) + rm.locals ≤ R.locals) (hce : cells + rm.cells ≤ R.cells) (hsl : slots + rm.slots ≤ R.slots) (hd : decode bs pc = .ok (.invokestatic idx, 3)) (pc' : Nat) (hp : pc + 3 = pc')
    (hr : ∀ T' L v, Stand p l e R s m args below meth c T' (locs ++ L) (cells + rm.cells) (slots + rm.slots) → Q' v T'.heap L → OwnEnds p e below G (T'.setTop (mkF m pc' Ls (v.toList ++ rest)))) : OwnEnds p e below G (T.setTop (mkF m pc Ls st)) := by
  subst hp has hW
  obtain ⟨v, _, ⟨T', L, k, n⟩, -, X', ⟨L', hQ, l1, l2, l3⟩, stp⟩ := Jvm.LawKit.callS X C.1 C.2.2.1 (mvT C.2.1 w1) (mvT C.2.1 w2) (mvT C.2.1 w3) (mvT C.2.1 w4) hy (backOf (len := 3) (W := (rest.map fun v => v.category).sum) hM C.2.1 w4 w3 hf hlo) (g := mkF m pc Ls st) rfl (by rw [C.2.2.2.2.1]; exact hsz) (argsL := argsL) (rest := rest) (lenOf hpd hlen) hst (by show 2 * 0 + _ ≤ _; omega) (hb C.2.2.2.1 hd) (fun _ _ => ⟨rfl, eT, hce, hsl⟩)
  dsimp only [Pt.U, Pt.locs, Pt.cells, Pt.slots] at X' l1 l2 l3 stp hQ
  subst l1 l2 l3
  exact own_st stp (hr T' L' v X' hQ)
/-- a callee that returns w and leaves the heap alone -/
def OwnPure (w : Value) (h : Heap) : Option Value → Heap → List Loc → Prop := fun v h' L => v = some w ∧ h' = h ∧ L = []
theorem own_conv {ws : List Jvm.Cond} {rm : Room} {as' : Array Value} {w w' : Value} (H : OwnMet l Z y bs maxL rt ws rm as' h (OwnPure w h)) (q : w = w') : OwnMet l Z y bs maxL rt ws rm as' h (OwnPure w' h) := q ▸ H
theorem own_callP (X : Stand p l e R s m args below meth c T locs cells slots) (C : OwnCx p s m meth c Z y bs maxL rt) {idx : Nat} {y' : MethodName} {bs' : ByteArray} {maxL' : Nat} {rt' : Option FieldType} {rm : Room} {as' : Array Value} {w : Value}
    (w1 : (Jvm.Cond.methodLink y.cls idx y').before a0 Z = true) (w2 : (Jvm.Cond.static y').before a0 Z = true) (w3 : (Jvm.Cond.initialized y'.cls).before a0 Z = true) (w4 : (Jvm.Cond.code y' bs' maxL' rt').before a0 Z = true) (hy : y'.cls ≠ "java/lang/invoke/MethodHandle" ∧ y'.cls ≠ "java/lang/invoke/VarHandle")
    (hM : OwnMet l Z y' bs' maxL' rt' [] rm as' h (OwnPure w h)) (eT : T.heap = h) {ps : List FieldType} {r : Option FieldType} (hpd : parseMethodDescriptor y'.desc = some ⟨ps, r⟩) (argsL : List Value) (has : argsL.toArray = as') (hlen : argsL.length = ps.length) (hst : st = argsL.reverse ++ rest) (hsz : Ls.size = maxL)
    (W : Nat) (hW : (rest.map fun v => v.category).sum = W) (hf : rm.frames + 1 ≤ R.frames) (hlo : W + (maxL' + 11) + rm.locals ≤ R.locals) (hce : rm.cells = 0) (hsl : rm.slots = 0) (hc0 : cells ≤ R.cells) (hs0 : slots ≤ R.slots) (hd : decode bs pc = .ok (.invokestatic idx, 3)) (pc' : Nat) (hp : pc + 3 = pc')
    (hr : ∀ T', Stand p l e R s m args below meth c T' locs cells slots → T'.heap = h → OwnEnds p e below G (T'.setTop (mkF m pc' Ls (w :: rest)))) : OwnEnds p e below G (T.setTop (mkF m pc Ls st)) := by
  refine own_callS X C w1 w2 w3 w4 hy hM eT hpd argsL has hlen hst hsz W hW hf hlo (by omega) (by omega) hd pc' hp ?_
  rintro T' L v X' ⟨rfl, e, rfl⟩
  rw [List.append_nil, hce, hsl] at X'
  exact hr T' X' e
/-- a callee that leaves the heap alone and returns a value of which Pw says something -/
def OwnSome (Pw : Value → Prop) (h : Heap) : Option Value → Heap → List Loc → Prop := fun v h' L => (∃ w, v = some w ∧ Pw w) ∧ h' = h ∧ L = []
theorem own_callE (X : Stand p l e R s m args below meth c T locs cells slots) (C : OwnCx p s m meth c Z y bs maxL rt) {idx : Nat} {y' : MethodName} {bs' : ByteArray} {maxL' : Nat} {rt' : Option FieldType} {rm : Room} {as' : Array Value} {Pw : Value → Prop}
    (w1 : (Jvm.Cond.methodLink y.cls idx y').before a0 Z = true) (w2 : (Jvm.Cond.static y').before a0 Z = true) (w3 : (Jvm.Cond.initialized y'.cls).before a0 Z = true) (w4 : (Jvm.Cond.code y' bs' maxL' rt').before a0 Z = true) (hy : y'.cls ≠ "java/lang/invoke/MethodHandle" ∧ y'.cls ≠ "java/lang/invoke/VarHandle")
    (hM : OwnMet l Z y' bs' maxL' rt' [] rm as' h (OwnSome Pw h)) (eT : T.heap = h) {ps : List FieldType} {r : Option FieldType} (hpd : parseMethodDescriptor y'.desc = some ⟨ps, r⟩) (argsL : List Value) (has : argsL.toArray = as') (hlen : argsL.length = ps.length) (hst : st = argsL.reverse ++ rest) (hsz : Ls.size = maxL)
    (W : Nat) (hW : (rest.map fun v => v.category).sum = W) (hf : rm.frames + 1 ≤ R.frames) (hlo : W + (maxL' + 11) + rm.locals ≤ R.locals) (hce : rm.cells = 0) (hsl : rm.slots = 0) (hc0 : cells ≤ R.cells) (hs0 : slots ≤ R.slots) (hd : decode bs pc = .ok (.invokestatic idx, 3)) (pc' : Nat) (hp : pc + 3 = pc')
    (hr : ∀ T' w, Pw w → Stand p l e R s m args below meth c T' locs cells slots → T'.heap = h → OwnEnds p e below G (T'.setTop (mkF m pc' Ls (w :: rest)))) : OwnEnds p e below G (T.setTop (mkF m pc Ls st)) := by
  refine own_callS X C w1 w2 w3 w4 hy hM eT hpd argsL has hlen hst hsz W hW hf hlo (by omega) (by omega) hd pc' hp ?_
  rintro T' L v X' ⟨⟨w, rfl, hw⟩, e, rfl⟩
  rw [List.append_nil, hce, hsl] at X'
  exact hr T' w hw X' e
end OwnLayer
section OwnHeap
variable {p : Program} {l : Launch} {e : Env} {R : Room} {s : State} {m : MethodId} {args : Array Value} {below : List Frame} {meth : Method} {c : Code} {T : State} {locs : List Loc} {cells slots : Nat} {Z : State} {y : MethodName} {bs : ByteArray} {maxL : Nat} {rt : Option FieldType} {ce sl : Nat} {Q : Option Value → Heap → List Loc → Prop} {G : Outcome → State → Prop} {pc : Nat} {Ls : Array Slot} {st rest : List Value} {h h' : Heap} {a0 : Array Value} {a : Addr}
/-- an array: its length and what lies at each place -/
def OwnAr (Z : State) (h : Heap) (a : Addr) (ty : FieldType) (n : Nat) (f : Nat → Value) : Prop := ∃ cl : Cell, Arr Z h a cl ty ∧ cl.slots.size = n ∧ ∀ i, i < n → cl.slots[i]? = some (f i)
theorem OwnAr.lt {ty : FieldType} {n : Nat} {f : Nat → Value} (F : OwnAr Z h a ty n f) : a < h.size := by obtain ⟨cl, A, -⟩ := F; exact A.lt
theorem OwnAr.ext {ty : FieldType} {n : Nat} {f : Nat → Value} (F : OwnAr Z h a ty n f) (E : Ext h h') : OwnAr Z h' a ty n f := by obtain ⟨cl, A, r⟩ := F; exact ⟨cl, A.ext E, r⟩
theorem OwnAr.other {ty : FieldType} {n : Nat} {f : Nat → Value} {b : Addr} {sl : Nat} {v : Value} (F : OwnAr Z h a ty n f) (W : Wr h h' b sl v) (q : a ≠ b) : OwnAr Z h' a ty n f := by obtain ⟨cl, A, r⟩ := F; exact ⟨cl, A.other W q, r⟩
theorem OwnAr.keep {ty : FieldType} {n : Nat} {f : Nat → Value} {ws : List Addr} (F : OwnAr Z h a ty n f) (K : Keep h h' ws) (q : a ∉ ws) : OwnAr Z h' a ty n f := by obtain ⟨cl, A, r⟩ := F; exact ⟨cl, ⟨K.2.1 a cl A.1 q, A.2⟩, r⟩
theorem OwnAr.eqv {ty : FieldType} {n : Nat} {f g : Nat → Value} (F : OwnAr Z h a ty n f) (q : ∀ i, i < n → f i = g i) : OwnAr Z h a ty n g := by obtain ⟨cl, A, S, r⟩ := F; exact ⟨cl, A, S, fun i hi => by rw [r i hi, q i hi]⟩
theorem OwnAr.set {ty : FieldType} {n : Nat} {f : Nat → Value} {k : Nat} {v : Value} (F : OwnAr Z h a ty n f) (W : Wr h h' a k v) : OwnAr Z h' a ty n (fun i => if i = k then v else f i) := by
  obtain ⟨cl, A, S, r⟩ := F
  obtain ⟨cl', w1, w2, w3, w4⟩ := id W
  cases A.1.symm.trans w1
  refine ⟨cl.setSlot k v, A.same W, by rw [sz_set]; exact S, fun i hi => ?_⟩
  by_cases q : i = k
  · subst q; simp [Cell.setSlot, w3]
  · simp [Cell.setSlot, q, Array.getElem?_setIfInBounds_ne (Ne.symm q), r i hi]
theorem OwnAr.new {ty : FieldType} {n : Int32} {cA : ClassId} (A : Arr Z h a (newA cA ty n) ty) : OwnAr Z h a ty n.toNatClampNeg (fun _ => defaultValue ty) := ⟨_, A, sz_new _ _ _, fun i hi => by simp [newA, hi]⟩
theorem own_fr1 {k : Nat} {L : List Loc} {a : Addr} {sl : Nat} (N : Fr k L) (q : k ≤ a) : Fr k (L ++ [⟨a, sl⟩]) := N.app fun y hy => by cases List.mem_singleton.mp hy; exact q
theorem own_stak {C n d : String} {v : Value} (F : Sta Z h C n d v) (K : Keep h h' []) : Sta Z h' C n d v := by
  obtain ⟨cf, i, k, f, st, cell, h1, h2, h3, h4, h5, r⟩ := F
  exact ⟨cf, i, k, f, st, cell, h1, h2, h3, h4, K.2.1 _ _ h5 nin0, r⟩
theorem own_arl {a : Nat} {ty : FieldType} {n : Nat} {f : Nat → Value} (F : OwnAr Z h a ty n f) : a < h.size := F.lt
theorem own_exl {a : Nat} {K : String} (F : Exa Z h a K) : a < h.size := F.lt
theorem own_iteI {q : Prop} [Decidable q] {a b : Int32} : (if q then Value.int a else Value.int b) = Value.int (if q then a else b) := by split <;> rfl
theorem own_iteL {q : Prop} [Decidable q] {a b : Int64} : (if q then Value.long a else Value.long b) = Value.long (if q then a else b) := by split <;> rfl
theorem own_ne {x y : Nat} (q : x ≠ y) : @Ne Addr x y := q
theorem own_in {j : Int32} {n : Nat} (h0 : 0 ≤ j.toInt) (h1 : j.toInt < n) : ¬ (j < 0 ∨ n ≤ j.toNatClampNeg) := by
  rintro (q | q)
  · rw [Int32.lt_iff_toInt_lt] at q; have : (0 : Int32).toInt = 0 := rfl; omega
  · have e : j.toNatClampNeg = j.toInt.toNat := rfl
    omega
theorem own_len {n : Nat} (h : n < 2147483648) : (n.toInt32).toInt = n := by
  show (Int32.ofNat n).toInt = _
  rw [Int32.toInt_ofNat_of_lt (by omega)]
theorem own_iastore (X : Stand p l e R s m args below meth c T locs cells slots) (C : OwnCx p s m meth c Z y bs maxL rt) {v : Int32} {j : Int32} {n : Nat} {f : Nat → Value} (eT : T.heap = h) (F : OwnAr Z h a .int n f) (h0 : 0 ≤ j.toInt) (h1 : j.toInt < n) (hd : decode bs pc = .ok (.iastore, 1)) (pc' : Nat) (hp : pc + 1 = pc')
    (hr : ∀ T' h', Stand p l e R s m args below meth c T' (locs ++ [⟨a, j.toInt.toNat⟩]) cells slots → T'.heap = h' → Wr h h' a j.toInt.toNat (.int v) → OwnEnds p e below G (T'.setTop (mkF m pc' Ls st))) : OwnEnds p e below G (T.setTop (mkF m pc Ls ((.int v) :: .int j :: .ref a :: st))) := by
  subst hp
  obtain ⟨cl, A, S, r⟩ := F
  obtain ⟨T', h', X', e', W, stp⟩ := stI X C.1 C.2.1 eT A (j := j) (x := v) (by rw [S]; exact own_in h0 h1) (g := mkF m pc Ls _) rfl rfl (hb C.2.2.2.1 hd)
  exact own_st stp (hr T' h' X' e' W)
theorem own_lastore (X : Stand p l e R s m args below meth c T locs cells slots) (C : OwnCx p s m meth c Z y bs maxL rt) {v : Int64} {j : Int32} {n : Nat} {f : Nat → Value} (eT : T.heap = h) (F : OwnAr Z h a .long n f) (h0 : 0 ≤ j.toInt) (h1 : j.toInt < n) (hd : decode bs pc = .ok (.lastore, 1)) (pc' : Nat) (hp : pc + 1 = pc')
    (hr : ∀ T' h', Stand p l e R s m args below meth c T' (locs ++ [⟨a, j.toInt.toNat⟩]) cells slots → T'.heap = h' → Wr h h' a j.toInt.toNat (.long v) → OwnEnds p e below G (T'.setTop (mkF m pc' Ls st))) : OwnEnds p e below G (T.setTop (mkF m pc Ls ((.long v) :: .int j :: .ref a :: st))) := by
  subst hp
  obtain ⟨cl, A, S, r⟩ := F
  obtain ⟨T', h', X', e', W, stp⟩ := stJ X C.1 C.2.1 eT A (j := j) (x := v) (by rw [S]; exact own_in h0 h1) (g := mkF m pc Ls _) rfl rfl (hb C.2.2.2.1 hd)
  exact own_st stp (hr T' h' X' e' W)
theorem own_bastoreB (X : Stand p l e R s m args below meth c T locs cells slots) (C : OwnCx p s m meth c Z y bs maxL rt) {v : Int32} {j : Int32} {n : Nat} {f : Nat → Value} (eT : T.heap = h) (F : OwnAr Z h a .byte n f) (h0 : 0 ≤ j.toInt) (h1 : j.toInt < n) (hd : decode bs pc = .ok (.bastore, 1)) (pc' : Nat) (hp : pc + 1 = pc') (w : Int32) (hw : v.toInt8.toInt32 = w)
    (hr : ∀ T' h', Stand p l e R s m args below meth c T' (locs ++ [⟨a, j.toInt.toNat⟩]) cells slots → T'.heap = h' → Wr h h' a j.toInt.toNat (.int w) → OwnEnds p e below G (T'.setTop (mkF m pc' Ls st))) : OwnEnds p e below G (T.setTop (mkF m pc Ls (.int v :: .int j :: .ref a :: st))) := by
  subst hp hw
  obtain ⟨cl, A, S, r⟩ := F
  obtain ⟨T', h', X', e', W, stp⟩ := stB X C.1 C.2.1 eT A (j := j) (x := v) (by rw [S]; exact own_in h0 h1) (g := mkF m pc Ls _) rfl rfl (hb C.2.2.2.1 hd)
  exact own_st stp (hr T' h' X' e' W)
theorem own_castore (X : Stand p l e R s m args below meth c T locs cells slots) (C : OwnCx p s m meth c Z y bs maxL rt) {v : Int32} {j : Int32} {n : Nat} {f : Nat → Value} (eT : T.heap = h) (F : OwnAr Z h a .char n f) (h0 : 0 ≤ j.toInt) (h1 : j.toInt < n) (hd : decode bs pc = .ok (.castore, 1)) (pc' : Nat) (hp : pc + 1 = pc') (w : Int32) (hw : nar .char v = w)
    (hr : ∀ T' h', Stand p l e R s m args below meth c T' (locs ++ [⟨a, j.toInt.toNat⟩]) cells slots → T'.heap = h' → Wr h h' a j.toInt.toNat (.int w) → OwnEnds p e below G (T'.setTop (mkF m pc' Ls st))) : OwnEnds p e below G (T.setTop (mkF m pc Ls (.int v :: .int j :: .ref a :: st))) := by
  subst hp hw
  obtain ⟨cl, A, S, r⟩ := F
  obtain ⟨T', h', X', e', W, stp⟩ := stC X C.1 C.2.1 eT A (j := j) (x := v) (by rw [S]; exact own_in h0 h1) (g := mkF m pc Ls _) rfl rfl (hb C.2.2.2.1 hd)
  exact own_st stp (hr T' h' X' e' W)
theorem own_bastoreZ (X : Stand p l e R s m args below meth c T locs cells slots) (C : OwnCx p s m meth c Z y bs maxL rt) {v : Int32} {j : Int32} {n : Nat} {f : Nat → Value} (eT : T.heap = h) (F : OwnAr Z h a .boolean n f) (h0 : 0 ≤ j.toInt) (h1 : j.toInt < n) (hd : decode bs pc = .ok (.bastore, 1)) (pc' : Nat) (hp : pc + 1 = pc') (w : Int32) (hw : nar .boolean v = w)
    (hr : ∀ T' h', Stand p l e R s m args below meth c T' (locs ++ [⟨a, j.toInt.toNat⟩]) cells slots → T'.heap = h' → Wr h h' a j.toInt.toNat (.int w) → OwnEnds p e below G (T'.setTop (mkF m pc' Ls st))) : OwnEnds p e below G (T.setTop (mkF m pc Ls (.int v :: .int j :: .ref a :: st))) := by
  subst hp hw
  obtain ⟨cl, A, S, r⟩ := F
  obtain ⟨T', h', X', e', W, stp⟩ := stZ X C.1 C.2.1 eT A (j := j) (x := v) (by rw [S]; exact own_in h0 h1) (g := mkF m pc Ls _) rfl rfl (hb C.2.2.2.1 hd)
  exact own_st stp (hr T' h' X' e' W)
theorem own_iaload (X : Stand p l e R s m args below meth c T locs cells slots) (C : OwnCx p s m meth c Z y bs maxL rt) {j : Int32} {n : Nat} {f : Nat → Value} (eT : T.heap = h) (F : OwnAr Z h a .int n f) (h0 : 0 ≤ j.toInt) (h1 : j.toInt < n) (hd : decode bs pc = .ok (.iaload, 1)) (pc' : Nat) (hp : pc + 1 = pc') (v : Value) (hv : f j.toInt.toNat = v)
    (hr : OwnEnds p e below G (T.setTop (mkF m pc' Ls (v :: st)))) : OwnEnds p e below G (T.setTop (mkF m pc Ls (.int j :: .ref a :: st))) := by
  subst hp hv
  obtain ⟨cl, A, S, r⟩ := F
  exact own_st (fun _ q => X.iaload C.1 (j := j) (v := f j.toInt.toNat) (by rw [eT]; exact A.1) (State.isArrayOf_alike C.2.1.alike A.2.1) A.2.2 (by rw [S]; exact own_in h0 h1) (show cl.slots[j.toNatClampNeg]? = _ from r j.toInt.toNat (by omega)) (g := mkF m pc Ls _) rfl rfl (hb C.2.2.2.1 hd) _ q) hr
theorem own_laload (X : Stand p l e R s m args below meth c T locs cells slots) (C : OwnCx p s m meth c Z y bs maxL rt) {j : Int32} {n : Nat} {f : Nat → Value} (eT : T.heap = h) (F : OwnAr Z h a .long n f) (h0 : 0 ≤ j.toInt) (h1 : j.toInt < n) (hd : decode bs pc = .ok (.laload, 1)) (pc' : Nat) (hp : pc + 1 = pc') (v : Value) (hv : f j.toInt.toNat = v)
    (hr : OwnEnds p e below G (T.setTop (mkF m pc' Ls (v :: st)))) : OwnEnds p e below G (T.setTop (mkF m pc Ls (.int j :: .ref a :: st))) := by
  subst hp hv
  obtain ⟨cl, A, S, r⟩ := F
  exact own_st (fun _ q => X.laload C.1 (j := j) (v := f j.toInt.toNat) (by rw [eT]; exact A.1) (State.isArrayOf_alike C.2.1.alike A.2.1) A.2.2 (by rw [S]; exact own_in h0 h1) (show cl.slots[j.toNatClampNeg]? = _ from r j.toInt.toNat (by omega)) (g := mkF m pc Ls _) rfl rfl (hb C.2.2.2.1 hd) _ q) hr
theorem own_caload (X : Stand p l e R s m args below meth c T locs cells slots) (C : OwnCx p s m meth c Z y bs maxL rt) {j : Int32} {n : Nat} {f : Nat → Value} (eT : T.heap = h) (F : OwnAr Z h a .char n f) (h0 : 0 ≤ j.toInt) (h1 : j.toInt < n) (hd : decode bs pc = .ok (.caload, 1)) (pc' : Nat) (hp : pc + 1 = pc') (v : Value) (hv : f j.toInt.toNat = v)
    (hr : OwnEnds p e below G (T.setTop (mkF m pc' Ls (v :: st)))) : OwnEnds p e below G (T.setTop (mkF m pc Ls (.int j :: .ref a :: st))) := by
  subst hp hv
  obtain ⟨cl, A, S, r⟩ := F
  exact own_st (fun _ q => X.caload C.1 (j := j) (v := f j.toInt.toNat) (by rw [eT]; exact A.1) (State.isArrayOf_alike C.2.1.alike A.2.1) A.2.2 (by rw [S]; exact own_in h0 h1) (show cl.slots[j.toNatClampNeg]? = _ from r j.toInt.toNat (by omega)) (g := mkF m pc Ls _) rfl rfl (hb C.2.2.2.1 hd) _ q) hr
theorem own_baloadB (X : Stand p l e R s m args below meth c T locs cells slots) (C : OwnCx p s m meth c Z y bs maxL rt) {j : Int32} {n : Nat} {f : Nat → Value} (eT : T.heap = h) (F : OwnAr Z h a .byte n f) (h0 : 0 ≤ j.toInt) (h1 : j.toInt < n) (hd : decode bs pc = .ok (.baload, 1)) (pc' : Nat) (hp : pc + 1 = pc') (v : Value) (hv : f j.toInt.toNat = v)
    (hr : OwnEnds p e below G (T.setTop (mkF m pc' Ls (v :: st)))) : OwnEnds p e below G (T.setTop (mkF m pc Ls (.int j :: .ref a :: st))) := by
  subst hp hv
  obtain ⟨cl, A, S, r⟩ := F
  exact own_st (fun _ q => X.baloadBytes C.1 (j := j) (v := f j.toInt.toNat) (by rw [eT]; exact A.1) (State.isArrayOf_alike C.2.1.alike A.2.1) A.2.2 (by rw [S]; exact own_in h0 h1) (show cl.slots[j.toNatClampNeg]? = _ from r j.toInt.toNat (by omega)) (g := mkF m pc Ls _) rfl rfl (hb C.2.2.2.1 hd) _ q) hr
theorem own_baloadZ (X : Stand p l e R s m args below meth c T locs cells slots) (C : OwnCx p s m meth c Z y bs maxL rt) {j : Int32} {n : Nat} {f : Nat → Value} (eT : T.heap = h) (F : OwnAr Z h a .boolean n f) (h0 : 0 ≤ j.toInt) (h1 : j.toInt < n) (hd : decode bs pc = .ok (.baload, 1)) (pc' : Nat) (hp : pc + 1 = pc') (v : Value) (hv : f j.toInt.toNat = v)
    (hr : OwnEnds p e below G (T.setTop (mkF m pc' Ls (v :: st)))) : OwnEnds p e below G (T.setTop (mkF m pc Ls (.int j :: .ref a :: st))) := by
  subst hp hv
  obtain ⟨cl, A, S, r⟩ := F
  exact own_st (fun _ q => X.baloadBooleans C.1 (j := j) (v := f j.toInt.toNat) (by rw [eT]; exact A.1) (State.isArrayOf_alike C.2.1.alike A.2.1) A.2.2 (by rw [S]; exact own_in h0 h1) (show cl.slots[j.toNatClampNeg]? = _ from r j.toInt.toNat (by omega)) (g := mkF m pc Ls _) rfl rfl (hb C.2.2.2.1 hd) _ q) hr
theorem own_arraylength (X : Stand p l e R s m args below meth c T locs cells slots) (C : OwnCx p s m meth c Z y bs maxL rt) {ty : FieldType} {n : Nat} {f : Nat → Value} (eT : T.heap = h) (F : OwnAr Z h a ty n f) (hd : decode bs pc = .ok (.arraylength, 1)) (pc' : Nat) (hp : pc + 1 = pc') (hn : n < 2147483648)
    (hr : ∀ z : Int32, z.toInt = n → z = n.toInt32 → OwnEnds p e below G (T.setTop (mkF m pc' Ls (.int z :: st)))) : OwnEnds p e below G (T.setTop (mkF m pc Ls (.ref a :: st))) := by
  subst hp
  obtain ⟨cl, A, S, r⟩ := F
  have k := hr n.toInt32 (own_len hn) rfl
  rw [← S] at k
  exact own_st (fun _ q => X.arraylength C.1 (by rw [eT]; exact A.1) (State.isArrayOf_alike C.2.1.alike A.2.1) (g := mkF m pc Ls _) rfl rfl (hb C.2.2.2.1 hd) _ q) k
theorem own_newarray (X : Stand p l e R s m args below meth c T locs cells slots) (C : OwnCx p s m meth c Z y bs maxL rt) {aty : ArrayType} {n : Int32} (w : (Jvm.Cond.arrayClass (newarray.typeOf aty)).before a0 Z = true) (eT : T.heap = h) (hd : decode bs pc = .ok (.newarray aty, 2)) (pc' : Nat) (hp : pc + 2 = pc') (h0 : 0 ≤ n.toInt) (cap : Nat) (hcap : n.toInt ≤ cap) (hbig : cap * 8 ≤ 536870912) (hc : cells + 1 ≤ R.cells) (hl : slots + cap ≤ R.slots)
    (hr : ∀ T' h' b, b = h.size → Stand p l e R s m args below meth c T' locs (cells + 1) (slots + cap) → T'.heap = h' → Ext h h' → OwnAr Z h' b (newarray.typeOf aty) n.toInt.toNat (fun _ => defaultValue (newarray.typeOf aty)) → OwnEnds p e below G (T'.setTop (mkF m pc' Ls (.ref b :: st)))) : OwnEnds p e below G (T.setTop (mkF m pc Ls (.int n :: st))) := by
  subst hp
  have hn0 : ¬ n < 0 := fun q => by rw [Int32.lt_iff_toInt_lt] at q; have : (0 : Int32).toInt = 0 := rfl; omega
  obtain ⟨T', h', cA, X', e', E', A, stp⟩ := newP X C.1 C.2.1 w eT (g := mkF m pc Ls (.int n :: st)) rfl (hb C.2.2.2.1 hd) rfl hn0 (cap := cap) (by show n.toInt.toNat ≤ cap; omega) hbig hc hl
  exact own_st stp (hr T' h' _ rfl X' e' E' (OwnAr.new A))
theorem own_new (X : Stand p l e R s m args below meth c T locs cells slots) (C : OwnCx p s m meth c Z y bs maxL rt) {idx n : Nat} {K : String} (w : (Jvm.Cond.classLink y.cls idx K).before a0 Z = true) (wi : (Jvm.Cond.instantiable K n).before a0 Z = true) (wz : (Jvm.Cond.initialized K).before a0 Z = true) (eT : T.heap = h) (hd : decode bs pc = .ok (.new idx, 3)) (pc' : Nat) (hp : pc + 3 = pc') (hc : cells + 1 ≤ R.cells) (hl : slots + n ≤ R.slots)
    (hr : ∀ T' h' b, b = h.size → Stand p l e R s m args below meth c T' locs (cells + 1) (slots + n) → T'.heap = h' → Ext h h' → Exa Z h' b K → (∀ {O nm d : String} {ty : FieldType}, Laid Z a0 K O nm d → parseFieldDescriptor d = some ty → Fld Z h' b O nm d (defaultValue ty)) → OwnEnds p e below G (T'.setTop (mkF m pc' Ls (.ref b :: st)))) : OwnEnds p e below G (T.setTop (mkF m pc Ls st)) := by
  subst hp
  obtain ⟨T', h', X', e', E', A, D, -, stp⟩ := newO X C.1 C.2.1 C.2.2.1 w wi wz eT (g := mkF m pc Ls st) rfl (hb C.2.2.2.1 hd) hc hl
  exact own_st stp (hr T' h' _ rfl X' e' E' A D)
theorem own_getfield (X : Stand p l e R s m args below meth c T locs cells slots) (C : OwnCx p s m meth c Z y bs maxL rt) {idx : Nat} {R0 O n d host : String} {v : Value} (w : (Jvm.Cond.fieldLink y.cls idx R0 n d).before a0 Z = true ∨ (Jvm.Cond.fieldLinkNest y.cls idx R0 n d host).before a0 Z = true) (via : Via Z R0 O n d) (eT : T.heap = h) (F : Fld Z h a O n d v) (hd : decode bs pc = .ok (.getfield idx, 3)) (pc' : Nat) (hp : pc + 3 = pc')
    (hr : ∀ T', Stand p l e R s m args below meth c T' locs cells slots → T'.heap = h → OwnEnds p e below G (T'.setTop (mkF m pc' Ls (v :: st)))) : OwnEnds p e below G (T.setTop (mkF m pc Ls (.ref a :: st))) := by
  subst hp
  obtain ⟨T', X', e', stp⟩ := getF X C.1 C.2.1 C.2.2.1 w via eT F (g := mkF m pc Ls _) rfl rfl (hb C.2.2.2.1 hd)
  exact own_st stp (hr T' X' e')
theorem own_getstatic (X : Stand p l e R s m args below meth c T locs cells slots) (C : OwnCx p s m meth c Z y bs maxL rt) {idx : Nat} {R0 O n d host : String} {v : Value} (w : (Jvm.Cond.fieldLink y.cls idx R0 n d).before a0 Z = true ∨ (Jvm.Cond.fieldLinkNest y.cls idx R0 n d host).before a0 Z = true) (via : Via Z R0 O n d) (eT : T.heap = h) (F : Sta Z h O n d v) (hd : decode bs pc = .ok (.getstatic idx, 3)) (pc' : Nat) (hp : pc + 3 = pc')
    (hr : ∀ T', Stand p l e R s m args below meth c T' locs cells slots → T'.heap = h → OwnEnds p e below G (T'.setTop (mkF m pc' Ls (v :: st)))) : OwnEnds p e below G (T.setTop (mkF m pc Ls st)) := by
  subst hp
  obtain ⟨T', X', e', stp⟩ := getS2 X C.1 C.2.1 C.2.2.1 w via eT F (g := mkF m pc Ls st) rfl (hb C.2.2.2.1 hd)
  exact own_st stp (hr T' X' e')
theorem own_putfield (X : Stand p l e R s m args below meth c T locs cells slots) (C : OwnCx p s m meth c Z y bs maxL rt) {idx kk : Nat} {R0 O n d host K : String} {ty : FieldType} {v old : Value} (w : (Jvm.Cond.fieldLink y.cls idx R0 n d).before a0 Z = true ∨ (Jvm.Cond.fieldLinkNest y.cls idx R0 n d host).before a0 Z = true) (via : Via Z R0 O n d) (eT : T.heap = h) (F : Fld Z h a O n d old) (E : Exa Z h a K) (L : (Jvm.Cond.lays K O n d).before a0 Z = true ∨ ((Jvm.Cond.laysFinal K O n d).before a0 Z = true ∧ y.cls = O ∧ y.name = "<init>")) (wi : (Jvm.Cond.instantiable K kk).before a0 Z = true)
    (hty : parseFieldDescriptor d = some ty) (hn : narrow ty v = v) (hf : fits ty v = true) (hd : decode bs pc = .ok (.putfield idx, 3)) (pc' : Nat) (hp : pc + 3 = pc')
    (hr : ∀ T' h', Stand p l e R s m args below meth c T' (locs ++ [⟨a, Jvm.RoadKit.slotOf Z O n d⟩]) cells slots → T'.heap = h' → Wr h h' a (Jvm.RoadKit.slotOf Z O n d) v → OwnEnds p e below G (T'.setTop (mkF m pc' Ls st))) : OwnEnds p e below G (T.setTop (mkF m pc Ls (v :: .ref a :: st))) := by
  subst hp
  obtain ⟨T', h', X', e', W, stp⟩ := putF X C.1 C.2.1 C.2.2.1 w via eT F E (L.imp id fun q => ⟨q.1, q.2.1, C.2.2.2.2.2.2.2.trans q.2.2⟩) wi hty hn hf (g := mkF m pc Ls _) rfl rfl (hb C.2.2.2.1 hd)
  exact own_st stp (hr T' h' X' e' W)
theorem own_putfieldN (X : Stand p l e R s m args below meth c T locs cells slots) (C : OwnCx p s m meth c Z y bs maxL rt) {idx kk : Nat} {R0 O n d K : String} {ty : FieldType} {v v' old : Value} (w : (Jvm.Cond.fieldLink y.cls idx R0 n d).before a0 Z = true) (via : Via Z R0 O n d) (eT : T.heap = h) (F : Fld Z h a O n d old) (E : Exa Z h a K) (L : (Jvm.Cond.lays K O n d).before a0 Z = true ∨ ((Jvm.Cond.laysFinal K O n d).before a0 Z = true ∧ y.cls = O ∧ y.name = "<init>")) (wi : (Jvm.Cond.instantiable K kk).before a0 Z = true)
    (hty : parseFieldDescriptor d = some ty) (hn : narrow ty v = v') (hf : fits ty v' = true) (hd : decode bs pc = .ok (.putfield idx, 3)) (pc' : Nat) (hp : pc + 3 = pc')
    (hr : ∀ T' h', Stand p l e R s m args below meth c T' (locs ++ [⟨a, Jvm.RoadKit.slotOf Z O n d⟩]) cells slots → T'.heap = h' → Wr h h' a (Jvm.RoadKit.slotOf Z O n d) v' → OwnEnds p e below G (T'.setTop (mkF m pc' Ls st))) : OwnEnds p e below G (T.setTop (mkF m pc Ls (v :: .ref a :: st))) := by
  subst hp
  obtain ⟨T', h', X', e', W, stp⟩ := putFN X C.1 C.2.1 C.2.2.1 w via eT F E (L.imp id fun q => ⟨q.1, q.2.1, C.2.2.2.2.2.2.2.trans q.2.2⟩) wi hty hn hf (g := mkF m pc Ls _) rfl rfl (hb C.2.2.2.1 hd)
  exact own_st stp (hr T' h' X' e' W)
theorem own_callI (X : Stand p l e R s m args below meth c T locs cells slots) (C : OwnCx p s m meth c Z y bs maxL rt) {idx : Nat} {y' : MethodName} {bs' : ByteArray} {maxL' : Nat} {rt' : Option FieldType} {rm : Room} {as' : Array Value} {Q' : Option Value → Heap → List Loc → Prop} (hrt' : rt' = none)
    (w1 : (Jvm.Cond.methodLink y.cls idx y').before a0 Z = true) (w2 : (Jvm.Cond.instanceMethod y').before a0 Z = true) (w3 : (Jvm.Cond.initialized y'.cls).before a0 Z = true) (w4 : (Jvm.Cond.code y' bs' maxL' rt').before a0 Z = true) (hy1 : y'.name = "<init>") (hy : y'.cls ≠ "java/lang/invoke/MethodHandle" ∧ y'.cls ≠ "java/lang/invoke/VarHandle")
    (hM : OwnMet l Z y' bs' maxL' rt' [] rm as' h Q') (eT : T.heap = h) {ps : List FieldType} {r : Option FieldType} (hpd : parseMethodDescriptor y'.desc = some ⟨ps, r⟩) (argsL : List Value) (has : (Value.ref a :: argsL).toArray = as') (hlen : argsL.length = ps.length) (hst : st = argsL.reverse ++ .ref a :: rest) (hsz : Ls.size = maxL)
    (W : Nat) (hW : (rest.map fun v => v.category).sum = W) (hf : rm.frames + 1 ≤ R.frames) (hlo : W + (maxL' + 11) + rm.locals ≤ R.locals) (hce : cells + rm.cells ≤ R.cells) (hsl : slots + rm.slots ≤ R.slots) (hd : decode bs pc = .ok (.invokespecial idx, 3)) (pc' : Nat) (hp : pc + 3 = pc')
    (hr : ∀ T' L v, Stand p l e R s m args below meth c T' (locs ++ L) (cells + rm.cells) (slots + rm.slots) → Q' v T'.heap L → OwnEnds p e below G (T'.setTop (mkF m pc' Ls (v.toList ++ rest)))) : OwnEnds p e below G (T.setTop (mkF m pc Ls st)) := by
  subst hp has hW hrt'
  obtain ⟨v, _, ⟨T', L, k, n⟩, -, X', ⟨L', hQ, l1, l2, l3⟩, stp⟩ := X.specialBack C.1 hy1 C.2.2.1 (mvT C.2.1 w1) (mvT C.2.1 w2) (mvT C.2.1 w4) hy (backOf (len := 3) (W := (rest.map fun v => v.category).sum) hM C.2.1 w4 w3 hf hlo) (g := mkF m pc Ls st) rfl (by rw [C.2.2.2.2.1]; exact hsz) (Steps.refl _) (a := a) (argsL := argsL) (rest := rest) (lenOf hpd hlen) hst (by show 2 * 0 + _ ≤ _; omega) (hb C.2.2.2.1 hd) (fun _ _ => ⟨rfl, eT, hce, hsl⟩)
  dsimp only [Pt.U, Pt.locs, Pt.cells, Pt.slots] at X' l1 l2 l3 stp hQ
  subst l1 l2 l3
  exact own_tr stp (hr T' L' v X' hQ)
theorem own_callV (X : Stand p l e R s m args below meth c T locs cells slots) (C : OwnCx p s m meth c Z y bs maxL rt) {idx : Nat} {K : String} {y' : MethodName} {bs' : ByteArray} {maxL' : Nat} {rt' : Option FieldType} {rm : Room} {as' : Array Value} {Q' : Option Value → Heap → List Loc → Prop}
    (w1 : (Jvm.Cond.methodLink y.cls idx y').before a0 Z = true) (wd : (Jvm.Cond.declares y').before a0 Z = true) (ws : (Jvm.Cond.selects K y' y').before a0 Z = true) (w2 : (Jvm.Cond.instanceMethod y').before a0 Z = true) (w3 : (Jvm.Cond.initialized y'.cls).before a0 Z = true) (w4 : (Jvm.Cond.code y' bs' maxL' rt').before a0 Z = true) (hy : y'.cls ≠ "java/lang/invoke/MethodHandle" ∧ y'.cls ≠ "java/lang/invoke/VarHandle") (E : Exa Z h a K)
    (hM : OwnMet l Z y' bs' maxL' rt' [] rm as' h Q') (eT : T.heap = h) {ps : List FieldType} {r : Option FieldType} (hpd : parseMethodDescriptor y'.desc = some ⟨ps, r⟩) (argsL : List Value) (has : (Value.ref a :: argsL).toArray = as') (hlen : argsL.length = ps.length) (hst : st = argsL.reverse ++ .ref a :: rest) (hsz : Ls.size = maxL)
    (W : Nat) (hW : (rest.map fun v => v.category).sum = W) (hf : rm.frames + 1 ≤ R.frames) (hlo : W + (maxL' + 11) + rm.locals ≤ R.locals) (hce : cells + rm.cells ≤ R.cells) (hsl : slots + rm.slots ≤ R.slots) (hd : decode bs pc = .ok (.invokevirtual idx, 3)) (pc' : Nat) (hp : pc + 3 = pc')
    (hr : ∀ T' L v, Stand p l e R s m args below meth c T' (locs ++ L) (cells + rm.cells) (slots + rm.slots) → Q' v T'.heap L → OwnEnds p e below G (T'.setTop (mkF m pc' Ls (v.toList ++ rest)))) : OwnEnds p e below G (T.setTop (mkF m pc Ls st)) := by
  subst hp has hW
  obtain ⟨cq, kq, qa, qb, qc⟩ := isOf C.2.1 eT E
  obtain ⟨v, _, ⟨T', L, k, n⟩, -, X', ⟨L', hQ, l1, l2, l3⟩, stp⟩ := X.virtualBack C.1 (y := y') (z := y') C.2.2.1 (mvT C.2.1 w1) (mvT C.2.1 wd) (notFace_of_selects (args := #[]) (mvT C.2.1 ws)) (mvT C.2.1 ws) (mvT C.2.1 w2) hy (backOf (len := 3) (W := (rest.map fun v => v.category).sum) hM C.2.1 w4 w3 hf hlo) qa qc (g := mkF m pc Ls st) rfl (by rw [C.2.2.2.2.1]; exact hsz) (Steps.refl _) (argsL := argsL) (rest := rest) (lenOf hpd hlen) hst (by show 2 * 0 + _ ≤ _; omega) (hb C.2.2.2.1 hd) (fun _ _ => ⟨rfl, eT, hce, hsl⟩)
  dsimp only [Pt.U, Pt.locs, Pt.cells, Pt.slots] at X' l1 l2 l3 stp hQ
  subst l1 l2 l3
  exact own_tr stp (hr T' L' v X' hQ)
theorem own_instY (X : Stand p l e R s m args below meth c T locs cells slots) (C : OwnCx p s m meth c Z y bs maxL rt) {idx : Nat} {K : String} (w : (Jvm.Cond.classLink y.cls idx K).before a0 Z = true) (eT : T.heap = h) (F : Ins Z h a K true) (hd : decode bs pc = .ok (.instanceof idx, 3)) (pc' : Nat) (hp : pc + 3 = pc')
    (hr : ∀ T', Stand p l e R s m args below meth c T' locs cells slots → T'.heap = h → OwnEnds p e below G (T'.setTop (mkF m pc' Ls (.int 1 :: st)))) : OwnEnds p e below G (T.setTop (mkF m pc Ls (.ref a :: st))) := by
  subst hp
  obtain ⟨T', X', e', stp⟩ := instY X C.1 C.2.1 C.2.2.1 w eT F (g := mkF m pc Ls _) rfl rfl (hb C.2.2.2.1 hd)
  exact own_st stp (hr T' X' e')
theorem own_castY (X : Stand p l e R s m args below meth c T locs cells slots) (C : OwnCx p s m meth c Z y bs maxL rt) {idx : Nat} {K : String} (w : (Jvm.Cond.classLink y.cls idx K).before a0 Z = true) (eT : T.heap = h) (F : Ins Z h a K true) (hd : decode bs pc = .ok (.checkcast idx, 3)) (pc' : Nat) (hp : pc + 3 = pc')
    (hr : ∀ T', Stand p l e R s m args below meth c T' locs cells slots → T'.heap = h → OwnEnds p e below G (T'.setTop (mkF m pc' Ls (.ref a :: st)))) : OwnEnds p e below G (T.setTop (mkF m pc Ls (.ref a :: st))) := by
  subst hp
  obtain ⟨T', X', e', stp⟩ := castY X C.1 C.2.1 C.2.2.1 w eT F (g := mkF m pc Ls (.ref a :: st)) rfl (rest := st) rfl (hb C.2.2.2.1 hd)
  exact own_st stp (hr T' X' e')
end OwnHeap
theorem own_w {Z : State} {a0 : Array Value} (hw : ∀ d ∈ tables_1, d.before a0 Z = true) (k : Nat) {d : Jvm.Cond} (q : tables_1[k]? = some d) : d.before a0 Z = true := hw _ (List.mem_of_getElem? q)
def own_s (f i : Int32) : Int32 := (f + 31 * i).toInt8.toInt32
theorem own_byte (x : Int32) : x.toInt8.toInt32.toInt8.toInt32 = x.toInt8.toInt32 := by simp
def own_by (val : Int64) (i : Int32) : Int32 := ((val.toUInt64 >>> ((8 * (7 - i)) &&& 0x3f).toInt64.toUInt64).toInt64).toInt32.toInt8.toInt32
def own_u (w : Int32) : Int64 := w.toInt64 &&& 255
theorem own_ub (x : Int64) : (own_u x.toInt32.toInt8.toInt32).toInt = x.toInt % 256 := by
  rw [own_u, c_maskL _ 255 8 (by decide) (by decide), c_i2l]
  have q1 := (c_i2b x.toInt32).1
  have q2 := c_l2i x
  omega
theorem own_u0 (val : Int64) : (own_u (own_by val 0)).toInt = ((val.toInt % 18446744073709551616) / 72057594037927936) % 256 := by
  rw [own_by, own_ub, c_lushr val _ 56 (by decide) (by decide), show ((2 ^ 56 : Nat) : Int) = 72057594037927936 by decide]
theorem own_u1 (val : Int64) : (own_u (own_by val 1)).toInt = ((val.toInt % 18446744073709551616) / 281474976710656) % 256 := by
  rw [own_by, own_ub, c_lushr val _ 48 (by decide) (by decide), show ((2 ^ 48 : Nat) : Int) = 281474976710656 by decide]
theorem own_u2 (val : Int64) : (own_u (own_by val 2)).toInt = ((val.toInt % 18446744073709551616) / 1099511627776) % 256 := by
  rw [own_by, own_ub, c_lushr val _ 40 (by decide) (by decide), show ((2 ^ 40 : Nat) : Int) = 1099511627776 by decide]
theorem own_u3 (val : Int64) : (own_u (own_by val 3)).toInt = ((val.toInt % 18446744073709551616) / 4294967296) % 256 := by
  rw [own_by, own_ub, c_lushr val _ 32 (by decide) (by decide), show ((2 ^ 32 : Nat) : Int) = 4294967296 by decide]
theorem own_u4 (val : Int64) : (own_u (own_by val 4)).toInt = ((val.toInt % 18446744073709551616) / 16777216) % 256 := by
  rw [own_by, own_ub, c_lushr val _ 24 (by decide) (by decide), show ((2 ^ 24 : Nat) : Int) = 16777216 by decide]
theorem own_u5 (val : Int64) : (own_u (own_by val 5)).toInt = ((val.toInt % 18446744073709551616) / 65536) % 256 := by
  rw [own_by, own_ub, c_lushr val _ 16 (by decide) (by decide), show ((2 ^ 16 : Nat) : Int) = 65536 by decide]
theorem own_u6 (val : Int64) : (own_u (own_by val 6)).toInt = ((val.toInt % 18446744073709551616) / 256) % 256 := by
  rw [own_by, own_ub, c_lushr val _ 8 (by decide) (by decide), show ((2 ^ 8 : Nat) : Int) = 256 by decide]
theorem own_sh0 (val : Int64) : (val.toUInt64 >>> (((8 : Int32) * (7 - 7)) &&& 0x3f).toInt64.toUInt64).toInt64 = val := by
  rw [show (((8 : Int32) * (7 - 7)) &&& 0x3f).toInt64.toUInt64 = 0 by decide]
  simp
theorem own_u7 (val : Int64) : (own_u (own_by val 7)).toInt = (val.toInt % 18446744073709551616) % 256 := by
  rw [own_by, own_ub, show (val.toUInt64 >>> (((8 : Int32) * (7 - 7)) &&& 0x3f).toInt64.toUInt64).toInt64 = val from own_sh0 val]
  omega
set_option maxHeartbeats 8000000 in
theorem own_back (val w0 w1 w2 w3 w4 w5 w6 w7 : Int64) (q0 : w0.toInt = ((val.toInt % 18446744073709551616) / 72057594037927936) % 256) (q1 : w1.toInt = ((val.toInt % 18446744073709551616) / 281474976710656) % 256) (q2 : w2.toInt = ((val.toInt % 18446744073709551616) / 1099511627776) % 256) (q3 : w3.toInt = ((val.toInt % 18446744073709551616) / 4294967296) % 256) (q4 : w4.toInt = ((val.toInt % 18446744073709551616) / 16777216) % 256) (q5 : w5.toInt = ((val.toInt % 18446744073709551616) / 65536) % 256) (q6 : w6.toInt = ((val.toInt % 18446744073709551616) / 256) % 256) (q7 : w7.toInt = (val.toInt % 18446744073709551616) % 256) : ((((((((w0 <<< ((56 : Int32) &&& 0x3f).toInt64) ||| (w1 <<< ((48 : Int32) &&& 0x3f).toInt64)) ||| (w2 <<< ((40 : Int32) &&& 0x3f).toInt64)) ||| (w3 <<< ((32 : Int32) &&& 0x3f).toInt64)) ||| (w4 <<< ((24 : Int32) &&& 0x3f).toInt64)) ||| (w5 <<< ((16 : Int32) &&& 0x3f).toInt64)) ||| (w6 <<< ((8 : Int32) &&& 0x3f).toInt64)) ||| w7) = val := by
  have s0 := c_lshl w0 56 56 (by decide)
  generalize a0 : w0 <<< ((56 : Int32) &&& 0x3f).toInt64 = A0 at *
  have R0 := rng64 A0
  have s1 := c_lshl w1 48 48 (by decide)
  generalize b1 : w1 <<< ((48 : Int32) &&& 0x3f).toInt64 = B1 at *
  have T1 := rng64 B1
  have o1 := c_orL A0 B1 56 (by decide) 72057594037927936 (by decide) (by omega) (by omega) (by omega)
  generalize a1 : A0 ||| B1 = A1 at *
  have R1 := rng64 A1
  have s2 := c_lshl w2 40 40 (by decide)
  generalize b2 : w2 <<< ((40 : Int32) &&& 0x3f).toInt64 = B2 at *
  have T2 := rng64 B2
  have o2 := c_orL A1 B2 48 (by decide) 281474976710656 (by decide) (by omega) (by omega) (by omega)
  generalize a2 : A1 ||| B2 = A2 at *
  have R2 := rng64 A2
  have s3 := c_lshl w3 32 32 (by decide)
  generalize b3 : w3 <<< ((32 : Int32) &&& 0x3f).toInt64 = B3 at *
  have T3 := rng64 B3
  have o3 := c_orL A2 B3 40 (by decide) 1099511627776 (by decide) (by omega) (by omega) (by omega)
  generalize a3 : A2 ||| B3 = A3 at *
  have R3 := rng64 A3
  have s4 := c_lshl w4 24 24 (by decide)
  generalize b4 : w4 <<< ((24 : Int32) &&& 0x3f).toInt64 = B4 at *
  have T4 := rng64 B4
  have o4 := c_orL A3 B4 32 (by decide) 4294967296 (by decide) (by omega) (by omega) (by omega)
  generalize a4 : A3 ||| B4 = A4 at *
  have R4 := rng64 A4
  have s5 := c_lshl w5 16 16 (by decide)
  generalize b5 : w5 <<< ((16 : Int32) &&& 0x3f).toInt64 = B5 at *
  have T5 := rng64 B5
  have o5 := c_orL A4 B5 24 (by decide) 16777216 (by decide) (by omega) (by omega) (by omega)
  generalize a5 : A4 ||| B5 = A5 at *
  have R5 := rng64 A5
  have s6 := c_lshl w6 8 8 (by decide)
  generalize b6 : w6 <<< ((8 : Int32) &&& 0x3f).toInt64 = B6 at *
  have T6 := rng64 B6
  have o6 := c_orL A5 B6 16 (by decide) 65536 (by decide) (by omega) (by omega) (by omega)
  generalize a6 : A5 ||| B6 = A6 at *
  have R6 := rng64 A6
  have o7 := c_orL A6 w7 8 (by decide) 256 (by decide) (by omega) (by omega) (by omega)
  have R7 := rng64 (A6 ||| w7)
  have RV := rng64 val
  apply Int64.toInt_inj.mp
  omega
theorem own_pn_ByteWriterPutU64BePinLaw : plainName "com/example/tinwire/tinwire/bytes/ByteWriterPutU64BePinLaw" = true := by first | (simp [plainName, overriddenIn]; done) | decide +kernel
theorem own_pd_II_R_B : parseMethodDescriptor "(II)B" = some ⟨[.int, .int], some .byte⟩ := by decide +kernel
theorem own_d_method_3_code_0 : decode method_3_code 0 = .ok (.iload_n 0, 1) := by decide +kernel
theorem own_d_method_3_code_1 : decode method_3_code 1 = .ok (.bipush 31, 2) := by decide +kernel
theorem own_d_method_3_code_3 : decode method_3_code 3 = .ok (.iload_n 1, 1) := by decide +kernel
theorem own_d_method_3_code_4 : decode method_3_code 4 = .ok (.imul, 1) := by decide +kernel
theorem own_d_method_3_code_5 : decode method_3_code 5 = .ok (.iadd, 1) := by decide +kernel
theorem own_d_method_3_code_6 : decode method_3_code 6 = .ok (.i2b, 1) := by decide +kernel
theorem own_d_method_3_code_7 : decode method_3_code 7 = .ok (.ireturn, 1) := by decide +kernel
set_option maxRecDepth 65536 in
set_option maxHeartbeats 4000000 in
theorem own_ef_own_rm_s (m : MethodId) (ia0 : Int32) (ia1 : Int32) : entryFrame m #[(.int ia0), (.int ia1)] 2 = (mkF m 0 #[.val (.int ia0), .val (.int ia1)] []) := by first | (simp [entryFrame, mkF, argsToLocals, Value.category]; done) | rfl
set_option maxRecDepth 65536 in
set_option maxHeartbeats 4000000 in
theorem own_rm_s (l : Launch) (Z : State) (a0 : Array Value) (hw : ∀ d ∈ tables_1, d.before a0 Z = true) (ia0 : Int32) (ia1 : Int32) (h : Heap)  :
    OwnMet l Z (⟨"com/example/tinwire/tinwire/bytes/ByteWriterPutU64BePinLaw", "s", "(II)B"⟩ : MethodName) method_3_code 2 (some .byte) [] ({ frames := 0, cells := 0, slots := 0, locals := 0 } : Room) #[(.int ia0), (.int ia1)] h (OwnPure (.int (own_s ia0 ia1)) h) := by
  refine own_enter (f0 := fun m => mkF m 0 #[.val (.int ia0), .val (.int ia1)] []) (plainFor_of_name own_pn_ByteWriterPutU64BePinLaw) (fun m => own_ef_own_rm_s m ia0 ia1) ?_
  intro p e s m below meth c T0 X0 C e0
  refine own_iload_n X0 C own_d_method_3_code_0 1 rfl rfl ?_
  refine own_bipush X0 C own_d_method_3_code_1 3 rfl (31) rfl ?_
  refine own_iload_n X0 C own_d_method_3_code_3 4 rfl rfl ?_
  refine own_imul X0 C own_d_method_3_code_4 5 rfl (fun v1 ev1 => ?_)
  refine own_iadd X0 C own_d_method_3_code_5 6 rfl (fun v2 ev2 => ?_)
  refine own_i2b X0 C own_d_method_3_code_6 7 rfl (fun v3 ev3 => ?_)
  refine own_iretN X0 C .byte rfl (by simp) own_d_method_3_code_7 (by decide) (by decide) _ (show nar .byte v3 = own_s ia0 ia1 by rw [ev3, ev2, ev1]; exact own_byte _) ?_
  exact ⟨rfl, e0, rfl⟩
theorem own_pd_ABI_R_J : parseMethodDescriptor "([BI)J" = some ⟨[(.array .byte), .int], some .long⟩ := by decide +kernel
theorem own_d_method_4_code_0 : decode method_4_code 0 = .ok (.aload_n 0, 1) := by decide +kernel
theorem own_d_method_4_code_1 : decode method_4_code 1 = .ok (.iload_n 1, 1) := by decide +kernel
theorem own_d_method_4_code_2 : decode method_4_code 2 = .ok (.baload, 1) := by decide +kernel
theorem own_d_method_4_code_3 : decode method_4_code 3 = .ok (.i2l, 1) := by decide +kernel
theorem own_d_method_4_code_4 : decode method_4_code 4 = .ok (.ldc2_w 27, 3) := by decide +kernel
theorem own_d_method_4_code_7 : decode method_4_code 7 = .ok (.land, 1) := by decide +kernel
theorem own_d_method_4_code_8 : decode method_4_code 8 = .ok (.lreturn, 1) := by decide +kernel
set_option maxRecDepth 65536 in
set_option maxHeartbeats 4000000 in
theorem own_ef_own_rm_u (m : MethodId) (oa0 : Nat) (ia1 : Int32) : entryFrame m #[(.ref oa0), (.int ia1)] 2 = (mkF m 0 #[.val (.ref oa0), .val (.int ia1)] []) := by first | (simp [entryFrame, mkF, argsToLocals, Value.category]; done) | rfl
set_option maxRecDepth 65536 in
set_option maxHeartbeats 4000000 in
theorem own_rm_u (l : Launch) (Z : State) (a0 : Array Value) (hw : ∀ d ∈ tables_1, d.before a0 Z = true) (oa0 : Nat) (ia1 : Int32) (h : Heap) (G : Nat → Int32) (A : OwnAr Z h oa0 .byte 16 (fun i => .int (G i))) (k : Nat) (hk : ia1.toInt = k) (hk2 : k < 16) :
    OwnMet l Z (⟨"com/example/tinwire/tinwire/bytes/ByteWriterPutU64BePinLaw", "u", "([BI)J"⟩ : MethodName) method_4_code 2 (some .long) [] ({ frames := 0, cells := 0, slots := 0, locals := 0 } : Room) #[(.ref oa0), (.int ia1)] h (OwnPure (.long (own_u (G k))) h) := by
  refine own_enter (f0 := fun m => mkF m 0 #[.val (.ref oa0), .val (.int ia1)] []) (plainFor_of_name own_pn_ByteWriterPutU64BePinLaw) (fun m => own_ef_own_rm_u m oa0 ia1) ?_
  intro p e s m below meth c T0 X0 C e0
  refine own_aload_n X0 C own_d_method_4_code_0 1 rfl rfl rfl ?_
  refine own_iload_n X0 C own_d_method_4_code_1 2 rfl rfl ?_
  refine own_baloadB X0 C e0 A (by omega) (by omega) own_d_method_4_code_2 3 rfl (.int (G k)) (by show Value.int (G _) = _; rw [show ia1.toInt.toNat = k by omega]) ?_
  refine own_i2l X0 C own_d_method_4_code_3 4 rfl (fun v1 ev1 => ?_)
  refine own_ldc2 X0 C (own_w hw 12 rfl) own_d_method_4_code_4 7 rfl ?_
  refine own_land X0 C own_d_method_4_code_7 8 rfl (fun v2 ev2 => ?_)
  refine own_lreturn X0 C rfl own_d_method_4_code_8 (by decide) (by decide) ?_
  exact ⟨by rw [own_u, ev2, ev1], e0, rfl⟩
theorem own_pd_ABIII_R_Z : parseMethodDescriptor "([BIII)Z" = some ⟨[(.array .byte), .int, .int, .int], some .boolean⟩ := by decide +kernel
theorem own_d_method_5_code_0 : decode method_5_code 0 = .ok (.iload_n 1, 1) := by decide +kernel
theorem own_d_method_5_code_1 : decode method_5_code 1 = .ok (.iload_n 2, 1) := by decide +kernel
theorem own_d_method_5_code_2 : decode method_5_code 2 = .ok (.if_icmp .lt 13, 3) := by decide +kernel
theorem own_d_method_5_code_5 : decode method_5_code 5 = .ok (.iload_n 1, 1) := by decide +kernel
theorem own_d_method_5_code_6 : decode method_5_code 6 = .ok (.iload_n 2, 1) := by decide +kernel
theorem own_d_method_5_code_7 : decode method_5_code 7 = .ok (.bipush 8, 2) := by decide +kernel
theorem own_d_method_5_code_9 : decode method_5_code 9 = .ok (.iadd, 1) := by decide +kernel
theorem own_d_method_5_code_10 : decode method_5_code 10 = .ok (.if_icmp .ge 5, 3) := by decide +kernel
theorem own_d_method_5_code_13 : decode method_5_code 13 = .ok (.iconst 1, 1) := by decide +kernel
theorem own_d_method_5_code_14 : decode method_5_code 14 = .ok (.ireturn, 1) := by decide +kernel
theorem own_d_method_5_code_15 : decode method_5_code 15 = .ok (.aload_n 0, 1) := by decide +kernel
theorem own_d_method_5_code_16 : decode method_5_code 16 = .ok (.iload_n 1, 1) := by decide +kernel
theorem own_d_method_5_code_17 : decode method_5_code 17 = .ok (.baload, 1) := by decide +kernel
theorem own_d_method_5_code_18 : decode method_5_code 18 = .ok (.iload_n 3, 1) := by decide +kernel
theorem own_d_method_5_code_19 : decode method_5_code 19 = .ok (.iload_n 1, 1) := by decide +kernel
theorem own_d_method_5_code_20 : decode method_5_code 20 = .ok (.invokestatic 7, 3) := by decide +kernel
theorem own_d_method_5_code_23 : decode method_5_code 23 = .ok (.if_icmp .ne 7, 3) := by decide +kernel
theorem own_d_method_5_code_26 : decode method_5_code 26 = .ok (.iconst 1, 1) := by decide +kernel
theorem own_d_method_5_code_27 : decode method_5_code 27 = .ok (.goto 4, 3) := by decide +kernel
theorem own_d_method_5_code_31 : decode method_5_code 31 = .ok (.ireturn, 1) := by decide +kernel
set_option maxRecDepth 65536 in
set_option maxHeartbeats 4000000 in
theorem own_ef_own_rm_kept (m : MethodId) (oa0 : Nat) (ia1 : Int32) (ia2 : Int32) (ia3 : Int32) : entryFrame m #[(.ref oa0), (.int ia1), (.int ia2), (.int ia3)] 4 = (mkF m 0 #[.val (.ref oa0), .val (.int ia1), .val (.int ia2), .val (.int ia3)] []) := by first | (simp [entryFrame, mkF, argsToLocals, Value.category]; done) | rfl
set_option maxRecDepth 65536 in
set_option maxHeartbeats 4000000 in
theorem own_rm_kept (l : Launch) (Z : State) (a0 : Array Value) (hw : ∀ d ∈ tables_1, d.before a0 Z = true) (oa0 : Nat) (ia1 : Int32) (ia2 : Int32) (ia3 : Int32) (h : Heap) (G : Nat → Int32) (A : OwnAr Z h oa0 .byte 16 (fun i => .int (G i))) (k : Nat) (hk : ia1.toInt = k) (hk2 : k < 16) (ha : 0 ≤ ia2.toInt ∧ ia2.toInt < 8) (hG0 : (ia2.toInt ≤ k ∧ k < ia2.toInt + 8) ∨ G k = own_s ia3 ia1) :
    OwnMet l Z (⟨"com/example/tinwire/tinwire/bytes/ByteWriterPutU64BePinLaw", "kept", "([BIII)Z"⟩ : MethodName) method_5_code 4 (some .boolean) [] ({ frames := 1, cells := 0, slots := 0, locals := 40 } : Room) #[(.ref oa0), (.int ia1), (.int ia2), (.int ia3)] h (OwnPure (.int 1) h) := by
  refine own_enter (f0 := fun m => mkF m 0 #[.val (.ref oa0), .val (.int ia1), .val (.int ia2), .val (.int ia3)] []) (plainFor_of_name own_pn_ByteWriterPutU64BePinLaw) (fun m => own_ef_own_rm_kept m oa0 ia1 ia2 ia3) ?_
  intro p e s m below meth c T0 X0 C e0
  refine own_iload_n X0 C own_d_method_5_code_0 1 rfl rfl ?_
  refine own_iload_n X0 C own_d_method_5_code_1 2 rfl rfl ?_
  refine own_icmplt X0 C own_d_method_5_code_2 5 15 rfl (by decide) (by decide) (i := ia1.toInt) rfl (j := ia2.toInt) rfl (fun b1 => ?_) (fun b1 => ?_)
  · have hG : G k = own_s ia3 ia1 := by
      rcases hG0 with q | q
      · exfalso; omega
      · exact q
    refine own_aload_n X0 C own_d_method_5_code_15 16 rfl rfl rfl ?_
    refine own_iload_n X0 C own_d_method_5_code_16 17 rfl rfl ?_
    refine own_baloadB X0 C e0 A (by omega) (by omega) own_d_method_5_code_17 18 rfl (.int (G k)) (by show Value.int (G _) = _; rw [show ia1.toInt.toNat = k by omega]) ?_
    refine own_iload_n X0 C own_d_method_5_code_18 19 rfl rfl ?_
    refine own_iload_n X0 C own_d_method_5_code_19 20 rfl rfl ?_
    refine own_callP X0 C (own_w hw 1 rfl) (own_w hw 2 rfl) (own_w hw 3 rfl) (own_w hw 4 rfl) (by decide) (own_rm_s l Z a0 hw ia3 ia1 h) e0 own_pd_II_R_B [(.int ia3), (.int ia1)] rfl rfl rfl rfl 1 rfl (by decide) (by decide) rfl rfl (by decide) (by decide) own_d_method_5_code_20 23 rfl (fun T2 X2 e2 => ?_)
    refine own_icmpne X2 C own_d_method_5_code_23 26 30 rfl (by decide) (by decide) (i := (G k).toInt) rfl (j := (own_s ia3 ia1).toInt) rfl (fun b3 => ?_) (fun b3 => ?_)
    · exfalso
      exact b3 (by rw [hG])
    · refine own_iconst X2 C own_d_method_5_code_26 27 rfl (1) rfl ?_
      refine own_goto X2 C own_d_method_5_code_27 31 (by decide) (by decide) ?_
      refine own_iretN X2 C .boolean rfl (by simp) own_d_method_5_code_31 (by decide) (by decide) (1) (by decide) ?_
      exact ⟨rfl, e2, rfl⟩
  · refine own_iload_n X0 C own_d_method_5_code_5 6 rfl rfl ?_
    refine own_iload_n X0 C own_d_method_5_code_6 7 rfl rfl ?_
    refine own_bipush X0 C own_d_method_5_code_7 9 rfl (8) rfl ?_
    refine own_iadd X0 C own_d_method_5_code_9 10 rfl (fun v1 ev1 => ?_)
    have q1 := c_iadd ia2 8
    rw [← ev1] at q1
    have q2 : (8 : Int32).toInt = 8 := by decide
    have q3 := rng32 v1
    refine own_icmpge X0 C own_d_method_5_code_10 13 15 rfl (by decide) (by decide) (i := ia1.toInt) rfl (j := v1.toInt) rfl (fun b4 => ?_) (fun b4 => ?_)
    · have hG : G k = own_s ia3 ia1 := by
        rcases hG0 with q | q
        · exfalso; omega
        · exact q
      refine own_aload_n X0 C own_d_method_5_code_15 16 rfl rfl rfl ?_
      refine own_iload_n X0 C own_d_method_5_code_16 17 rfl rfl ?_
      refine own_baloadB X0 C e0 A (by omega) (by omega) own_d_method_5_code_17 18 rfl (.int (G k)) (by show Value.int (G _) = _; rw [show ia1.toInt.toNat = k by omega]) ?_
      refine own_iload_n X0 C own_d_method_5_code_18 19 rfl rfl ?_
      refine own_iload_n X0 C own_d_method_5_code_19 20 rfl rfl ?_
      refine own_callP X0 C (own_w hw 1 rfl) (own_w hw 2 rfl) (own_w hw 3 rfl) (own_w hw 4 rfl) (by decide) (own_rm_s l Z a0 hw ia3 ia1 h) e0 own_pd_II_R_B [(.int ia3), (.int ia1)] rfl rfl rfl rfl 1 rfl (by decide) (by decide) rfl rfl (by decide) (by decide) own_d_method_5_code_20 23 rfl (fun T5 X5 e5 => ?_)
      refine own_icmpne X5 C own_d_method_5_code_23 26 30 rfl (by decide) (by decide) (i := (G k).toInt) rfl (j := (own_s ia3 ia1).toInt) rfl (fun b6 => ?_) (fun b6 => ?_)
      · exfalso
        exact b6 (by rw [hG])
      · refine own_iconst X5 C own_d_method_5_code_26 27 rfl (1) rfl ?_
        refine own_goto X5 C own_d_method_5_code_27 31 (by decide) (by decide) ?_
        refine own_iretN X5 C .boolean rfl (by simp) own_d_method_5_code_31 (by decide) (by decide) (1) (by decide) ?_
        exact ⟨rfl, e5, rfl⟩
    · refine own_iconst X0 C own_d_method_5_code_13 14 rfl (1) rfl ?_
      refine own_iretN X0 C .boolean rfl (by simp) own_d_method_5_code_14 (by decide) (by decide) (1) (by decide) ?_
      exact ⟨rfl, e0, rfl⟩
theorem own_pn_ByteWriter : plainName "com/example/tinwire/tinwire/bytes/ByteWriter" = true := by first | (simp [plainName, overriddenIn]; done) | decide +kernel
theorem own_pd_ABIJ_R_I : parseMethodDescriptor "([BIJ)I" = some ⟨[(.array .byte), .int, .long], some .int⟩ := by decide +kernel
theorem own_d_prog_9_method_11_code_0 : decode prog_9_method_11_code 0 = .ok (.iconst 0, 1) := by decide +kernel
theorem own_d_prog_9_method_11_code_1 : decode prog_9_method_11_code 1 = .ok (.istore 4, 2) := by decide +kernel
theorem own_d_prog_9_method_11_code_3 : decode prog_9_method_11_code 3 = .ok (.iload 4, 2) := by decide +kernel
theorem own_d_prog_9_method_11_code_5 : decode prog_9_method_11_code 5 = .ok (.bipush 8, 2) := by decide +kernel
theorem own_d_prog_9_method_11_code_7 : decode prog_9_method_11_code 7 = .ok (.if_icmp .ge 27, 3) := by decide +kernel
theorem own_d_prog_9_method_11_code_10 : decode prog_9_method_11_code 10 = .ok (.aload_n 0, 1) := by decide +kernel
theorem own_d_prog_9_method_11_code_11 : decode prog_9_method_11_code 11 = .ok (.iload_n 1, 1) := by decide +kernel
theorem own_d_prog_9_method_11_code_12 : decode prog_9_method_11_code 12 = .ok (.iload 4, 2) := by decide +kernel
theorem own_d_prog_9_method_11_code_14 : decode prog_9_method_11_code 14 = .ok (.iadd, 1) := by decide +kernel
theorem own_d_prog_9_method_11_code_15 : decode prog_9_method_11_code 15 = .ok (.lload_n 2, 1) := by decide +kernel
theorem own_d_prog_9_method_11_code_16 : decode prog_9_method_11_code 16 = .ok (.bipush 8, 2) := by decide +kernel
theorem own_d_prog_9_method_11_code_18 : decode prog_9_method_11_code 18 = .ok (.bipush 7, 2) := by decide +kernel
theorem own_d_prog_9_method_11_code_20 : decode prog_9_method_11_code 20 = .ok (.iload 4, 2) := by decide +kernel
theorem own_d_prog_9_method_11_code_22 : decode prog_9_method_11_code 22 = .ok (.isub, 1) := by decide +kernel
theorem own_d_prog_9_method_11_code_23 : decode prog_9_method_11_code 23 = .ok (.imul, 1) := by decide +kernel
theorem own_d_prog_9_method_11_code_24 : decode prog_9_method_11_code 24 = .ok (.lushr, 1) := by decide +kernel
theorem own_d_prog_9_method_11_code_25 : decode prog_9_method_11_code 25 = .ok (.l2i, 1) := by decide +kernel
theorem own_d_prog_9_method_11_code_26 : decode prog_9_method_11_code 26 = .ok (.i2b, 1) := by decide +kernel
theorem own_d_prog_9_method_11_code_27 : decode prog_9_method_11_code 27 = .ok (.bastore, 1) := by decide +kernel
theorem own_d_prog_9_method_11_code_28 : decode prog_9_method_11_code 28 = .ok (.iinc 4 1, 3) := by decide +kernel
theorem own_d_prog_9_method_11_code_31 : decode prog_9_method_11_code 31 = .ok (.goto (-28), 3) := by decide +kernel
theorem own_d_prog_9_method_11_code_34 : decode prog_9_method_11_code 34 = .ok (.iload_n 1, 1) := by decide +kernel
theorem own_d_prog_9_method_11_code_35 : decode prog_9_method_11_code 35 = .ok (.bipush 8, 2) := by decide +kernel
theorem own_d_prog_9_method_11_code_37 : decode prog_9_method_11_code 37 = .ok (.iadd, 1) := by decide +kernel
theorem own_d_prog_9_method_11_code_38 : decode prog_9_method_11_code 38 = .ok (.ireturn, 1) := by decide +kernel
set_option maxRecDepth 65536 in
set_option maxHeartbeats 4000000 in
theorem own_ef_own_rm_put (m : MethodId) (oa0 : Nat) (ia1 : Int32) (ja2 : Int64) : entryFrame m #[(.ref oa0), (.int ia1), (.long ja2)] 5 = (mkF m 0 #[.val (.ref oa0), .val (.int ia1), .val (.long ja2), .second, .unset] []) := by first | (simp [entryFrame, mkF, argsToLocals, Value.category]; done) | rfl
set_option maxRecDepth 65536 in
set_option maxHeartbeats 4000000 in
theorem own_rm_put (l : Launch) (Z : State) (a0 : Array Value) (hw : ∀ d ∈ tables_1, d.before a0 Z = true) (oa0 : Nat) (ia1 : Int32) (ja2 : Int64) (h : Heap) (n0 : Nat) (go : n0 ≤ oa0) (G : Nat → Int32) (A : OwnAr Z h oa0 .byte 16 (fun i => .int (G i))) (a : Nat) (ha : ia1.toInt = a) (ha2 : a < 8) :
    OwnMet l Z (⟨"com/example/tinwire/tinwire/bytes/ByteWriter", "putU64Be", "([BIJ)I"⟩ : MethodName) prog_9_method_11_code 5 (some .int) [] ({ frames := 0, cells := 0, slots := 0, locals := 0 } : Room) #[(.ref oa0), (.int ia1), (.long ja2)] h (fun v h' L => (∃ z : Int32, v = some (.int z) ∧ z.toInt = a + 8) ∧ Fr n0 L ∧ OwnAr Z h' oa0 .byte 16 (fun j => .int (if a ≤ j ∧ j < a + 8 then own_by ja2 (Int32.ofNat (j - a)) else G j)) ∧ Keep h h' [oa0]) := by
  refine own_enter (f0 := fun m => mkF m 0 #[.val (.ref oa0), .val (.int ia1), .val (.long ja2), .second, .unset] []) (plainFor_of_name own_pn_ByteWriter) (fun m => own_ef_own_rm_put m oa0 ia1 ja2) ?_
  intro p e s m below meth c T0 X0 C e0
  refine own_iconst X0 C own_d_prog_9_method_11_code_0 1 rfl (0) rfl ?_
  refine own_istore X0 C own_d_prog_9_method_11_code_1 3 rfl #[.val (.ref oa0), .val (.int ia1), .val (.long ja2), .second, .val (.int (0 : Int32))] rfl ?_
  have loop : ∀ r k, k + r = 8 → ∀ T hc locs, Stand p l e ({ frames := 0, cells := 0, slots := 0, locals := 0 } : Room) s m #[(.ref oa0), (.int ia1), (.long ja2)] below meth c T locs 0 0 → T.heap = hc → Fr n0 locs → Keep h hc [oa0] → OwnAr Z hc oa0 .byte 16 (fun j => .int (if a ≤ j ∧ j < a + k then own_by ja2 (Int32.ofNat (j - a)) else G j)) → ∀ vi : Int32, vi = Int32.ofNat k → OwnEnds p e below (OwnG s (({ frames := 0, cells := 0, slots := 0, locals := 0 } : Room)).cells (({ frames := 0, cells := 0, slots := 0, locals := 0 } : Room)).slots (fun v h' L => (∃ z : Int32, v = some (.int z) ∧ z.toInt = a + 8) ∧ Fr n0 L ∧ OwnAr Z h' oa0 .byte 16 (fun j => .int (if a ≤ j ∧ j < a + 8 then own_by ja2 (Int32.ofNat (j - a)) else G j)) ∧ Keep h h' [oa0])) (T.setTop (mkF m 3 #[.val (.ref oa0), .val (.int ia1), .val (.long ja2), .second, .val (.int vi)] [])) := by
    intro r
    induction r with
    | zero =>
      intro k hk T hc locs X eT N Kp A vi hvi
      have hvi2 : vi.toInt = k := by rw [hvi, Int32.toInt_ofNat_of_lt (by omega)]
      refine own_iload X C own_d_prog_9_method_11_code_3 5 rfl rfl ?_
      refine own_bipush X C own_d_prog_9_method_11_code_5 7 rfl (8) rfl ?_
      refine own_icmpge X C own_d_prog_9_method_11_code_7 10 34 rfl (by decide) (by decide) (i := vi.toInt) rfl (j := 8) (by decide) (fun b1 => ?_) (fun b1 => ?_)
      · refine own_iload_n X C own_d_prog_9_method_11_code_34 35 rfl rfl ?_
        refine own_bipush X C own_d_prog_9_method_11_code_35 37 rfl (8) rfl ?_
        refine own_iadd X C own_d_prog_9_method_11_code_37 38 rfl (fun v1 ev1 => ?_)
        refine own_ireturn X C rfl own_d_prog_9_method_11_code_38 (by decide) (by decide) ?_
        have y1 := c_iadd ia1 8
        rw [← ev1] at y1
        have y2 : (8 : Int32).toInt = 8 := by decide
        have y3 := rng32 v1
        rw [eT]
        exact ⟨⟨v1, rfl, by omega⟩, N, A.eqv fun i _ => by rw [show k = 8 by omega], Kp⟩
      · exfalso
        omega
    | succ r ih =>
      intro k hk T hc locs X eT N Kp A vi hvi
      have hvi2 : vi.toInt = k := by rw [hvi, Int32.toInt_ofNat_of_lt (by omega)]
      refine own_iload X C own_d_prog_9_method_11_code_3 5 rfl rfl ?_
      refine own_bipush X C own_d_prog_9_method_11_code_5 7 rfl (8) rfl ?_
      refine own_icmpge X C own_d_prog_9_method_11_code_7 10 34 rfl (by decide) (by decide) (i := vi.toInt) rfl (j := 8) (by decide) (fun b2 => ?_) (fun b2 => ?_)
      · exfalso
        omega
      · refine own_aload_n X C own_d_prog_9_method_11_code_10 11 rfl rfl rfl ?_
        refine own_iload_n X C own_d_prog_9_method_11_code_11 12 rfl rfl ?_
        refine own_iload X C own_d_prog_9_method_11_code_12 14 rfl rfl ?_
        refine own_iadd X C own_d_prog_9_method_11_code_14 15 rfl (fun v2 ev2 => ?_)
        have i1 := c_iadd ia1 vi
        rw [← ev2] at i1
        have i2 := rng32 v2
        have i3 : v2.toInt = a + k := by omega
        refine own_lload_n X C own_d_prog_9_method_11_code_15 16 rfl rfl ?_
        refine own_bipush X C own_d_prog_9_method_11_code_16 18 rfl (8) rfl ?_
        refine own_bipush X C own_d_prog_9_method_11_code_18 20 rfl (7) rfl ?_
        refine own_iload X C own_d_prog_9_method_11_code_20 22 rfl rfl ?_
        refine own_isub X C own_d_prog_9_method_11_code_22 23 rfl (fun v3 ev3 => ?_)
        refine own_imul X C own_d_prog_9_method_11_code_23 24 rfl (fun v4 ev4 => ?_)
        refine own_lushr X C own_d_prog_9_method_11_code_24 25 rfl (fun v5 ev5 => ?_)
        refine own_l2i X C own_d_prog_9_method_11_code_25 26 rfl (fun v6 ev6 => ?_)
        refine own_i2b X C own_d_prog_9_method_11_code_26 27 rfl (fun v7 ev7 => ?_)
        refine own_bastoreB X C eT A (by omega) (by omega) own_d_prog_9_method_11_code_27 28 rfl _ rfl (fun T3 h3 X3 e3 W3 => ?_)
        have N3 := own_fr1 (sl := (v2).toInt.toNat) N go
        have hz : v7.toInt8.toInt32 = own_by ja2 (Int32.ofNat k) := by
          rw [ev7, ev6, ev5, ev4, ev3, ← hvi]; exact own_byte _
        have hj : v2.toInt.toNat = a + k := by omega
        replace A : OwnAr Z h3 oa0 .byte 16 (fun j => .int (if a ≤ j ∧ j < a + (k + 1) then own_by ja2 (Int32.ofNat (j - a)) else G j)) := (A.set W3).eqv fun i _ => by
          rw [hj, hz]
          by_cases q : i = a + k
          · rw [if_pos q, if_pos (by omega), show i - a = k by omega]
          · rw [if_neg q]
            by_cases q2 : a ≤ i ∧ i < a + k
            · rw [if_pos q2, if_pos (by omega)]
            · rw [if_neg q2, if_neg (by omega)]
        replace Kp := Kp.wr W3 (Or.inl (List.mem_singleton.mpr rfl))
        refine own_iinc X3 C own_d_prog_9_method_11_code_28 31 rfl rfl (1) rfl (fun z => #[.val (.ref oa0), .val (.int ia1), .val (.long ja2), .second, .val (.int z)]) (fun z => rfl) (fun v8 ev8 => ?_)
        refine own_goto X3 C own_d_prog_9_method_11_code_31 3 (by decide) (by decide) ?_
        have y1 := c_iadd vi 1
        rw [← ev8] at y1
        have y2 := rng32 v8
        have y3 : (1 : Int32).toInt = 1 := by decide
        have y4 : v8 = Int32.ofNat (k + 1) := by
          apply Int32.toInt_inj.mp
          rw [Int32.toInt_ofNat_of_lt (by omega)]; omega
        exact ih (k + 1) (by omega) T3 h3 _ X3 e3 N3 Kp A _ y4
  exact loop 8 0 (by omega) T0 h [] X0 e0 (Fr.nil _) (Keep.refl _ _) (A.eqv fun i _ => by rw [if_neg (by omega)]) _ rfl
theorem own_kk (a : Nat) (v : Int32) (ha : v.toInt = a) (ja1 : Int64) (ia2 : Int32) (i : Nat) (j : Int32) (hi : i < 16) (hj : Int32.ofNat i = j) : (v.toInt ≤ i ∧ i < v.toInt + 8) ∨ (fun j => if a ≤ j ∧ j < a + 8 then own_by ja1 (Int32.ofNat (j - a)) else (if j < 16 then own_s ia2 (Int32.ofNat j) else 0)) i = own_s ia2 j := by
  by_cases q : a ≤ i ∧ i < a + 8
  · left; omega
  · right; show ite _ _ _ = _; rw [if_neg q, if_pos hi, hj]
theorem own_pd_IJI_R_Z : parseMethodDescriptor "(IJI)Z" = some ⟨[.int, .long, .int], some .boolean⟩ := by decide +kernel
set_option maxRecDepth 65536 in
set_option maxHeartbeats 4000000 in
theorem own_ef_own_rm_law (m : MethodId) (ia0 : Int32) (ja1 : Int64) (ia2 : Int32) : entryFrame m #[(.int ia0), (.long ja1), (.int ia2)] maxLocals = (mkF m 0 #[.val (.int ia0), .val (.long ja1), .second, .val (.int ia2), .unset, .unset, .unset, .unset, .unset] []) := by first | (simp [entryFrame, mkF, argsToLocals, Value.category, maxLocals]; done) | rfl
set_option maxRecDepth 65536 in
set_option maxHeartbeats 4000000 in
theorem own_rm_law (l : Launch) (Z : State) (a0 : Array Value) (hw : ∀ d ∈ tables_1, d.before a0 Z = true) (ia0 : Int32) (ja1 : Int64) (ia2 : Int32) (h : Heap)  :
    OwnMet l Z x code maxLocals ret tables_1 room_1 #[(.int ia0), (.long ja1), (.int ia2)] h (fun v h' L => v = some (.int 1) ∧ Fr h.size L) := by
  refine own_enter (f0 := fun m => mkF m 0 #[.val (.int ia0), .val (.long ja1), .second, .val (.int ia2), .unset, .unset, .unset, .unset, .unset] []) (plainFor_of_name own_pn_ByteWriterPutU64BePinLaw) (fun m => own_ef_own_rm_law m ia0 ja1 ia2) ?_
  intro p e s m below meth c T0 X0 C e0
  refine own_iload_n X0 C at_0 1 rfl rfl ?_
  refine own_bipush X0 C at_1 3 rfl (7) rfl ?_
  refine own_iand X0 C at_3 4 rfl (fun v1 ev1 => ?_)
  have r1 := c_and ia0 7 (by decide)
  rw [← ev1] at r1
  have r2 : (7 : Int32).toInt = 7 := by decide
  obtain ⟨a, ha⟩ : ∃ n : Nat, v1.toInt = n := ⟨v1.toInt.toNat, by omega⟩
  refine own_istore X0 C at_4 6 rfl #[.val (.int ia0), .val (.long ja1), .second, .val (.int ia2), .val (.int v1), .unset, .unset, .unset, .unset] rfl ?_
  refine own_bipush X0 C at_6 8 rfl (16) rfl ?_
  refine own_newarray X0 C (own_w hw 0 rfl) e0 at_8 10 rfl (by decide) 16 (by decide) (by decide) (by decide) (by decide) (fun T1 h1 b1 g1 X1 e1 E1 A1 => ?_)
  have gb : h.size ≤ b1 := Nat.le_of_eq g1.symm
  have A : OwnAr Z h1 b1 .byte 16 (fun j => .int (if j < 0 then own_s ia2 (Int32.ofNat j) else 0)) := A1.eqv fun i _ => by rw [if_neg (by omega)]; rfl
  refine own_astore X1 C at_10 12 rfl rfl #[.val (.int ia0), .val (.long ja1), .second, .val (.int ia2), .val (.int v1), .val (.ref b1), .unset, .unset, .unset] rfl ?_
  refine own_aload X1 C at_12 14 rfl rfl rfl ?_
  refine own_iconst X1 C at_14 15 rfl (0) rfl ?_
  refine own_iload_n X1 C at_15 16 rfl rfl ?_
  refine own_iconst X1 C at_16 17 rfl (0) rfl ?_
  refine own_callP X1 C (own_w hw 1 rfl) (own_w hw 2 rfl) (own_w hw 3 rfl) (own_w hw 4 rfl) (by decide) (own_rm_s l Z a0 hw ia2 (0 : Int32) h1) e1 own_pd_II_R_B [(.int ia2), (.int (0 : Int32))] rfl rfl rfl rfl 2 rfl (by decide) (by decide) rfl rfl (by decide) (by decide) at_17 20 rfl (fun T2 X2 e2 => ?_)
  refine own_bastoreB X2 C e2 A (by decide) (by decide) at_20 21 rfl _ rfl (fun T3 h3 X3 e3 W3 => ?_)
  have N3 := own_fr1 (sl := ((0 : Int32)).toInt.toNat) (Fr.nil h.size) gb
  rw [show ((0 : Int32).toInt.toNat) = 0 from rfl] at W3
  replace A : OwnAr Z h3 b1 .byte 16 (fun j => .int (if j < 1 then own_s ia2 (Int32.ofNat j) else 0)) := (A.set W3).eqv fun i _ => by
    by_cases q : i = 0
    · subst q; rw [if_pos rfl, if_pos (by omega), show (own_s ia2 0).toInt8.toInt32 = own_s ia2 0 from own_byte _]; rfl
    · rw [if_neg q]
      by_cases q2 : i < 0
      · rw [if_pos q2, if_pos (by omega)]
      · rw [if_neg q2, if_neg (by omega)]
  refine own_aload X3 C at_21 23 rfl rfl rfl ?_
  refine own_iconst X3 C at_23 24 rfl (1) rfl ?_
  refine own_iload_n X3 C at_24 25 rfl rfl ?_
  refine own_iconst X3 C at_25 26 rfl (1) rfl ?_
  refine own_callP X3 C (own_w hw 1 rfl) (own_w hw 2 rfl) (own_w hw 3 rfl) (own_w hw 4 rfl) (by decide) (own_rm_s l Z a0 hw ia2 (1 : Int32) h3) e3 own_pd_II_R_B [(.int ia2), (.int (1 : Int32))] rfl rfl rfl rfl 2 rfl (by decide) (by decide) rfl rfl (by decide) (by decide) at_26 29 rfl (fun T4 X4 e4 => ?_)
  refine own_bastoreB X4 C e4 A (by decide) (by decide) at_29 30 rfl _ rfl (fun T5 h5 X5 e5 W5 => ?_)
  have N5 := own_fr1 (sl := ((1 : Int32)).toInt.toNat) N3 gb
  rw [show ((1 : Int32).toInt.toNat) = 1 from rfl] at W5
  replace A : OwnAr Z h5 b1 .byte 16 (fun j => .int (if j < 2 then own_s ia2 (Int32.ofNat j) else 0)) := (A.set W5).eqv fun i _ => by
    by_cases q : i = 1
    · subst q; rw [if_pos rfl, if_pos (by omega), show (own_s ia2 1).toInt8.toInt32 = own_s ia2 1 from own_byte _]; rfl
    · rw [if_neg q]
      by_cases q2 : i < 1
      · rw [if_pos q2, if_pos (by omega)]
      · rw [if_neg q2, if_neg (by omega)]
  refine own_aload X5 C at_30 32 rfl rfl rfl ?_
  refine own_iconst X5 C at_32 33 rfl (2) rfl ?_
  refine own_iload_n X5 C at_33 34 rfl rfl ?_
  refine own_iconst X5 C at_34 35 rfl (2) rfl ?_
  refine own_callP X5 C (own_w hw 1 rfl) (own_w hw 2 rfl) (own_w hw 3 rfl) (own_w hw 4 rfl) (by decide) (own_rm_s l Z a0 hw ia2 (2 : Int32) h5) e5 own_pd_II_R_B [(.int ia2), (.int (2 : Int32))] rfl rfl rfl rfl 2 rfl (by decide) (by decide) rfl rfl (by decide) (by decide) at_35 38 rfl (fun T6 X6 e6 => ?_)
  refine own_bastoreB X6 C e6 A (by decide) (by decide) at_38 39 rfl _ rfl (fun T7 h7 X7 e7 W7 => ?_)
  have N7 := own_fr1 (sl := ((2 : Int32)).toInt.toNat) N5 gb
  rw [show ((2 : Int32).toInt.toNat) = 2 from rfl] at W7
  replace A : OwnAr Z h7 b1 .byte 16 (fun j => .int (if j < 3 then own_s ia2 (Int32.ofNat j) else 0)) := (A.set W7).eqv fun i _ => by
    by_cases q : i = 2
    · subst q; rw [if_pos rfl, if_pos (by omega), show (own_s ia2 2).toInt8.toInt32 = own_s ia2 2 from own_byte _]; rfl
    · rw [if_neg q]
      by_cases q2 : i < 2
      · rw [if_pos q2, if_pos (by omega)]
      · rw [if_neg q2, if_neg (by omega)]
  refine own_aload X7 C at_39 41 rfl rfl rfl ?_
  refine own_iconst X7 C at_41 42 rfl (3) rfl ?_
  refine own_iload_n X7 C at_42 43 rfl rfl ?_
  refine own_iconst X7 C at_43 44 rfl (3) rfl ?_
  refine own_callP X7 C (own_w hw 1 rfl) (own_w hw 2 rfl) (own_w hw 3 rfl) (own_w hw 4 rfl) (by decide) (own_rm_s l Z a0 hw ia2 (3 : Int32) h7) e7 own_pd_II_R_B [(.int ia2), (.int (3 : Int32))] rfl rfl rfl rfl 2 rfl (by decide) (by decide) rfl rfl (by decide) (by decide) at_44 47 rfl (fun T8 X8 e8 => ?_)
  refine own_bastoreB X8 C e8 A (by decide) (by decide) at_47 48 rfl _ rfl (fun T9 h9 X9 e9 W9 => ?_)
  have N9 := own_fr1 (sl := ((3 : Int32)).toInt.toNat) N7 gb
  rw [show ((3 : Int32).toInt.toNat) = 3 from rfl] at W9
  replace A : OwnAr Z h9 b1 .byte 16 (fun j => .int (if j < 4 then own_s ia2 (Int32.ofNat j) else 0)) := (A.set W9).eqv fun i _ => by
    by_cases q : i = 3
    · subst q; rw [if_pos rfl, if_pos (by omega), show (own_s ia2 3).toInt8.toInt32 = own_s ia2 3 from own_byte _]; rfl
    · rw [if_neg q]
      by_cases q2 : i < 3
      · rw [if_pos q2, if_pos (by omega)]
      · rw [if_neg q2, if_neg (by omega)]
  refine own_aload X9 C at_48 50 rfl rfl rfl ?_
  refine own_iconst X9 C at_50 51 rfl (4) rfl ?_
  refine own_iload_n X9 C at_51 52 rfl rfl ?_
  refine own_iconst X9 C at_52 53 rfl (4) rfl ?_
  refine own_callP X9 C (own_w hw 1 rfl) (own_w hw 2 rfl) (own_w hw 3 rfl) (own_w hw 4 rfl) (by decide) (own_rm_s l Z a0 hw ia2 (4 : Int32) h9) e9 own_pd_II_R_B [(.int ia2), (.int (4 : Int32))] rfl rfl rfl rfl 2 rfl (by decide) (by decide) rfl rfl (by decide) (by decide) at_53 56 rfl (fun T10 X10 e10 => ?_)
  refine own_bastoreB X10 C e10 A (by decide) (by decide) at_56 57 rfl _ rfl (fun T11 h11 X11 e11 W11 => ?_)
  have N11 := own_fr1 (sl := ((4 : Int32)).toInt.toNat) N9 gb
  rw [show ((4 : Int32).toInt.toNat) = 4 from rfl] at W11
  replace A : OwnAr Z h11 b1 .byte 16 (fun j => .int (if j < 5 then own_s ia2 (Int32.ofNat j) else 0)) := (A.set W11).eqv fun i _ => by
    by_cases q : i = 4
    · subst q; rw [if_pos rfl, if_pos (by omega), show (own_s ia2 4).toInt8.toInt32 = own_s ia2 4 from own_byte _]; rfl
    · rw [if_neg q]
      by_cases q2 : i < 4
      · rw [if_pos q2, if_pos (by omega)]
      · rw [if_neg q2, if_neg (by omega)]
  refine own_aload X11 C at_57 59 rfl rfl rfl ?_
  refine own_iconst X11 C at_59 60 rfl (5) rfl ?_
  refine own_iload_n X11 C at_60 61 rfl rfl ?_
  refine own_iconst X11 C at_61 62 rfl (5) rfl ?_
  refine own_callP X11 C (own_w hw 1 rfl) (own_w hw 2 rfl) (own_w hw 3 rfl) (own_w hw 4 rfl) (by decide) (own_rm_s l Z a0 hw ia2 (5 : Int32) h11) e11 own_pd_II_R_B [(.int ia2), (.int (5 : Int32))] rfl rfl rfl rfl 2 rfl (by decide) (by decide) rfl rfl (by decide) (by decide) at_62 65 rfl (fun T12 X12 e12 => ?_)
  refine own_bastoreB X12 C e12 A (by decide) (by decide) at_65 66 rfl _ rfl (fun T13 h13 X13 e13 W13 => ?_)
  have N13 := own_fr1 (sl := ((5 : Int32)).toInt.toNat) N11 gb
  rw [show ((5 : Int32).toInt.toNat) = 5 from rfl] at W13
  replace A : OwnAr Z h13 b1 .byte 16 (fun j => .int (if j < 6 then own_s ia2 (Int32.ofNat j) else 0)) := (A.set W13).eqv fun i _ => by
    by_cases q : i = 5
    · subst q; rw [if_pos rfl, if_pos (by omega), show (own_s ia2 5).toInt8.toInt32 = own_s ia2 5 from own_byte _]; rfl
    · rw [if_neg q]
      by_cases q2 : i < 5
      · rw [if_pos q2, if_pos (by omega)]
      · rw [if_neg q2, if_neg (by omega)]
  refine own_aload X13 C at_66 68 rfl rfl rfl ?_
  refine own_bipush X13 C at_68 70 rfl (6) rfl ?_
  refine own_iload_n X13 C at_70 71 rfl rfl ?_
  refine own_bipush X13 C at_71 73 rfl (6) rfl ?_
  refine own_callP X13 C (own_w hw 1 rfl) (own_w hw 2 rfl) (own_w hw 3 rfl) (own_w hw 4 rfl) (by decide) (own_rm_s l Z a0 hw ia2 (6 : Int32) h13) e13 own_pd_II_R_B [(.int ia2), (.int (6 : Int32))] rfl rfl rfl rfl 2 rfl (by decide) (by decide) rfl rfl (by decide) (by decide) at_73 76 rfl (fun T14 X14 e14 => ?_)
  refine own_bastoreB X14 C e14 A (by decide) (by decide) at_76 77 rfl _ rfl (fun T15 h15 X15 e15 W15 => ?_)
  have N15 := own_fr1 (sl := ((6 : Int32)).toInt.toNat) N13 gb
  rw [show ((6 : Int32).toInt.toNat) = 6 from rfl] at W15
  replace A : OwnAr Z h15 b1 .byte 16 (fun j => .int (if j < 7 then own_s ia2 (Int32.ofNat j) else 0)) := (A.set W15).eqv fun i _ => by
    by_cases q : i = 6
    · subst q; rw [if_pos rfl, if_pos (by omega), show (own_s ia2 6).toInt8.toInt32 = own_s ia2 6 from own_byte _]; rfl
    · rw [if_neg q]
      by_cases q2 : i < 6
      · rw [if_pos q2, if_pos (by omega)]
      · rw [if_neg q2, if_neg (by omega)]
  refine own_aload X15 C at_77 79 rfl rfl rfl ?_
  refine own_bipush X15 C at_79 81 rfl (7) rfl ?_
  refine own_iload_n X15 C at_81 82 rfl rfl ?_
  refine own_bipush X15 C at_82 84 rfl (7) rfl ?_
  refine own_callP X15 C (own_w hw 1 rfl) (own_w hw 2 rfl) (own_w hw 3 rfl) (own_w hw 4 rfl) (by decide) (own_rm_s l Z a0 hw ia2 (7 : Int32) h15) e15 own_pd_II_R_B [(.int ia2), (.int (7 : Int32))] rfl rfl rfl rfl 2 rfl (by decide) (by decide) rfl rfl (by decide) (by decide) at_84 87 rfl (fun T16 X16 e16 => ?_)
  refine own_bastoreB X16 C e16 A (by decide) (by decide) at_87 88 rfl _ rfl (fun T17 h17 X17 e17 W17 => ?_)
  have N17 := own_fr1 (sl := ((7 : Int32)).toInt.toNat) N15 gb
  rw [show ((7 : Int32).toInt.toNat) = 7 from rfl] at W17
  replace A : OwnAr Z h17 b1 .byte 16 (fun j => .int (if j < 8 then own_s ia2 (Int32.ofNat j) else 0)) := (A.set W17).eqv fun i _ => by
    by_cases q : i = 7
    · subst q; rw [if_pos rfl, if_pos (by omega), show (own_s ia2 7).toInt8.toInt32 = own_s ia2 7 from own_byte _]; rfl
    · rw [if_neg q]
      by_cases q2 : i < 7
      · rw [if_pos q2, if_pos (by omega)]
      · rw [if_neg q2, if_neg (by omega)]
  refine own_aload X17 C at_88 90 rfl rfl rfl ?_
  refine own_bipush X17 C at_90 92 rfl (8) rfl ?_
  refine own_iload_n X17 C at_92 93 rfl rfl ?_
  refine own_bipush X17 C at_93 95 rfl (8) rfl ?_
  refine own_callP X17 C (own_w hw 1 rfl) (own_w hw 2 rfl) (own_w hw 3 rfl) (own_w hw 4 rfl) (by decide) (own_rm_s l Z a0 hw ia2 (8 : Int32) h17) e17 own_pd_II_R_B [(.int ia2), (.int (8 : Int32))] rfl rfl rfl rfl 2 rfl (by decide) (by decide) rfl rfl (by decide) (by decide) at_95 98 rfl (fun T18 X18 e18 => ?_)
  refine own_bastoreB X18 C e18 A (by decide) (by decide) at_98 99 rfl _ rfl (fun T19 h19 X19 e19 W19 => ?_)
  have N19 := own_fr1 (sl := ((8 : Int32)).toInt.toNat) N17 gb
  rw [show ((8 : Int32).toInt.toNat) = 8 from rfl] at W19
  replace A : OwnAr Z h19 b1 .byte 16 (fun j => .int (if j < 9 then own_s ia2 (Int32.ofNat j) else 0)) := (A.set W19).eqv fun i _ => by
    by_cases q : i = 8
    · subst q; rw [if_pos rfl, if_pos (by omega), show (own_s ia2 8).toInt8.toInt32 = own_s ia2 8 from own_byte _]; rfl
    · rw [if_neg q]
      by_cases q2 : i < 8
      · rw [if_pos q2, if_pos (by omega)]
      · rw [if_neg q2, if_neg (by omega)]
  refine own_aload X19 C at_99 101 rfl rfl rfl ?_
  refine own_bipush X19 C at_101 103 rfl (9) rfl ?_
  refine own_iload_n X19 C at_103 104 rfl rfl ?_
  refine own_bipush X19 C at_104 106 rfl (9) rfl ?_
  refine own_callP X19 C (own_w hw 1 rfl) (own_w hw 2 rfl) (own_w hw 3 rfl) (own_w hw 4 rfl) (by decide) (own_rm_s l Z a0 hw ia2 (9 : Int32) h19) e19 own_pd_II_R_B [(.int ia2), (.int (9 : Int32))] rfl rfl rfl rfl 2 rfl (by decide) (by decide) rfl rfl (by decide) (by decide) at_106 109 rfl (fun T20 X20 e20 => ?_)
  refine own_bastoreB X20 C e20 A (by decide) (by decide) at_109 110 rfl _ rfl (fun T21 h21 X21 e21 W21 => ?_)
  have N21 := own_fr1 (sl := ((9 : Int32)).toInt.toNat) N19 gb
  rw [show ((9 : Int32).toInt.toNat) = 9 from rfl] at W21
  replace A : OwnAr Z h21 b1 .byte 16 (fun j => .int (if j < 10 then own_s ia2 (Int32.ofNat j) else 0)) := (A.set W21).eqv fun i _ => by
    by_cases q : i = 9
    · subst q; rw [if_pos rfl, if_pos (by omega), show (own_s ia2 9).toInt8.toInt32 = own_s ia2 9 from own_byte _]; rfl
    · rw [if_neg q]
      by_cases q2 : i < 9
      · rw [if_pos q2, if_pos (by omega)]
      · rw [if_neg q2, if_neg (by omega)]
  refine own_aload X21 C at_110 112 rfl rfl rfl ?_
  refine own_bipush X21 C at_112 114 rfl (10) rfl ?_
  refine own_iload_n X21 C at_114 115 rfl rfl ?_
  refine own_bipush X21 C at_115 117 rfl (10) rfl ?_
  refine own_callP X21 C (own_w hw 1 rfl) (own_w hw 2 rfl) (own_w hw 3 rfl) (own_w hw 4 rfl) (by decide) (own_rm_s l Z a0 hw ia2 (10 : Int32) h21) e21 own_pd_II_R_B [(.int ia2), (.int (10 : Int32))] rfl rfl rfl rfl 2 rfl (by decide) (by decide) rfl rfl (by decide) (by decide) at_117 120 rfl (fun T22 X22 e22 => ?_)
  refine own_bastoreB X22 C e22 A (by decide) (by decide) at_120 121 rfl _ rfl (fun T23 h23 X23 e23 W23 => ?_)
  have N23 := own_fr1 (sl := ((10 : Int32)).toInt.toNat) N21 gb
  rw [show ((10 : Int32).toInt.toNat) = 10 from rfl] at W23
  replace A : OwnAr Z h23 b1 .byte 16 (fun j => .int (if j < 11 then own_s ia2 (Int32.ofNat j) else 0)) := (A.set W23).eqv fun i _ => by
    by_cases q : i = 10
    · subst q; rw [if_pos rfl, if_pos (by omega), show (own_s ia2 10).toInt8.toInt32 = own_s ia2 10 from own_byte _]; rfl
    · rw [if_neg q]
      by_cases q2 : i < 10
      · rw [if_pos q2, if_pos (by omega)]
      · rw [if_neg q2, if_neg (by omega)]
  refine own_aload X23 C at_121 123 rfl rfl rfl ?_
  refine own_bipush X23 C at_123 125 rfl (11) rfl ?_
  refine own_iload_n X23 C at_125 126 rfl rfl ?_
  refine own_bipush X23 C at_126 128 rfl (11) rfl ?_
  refine own_callP X23 C (own_w hw 1 rfl) (own_w hw 2 rfl) (own_w hw 3 rfl) (own_w hw 4 rfl) (by decide) (own_rm_s l Z a0 hw ia2 (11 : Int32) h23) e23 own_pd_II_R_B [(.int ia2), (.int (11 : Int32))] rfl rfl rfl rfl 2 rfl (by decide) (by decide) rfl rfl (by decide) (by decide) at_128 131 rfl (fun T24 X24 e24 => ?_)
  refine own_bastoreB X24 C e24 A (by decide) (by decide) at_131 132 rfl _ rfl (fun T25 h25 X25 e25 W25 => ?_)
  have N25 := own_fr1 (sl := ((11 : Int32)).toInt.toNat) N23 gb
  rw [show ((11 : Int32).toInt.toNat) = 11 from rfl] at W25
  replace A : OwnAr Z h25 b1 .byte 16 (fun j => .int (if j < 12 then own_s ia2 (Int32.ofNat j) else 0)) := (A.set W25).eqv fun i _ => by
    by_cases q : i = 11
    · subst q; rw [if_pos rfl, if_pos (by omega), show (own_s ia2 11).toInt8.toInt32 = own_s ia2 11 from own_byte _]; rfl
    · rw [if_neg q]
      by_cases q2 : i < 11
      · rw [if_pos q2, if_pos (by omega)]
      · rw [if_neg q2, if_neg (by omega)]
  refine own_aload X25 C at_132 134 rfl rfl rfl ?_
  refine own_bipush X25 C at_134 136 rfl (12) rfl ?_
  refine own_iload_n X25 C at_136 137 rfl rfl ?_
  refine own_bipush X25 C at_137 139 rfl (12) rfl ?_
  refine own_callP X25 C (own_w hw 1 rfl) (own_w hw 2 rfl) (own_w hw 3 rfl) (own_w hw 4 rfl) (by decide) (own_rm_s l Z a0 hw ia2 (12 : Int32) h25) e25 own_pd_II_R_B [(.int ia2), (.int (12 : Int32))] rfl rfl rfl rfl 2 rfl (by decide) (by decide) rfl rfl (by decide) (by decide) at_139 142 rfl (fun T26 X26 e26 => ?_)
  refine own_bastoreB X26 C e26 A (by decide) (by decide) at_142 143 rfl _ rfl (fun T27 h27 X27 e27 W27 => ?_)
  have N27 := own_fr1 (sl := ((12 : Int32)).toInt.toNat) N25 gb
  rw [show ((12 : Int32).toInt.toNat) = 12 from rfl] at W27
  replace A : OwnAr Z h27 b1 .byte 16 (fun j => .int (if j < 13 then own_s ia2 (Int32.ofNat j) else 0)) := (A.set W27).eqv fun i _ => by
    by_cases q : i = 12
    · subst q; rw [if_pos rfl, if_pos (by omega), show (own_s ia2 12).toInt8.toInt32 = own_s ia2 12 from own_byte _]; rfl
    · rw [if_neg q]
      by_cases q2 : i < 12
      · rw [if_pos q2, if_pos (by omega)]
      · rw [if_neg q2, if_neg (by omega)]
  refine own_aload X27 C at_143 145 rfl rfl rfl ?_
  refine own_bipush X27 C at_145 147 rfl (13) rfl ?_
  refine own_iload_n X27 C at_147 148 rfl rfl ?_
  refine own_bipush X27 C at_148 150 rfl (13) rfl ?_
  refine own_callP X27 C (own_w hw 1 rfl) (own_w hw 2 rfl) (own_w hw 3 rfl) (own_w hw 4 rfl) (by decide) (own_rm_s l Z a0 hw ia2 (13 : Int32) h27) e27 own_pd_II_R_B [(.int ia2), (.int (13 : Int32))] rfl rfl rfl rfl 2 rfl (by decide) (by decide) rfl rfl (by decide) (by decide) at_150 153 rfl (fun T28 X28 e28 => ?_)
  refine own_bastoreB X28 C e28 A (by decide) (by decide) at_153 154 rfl _ rfl (fun T29 h29 X29 e29 W29 => ?_)
  have N29 := own_fr1 (sl := ((13 : Int32)).toInt.toNat) N27 gb
  rw [show ((13 : Int32).toInt.toNat) = 13 from rfl] at W29
  replace A : OwnAr Z h29 b1 .byte 16 (fun j => .int (if j < 14 then own_s ia2 (Int32.ofNat j) else 0)) := (A.set W29).eqv fun i _ => by
    by_cases q : i = 13
    · subst q; rw [if_pos rfl, if_pos (by omega), show (own_s ia2 13).toInt8.toInt32 = own_s ia2 13 from own_byte _]; rfl
    · rw [if_neg q]
      by_cases q2 : i < 13
      · rw [if_pos q2, if_pos (by omega)]
      · rw [if_neg q2, if_neg (by omega)]
  refine own_aload X29 C at_154 156 rfl rfl rfl ?_
  refine own_bipush X29 C at_156 158 rfl (14) rfl ?_
  refine own_iload_n X29 C at_158 159 rfl rfl ?_
  refine own_bipush X29 C at_159 161 rfl (14) rfl ?_
  refine own_callP X29 C (own_w hw 1 rfl) (own_w hw 2 rfl) (own_w hw 3 rfl) (own_w hw 4 rfl) (by decide) (own_rm_s l Z a0 hw ia2 (14 : Int32) h29) e29 own_pd_II_R_B [(.int ia2), (.int (14 : Int32))] rfl rfl rfl rfl 2 rfl (by decide) (by decide) rfl rfl (by decide) (by decide) at_161 164 rfl (fun T30 X30 e30 => ?_)
  refine own_bastoreB X30 C e30 A (by decide) (by decide) at_164 165 rfl _ rfl (fun T31 h31 X31 e31 W31 => ?_)
  have N31 := own_fr1 (sl := ((14 : Int32)).toInt.toNat) N29 gb
  rw [show ((14 : Int32).toInt.toNat) = 14 from rfl] at W31
  replace A : OwnAr Z h31 b1 .byte 16 (fun j => .int (if j < 15 then own_s ia2 (Int32.ofNat j) else 0)) := (A.set W31).eqv fun i _ => by
    by_cases q : i = 14
    · subst q; rw [if_pos rfl, if_pos (by omega), show (own_s ia2 14).toInt8.toInt32 = own_s ia2 14 from own_byte _]; rfl
    · rw [if_neg q]
      by_cases q2 : i < 14
      · rw [if_pos q2, if_pos (by omega)]
      · rw [if_neg q2, if_neg (by omega)]
  refine own_aload X31 C at_165 167 rfl rfl rfl ?_
  refine own_bipush X31 C at_167 169 rfl (15) rfl ?_
  refine own_iload_n X31 C at_169 170 rfl rfl ?_
  refine own_bipush X31 C at_170 172 rfl (15) rfl ?_
  refine own_callP X31 C (own_w hw 1 rfl) (own_w hw 2 rfl) (own_w hw 3 rfl) (own_w hw 4 rfl) (by decide) (own_rm_s l Z a0 hw ia2 (15 : Int32) h31) e31 own_pd_II_R_B [(.int ia2), (.int (15 : Int32))] rfl rfl rfl rfl 2 rfl (by decide) (by decide) rfl rfl (by decide) (by decide) at_172 175 rfl (fun T32 X32 e32 => ?_)
  refine own_bastoreB X32 C e32 A (by decide) (by decide) at_175 176 rfl _ rfl (fun T33 h33 X33 e33 W33 => ?_)
  have N33 := own_fr1 (sl := ((15 : Int32)).toInt.toNat) N31 gb
  rw [show ((15 : Int32).toInt.toNat) = 15 from rfl] at W33
  replace A : OwnAr Z h33 b1 .byte 16 (fun j => .int (if j < 16 then own_s ia2 (Int32.ofNat j) else 0)) := (A.set W33).eqv fun i _ => by
    by_cases q : i = 15
    · subst q; rw [if_pos rfl, if_pos (by omega), show (own_s ia2 15).toInt8.toInt32 = own_s ia2 15 from own_byte _]; rfl
    · rw [if_neg q]
      by_cases q2 : i < 15
      · rw [if_pos q2, if_pos (by omega)]
      · rw [if_neg q2, if_neg (by omega)]
  refine own_aload X33 C at_176 178 rfl rfl rfl ?_
  refine own_iload X33 C at_178 180 rfl rfl ?_
  refine own_lload_n X33 C at_180 181 rfl rfl ?_
  refine own_callS X33 C (own_w hw 5 rfl) (own_w hw 6 rfl) (own_w hw 7 rfl) (own_w hw 8 rfl) (by decide) (own_rm_put l Z a0 hw b1 v1 ja1 h33 h.size gb _ A a ha (by omega)) e33 own_pd_ABIJ_R_I [(.ref b1), (.int v1), (.long ja1)] rfl rfl rfl rfl 0 rfl (by decide) (by decide) (by decide) (by decide) at_181 184 rfl (fun T34 L34 v34 X34 q34 => ?_)
  obtain ⟨⟨z34, rfl, hz34⟩, NL34, A, -⟩ := q34
  have N34 := Fr.app N33 NL34
  refine own_istore X34 C at_184 186 rfl #[.val (.int ia0), .val (.long ja1), .second, .val (.int ia2), .val (.int v1), .val (.ref b1), .val (.int z34), .unset, .unset] rfl ?_
  refine own_iload X34 C at_186 188 rfl rfl ?_
  refine own_iload X34 C at_188 190 rfl rfl ?_
  refine own_bipush X34 C at_190 192 rfl (8) rfl ?_
  refine own_iadd X34 C at_192 193 rfl (fun v2 ev2 => ?_)
  have y1 := c_iadd v1 8
  rw [← ev2] at y1
  have y2 : (8 : Int32).toInt = 8 := by decide
  have y3 := rng32 v2
  refine own_icmpeq X34 C at_193 196 198 rfl (by decide) (by decide) (i := z34.toInt) rfl (j := v2.toInt) rfl (fun b35 => ?_) (fun b35 => ?_)
  · refine own_aload X34 C at_198 200 rfl rfl rfl ?_
    refine own_iload X34 C at_200 202 rfl rfl ?_
    refine own_callP X34 C (own_w hw 9 rfl) (own_w hw 10 rfl) (own_w hw 3 rfl) (own_w hw 11 rfl) (by decide) (own_conv (w' := (.long (own_u (own_by ja1 0)))) (own_rm_u l Z a0 hw b1 v1 T34.heap (fun j => if a ≤ j ∧ j < a + 8 then own_by ja1 (Int32.ofNat (j - a)) else (if j < 16 then own_s ia2 (Int32.ofNat j) else 0)) A (a + 0) (by omega) (by omega)) (by show Value.long (own_u (ite _ _ _)) = _; rw [if_pos (by omega), show a + 0 - a = 0 by omega]; rfl)) rfl own_pd_ABI_R_J [(.ref b1), (.int v1)] rfl rfl rfl rfl 0 rfl (by decide) (by decide) rfl rfl (by decide) (by decide) at_202 205 rfl (fun T36 X36 e36 => ?_)
    refine own_bipush X36 C at_205 207 rfl (56) rfl ?_
    refine own_lshl X36 C at_207 208 rfl (fun v3 ev3 => ?_)
    refine own_aload X36 C at_208 210 rfl rfl rfl ?_
    refine own_iload X36 C at_210 212 rfl rfl ?_
    refine own_iconst X36 C at_212 213 rfl (1) rfl ?_
    refine own_iadd X36 C at_213 214 rfl (fun v4 ev4 => ?_)
    have x1 := c_iadd v1 1
    rw [← ev4] at x1
    have xr1 := rng32 v4
    have xl1 : (1 : Int32).toInt = 1 := by decide
    refine own_callP X36 C (own_w hw 9 rfl) (own_w hw 10 rfl) (own_w hw 3 rfl) (own_w hw 11 rfl) (by decide) (own_conv (w' := (.long (own_u (own_by ja1 1)))) (own_rm_u l Z a0 hw b1 v4 T34.heap (fun j => if a ≤ j ∧ j < a + 8 then own_by ja1 (Int32.ofNat (j - a)) else (if j < 16 then own_s ia2 (Int32.ofNat j) else 0)) A (a + 1) (by omega) (by omega)) (by show Value.long (own_u (ite _ _ _)) = _; rw [if_pos (by omega), show a + 1 - a = 1 by omega]; rfl)) e36 own_pd_ABI_R_J [(.ref b1), (.int v4)] rfl rfl rfl rfl 2 rfl (by decide) (by decide) rfl rfl (by decide) (by decide) at_214 217 rfl (fun T37 X37 e37 => ?_)
    refine own_bipush X37 C at_217 219 rfl (48) rfl ?_
    refine own_lshl X37 C at_219 220 rfl (fun v5 ev5 => ?_)
    refine own_lor X37 C at_220 221 rfl (fun v6 ev6 => ?_)
    refine own_aload X37 C at_221 223 rfl rfl rfl ?_
    refine own_iload X37 C at_223 225 rfl rfl ?_
    refine own_iconst X37 C at_225 226 rfl (2) rfl ?_
    refine own_iadd X37 C at_226 227 rfl (fun v7 ev7 => ?_)
    have x2 := c_iadd v1 2
    rw [← ev7] at x2
    have xr2 := rng32 v7
    have xl2 : (2 : Int32).toInt = 2 := by decide
    refine own_callP X37 C (own_w hw 9 rfl) (own_w hw 10 rfl) (own_w hw 3 rfl) (own_w hw 11 rfl) (by decide) (own_conv (w' := (.long (own_u (own_by ja1 2)))) (own_rm_u l Z a0 hw b1 v7 T34.heap (fun j => if a ≤ j ∧ j < a + 8 then own_by ja1 (Int32.ofNat (j - a)) else (if j < 16 then own_s ia2 (Int32.ofNat j) else 0)) A (a + 2) (by omega) (by omega)) (by show Value.long (own_u (ite _ _ _)) = _; rw [if_pos (by omega), show a + 2 - a = 2 by omega]; rfl)) e37 own_pd_ABI_R_J [(.ref b1), (.int v7)] rfl rfl rfl rfl 2 rfl (by decide) (by decide) rfl rfl (by decide) (by decide) at_227 230 rfl (fun T38 X38 e38 => ?_)
    refine own_bipush X38 C at_230 232 rfl (40) rfl ?_
    refine own_lshl X38 C at_232 233 rfl (fun v8 ev8 => ?_)
    refine own_lor X38 C at_233 234 rfl (fun v9 ev9 => ?_)
    refine own_aload X38 C at_234 236 rfl rfl rfl ?_
    refine own_iload X38 C at_236 238 rfl rfl ?_
    refine own_iconst X38 C at_238 239 rfl (3) rfl ?_
    refine own_iadd X38 C at_239 240 rfl (fun v10 ev10 => ?_)
    have x3 := c_iadd v1 3
    rw [← ev10] at x3
    have xr3 := rng32 v10
    have xl3 : (3 : Int32).toInt = 3 := by decide
    refine own_callP X38 C (own_w hw 9 rfl) (own_w hw 10 rfl) (own_w hw 3 rfl) (own_w hw 11 rfl) (by decide) (own_conv (w' := (.long (own_u (own_by ja1 3)))) (own_rm_u l Z a0 hw b1 v10 T34.heap (fun j => if a ≤ j ∧ j < a + 8 then own_by ja1 (Int32.ofNat (j - a)) else (if j < 16 then own_s ia2 (Int32.ofNat j) else 0)) A (a + 3) (by omega) (by omega)) (by show Value.long (own_u (ite _ _ _)) = _; rw [if_pos (by omega), show a + 3 - a = 3 by omega]; rfl)) e38 own_pd_ABI_R_J [(.ref b1), (.int v10)] rfl rfl rfl rfl 2 rfl (by decide) (by decide) rfl rfl (by decide) (by decide) at_240 243 rfl (fun T39 X39 e39 => ?_)
    refine own_bipush X39 C at_243 245 rfl (32) rfl ?_
    refine own_lshl X39 C at_245 246 rfl (fun v11 ev11 => ?_)
    refine own_lor X39 C at_246 247 rfl (fun v12 ev12 => ?_)
    refine own_aload X39 C at_247 249 rfl rfl rfl ?_
    refine own_iload X39 C at_249 251 rfl rfl ?_
    refine own_iconst X39 C at_251 252 rfl (4) rfl ?_
    refine own_iadd X39 C at_252 253 rfl (fun v13 ev13 => ?_)
    have x4 := c_iadd v1 4
    rw [← ev13] at x4
    have xr4 := rng32 v13
    have xl4 : (4 : Int32).toInt = 4 := by decide
    refine own_callP X39 C (own_w hw 9 rfl) (own_w hw 10 rfl) (own_w hw 3 rfl) (own_w hw 11 rfl) (by decide) (own_conv (w' := (.long (own_u (own_by ja1 4)))) (own_rm_u l Z a0 hw b1 v13 T34.heap (fun j => if a ≤ j ∧ j < a + 8 then own_by ja1 (Int32.ofNat (j - a)) else (if j < 16 then own_s ia2 (Int32.ofNat j) else 0)) A (a + 4) (by omega) (by omega)) (by show Value.long (own_u (ite _ _ _)) = _; rw [if_pos (by omega), show a + 4 - a = 4 by omega]; rfl)) e39 own_pd_ABI_R_J [(.ref b1), (.int v13)] rfl rfl rfl rfl 2 rfl (by decide) (by decide) rfl rfl (by decide) (by decide) at_253 256 rfl (fun T40 X40 e40 => ?_)
    refine own_bipush X40 C at_256 258 rfl (24) rfl ?_
    refine own_lshl X40 C at_258 259 rfl (fun v14 ev14 => ?_)
    refine own_lor X40 C at_259 260 rfl (fun v15 ev15 => ?_)
    refine own_aload X40 C at_260 262 rfl rfl rfl ?_
    refine own_iload X40 C at_262 264 rfl rfl ?_
    refine own_iconst X40 C at_264 265 rfl (5) rfl ?_
    refine own_iadd X40 C at_265 266 rfl (fun v16 ev16 => ?_)
    have x5 := c_iadd v1 5
    rw [← ev16] at x5
    have xr5 := rng32 v16
    have xl5 : (5 : Int32).toInt = 5 := by decide
    refine own_callP X40 C (own_w hw 9 rfl) (own_w hw 10 rfl) (own_w hw 3 rfl) (own_w hw 11 rfl) (by decide) (own_conv (w' := (.long (own_u (own_by ja1 5)))) (own_rm_u l Z a0 hw b1 v16 T34.heap (fun j => if a ≤ j ∧ j < a + 8 then own_by ja1 (Int32.ofNat (j - a)) else (if j < 16 then own_s ia2 (Int32.ofNat j) else 0)) A (a + 5) (by omega) (by omega)) (by show Value.long (own_u (ite _ _ _)) = _; rw [if_pos (by omega), show a + 5 - a = 5 by omega]; rfl)) e40 own_pd_ABI_R_J [(.ref b1), (.int v16)] rfl rfl rfl rfl 2 rfl (by decide) (by decide) rfl rfl (by decide) (by decide) at_266 269 rfl (fun T41 X41 e41 => ?_)
    refine own_bipush X41 C at_269 271 rfl (16) rfl ?_
    refine own_lshl X41 C at_271 272 rfl (fun v17 ev17 => ?_)
    refine own_lor X41 C at_272 273 rfl (fun v18 ev18 => ?_)
    refine own_aload X41 C at_273 275 rfl rfl rfl ?_
    refine own_iload X41 C at_275 277 rfl rfl ?_
    refine own_bipush X41 C at_277 279 rfl (6) rfl ?_
    refine own_iadd X41 C at_279 280 rfl (fun v19 ev19 => ?_)
    have x6 := c_iadd v1 6
    rw [← ev19] at x6
    have xr6 := rng32 v19
    have xl6 : (6 : Int32).toInt = 6 := by decide
    refine own_callP X41 C (own_w hw 9 rfl) (own_w hw 10 rfl) (own_w hw 3 rfl) (own_w hw 11 rfl) (by decide) (own_conv (w' := (.long (own_u (own_by ja1 6)))) (own_rm_u l Z a0 hw b1 v19 T34.heap (fun j => if a ≤ j ∧ j < a + 8 then own_by ja1 (Int32.ofNat (j - a)) else (if j < 16 then own_s ia2 (Int32.ofNat j) else 0)) A (a + 6) (by omega) (by omega)) (by show Value.long (own_u (ite _ _ _)) = _; rw [if_pos (by omega), show a + 6 - a = 6 by omega]; rfl)) e41 own_pd_ABI_R_J [(.ref b1), (.int v19)] rfl rfl rfl rfl 2 rfl (by decide) (by decide) rfl rfl (by decide) (by decide) at_280 283 rfl (fun T42 X42 e42 => ?_)
    refine own_bipush X42 C at_283 285 rfl (8) rfl ?_
    refine own_lshl X42 C at_285 286 rfl (fun v20 ev20 => ?_)
    refine own_lor X42 C at_286 287 rfl (fun v21 ev21 => ?_)
    refine own_aload X42 C at_287 289 rfl rfl rfl ?_
    refine own_iload X42 C at_289 291 rfl rfl ?_
    refine own_bipush X42 C at_291 293 rfl (7) rfl ?_
    refine own_iadd X42 C at_293 294 rfl (fun v22 ev22 => ?_)
    have x7 := c_iadd v1 7
    rw [← ev22] at x7
    have xr7 := rng32 v22
    have xl7 : (7 : Int32).toInt = 7 := by decide
    refine own_callP X42 C (own_w hw 9 rfl) (own_w hw 10 rfl) (own_w hw 3 rfl) (own_w hw 11 rfl) (by decide) (own_conv (w' := (.long (own_u (own_by ja1 7)))) (own_rm_u l Z a0 hw b1 v22 T34.heap (fun j => if a ≤ j ∧ j < a + 8 then own_by ja1 (Int32.ofNat (j - a)) else (if j < 16 then own_s ia2 (Int32.ofNat j) else 0)) A (a + 7) (by omega) (by omega)) (by show Value.long (own_u (ite _ _ _)) = _; rw [if_pos (by omega), show a + 7 - a = 7 by omega]; rfl)) e42 own_pd_ABI_R_J [(.ref b1), (.int v22)] rfl rfl rfl rfl 2 rfl (by decide) (by decide) rfl rfl (by decide) (by decide) at_294 297 rfl (fun T43 X43 e43 => ?_)
    refine own_lor X43 C at_297 298 rfl (fun v23 ev23 => ?_)
    refine own_lstore X43 C at_298 300 rfl #[.val (.int ia0), .val (.long ja1), .second, .val (.int ia2), .val (.int v1), .val (.ref b1), .val (.int z34), .val (.long v23), .second] rfl ?_
    refine own_lload X43 C at_300 302 rfl rfl ?_
    refine own_lload_n X43 C at_302 303 rfl rfl ?_
    have hb : v23 = ja1 := by
      rw [ev23, ev21, ev20, ev18, ev17, ev15, ev14, ev12, ev11, ev9, ev8, ev6, ev5, ev3]
      exact own_back ja1 _ _ _ _ _ _ _ _ (own_u0 ja1) (own_u1 ja1) (own_u2 ja1) (own_u3 ja1) (own_u4 ja1) (own_u5 ja1) (own_u6 ja1) (own_u7 ja1)
    refine own_lcmp X43 C at_303 304 rfl (fun v24 ev24a ev24b ev24c => ?_)
    refine own_ifeq X43 C at_304 307 309 rfl (by decide) (by decide) (i := v24.toInt) rfl (fun b44 => ?_) (fun b44 => ?_)
    · refine own_aload X43 C at_309 311 rfl rfl rfl ?_
      refine own_iconst X43 C at_311 312 rfl (0) rfl ?_
      refine own_iload X43 C at_312 314 rfl rfl ?_
      refine own_iload_n X43 C at_314 315 rfl rfl ?_
      refine own_callP X43 C (own_w hw 13 rfl) (own_w hw 14 rfl) (own_w hw 3 rfl) (own_w hw 15 rfl) (by decide) (own_rm_kept l Z a0 hw b1 (0 : Int32) v1 ia2 T34.heap (fun j => if a ≤ j ∧ j < a + 8 then own_by ja1 (Int32.ofNat (j - a)) else (if j < 16 then own_s ia2 (Int32.ofNat j) else 0)) A 0 (by decide) (by decide) (by omega) (own_kk a v1 ha ja1 ia2 0 0 (by decide) rfl)) e43 own_pd_ABIII_R_Z [(.ref b1), (.int (0 : Int32)), (.int v1), (.int ia2)] rfl rfl rfl rfl 0 rfl (by decide) (by decide) rfl rfl (by decide) (by decide) at_315 318 rfl (fun T45 X45 e45 => ?_)
      refine own_ifeq X45 C at_318 321 515 rfl (by decide) (by decide) (i := 1) (by decide) (fun b46 => ?_) (fun b46 => ?_)
      · exfalso
        omega
      · refine own_aload X45 C at_321 323 rfl rfl rfl ?_
        refine own_iconst X45 C at_323 324 rfl (1) rfl ?_
        refine own_iload X45 C at_324 326 rfl rfl ?_
        refine own_iload_n X45 C at_326 327 rfl rfl ?_
        refine own_callP X45 C (own_w hw 13 rfl) (own_w hw 14 rfl) (own_w hw 3 rfl) (own_w hw 15 rfl) (by decide) (own_rm_kept l Z a0 hw b1 (1 : Int32) v1 ia2 T34.heap (fun j => if a ≤ j ∧ j < a + 8 then own_by ja1 (Int32.ofNat (j - a)) else (if j < 16 then own_s ia2 (Int32.ofNat j) else 0)) A 1 (by decide) (by decide) (by omega) (own_kk a v1 ha ja1 ia2 1 1 (by decide) rfl)) e45 own_pd_ABIII_R_Z [(.ref b1), (.int (1 : Int32)), (.int v1), (.int ia2)] rfl rfl rfl rfl 0 rfl (by decide) (by decide) rfl rfl (by decide) (by decide) at_327 330 rfl (fun T47 X47 e47 => ?_)
        refine own_ifeq X47 C at_330 333 515 rfl (by decide) (by decide) (i := 1) (by decide) (fun b48 => ?_) (fun b48 => ?_)
        · exfalso
          omega
        · refine own_aload X47 C at_333 335 rfl rfl rfl ?_
          refine own_iconst X47 C at_335 336 rfl (2) rfl ?_
          refine own_iload X47 C at_336 338 rfl rfl ?_
          refine own_iload_n X47 C at_338 339 rfl rfl ?_
          refine own_callP X47 C (own_w hw 13 rfl) (own_w hw 14 rfl) (own_w hw 3 rfl) (own_w hw 15 rfl) (by decide) (own_rm_kept l Z a0 hw b1 (2 : Int32) v1 ia2 T34.heap (fun j => if a ≤ j ∧ j < a + 8 then own_by ja1 (Int32.ofNat (j - a)) else (if j < 16 then own_s ia2 (Int32.ofNat j) else 0)) A 2 (by decide) (by decide) (by omega) (own_kk a v1 ha ja1 ia2 2 2 (by decide) rfl)) e47 own_pd_ABIII_R_Z [(.ref b1), (.int (2 : Int32)), (.int v1), (.int ia2)] rfl rfl rfl rfl 0 rfl (by decide) (by decide) rfl rfl (by decide) (by decide) at_339 342 rfl (fun T49 X49 e49 => ?_)
          refine own_ifeq X49 C at_342 345 515 rfl (by decide) (by decide) (i := 1) (by decide) (fun b50 => ?_) (fun b50 => ?_)
          · exfalso
            omega
          · refine own_aload X49 C at_345 347 rfl rfl rfl ?_
            refine own_iconst X49 C at_347 348 rfl (3) rfl ?_
            refine own_iload X49 C at_348 350 rfl rfl ?_
            refine own_iload_n X49 C at_350 351 rfl rfl ?_
            refine own_callP X49 C (own_w hw 13 rfl) (own_w hw 14 rfl) (own_w hw 3 rfl) (own_w hw 15 rfl) (by decide) (own_rm_kept l Z a0 hw b1 (3 : Int32) v1 ia2 T34.heap (fun j => if a ≤ j ∧ j < a + 8 then own_by ja1 (Int32.ofNat (j - a)) else (if j < 16 then own_s ia2 (Int32.ofNat j) else 0)) A 3 (by decide) (by decide) (by omega) (own_kk a v1 ha ja1 ia2 3 3 (by decide) rfl)) e49 own_pd_ABIII_R_Z [(.ref b1), (.int (3 : Int32)), (.int v1), (.int ia2)] rfl rfl rfl rfl 0 rfl (by decide) (by decide) rfl rfl (by decide) (by decide) at_351 354 rfl (fun T51 X51 e51 => ?_)
            refine own_ifeq X51 C at_354 357 515 rfl (by decide) (by decide) (i := 1) (by decide) (fun b52 => ?_) (fun b52 => ?_)
            · exfalso
              omega
            · refine own_aload X51 C at_357 359 rfl rfl rfl ?_
              refine own_iconst X51 C at_359 360 rfl (4) rfl ?_
              refine own_iload X51 C at_360 362 rfl rfl ?_
              refine own_iload_n X51 C at_362 363 rfl rfl ?_
              refine own_callP X51 C (own_w hw 13 rfl) (own_w hw 14 rfl) (own_w hw 3 rfl) (own_w hw 15 rfl) (by decide) (own_rm_kept l Z a0 hw b1 (4 : Int32) v1 ia2 T34.heap (fun j => if a ≤ j ∧ j < a + 8 then own_by ja1 (Int32.ofNat (j - a)) else (if j < 16 then own_s ia2 (Int32.ofNat j) else 0)) A 4 (by decide) (by decide) (by omega) (own_kk a v1 ha ja1 ia2 4 4 (by decide) rfl)) e51 own_pd_ABIII_R_Z [(.ref b1), (.int (4 : Int32)), (.int v1), (.int ia2)] rfl rfl rfl rfl 0 rfl (by decide) (by decide) rfl rfl (by decide) (by decide) at_363 366 rfl (fun T53 X53 e53 => ?_)
              refine own_ifeq X53 C at_366 369 515 rfl (by decide) (by decide) (i := 1) (by decide) (fun b54 => ?_) (fun b54 => ?_)
              · exfalso
                omega
              · refine own_aload X53 C at_369 371 rfl rfl rfl ?_
                refine own_iconst X53 C at_371 372 rfl (5) rfl ?_
                refine own_iload X53 C at_372 374 rfl rfl ?_
                refine own_iload_n X53 C at_374 375 rfl rfl ?_
                refine own_callP X53 C (own_w hw 13 rfl) (own_w hw 14 rfl) (own_w hw 3 rfl) (own_w hw 15 rfl) (by decide) (own_rm_kept l Z a0 hw b1 (5 : Int32) v1 ia2 T34.heap (fun j => if a ≤ j ∧ j < a + 8 then own_by ja1 (Int32.ofNat (j - a)) else (if j < 16 then own_s ia2 (Int32.ofNat j) else 0)) A 5 (by decide) (by decide) (by omega) (own_kk a v1 ha ja1 ia2 5 5 (by decide) rfl)) e53 own_pd_ABIII_R_Z [(.ref b1), (.int (5 : Int32)), (.int v1), (.int ia2)] rfl rfl rfl rfl 0 rfl (by decide) (by decide) rfl rfl (by decide) (by decide) at_375 378 rfl (fun T55 X55 e55 => ?_)
                refine own_ifeq X55 C at_378 381 515 rfl (by decide) (by decide) (i := 1) (by decide) (fun b56 => ?_) (fun b56 => ?_)
                · exfalso
                  omega
                · refine own_aload X55 C at_381 383 rfl rfl rfl ?_
                  refine own_bipush X55 C at_383 385 rfl (6) rfl ?_
                  refine own_iload X55 C at_385 387 rfl rfl ?_
                  refine own_iload_n X55 C at_387 388 rfl rfl ?_
                  refine own_callP X55 C (own_w hw 13 rfl) (own_w hw 14 rfl) (own_w hw 3 rfl) (own_w hw 15 rfl) (by decide) (own_rm_kept l Z a0 hw b1 (6 : Int32) v1 ia2 T34.heap (fun j => if a ≤ j ∧ j < a + 8 then own_by ja1 (Int32.ofNat (j - a)) else (if j < 16 then own_s ia2 (Int32.ofNat j) else 0)) A 6 (by decide) (by decide) (by omega) (own_kk a v1 ha ja1 ia2 6 6 (by decide) rfl)) e55 own_pd_ABIII_R_Z [(.ref b1), (.int (6 : Int32)), (.int v1), (.int ia2)] rfl rfl rfl rfl 0 rfl (by decide) (by decide) rfl rfl (by decide) (by decide) at_388 391 rfl (fun T57 X57 e57 => ?_)
                  refine own_ifeq X57 C at_391 394 515 rfl (by decide) (by decide) (i := 1) (by decide) (fun b58 => ?_) (fun b58 => ?_)
                  · exfalso
                    omega
                  · refine own_aload X57 C at_394 396 rfl rfl rfl ?_
                    refine own_bipush X57 C at_396 398 rfl (7) rfl ?_
                    refine own_iload X57 C at_398 400 rfl rfl ?_
                    refine own_iload_n X57 C at_400 401 rfl rfl ?_
                    refine own_callP X57 C (own_w hw 13 rfl) (own_w hw 14 rfl) (own_w hw 3 rfl) (own_w hw 15 rfl) (by decide) (own_rm_kept l Z a0 hw b1 (7 : Int32) v1 ia2 T34.heap (fun j => if a ≤ j ∧ j < a + 8 then own_by ja1 (Int32.ofNat (j - a)) else (if j < 16 then own_s ia2 (Int32.ofNat j) else 0)) A 7 (by decide) (by decide) (by omega) (own_kk a v1 ha ja1 ia2 7 7 (by decide) rfl)) e57 own_pd_ABIII_R_Z [(.ref b1), (.int (7 : Int32)), (.int v1), (.int ia2)] rfl rfl rfl rfl 0 rfl (by decide) (by decide) rfl rfl (by decide) (by decide) at_401 404 rfl (fun T59 X59 e59 => ?_)
                    refine own_ifeq X59 C at_404 407 515 rfl (by decide) (by decide) (i := 1) (by decide) (fun b60 => ?_) (fun b60 => ?_)
                    · exfalso
                      omega
                    · refine own_aload X59 C at_407 409 rfl rfl rfl ?_
                      refine own_bipush X59 C at_409 411 rfl (8) rfl ?_
                      refine own_iload X59 C at_411 413 rfl rfl ?_
                      refine own_iload_n X59 C at_413 414 rfl rfl ?_
                      refine own_callP X59 C (own_w hw 13 rfl) (own_w hw 14 rfl) (own_w hw 3 rfl) (own_w hw 15 rfl) (by decide) (own_rm_kept l Z a0 hw b1 (8 : Int32) v1 ia2 T34.heap (fun j => if a ≤ j ∧ j < a + 8 then own_by ja1 (Int32.ofNat (j - a)) else (if j < 16 then own_s ia2 (Int32.ofNat j) else 0)) A 8 (by decide) (by decide) (by omega) (own_kk a v1 ha ja1 ia2 8 8 (by decide) rfl)) e59 own_pd_ABIII_R_Z [(.ref b1), (.int (8 : Int32)), (.int v1), (.int ia2)] rfl rfl rfl rfl 0 rfl (by decide) (by decide) rfl rfl (by decide) (by decide) at_414 417 rfl (fun T61 X61 e61 => ?_)
                      refine own_ifeq X61 C at_417 420 515 rfl (by decide) (by decide) (i := 1) (by decide) (fun b62 => ?_) (fun b62 => ?_)
                      · exfalso
                        omega
                      · refine own_aload X61 C at_420 422 rfl rfl rfl ?_
                        refine own_bipush X61 C at_422 424 rfl (9) rfl ?_
                        refine own_iload X61 C at_424 426 rfl rfl ?_
                        refine own_iload_n X61 C at_426 427 rfl rfl ?_
                        refine own_callP X61 C (own_w hw 13 rfl) (own_w hw 14 rfl) (own_w hw 3 rfl) (own_w hw 15 rfl) (by decide) (own_rm_kept l Z a0 hw b1 (9 : Int32) v1 ia2 T34.heap (fun j => if a ≤ j ∧ j < a + 8 then own_by ja1 (Int32.ofNat (j - a)) else (if j < 16 then own_s ia2 (Int32.ofNat j) else 0)) A 9 (by decide) (by decide) (by omega) (own_kk a v1 ha ja1 ia2 9 9 (by decide) rfl)) e61 own_pd_ABIII_R_Z [(.ref b1), (.int (9 : Int32)), (.int v1), (.int ia2)] rfl rfl rfl rfl 0 rfl (by decide) (by decide) rfl rfl (by decide) (by decide) at_427 430 rfl (fun T63 X63 e63 => ?_)
                        refine own_ifeq X63 C at_430 433 515 rfl (by decide) (by decide) (i := 1) (by decide) (fun b64 => ?_) (fun b64 => ?_)
                        · exfalso
                          omega
                        · refine own_aload X63 C at_433 435 rfl rfl rfl ?_
                          refine own_bipush X63 C at_435 437 rfl (10) rfl ?_
                          refine own_iload X63 C at_437 439 rfl rfl ?_
                          refine own_iload_n X63 C at_439 440 rfl rfl ?_
                          refine own_callP X63 C (own_w hw 13 rfl) (own_w hw 14 rfl) (own_w hw 3 rfl) (own_w hw 15 rfl) (by decide) (own_rm_kept l Z a0 hw b1 (10 : Int32) v1 ia2 T34.heap (fun j => if a ≤ j ∧ j < a + 8 then own_by ja1 (Int32.ofNat (j - a)) else (if j < 16 then own_s ia2 (Int32.ofNat j) else 0)) A 10 (by decide) (by decide) (by omega) (own_kk a v1 ha ja1 ia2 10 10 (by decide) rfl)) e63 own_pd_ABIII_R_Z [(.ref b1), (.int (10 : Int32)), (.int v1), (.int ia2)] rfl rfl rfl rfl 0 rfl (by decide) (by decide) rfl rfl (by decide) (by decide) at_440 443 rfl (fun T65 X65 e65 => ?_)
                          refine own_ifeq X65 C at_443 446 515 rfl (by decide) (by decide) (i := 1) (by decide) (fun b66 => ?_) (fun b66 => ?_)
                          · exfalso
                            omega
                          · refine own_aload X65 C at_446 448 rfl rfl rfl ?_
                            refine own_bipush X65 C at_448 450 rfl (11) rfl ?_
                            refine own_iload X65 C at_450 452 rfl rfl ?_
                            refine own_iload_n X65 C at_452 453 rfl rfl ?_
                            refine own_callP X65 C (own_w hw 13 rfl) (own_w hw 14 rfl) (own_w hw 3 rfl) (own_w hw 15 rfl) (by decide) (own_rm_kept l Z a0 hw b1 (11 : Int32) v1 ia2 T34.heap (fun j => if a ≤ j ∧ j < a + 8 then own_by ja1 (Int32.ofNat (j - a)) else (if j < 16 then own_s ia2 (Int32.ofNat j) else 0)) A 11 (by decide) (by decide) (by omega) (own_kk a v1 ha ja1 ia2 11 11 (by decide) rfl)) e65 own_pd_ABIII_R_Z [(.ref b1), (.int (11 : Int32)), (.int v1), (.int ia2)] rfl rfl rfl rfl 0 rfl (by decide) (by decide) rfl rfl (by decide) (by decide) at_453 456 rfl (fun T67 X67 e67 => ?_)
                            refine own_ifeq X67 C at_456 459 515 rfl (by decide) (by decide) (i := 1) (by decide) (fun b68 => ?_) (fun b68 => ?_)
                            · exfalso
                              omega
                            · refine own_aload X67 C at_459 461 rfl rfl rfl ?_
                              refine own_bipush X67 C at_461 463 rfl (12) rfl ?_
                              refine own_iload X67 C at_463 465 rfl rfl ?_
                              refine own_iload_n X67 C at_465 466 rfl rfl ?_
                              refine own_callP X67 C (own_w hw 13 rfl) (own_w hw 14 rfl) (own_w hw 3 rfl) (own_w hw 15 rfl) (by decide) (own_rm_kept l Z a0 hw b1 (12 : Int32) v1 ia2 T34.heap (fun j => if a ≤ j ∧ j < a + 8 then own_by ja1 (Int32.ofNat (j - a)) else (if j < 16 then own_s ia2 (Int32.ofNat j) else 0)) A 12 (by decide) (by decide) (by omega) (own_kk a v1 ha ja1 ia2 12 12 (by decide) rfl)) e67 own_pd_ABIII_R_Z [(.ref b1), (.int (12 : Int32)), (.int v1), (.int ia2)] rfl rfl rfl rfl 0 rfl (by decide) (by decide) rfl rfl (by decide) (by decide) at_466 469 rfl (fun T69 X69 e69 => ?_)
                              refine own_ifeq X69 C at_469 472 515 rfl (by decide) (by decide) (i := 1) (by decide) (fun b70 => ?_) (fun b70 => ?_)
                              · exfalso
                                omega
                              · refine own_aload X69 C at_472 474 rfl rfl rfl ?_
                                refine own_bipush X69 C at_474 476 rfl (13) rfl ?_
                                refine own_iload X69 C at_476 478 rfl rfl ?_
                                refine own_iload_n X69 C at_478 479 rfl rfl ?_
                                refine own_callP X69 C (own_w hw 13 rfl) (own_w hw 14 rfl) (own_w hw 3 rfl) (own_w hw 15 rfl) (by decide) (own_rm_kept l Z a0 hw b1 (13 : Int32) v1 ia2 T34.heap (fun j => if a ≤ j ∧ j < a + 8 then own_by ja1 (Int32.ofNat (j - a)) else (if j < 16 then own_s ia2 (Int32.ofNat j) else 0)) A 13 (by decide) (by decide) (by omega) (own_kk a v1 ha ja1 ia2 13 13 (by decide) rfl)) e69 own_pd_ABIII_R_Z [(.ref b1), (.int (13 : Int32)), (.int v1), (.int ia2)] rfl rfl rfl rfl 0 rfl (by decide) (by decide) rfl rfl (by decide) (by decide) at_479 482 rfl (fun T71 X71 e71 => ?_)
                                refine own_ifeq X71 C at_482 485 515 rfl (by decide) (by decide) (i := 1) (by decide) (fun b72 => ?_) (fun b72 => ?_)
                                · exfalso
                                  omega
                                · refine own_aload X71 C at_485 487 rfl rfl rfl ?_
                                  refine own_bipush X71 C at_487 489 rfl (14) rfl ?_
                                  refine own_iload X71 C at_489 491 rfl rfl ?_
                                  refine own_iload_n X71 C at_491 492 rfl rfl ?_
                                  refine own_callP X71 C (own_w hw 13 rfl) (own_w hw 14 rfl) (own_w hw 3 rfl) (own_w hw 15 rfl) (by decide) (own_rm_kept l Z a0 hw b1 (14 : Int32) v1 ia2 T34.heap (fun j => if a ≤ j ∧ j < a + 8 then own_by ja1 (Int32.ofNat (j - a)) else (if j < 16 then own_s ia2 (Int32.ofNat j) else 0)) A 14 (by decide) (by decide) (by omega) (own_kk a v1 ha ja1 ia2 14 14 (by decide) rfl)) e71 own_pd_ABIII_R_Z [(.ref b1), (.int (14 : Int32)), (.int v1), (.int ia2)] rfl rfl rfl rfl 0 rfl (by decide) (by decide) rfl rfl (by decide) (by decide) at_492 495 rfl (fun T73 X73 e73 => ?_)
                                  refine own_ifeq X73 C at_495 498 515 rfl (by decide) (by decide) (i := 1) (by decide) (fun b74 => ?_) (fun b74 => ?_)
                                  · exfalso
                                    omega
                                  · refine own_aload X73 C at_498 500 rfl rfl rfl ?_
                                    refine own_bipush X73 C at_500 502 rfl (15) rfl ?_
                                    refine own_iload X73 C at_502 504 rfl rfl ?_
                                    refine own_iload_n X73 C at_504 505 rfl rfl ?_
                                    refine own_callP X73 C (own_w hw 13 rfl) (own_w hw 14 rfl) (own_w hw 3 rfl) (own_w hw 15 rfl) (by decide) (own_rm_kept l Z a0 hw b1 (15 : Int32) v1 ia2 T34.heap (fun j => if a ≤ j ∧ j < a + 8 then own_by ja1 (Int32.ofNat (j - a)) else (if j < 16 then own_s ia2 (Int32.ofNat j) else 0)) A 15 (by decide) (by decide) (by omega) (own_kk a v1 ha ja1 ia2 15 15 (by decide) rfl)) e73 own_pd_ABIII_R_Z [(.ref b1), (.int (15 : Int32)), (.int v1), (.int ia2)] rfl rfl rfl rfl 0 rfl (by decide) (by decide) rfl rfl (by decide) (by decide) at_505 508 rfl (fun T75 X75 e75 => ?_)
                                    refine own_ifeq X75 C at_508 511 515 rfl (by decide) (by decide) (i := 1) (by decide) (fun b76 => ?_) (fun b76 => ?_)
                                    · exfalso
                                      omega
                                    · refine own_iconst X75 C at_511 512 rfl (1) rfl ?_
                                      refine own_goto X75 C at_512 516 (by decide) (by decide) ?_
                                      refine own_iretN X75 C .boolean rfl (by simp) at_516 (by decide) (by decide) (1) (by decide) ?_
                                      exact ⟨rfl, N34⟩
    · exfalso
      rw [hb] at *; omega
  · exfalso
    omega
set_option maxRecDepth 65536 in
set_option maxHeartbeats 4000000 in
theorem own_comes_1 {Post : Tables → Env → Array Value → State → Outcome → State → Prop} (hpost : ∀ tb e args s v u, (limb_1_1.after args s (.returned v) u = true ∧ limb_1_2.after args s (.returned v) u = true ∧ True) → FrameEnd s (.returned v) u (Jvm.fieldLocs frame_1_writes args s ++ Jvm.arrayLocs frame_1_arrays args s ++ Jvm.staticLocs frame_1_statics s) 16 128 → Post tb e args s (.returned v) u) :
    ArmFor flags0 classFile x code maxLocals ret World_1 tables_1 room_1 Calls_1 rest_1 Pre_1 Post := by
  intro l hfl _ _ p e ha hc hk s m args below hf hA hF happ hP
  obtain ⟨hcalls, hrest, hpre⟩ := hP
  obtain ⟨-, -, -, hnamed, -, -, -, hat⟩ := (Spec.applies_iff hf).mp happ
  obtain ⟨hg, hn⟩ := and_e (Cond.before_iff.mp (show (Jvm.Cond.and given_1 narrow_1).before args s = true from hpre))
  obtain ⟨g0, g0r⟩ := and_e hg
  obtain ⟨g1, g1r⟩ := and_e g0r
  obtain ⟨g2, g2r⟩ := and_e g1r
  obtain ⟨w0, w1, w2, rfl⟩ : ∃ w0 w1 w2 : Value, args = #[w0, w1, w2] := by
    have hs : args.size = 3 := by simpa [Cond.value, given_1] using g0
    obtain ⟨L⟩ := args
    match L, hs with
    | [w0, w1, w2], _ => exact ⟨w0, w1, w2, rfl⟩
  have hw := fun d (hd : d ∈ tables_1) => atoms_spec (ws := Jvm.Cond.code x code maxLocals ret :: tables_1) hat d (List.mem_cons_of_mem _ hd)
  have hfit : Fit s := fun {y c} hc i hi => by
    obtain ⟨ha, rfl⟩ := Array.getElem?_eq_some_iff.mp hc
    have q := List.all_eq_true.mp ((Array.all_eq_true_iff_forall_mem.mp hF) _ (Array.getElem_mem ha)) i (List.mem_range.mpr hi)
    simpa [Array.getElem?_eq_getElem hi] using q
  obtain ⟨i0, q0⟩ := is_v g1
  obtain rfl : w0 = (.int i0) := Option.some.inj q0
  obtain ⟨i1, q1⟩ := isL_v g2
  obtain rfl : w1 = (.long i1) := Option.some.inj q1
  obtain ⟨i2, q2⟩ := is_v g2r
  obtain rfl : w2 = (.int i2) := Option.some.inj q2
  obtain ⟨n, o, h1, h2, h3, _, L, rfl, ⟨rfl, N⟩, hq⟩ := own_rm_law l s _ hw i0 i1 i2 s.heap p e ha hc hk s m _ below hf ((Spec.applies_iff_loose hf).mp happ).1 ⟨rfl, State.Warmed39.refl s, rfl⟩ trivial
  refine ⟨n, _, h1, h2, h3, hpost _ _ _ _ _ _ ⟨Cond.after_iff.mpr rfl, Cond.after_iff.mpr (eq_i res_at (Term.int_eval (1)) rfl), trivial⟩ ⟨hq.1, hq.2.1, (hq.2.2.sift fun y hy => Or.inr (N y hy)).mono (by decide) (by decide)⟩⟩
theorem main_1_1 : Claimed_1_1 := own_comes_1 fun _ _ _ _ _ _ h hF => ⟨h.1, hF⟩
theorem main_1_2 : Claimed_1_2 := own_comes_1 fun _ _ _ _ _ _ h hF => ⟨h.2.1, hF⟩
end Jvm.Pilot.@@N@@
namespace Jvm.Pilot.@@N@@
open Jvm Jvm.ClassFile Sem Op Lib Jvm.Free Jvm.Stand Jvm.Pilot.@@N@@.Jvm.D
/-! MADE BY PROGRAM (witnessworld.py) out of the Statement's table words and the real class files: 9 classes; the members and pool entries that the words name. The judged class is class 1, her method 1. -/
namespace start1
open Jvm.ClassFile
def u (s : String) : CpInfo := .utf8 (stringToUtf16 s)
/-- a pool by its gaps: so many unusable entries, then the entry; so many at the end -/
def gap : Nat → List CpInfo → List CpInfo
  | 0, r => r
  | n + 1, r => .unusable :: gap n r
def poolList (es : List (Nat × CpInfo)) (last : Nat) : List CpInfo := es.foldr (fun e r => gap e.1 (e.2 :: r)) (gap last [])
def pool (es : List (Nat × CpInfo)) (last : Nat) : Array CpInfo := ⟨poolList es last⟩
def fileOf (pool : Array CpInfo) (this : Nat) (attrs : Array Attribute := #[]) (ms : Array MethodInfo := #[]) (fl : Nat := 33) (sup : Nat := 0) (ifs : Array Nat := #[]) (fds : Array FieldInfo := #[]) : ClassFile where
  minorVersion := 0
  majorVersion := 65
  constantPool := pool
  accessFlags := fl
  thisClass := this
  superClass := sup
  interfaces := ifs
  fields := fds
  methods := ms
  attributes := attrs
def plain (name : String) (sup : Option ClassId) : Class where
  name := name
  kind := .ordinary
  loader := none
  accessFlags := 33
  super := sup
  interfaces := #[]
  cf := none
  fields := #[]
  methods := #[]
  instanceTypes := #[]
  staticTypes := #[]
  resolved := #[]
  callSites := []
  init := .initialized
  statics := none
  mirror := none

def pool0 : Array CpInfo := pool [(5, u "<init>"), (0, u "()V"), (1, .class_ 10), (1, u "java/lang/Object")] 113

def k0m0 : Method := { name := "<init>", desc := "()V", sig := { parameters := [], returnType := none }, accessFlags := 1, code := none }
/-- java/lang/Object -/
def k0 : Class := { plain "java/lang/Object" none with
  accessFlags := 33
  interfaces := #[]
  cf := some (fileOf pool0 8 #[] #[{ accessFlags := 1, nameIndex := 5, descriptorIndex := 6, attributes := #[] }] 33 0 #[] #[])
  fields := #[]
  methods := #[k0m0]
  instanceTypes := #[]
  staticTypes := #[]
  resolved := Array.replicate 124 none
  statics := none }

def pool1 : Array CpInfo := pool [(2, .class_ 4), (1, u "java/lang/Object"), (0, u "<init>"), (0, u "()V"), (0, .methodref 8 9), (0, .class_ 10), (0, .nameAndType 11 12), (0, u "com/example/tinwire/tinwire/bytes/ByteWriterPutU64BePinLaw"), (0, u "s"), (0, u "(II)B"), (0, .methodref 14 15), (0, .class_ 16), (0, .nameAndType 17 18), (0, u "com/example/tinwire/tinwire/bytes/ByteWriter"), (0, u "putU64Be"), (0, u "([BIJ)I"), (0, .methodref 8 20), (0, .nameAndType 21 22), (0, u "u"), (0, u "([BI)J"), (0, .methodref 8 24), (0, .nameAndType 25 26), (0, u "kept"), (0, u "([BIII)Z"), (0, .long 255), (3, u "law"), (0, u "(IJI)Z")] 5

def k1m0 : Method := { name := "<init>", desc := "()V", sig := { parameters := [], returnType := none }, accessFlags := 1, code := none }
def k1c1 : Code := { maxStack := 5, maxLocals := 9, code := code, exceptionTable := #[], attributes := #[] }
def k1m1 : Method := { name := "law", desc := "(IJI)Z", sig := { parameters := [.int, .long, .int], returnType := some .boolean }, accessFlags := 9, code := some k1c1 }
def k1c2 : Code := { maxStack := 3, maxLocals := 2, code := method_3_code, exceptionTable := #[], attributes := #[] }
def k1m2 : Method := { name := "s", desc := "(II)B", sig := { parameters := [.int, .int], returnType := some .byte }, accessFlags := 10, code := some k1c2 }
def k1c3 : Code := { maxStack := 4, maxLocals := 2, code := method_4_code, exceptionTable := #[], attributes := #[] }
def k1m3 : Method := { name := "u", desc := "([BI)J", sig := { parameters := [(.array .byte), .int], returnType := some .long }, accessFlags := 10, code := some k1c3 }
def k1c4 : Code := { maxStack := 3, maxLocals := 4, code := method_5_code, exceptionTable := #[], attributes := #[] }
def k1m4 : Method := { name := "kept", desc := "([BIII)Z", sig := { parameters := [(.array .byte), .int, .int, .int], returnType := some .boolean }, accessFlags := 10, code := some k1c4 }
/-- com/example/tinwire/tinwire/bytes/ByteWriterPutU64BePinLaw -/
def k1 : Class := { plain "com/example/tinwire/tinwire/bytes/ByteWriterPutU64BePinLaw" (some 0) with
  accessFlags := 49
  interfaces := #[]
  cf := some (fileOf pool1 8 #[] #[{ accessFlags := 1, nameIndex := 5, descriptorIndex := 6, attributes := #[] }, { accessFlags := 9, nameIndex := 31, descriptorIndex := 32, attributes := #[] }, { accessFlags := 10, nameIndex := 11, descriptorIndex := 12, attributes := #[] }, { accessFlags := 10, nameIndex := 21, descriptorIndex := 22, attributes := #[] }, { accessFlags := 10, nameIndex := 25, descriptorIndex := 26, attributes := #[] }] 49 2 #[] #[])
  fields := #[]
  methods := #[k1m0, k1m1, k1m2, k1m3, k1m4]
  instanceTypes := #[]
  staticTypes := #[]
  resolved := Array.replicate 38 none
  statics := none }

def pool2 : Array CpInfo := pool [(4, .class_ 6), (1, u "java/lang/Object"), (0, u "<init>"), (0, u "()V"), (1, .class_ 12), (1, u "com/example/tinwire/tinwire/bytes/ByteWriter"), (0, u "bytes"), (0, u "[B"), (2, u "size"), (0, u "I"), (22, u "putU64Be"), (0, u "([BIJ)I"), (100, u "MAX_LENGTH")] 48

def k2m0 : Method := { name := "<init>", desc := "()V", sig := { parameters := [], returnType := none }, accessFlags := 1, code := none }
def k2c1 : Code := { maxStack := 7, maxLocals := 5, code := prog_9_method_11_code, exceptionTable := #[], attributes := #[] }
def k2m1 : Method := { name := "putU64Be", desc := "([BIJ)I", sig := { parameters := [(.array .byte), .int, .long], returnType := some .int }, accessFlags := 9, code := some k2c1 }
/-- com/example/tinwire/tinwire/bytes/ByteWriter -/
def k2 : Class := { plain "com/example/tinwire/tinwire/bytes/ByteWriter" (some 0) with
  accessFlags := 49
  interfaces := #[]
  cf := some (fileOf pool2 10 #[] #[{ accessFlags := 1, nameIndex := 7, descriptorIndex := 8, attributes := #[] }, { accessFlags := 9, nameIndex := 41, descriptorIndex := 42, attributes := #[] }] 49 4 #[] #[{ accessFlags := 25, nameIndex := 143, descriptorIndex := 18, attributes := #[] }, { accessFlags := 2, nameIndex := 13, descriptorIndex := 14, attributes := #[] }, { accessFlags := 2, nameIndex := 17, descriptorIndex := 18, attributes := #[] }])
  fields := #[{ name := "MAX_LENGTH", type := .int, accessFlags := 25, slot := 0, constantValue := 0 }, { name := "bytes", type := (.array .byte), accessFlags := 2, slot := 0, constantValue := 0 }, { name := "size", type := .int, accessFlags := 2, slot := 1, constantValue := 0 }]
  methods := #[k2m0, k2m1]
  instanceTypes := #[(.array .byte), .int]
  staticTypes := #[.int]
  resolved := Array.replicate 192 none
  statics := none }

def pool3 : Array CpInfo := pool [(1, u "java/lang/Cloneable"), (0, .class_ 1), (0, u "java/lang/Object"), (0, .class_ 3)] 3

/-- java/lang/Cloneable -/
def k3 : Class := { plain "java/lang/Cloneable" (some 0) with
  accessFlags := 1537
  interfaces := #[]
  cf := some (fileOf pool3 2 #[] #[] 1537 4 #[] #[])
  fields := #[]
  methods := #[]
  instanceTypes := #[]
  staticTypes := #[]
  resolved := Array.replicate 8 none
  statics := none }

def pool4 : Array CpInfo := pool [(1, u "java/io/Serializable"), (0, .class_ 1), (0, u "java/lang/Object"), (0, .class_ 3)] 3

/-- java/io/Serializable -/
def k4 : Class := { plain "java/io/Serializable" (some 0) with
  accessFlags := 1537
  interfaces := #[]
  cf := some (fileOf pool4 2 #[] #[] 1537 4 #[] #[])
  fields := #[]
  methods := #[]
  instanceTypes := #[]
  staticTypes := #[]
  resolved := Array.replicate 8 none
  statics := none }

/-- the primitive byte -/
def k5 : Class := { plain "byte" none with kind := .primitive 'B', accessFlags := 0x411 }
/-- [B -/
def k6 : Class := { plain "[B" (some 0) with kind := .array 5 .byte, interfaces := #[3, 4], accessFlags := 1041 }

/-- the primitive int -/
def k7 : Class := { plain "int" none with kind := .primitive 'I', accessFlags := 0x411 }
/-- [I -/
def k8 : Class := { plain "[I" (some 0) with kind := .array 7 .int, interfaces := #[3, 4], accessFlags := 1041 }

def heap : Heap := #[]
def classes : Array Class := #[k0, k1, k2, k3, k4, k5, k6, k7, k8]
def interned : List (Array UInt16 × Addr) := []
def slotsUsed : Nat := 0
def theMethod : MethodId := ⟨1, 1⟩
def args0 : Array Value := #[.int 3, .long 77, .int 5]
def aboutOver (below : List Frame) : State where
  vm := { classes := classes, interned := interned.toArray }
  heap := heap
  slotsUsed := slotsUsed
  threads := #[{ frames := .invoking theMethod args0 :: below }]
def below0 : List Frame := [.native { method := ⟨0, 0⟩, args := #[] }]
def about1 : State := aboutOver below0
def p0 : Program := .bare "" "" ""
def e0 : Env := launch0.env 0 0 0
theorem w_frames : about1.frames = Frame.invoking theMethod args0 :: below0 := rfl
set_option maxRecDepth 65536 in
theorem w_args : argsFit about1.vm theMethod args0 = true := by decide +kernel
set_option maxRecDepth 65536 in
theorem w_heap : heapFits about1 = true := by decide +kernel
set_option maxRecDepth 65536 in
theorem w_runnable : about1.curStatus? = some .runnable := by decide +kernel
set_option maxRecDepth 65536 in
theorem w_alone : about1.alone = true := by decide +kernel
set_option maxRecDepth 65536 in
theorem w_named : about1.methodNamed? x = some theMethod := by decide +kernel
set_option maxRecDepth 65536 in
theorem w_hears : about1.hears theMethod below0 = true := by decide +kernel
set_option maxRecDepth 65536 in
theorem w_ripe : about1.ripe theMethod args0 below0 = true := by decide +kernel
theorem w_running : about1.status = .running := rfl
set_option maxRecDepth 65536 in
theorem w_room : about1.hasRoom e0.platform room_1 = true :=
  launch0.hasRoom_least _ room_1 (by decide +kernel) (by decide +kernel) (by decide +kernel) (by decide +kernel) (by decide +kernel) (by decide +kernel)
theorem allAtoms_all (ts : List Jvm.Cond) (a : Array Jvm.Value) (st : Jvm.State) : (allAtoms ts).before a st = ts.all (fun c => c.before a st) := by
  induction ts with
  | nil => rfl
  | cons c t ih =>
    show (Jvm.Cond.and c (allAtoms t)).before a st = _
    rw [Jvm.Cond.before_and, ih, List.all_cons]
def words1 : List Jvm.Cond := Jvm.Cond.code x code maxLocals ret :: tables_1
/-- a 'code' word, met by the world's own term for the bytes: nothing is compared byte by byte -/
theorem code_word {y : MethodName} {bytes : ByteArray} {mx : Nat} {rt : Option FieldType} {a : Array Value} {s : State} {m : MethodId} {meth : Method} {c : Code} (h1 : s.methodNamed? y = some m) (h2 : s.vm.method? m = some meth) (h3 : meth.code = some c) (h4 : c.code = bytes)
    (h5 : (c.maxLocals == mx && c.exceptionTable.isEmpty && decide (c.maxStack ≤ mostOperands) && decide (meth.sig.returnType = rt) && !meth.locks && decide (parseMethodDescriptor y.desc = some meth.sig)) = true) : (Jvm.Cond.code y bytes mx rt).before a s = true := by
  simp only [Bool.and_eq_true, beq_iff_eq, Bool.not_eq_true', decide_eq_true_eq] at h5
  obtain ⟨⟨⟨⟨⟨g1, g2⟩, g3⟩, g4⟩, g5⟩, g6⟩ := h5
  simp [Cond.before, Cond.holds, Cond.value, h1, h2, h3, h4, g1, g2, g3, g4, g5, g6]
def isCode : Jvm.Cond → Bool
  | .code _ _ _ _ => true
  | _ => false
theorem all_split {L : List Jvm.Cond} {P : Jvm.Cond → Bool} (h1 : L.all (fun c => isCode c || P c) = true) (h2 : ∀ c ∈ L.filter isCode, P c = true) : L.all P = true := by
  refine List.all_eq_true.mpr fun c hc => ?_
  have h := List.all_eq_true.mp h1 c hc
  rcases Bool.eq_false_or_eq_true (isCode c) with hi | hi
  · exact h2 c (List.mem_filter.mpr ⟨hc, hi⟩)
  · simpa [hi] using h
set_option maxRecDepth 65536 in
theorem w_c0 : (Jvm.Cond.code x code maxLocals ret).before args0 about1 = true := code_word (m := ⟨1, 1⟩) (meth := k1m1) (c := k1c1) (by decide +kernel) rfl rfl rfl (by decide +kernel)
set_option maxRecDepth 65536 in
theorem w_c1 : (Jvm.Cond.code ({ cls := "com/example/tinwire/tinwire/bytes/ByteWriterPutU64BePinLaw", name := "s", desc := "(II)B" } : Jvm.MethodName) method_3_code (2 : Nat) (Option.some Jvm.ClassFile.FieldType.byte)).before args0 about1 = true := code_word (m := ⟨1, 2⟩) (meth := k1m2) (c := k1c2) (by decide +kernel) rfl rfl rfl (by decide +kernel)
set_option maxRecDepth 65536 in
theorem w_c2 : (Jvm.Cond.code ({ cls := "com/example/tinwire/tinwire/bytes/ByteWriter", name := "putU64Be", desc := "([BIJ)I" } : Jvm.MethodName) prog_9_method_11_code (5 : Nat) (Option.some Jvm.ClassFile.FieldType.int)).before args0 about1 = true := code_word (m := ⟨2, 1⟩) (meth := k2m1) (c := k2c1) (by decide +kernel) rfl rfl rfl (by decide +kernel)
set_option maxRecDepth 65536 in
theorem w_c3 : (Jvm.Cond.code ({ cls := "com/example/tinwire/tinwire/bytes/ByteWriterPutU64BePinLaw", name := "u", desc := "([BI)J" } : Jvm.MethodName) method_4_code (2 : Nat) (Option.some Jvm.ClassFile.FieldType.long)).before args0 about1 = true := code_word (m := ⟨1, 3⟩) (meth := k1m3) (c := k1c3) (by decide +kernel) rfl rfl rfl (by decide +kernel)
set_option maxRecDepth 65536 in
theorem w_c4 : (Jvm.Cond.code ({ cls := "com/example/tinwire/tinwire/bytes/ByteWriterPutU64BePinLaw", name := "kept", desc := "([BIII)Z" } : Jvm.MethodName) method_5_code (4 : Nat) (Option.some Jvm.ClassFile.FieldType.boolean)).before args0 about1 = true := code_word (m := ⟨1, 4⟩) (meth := k1m4) (c := k1c4) (by decide +kernel) rfl rfl rfl (by decide +kernel)
def codes1 : List Jvm.Cond := [Jvm.Cond.code x code maxLocals ret, Jvm.Cond.code ({ cls := "com/example/tinwire/tinwire/bytes/ByteWriterPutU64BePinLaw", name := "s", desc := "(II)B" } : Jvm.MethodName) method_3_code (2 : Nat) (Option.some Jvm.ClassFile.FieldType.byte), Jvm.Cond.code ({ cls := "com/example/tinwire/tinwire/bytes/ByteWriter", name := "putU64Be", desc := "([BIJ)I" } : Jvm.MethodName) prog_9_method_11_code (5 : Nat) (Option.some Jvm.ClassFile.FieldType.int), Jvm.Cond.code ({ cls := "com/example/tinwire/tinwire/bytes/ByteWriterPutU64BePinLaw", name := "u", desc := "([BI)J" } : Jvm.MethodName) method_4_code (2 : Nat) (Option.some Jvm.ClassFile.FieldType.long), Jvm.Cond.code ({ cls := "com/example/tinwire/tinwire/bytes/ByteWriterPutU64BePinLaw", name := "kept", desc := "([BIII)Z" } : Jvm.MethodName) method_5_code (4 : Nat) (Option.some Jvm.ClassFile.FieldType.boolean)]
set_option maxRecDepth 65536 in
theorem codes_eq : words1.filter isCode = codes1 := rfl
theorem w_codes : ∀ c ∈ words1.filter isCode, c.before args0 about1 = true := by
  rw [codes_eq]
  intro c hc
  simp only [codes1, List.mem_cons, List.not_mem_nil, or_false] at hc
  rcases hc with rfl | rfl | rfl | rfl | rfl
  · exact w_c0
  · exact w_c1
  · exact w_c2
  · exact w_c3
  · exact w_c4
set_option maxRecDepth 65536 in
theorem w_t1 : words1.all (fun c => isCode c || c.before args0 about1) = true := by decide +kernel
theorem w_tables : (allAtoms (Jvm.Cond.code x code maxLocals ret :: tables_1)).before args0 about1 = true := by
  rw [allAtoms_all]
  show words1.all (fun c => c.before args0 about1) = true
  refine all_split ?_ w_codes
  rw [w_t1]
set_option maxRecDepth 65536 in
theorem w_case : (Jvm.Cond.and given_1 narrow_1).before args0 about1 = true := by decide +kernel
theorem w_applies : (headSpec (Jvm.Cond.code x code maxLocals ret :: tables_1) room_1).applies x e0.platform about1 = true :=
  (Spec.applies_iff w_frames).mpr ⟨w_running, w_runnable, w_alone, w_named, w_hears, w_ripe, w_room, w_tables⟩
theorem atStart : AtStart classFile x code maxLocals ret World_1 tables_1 room_1 Calls_1 rest_1 Pre_1 launch0 p0 e0 about1 theMethod args0 below0 :=
  ⟨lists_1, trivial, launch0.admits_env _ _ _, launch0.least_env, fairChoices_fair.cas, fairChoices_fair.clock, w_frames, w_args, w_heap, w_applies, trivial, trivial, w_case⟩
end start1
theorem witness_1 : WitnessClaimed_1 := ⟨start1.p0, start1.e0, start1.about1, start1.theMethod, start1.args0, start1.below0, start1.atStart⟩
end Jvm.Pilot.@@N@@
