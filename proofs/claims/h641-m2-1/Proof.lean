import JvmDerived
import JvmDerived.Pilot.@@N@@Statement
import JvmDerived.Pilot.@@N@@Code
set_option linter.unusedVariables false
set_option linter.unusedSimpArgs false
namespace Jvm.Pilot.@@N@@
open Jvm Jvm.ClassFile Sem Op Lib Jvm.Free Jvm.Stand Jvm.LawKit Jvm.RoadKit Bundle Jvm.Pilot.@@N@@.Jvm.D
section OwnLayer
variable {p : Program} {l : Launch} {e : Env} {R : Room} {s : State} {m : MethodId} {args : Array Value} {below : List Frame} {meth : Method} {c : Code} {T : State} {locs : List Loc} {cells slots : Nat} {Z : State} {y : MethodName} {bs : ByteArray} {maxL : Nat} {rt : Option FieldType} {ce sl : Nat} {Q : Option Value → Heap → List Loc → Prop} {G : Outcome → State → Prop} {pc : Nat} {Ls : Array Slot} {st rest : List Value} {h : Heap} {a0 : Array Value}
/-- from S the body runs on, returns, and Q says what it leaves -/
def OwnEnds (p : Program) (e : Env) (below : List Frame) (G : Outcome → State → Prop) (S : State) : Prop :=
  ∃ s₂ o, Steps p.tables e below S s₂ ∧ s₂.status = .running ∧ Ended s₂ below o ∧ G o s₂
def OwnG (s : State) (ce sl : Nat) (Q : Option Value → Heap → List Loc → Prop) : Outcome → State → Prop := fun o s₂ => ∃ v L, o = .returned v ∧ Q v s₂.heap L ∧ FrameEnd s o s₂ L ce sl
/-- what stands throughout a body's walk -/
def OwnCx (p : Program) (s : State) (m : MethodId) (meth : Method) (c : Code) (Z : State) (y : MethodName) (bs : ByteArray) (maxL : Nat) (rt : Option FieldType) : Prop :=
  p.tables.exec = Jvm.exec ∧ Z.Warmed39 s.vm ∧ s.vm.findClass y.cls = some m.cls ∧ c.code = bs ∧ c.maxLocals = maxL ∧ meth.sig.returnType = rt ∧ meth.locks = false ∧ meth.name = y.name
/-- a body's contract over the heap h at these arguments -/
def OwnMet (l : Launch) (Z : State) (y : MethodName) (bs : ByteArray) (maxL : Nat) (rt : Option FieldType) (ws : List Jvm.Cond) (rm : Room) (as' : Array Value) (h : Heap) (Q : Option Value → Heap → List Loc → Prop) : Prop :=
  MetFree l y (head1 (Jvm.Cond.code y bs maxL rt :: ws) rm) (fun a U => a = as' ∧ Z.Warmed39 U.vm ∧ U.heap = h) (fun _ _ _ _ _ => True) (fun _ U o U' => ∃ v L, o = .returned v ∧ Q v U'.heap L ∧ FrameEnd U o U' L rm.cells rm.slots)
theorem own_nz32 {d : Int32} (q : d.toInt ≠ 0) : d ≠ 0 := fun r => q (by rw [r]; rfl)
theorem own_nz64 {d : Int64} (q : d.toInt ≠ 0) : d ≠ 0 := fun r => q (by rw [r]; rfl)
theorem own_st {S S' : State} (k : ∀ t, Steps p.tables e below S' t → Steps p.tables e below S t) (r : OwnEnds p e below G S') : OwnEnds p e below G S := by
  obtain ⟨s₂, o, h1, r⟩ := r
  exact ⟨s₂, o, k _ h1, r⟩
theorem own_tr {S S' : State} (k : Steps p.tables e below S S') (r : OwnEnds p e below G S') : OwnEnds p e below G S := own_st (fun _ q => k.trans q) r
theorem own_enter {ws : List Jvm.Cond} {rm : Room} {as' : Array Value} {f0 : MethodId → JFrame} (hp : plainFor y = true) (hf : ∀ m, entryFrame m as' maxL = f0 m)
    (H : ∀ p e s m below meth c T, Stand p l e rm s m as' below meth c T [] 0 0 → OwnCx p s m meth c Z y bs maxL rt → T.heap = h → OwnEnds p e below (OwnG s rm.cells rm.slots Q) (T.setTop (f0 m))) : OwnMet l Z y bs maxL rt ws rm as' h Q := by
  refine MetFree.of_bodySF hp hisR ?_
  intro p e s m args below meth c s₁ Bd hml0 hP hK
  obtain ⟨rfl, hZ, hh⟩ := hP
  have k := H p e s m below meth c s₁ (Stand.of_body Bd) ⟨Bd.exec, hZ, findClass_of_methodNamed Bd.named, Bd.bytes, hml0, Bd.returns, Bd.notSynchronized, (name_of_methodNamed Bd.named Bd.method).1⟩ (by rw [← hh, Bd.state]; rfl)
  rw [← hf m] at k
  exact k
theorem own_mono {ws : List Jvm.Cond} {rm : Room} {as' : Array Value} {Q' : Option Value → Heap → List Loc → Prop} (H : OwnMet l Z y bs maxL rt ws rm as' h Q) (q : ∀ v h' L, Q v h' L → Q' v h' L) : OwnMet l Z y bs maxL rt ws rm as' h Q' := by
  intro p e ha hc hk s m args below hf happ hP hK
  obtain ⟨n, o, h1, h2, h3, v, L, h4, h5, h6⟩ := H p e ha hc hk s m args below hf happ hP hK
  exact ⟨n, o, h1, h2, h3, v, L, h4, q _ _ _ h5, h6⟩
theorem own_iload (X : Stand p l e R s m args below meth c T locs cells slots) (C : OwnCx p s m meth c Z y bs maxL rt) {k : Nat} {v : Int32} (hd : decode bs pc = .ok (.iload k, 2)) (pc' : Nat) (hp : pc + 2 = pc') (hl : Ls[k]? = some (.val (.int v)))
    (hr : OwnEnds p e below G (T.setTop (mkF m pc' Ls (.int v :: st)))) : OwnEnds p e below G (T.setTop (mkF m pc Ls st)) := by
  subst hp; exact own_st (fun _ q => XS.iload X.here C.1 rfl (hb C.2.2.2.1 hd) hl q) hr
theorem own_lload (X : Stand p l e R s m args below meth c T locs cells slots) (C : OwnCx p s m meth c Z y bs maxL rt) {k : Nat} {v : Int64} (hd : decode bs pc = .ok (.lload k, 2)) (pc' : Nat) (hp : pc + 2 = pc') (hl : Ls[k]? = some (.val (.long v)))
    (hr : OwnEnds p e below G (T.setTop (mkF m pc' Ls (.long v :: st)))) : OwnEnds p e below G (T.setTop (mkF m pc Ls st)) := by
  subst hp; exact own_st (fun _ q => XS.lload X.here C.1 rfl (hb C.2.2.2.1 hd) hl q) hr
theorem own_iload_n (X : Stand p l e R s m args below meth c T locs cells slots) (C : OwnCx p s m meth c Z y bs maxL rt) {k : Fin 4} {v : Int32} (hd : decode bs pc = .ok (.iload_n k, 1)) (pc' : Nat) (hp : pc + 1 = pc') (hl : Ls[k.val]? = some (.val (.int v)))
    (hr : OwnEnds p e below G (T.setTop (mkF m pc' Ls (.int v :: st)))) : OwnEnds p e below G (T.setTop (mkF m pc Ls st)) := by
  subst hp; exact own_st (fun _ q => XS.iloadN X.here C.1 rfl (hb C.2.2.2.1 hd) hl q) hr
theorem own_lload_n (X : Stand p l e R s m args below meth c T locs cells slots) (C : OwnCx p s m meth c Z y bs maxL rt) {k : Fin 4} {v : Int64} (hd : decode bs pc = .ok (.lload_n k, 1)) (pc' : Nat) (hp : pc + 1 = pc') (hl : Ls[k.val]? = some (.val (.long v)))
    (hr : OwnEnds p e below G (T.setTop (mkF m pc' Ls (.long v :: st)))) : OwnEnds p e below G (T.setTop (mkF m pc Ls st)) := by
  subst hp; exact own_st (fun _ q => XS.lloadN X.here C.1 rfl (hb C.2.2.2.1 hd) hl q) hr
theorem own_aload (X : Stand p l e R s m args below meth c T locs cells slots) (C : OwnCx p s m meth c Z y bs maxL rt) {k : Nat} {v : Value} (hd : decode bs pc = .ok (.aload k, 2)) (pc' : Nat) (hp : pc + 2 = pc') (hl : Ls[k]? = some (.val v)) (hv : v.isRef = true)
    (hr : OwnEnds p e below G (T.setTop (mkF m pc' Ls (v :: st)))) : OwnEnds p e below G (T.setTop (mkF m pc Ls st)) := by
  subst hp; exact own_st (fun _ q => XS.aload X.here C.1 rfl (hb C.2.2.2.1 hd) hl hv q) hr
theorem own_aload_n (X : Stand p l e R s m args below meth c T locs cells slots) (C : OwnCx p s m meth c Z y bs maxL rt) {k : Fin 4} {v : Value} (hd : decode bs pc = .ok (.aload_n k, 1)) (pc' : Nat) (hp : pc + 1 = pc') (hl : Ls[k.val]? = some (.val v)) (hv : v.isRef = true)
    (hr : OwnEnds p e below G (T.setTop (mkF m pc' Ls (v :: st)))) : OwnEnds p e below G (T.setTop (mkF m pc Ls st)) := by
  subst hp; exact own_st (fun _ q => XS.aloadN X.here C.1 rfl (hb C.2.2.2.1 hd) hl hv q) hr
theorem own_istore (X : Stand p l e R s m args below meth c T locs cells slots) (C : OwnCx p s m meth c Z y bs maxL rt) {k : Nat} {v : Int32} (hd : decode bs pc = .ok (.istore k, 2)) (pc' : Nat) (hp : pc + 2 = pc') (L' : Array Slot) (hl : storeLocals Ls k (.int v) = some L')
    (hr : OwnEnds p e below G (T.setTop (mkF m pc' L' st))) : OwnEnds p e below G (T.setTop (mkF m pc Ls (.int v :: st))) := by
  subst hp; exact own_st (fun _ q => XS.istore X.here C.1 rfl (hb C.2.2.2.1 hd) rfl hl q) hr
theorem own_lstore (X : Stand p l e R s m args below meth c T locs cells slots) (C : OwnCx p s m meth c Z y bs maxL rt) {k : Nat} {v : Int64} (hd : decode bs pc = .ok (.lstore k, 2)) (pc' : Nat) (hp : pc + 2 = pc') (L' : Array Slot) (hl : storeLocals Ls k (.long v) = some L')
    (hr : OwnEnds p e below G (T.setTop (mkF m pc' L' st))) : OwnEnds p e below G (T.setTop (mkF m pc Ls (.long v :: st))) := by
  subst hp; exact own_st (fun _ q => XS.lstore X.here C.1 rfl (hb C.2.2.2.1 hd) rfl hl q) hr
theorem own_istore_n (X : Stand p l e R s m args below meth c T locs cells slots) (C : OwnCx p s m meth c Z y bs maxL rt) {k : Fin 4} {v : Int32} (hd : decode bs pc = .ok (.istore_n k, 1)) (pc' : Nat) (hp : pc + 1 = pc') (L' : Array Slot) (hl : storeLocals Ls k.val (.int v) = some L')
    (hr : OwnEnds p e below G (T.setTop (mkF m pc' L' st))) : OwnEnds p e below G (T.setTop (mkF m pc Ls (.int v :: st))) := by
  subst hp; exact own_st (fun _ q => XS.istoreN X.here C.1 rfl (hb C.2.2.2.1 hd) rfl hl q) hr
theorem own_lstore_n (X : Stand p l e R s m args below meth c T locs cells slots) (C : OwnCx p s m meth c Z y bs maxL rt) {k : Fin 4} {v : Int64} (hd : decode bs pc = .ok (.lstore_n k, 1)) (pc' : Nat) (hp : pc + 1 = pc') (L' : Array Slot) (hl : storeLocals Ls k.val (.long v) = some L')
    (hr : OwnEnds p e below G (T.setTop (mkF m pc' L' st))) : OwnEnds p e below G (T.setTop (mkF m pc Ls (.long v :: st))) := by
  subst hp; exact own_st (fun _ q => XS.lstoreN X.here C.1 rfl (hb C.2.2.2.1 hd) rfl hl q) hr
theorem own_astore (X : Stand p l e R s m args below meth c T locs cells slots) (C : OwnCx p s m meth c Z y bs maxL rt) {k : Nat} {v : Value} (hd : decode bs pc = .ok (.astore k, 2)) (pc' : Nat) (hp : pc + 2 = pc') (hv : v.isRef = true) (L' : Array Slot) (hl : storeLocals Ls k v = some L')
    (hr : OwnEnds p e below G (T.setTop (mkF m pc' L' st))) : OwnEnds p e below G (T.setTop (mkF m pc Ls (v :: st))) := by
  subst hp; exact own_st (fun _ q => XS.astore X.here C.1 rfl (hb C.2.2.2.1 hd) rfl hv hl q) hr
theorem own_astore_n (X : Stand p l e R s m args below meth c T locs cells slots) (C : OwnCx p s m meth c Z y bs maxL rt) {k : Fin 4} {v : Value} (hd : decode bs pc = .ok (.astore_n k, 1)) (pc' : Nat) (hp : pc + 1 = pc') (hv : v.isRef = true) (L' : Array Slot) (hl : storeLocals Ls k.val v = some L')
    (hr : OwnEnds p e below G (T.setTop (mkF m pc' L' st))) : OwnEnds p e below G (T.setTop (mkF m pc Ls (v :: st))) := by
  subst hp; exact own_st (fun _ q => XS.astoreN X.here C.1 rfl (hb C.2.2.2.1 hd) rfl hv hl q) hr
theorem own_iinc (X : Stand p l e R s m args below meth c T locs cells slots) (C : OwnCx p s m meth c Z y bs maxL rt) {k : Nat} {cst : Int} {v : Int32} (hd : decode bs pc = .ok (.iinc k cst, 3)) (pc' : Nat) (hp : pc + 3 = pc') (hl : Ls[k]? = some (.val (.int v))) (w : Int32) (hw : Int32.ofInt cst = w) (F : Int32 → Array Slot) (hl' : ∀ z, storeLocals Ls k (.int z) = some (F z))
    (hr : ∀ z, z = v + w → OwnEnds p e below G (T.setTop (mkF m pc' (F z) st))) : OwnEnds p e below G (T.setTop (mkF m pc Ls st)) := by
  subst hp hw; exact own_st (fun _ q => XS.iinc X.here C.1 rfl (hb C.2.2.2.1 hd) hl (hl' _) q) (hr _ rfl)
theorem own_iconst (X : Stand p l e R s m args below meth c T locs cells slots) (C : OwnCx p s m meth c Z y bs maxL rt) {i : Int} (hd : decode bs pc = .ok (.iconst i, 1)) (pc' : Nat) (hp : pc + 1 = pc') (k : Int32) (hk : Int32.ofInt i = k)
    (hr : OwnEnds p e below G (T.setTop (mkF m pc' Ls (.int k :: st)))) : OwnEnds p e below G (T.setTop (mkF m pc Ls st)) := by
  subst hp hk; exact own_st (fun _ q => XS.iconst X.here C.1 rfl (hb C.2.2.2.1 hd) q) hr
theorem own_bipush (X : Stand p l e R s m args below meth c T locs cells slots) (C : OwnCx p s m meth c Z y bs maxL rt) {i : Int} (hd : decode bs pc = .ok (.bipush i, 2)) (pc' : Nat) (hp : pc + 2 = pc') (k : Int32) (hk : (Int8.ofInt i).toInt32 = k)
    (hr : OwnEnds p e below G (T.setTop (mkF m pc' Ls (.int k :: st)))) : OwnEnds p e below G (T.setTop (mkF m pc Ls st)) := by
  subst hp hk; exact own_st (fun _ q => XS.bipush X.here C.1 rfl (hb C.2.2.2.1 hd) q) hr
theorem own_sipush (X : Stand p l e R s m args below meth c T locs cells slots) (C : OwnCx p s m meth c Z y bs maxL rt) {i : Int} (hd : decode bs pc = .ok (.sipush i, 3)) (pc' : Nat) (hp : pc + 3 = pc') (k : Int32) (hk : (Int16.ofInt i).toInt32 = k)
    (hr : OwnEnds p e below G (T.setTop (mkF m pc' Ls (.int k :: st)))) : OwnEnds p e below G (T.setTop (mkF m pc Ls st)) := by
  subst hp hk; exact own_st (fun _ q => XS.sipush X.here C.1 rfl (hb C.2.2.2.1 hd) q) hr
theorem own_lconst (X : Stand p l e R s m args below meth c T locs cells slots) (C : OwnCx p s m meth c Z y bs maxL rt) {i : Fin 2} (hd : decode bs pc = .ok (.lconst i, 1)) (pc' : Nat) (hp : pc + 1 = pc') (k : Int64) (hk : Int64.ofNat i = k)
    (hr : OwnEnds p e below G (T.setTop (mkF m pc' Ls (.long k :: st)))) : OwnEnds p e below G (T.setTop (mkF m pc Ls st)) := by
  subst hp hk; exact own_st (fun _ q => XS.lconst X.here C.1 rfl (hb C.2.2.2.1 hd) q) hr
theorem own_aconst_null (X : Stand p l e R s m args below meth c T locs cells slots) (C : OwnCx p s m meth c Z y bs maxL rt) (hd : decode bs pc = .ok (.aconst_null, 1)) (pc' : Nat) (hp : pc + 1 = pc')
    (hr : OwnEnds p e below G (T.setTop (mkF m pc' Ls (.null :: st)))) : OwnEnds p e below G (T.setTop (mkF m pc Ls st)) := by
  subst hp; exact own_st (fun _ q => XS.aconstNull X.here C.1 rfl (hb C.2.2.2.1 hd) q) hr
theorem own_ldc (X : Stand p l e R s m args below meth c T locs cells slots) (C : OwnCx p s m meth c Z y bs maxL rt) {i : Nat} {v : Int32} (w : (Jvm.Cond.constant y.cls i v).before a0 Z = true) (hd : decode bs pc = .ok (.ldc i, 2)) (pc' : Nat) (hp : pc + 2 = pc')
    (hr : OwnEnds p e below G (T.setTop (mkF m pc' Ls (.int v :: st)))) : OwnEnds p e below G (T.setTop (mkF m pc Ls st)) := by
  subst hp; exact own_st (X.ldcInt C.1 C.2.2.1 (mvT C.2.1 w) (g := mkF m pc Ls st) rfl (hb C.2.2.2.1 hd)) hr
theorem own_ldcw (X : Stand p l e R s m args below meth c T locs cells slots) (C : OwnCx p s m meth c Z y bs maxL rt) {i : Nat} {v : Int32} (w : (Jvm.Cond.constant y.cls i v).before a0 Z = true) (hd : decode bs pc = .ok (.ldc_w i, 3)) (pc' : Nat) (hp : pc + 3 = pc')
    (hr : OwnEnds p e below G (T.setTop (mkF m pc' Ls (.int v :: st)))) : OwnEnds p e below G (T.setTop (mkF m pc Ls st)) := by
  subst hp; exact own_st (X.ldcwInt C.1 C.2.2.1 (mvT C.2.1 w) (g := mkF m pc Ls st) rfl (hb C.2.2.2.1 hd)) hr
theorem own_ldc2 (X : Stand p l e R s m args below meth c T locs cells slots) (C : OwnCx p s m meth c Z y bs maxL rt) {i : Nat} {v : Int64} (w : (Jvm.Cond.constantLong y.cls i v).before a0 Z = true) (hd : decode bs pc = .ok (.ldc2_w i, 3)) (pc' : Nat) (hp : pc + 3 = pc')
    (hr : OwnEnds p e below G (T.setTop (mkF m pc' Ls (.long v :: st)))) : OwnEnds p e below G (T.setTop (mkF m pc Ls st)) := by
  subst hp; exact own_st (X.ldc2Long C.1 C.2.2.1 (mvT C.2.1 w) (g := mkF m pc Ls st) rfl (hb C.2.2.2.1 hd)) hr
theorem own_iadd (X : Stand p l e R s m args below meth c T locs cells slots) (C : OwnCx p s m meth c Z y bs maxL rt) {a b : Int32} (hd : decode bs pc = .ok (.iadd, 1)) (pc' : Nat) (hp : pc + 1 = pc')
    (hr : ∀ z, z = a + b → OwnEnds p e below G (T.setTop (mkF m pc' Ls (.int z :: st)))) : OwnEnds p e below G (T.setTop (mkF m pc Ls (.int b :: .int a :: st))) := by
  subst hp; exact own_st (fun _ q => XS.iadd X.here C.1 rfl (hb C.2.2.2.1 hd) rfl q) (hr _ rfl)
theorem own_isub (X : Stand p l e R s m args below meth c T locs cells slots) (C : OwnCx p s m meth c Z y bs maxL rt) {a b : Int32} (hd : decode bs pc = .ok (.isub, 1)) (pc' : Nat) (hp : pc + 1 = pc')
    (hr : ∀ z, z = a - b → OwnEnds p e below G (T.setTop (mkF m pc' Ls (.int z :: st)))) : OwnEnds p e below G (T.setTop (mkF m pc Ls (.int b :: .int a :: st))) := by
  subst hp; exact own_st (fun _ q => XS.isub X.here C.1 rfl (hb C.2.2.2.1 hd) rfl q) (hr _ rfl)
theorem own_imul (X : Stand p l e R s m args below meth c T locs cells slots) (C : OwnCx p s m meth c Z y bs maxL rt) {a b : Int32} (hd : decode bs pc = .ok (.imul, 1)) (pc' : Nat) (hp : pc + 1 = pc')
    (hr : ∀ z, z = a * b → OwnEnds p e below G (T.setTop (mkF m pc' Ls (.int z :: st)))) : OwnEnds p e below G (T.setTop (mkF m pc Ls (.int b :: .int a :: st))) := by
  subst hp; exact own_st (fun _ q => XS.imul X.here C.1 rfl (hb C.2.2.2.1 hd) rfl q) (hr _ rfl)
theorem own_iand (X : Stand p l e R s m args below meth c T locs cells slots) (C : OwnCx p s m meth c Z y bs maxL rt) {a b : Int32} (hd : decode bs pc = .ok (.iand, 1)) (pc' : Nat) (hp : pc + 1 = pc')
    (hr : ∀ z, z = a &&& b → OwnEnds p e below G (T.setTop (mkF m pc' Ls (.int z :: st)))) : OwnEnds p e below G (T.setTop (mkF m pc Ls (.int b :: .int a :: st))) := by
  subst hp; exact own_st (fun _ q => XS.iand X.here C.1 rfl (hb C.2.2.2.1 hd) rfl q) (hr _ rfl)
theorem own_ior (X : Stand p l e R s m args below meth c T locs cells slots) (C : OwnCx p s m meth c Z y bs maxL rt) {a b : Int32} (hd : decode bs pc = .ok (.ior, 1)) (pc' : Nat) (hp : pc + 1 = pc')
    (hr : ∀ z, z = a ||| b → OwnEnds p e below G (T.setTop (mkF m pc' Ls (.int z :: st)))) : OwnEnds p e below G (T.setTop (mkF m pc Ls (.int b :: .int a :: st))) := by
  subst hp; exact own_st (fun _ q => XS.ior X.here C.1 rfl (hb C.2.2.2.1 hd) rfl q) (hr _ rfl)
theorem own_ixor (X : Stand p l e R s m args below meth c T locs cells slots) (C : OwnCx p s m meth c Z y bs maxL rt) {a b : Int32} (hd : decode bs pc = .ok (.ixor, 1)) (pc' : Nat) (hp : pc + 1 = pc')
    (hr : ∀ z, z = a ^^^ b → OwnEnds p e below G (T.setTop (mkF m pc' Ls (.int z :: st)))) : OwnEnds p e below G (T.setTop (mkF m pc Ls (.int b :: .int a :: st))) := by
  subst hp; exact own_st (fun _ q => XS.ixor X.here C.1 rfl (hb C.2.2.2.1 hd) rfl q) (hr _ rfl)
theorem own_idiv (X : Stand p l e R s m args below meth c T locs cells slots) (C : OwnCx p s m meth c Z y bs maxL rt) {a b : Int32} (hd : decode bs pc = .ok (.idiv, 1)) (pc' : Nat) (hp : pc + 1 = pc') (hz : b ≠ 0)
    (hr : ∀ z, z = a / b → OwnEnds p e below G (T.setTop (mkF m pc' Ls (.int z :: st)))) : OwnEnds p e below G (T.setTop (mkF m pc Ls (.int b :: .int a :: st))) := by
  subst hp; exact own_st (fun _ q => XS.idiv X.here C.1 rfl (hb C.2.2.2.1 hd) rfl hz q) (hr _ rfl)
theorem own_ladd (X : Stand p l e R s m args below meth c T locs cells slots) (C : OwnCx p s m meth c Z y bs maxL rt) {a b : Int64} (hd : decode bs pc = .ok (.ladd, 1)) (pc' : Nat) (hp : pc + 1 = pc')
    (hr : ∀ z, z = a + b → OwnEnds p e below G (T.setTop (mkF m pc' Ls (.long z :: st)))) : OwnEnds p e below G (T.setTop (mkF m pc Ls (.long b :: .long a :: st))) := by
  subst hp; exact own_st (fun _ q => XS.ladd X.here C.1 rfl (hb C.2.2.2.1 hd) rfl q) (hr _ rfl)
theorem own_lsub (X : Stand p l e R s m args below meth c T locs cells slots) (C : OwnCx p s m meth c Z y bs maxL rt) {a b : Int64} (hd : decode bs pc = .ok (.lsub, 1)) (pc' : Nat) (hp : pc + 1 = pc')
    (hr : ∀ z, z = a - b → OwnEnds p e below G (T.setTop (mkF m pc' Ls (.long z :: st)))) : OwnEnds p e below G (T.setTop (mkF m pc Ls (.long b :: .long a :: st))) := by
  subst hp; exact own_st (fun _ q => XS.lsub X.here C.1 rfl (hb C.2.2.2.1 hd) rfl q) (hr _ rfl)
theorem own_lmul (X : Stand p l e R s m args below meth c T locs cells slots) (C : OwnCx p s m meth c Z y bs maxL rt) {a b : Int64} (hd : decode bs pc = .ok (.lmul, 1)) (pc' : Nat) (hp : pc + 1 = pc')
    (hr : ∀ z, z = a * b → OwnEnds p e below G (T.setTop (mkF m pc' Ls (.long z :: st)))) : OwnEnds p e below G (T.setTop (mkF m pc Ls (.long b :: .long a :: st))) := by
  subst hp; exact own_st (fun _ q => XS.lmul X.here C.1 rfl (hb C.2.2.2.1 hd) rfl q) (hr _ rfl)
theorem own_land (X : Stand p l e R s m args below meth c T locs cells slots) (C : OwnCx p s m meth c Z y bs maxL rt) {a b : Int64} (hd : decode bs pc = .ok (.land, 1)) (pc' : Nat) (hp : pc + 1 = pc')
    (hr : ∀ z, z = a &&& b → OwnEnds p e below G (T.setTop (mkF m pc' Ls (.long z :: st)))) : OwnEnds p e below G (T.setTop (mkF m pc Ls (.long b :: .long a :: st))) := by
  subst hp; exact own_st (fun _ q => XS.land X.here C.1 rfl (hb C.2.2.2.1 hd) rfl q) (hr _ rfl)
theorem own_lor (X : Stand p l e R s m args below meth c T locs cells slots) (C : OwnCx p s m meth c Z y bs maxL rt) {a b : Int64} (hd : decode bs pc = .ok (.lor, 1)) (pc' : Nat) (hp : pc + 1 = pc')
    (hr : ∀ z, z = a ||| b → OwnEnds p e below G (T.setTop (mkF m pc' Ls (.long z :: st)))) : OwnEnds p e below G (T.setTop (mkF m pc Ls (.long b :: .long a :: st))) := by
  subst hp; exact own_st (fun _ q => XS.lor X.here C.1 rfl (hb C.2.2.2.1 hd) rfl q) (hr _ rfl)
theorem own_lxor (X : Stand p l e R s m args below meth c T locs cells slots) (C : OwnCx p s m meth c Z y bs maxL rt) {a b : Int64} (hd : decode bs pc = .ok (.lxor, 1)) (pc' : Nat) (hp : pc + 1 = pc')
    (hr : ∀ z, z = a ^^^ b → OwnEnds p e below G (T.setTop (mkF m pc' Ls (.long z :: st)))) : OwnEnds p e below G (T.setTop (mkF m pc Ls (.long b :: .long a :: st))) := by
  subst hp; exact own_st (fun _ q => XS.lxor X.here C.1 rfl (hb C.2.2.2.1 hd) rfl q) (hr _ rfl)
theorem own_ldiv (X : Stand p l e R s m args below meth c T locs cells slots) (C : OwnCx p s m meth c Z y bs maxL rt) {a b : Int64} (hd : decode bs pc = .ok (.ldiv, 1)) (pc' : Nat) (hp : pc + 1 = pc') (hz : b ≠ 0)
    (hr : ∀ z, z = a / b → OwnEnds p e below G (T.setTop (mkF m pc' Ls (.long z :: st)))) : OwnEnds p e below G (T.setTop (mkF m pc Ls (.long b :: .long a :: st))) := by
  subst hp; exact own_st (fun _ q => XS.ldiv X.here C.1 rfl (hb C.2.2.2.1 hd) rfl hz q) (hr _ rfl)
theorem own_irem (X : Stand p l e R s m args below meth c T locs cells slots) (C : OwnCx p s m meth c Z y bs maxL rt) {a b : Int32} (hd : decode bs pc = .ok (.irem, 1)) (pc' : Nat) (hp : pc + 1 = pc') (hz : b ≠ 0)
    (hr : ∀ z, z = a % b → OwnEnds p e below G (T.setTop (mkF m pc' Ls (.int z :: st)))) : OwnEnds p e below G (T.setTop (mkF m pc Ls (.int b :: .int a :: st))) := by
  subst hp; exact own_st (fun _ q => iremM X C.1 rfl (hb C.2.2.2.1 hd) rfl hz q) (hr _ rfl)
theorem own_lrem (X : Stand p l e R s m args below meth c T locs cells slots) (C : OwnCx p s m meth c Z y bs maxL rt) {a b : Int64} (hd : decode bs pc = .ok (.lrem, 1)) (pc' : Nat) (hp : pc + 1 = pc') (hz : b ≠ 0)
    (hr : ∀ z, z = a % b → OwnEnds p e below G (T.setTop (mkF m pc' Ls (.long z :: st)))) : OwnEnds p e below G (T.setTop (mkF m pc Ls (.long b :: .long a :: st))) := by
  subst hp; exact own_st (fun _ q => XS.lrem X.here C.1 rfl (hb C.2.2.2.1 hd) rfl hz q) (hr _ (lrem_mod a b))
theorem own_ishl (X : Stand p l e R s m args below meth c T locs cells slots) (C : OwnCx p s m meth c Z y bs maxL rt) {a : Int32} {b : Int32} (hd : decode bs pc = .ok (.ishl, 1)) (pc' : Nat) (hp : pc + 1 = pc')
    (hr : ∀ z, z = (a <<< (b &&& 31)) → OwnEnds p e below G (T.setTop (mkF m pc' Ls (.int z :: st)))) : OwnEnds p e below G (T.setTop (mkF m pc Ls (.int b :: .int a :: st))) := by
  subst hp; exact own_st (fun _ q => XS.ishl X.here C.1 rfl (hb C.2.2.2.1 hd) rfl q) (hr _ rfl)
theorem own_ishr (X : Stand p l e R s m args below meth c T locs cells slots) (C : OwnCx p s m meth c Z y bs maxL rt) {a : Int32} {b : Int32} (hd : decode bs pc = .ok (.ishr, 1)) (pc' : Nat) (hp : pc + 1 = pc')
    (hr : ∀ z, z = (a >>> (b &&& 31)) → OwnEnds p e below G (T.setTop (mkF m pc' Ls (.int z :: st)))) : OwnEnds p e below G (T.setTop (mkF m pc Ls (.int b :: .int a :: st))) := by
  subst hp; exact own_st (fun _ q => XS.ishr X.here C.1 rfl (hb C.2.2.2.1 hd) rfl q) (hr _ rfl)
theorem own_iushr (X : Stand p l e R s m args below meth c T locs cells slots) (C : OwnCx p s m meth c Z y bs maxL rt) {a : Int32} {b : Int32} (hd : decode bs pc = .ok (.iushr, 1)) (pc' : Nat) (hp : pc + 1 = pc')
    (hr : ∀ z, z = ((a.toUInt32 >>> (b &&& 31).toUInt32).toInt32) → OwnEnds p e below G (T.setTop (mkF m pc' Ls (.int z :: st)))) : OwnEnds p e below G (T.setTop (mkF m pc Ls (.int b :: .int a :: st))) := by
  subst hp; exact own_st (fun _ q => XS.iushr X.here C.1 rfl (hb C.2.2.2.1 hd) rfl q) (hr _ rfl)
theorem own_lshl (X : Stand p l e R s m args below meth c T locs cells slots) (C : OwnCx p s m meth c Z y bs maxL rt) {a : Int64} {b : Int32} (hd : decode bs pc = .ok (.lshl, 1)) (pc' : Nat) (hp : pc + 1 = pc')
    (hr : ∀ z, z = (a <<< (b &&& 0x3f).toInt64) → OwnEnds p e below G (T.setTop (mkF m pc' Ls (.long z :: st)))) : OwnEnds p e below G (T.setTop (mkF m pc Ls (.int b :: .long a :: st))) := by
  subst hp; exact own_st (fun _ q => XS.lshl X.here C.1 rfl (hb C.2.2.2.1 hd) rfl q) (hr _ rfl)
theorem own_lshr (X : Stand p l e R s m args below meth c T locs cells slots) (C : OwnCx p s m meth c Z y bs maxL rt) {a : Int64} {b : Int32} (hd : decode bs pc = .ok (.lshr, 1)) (pc' : Nat) (hp : pc + 1 = pc')
    (hr : ∀ z, z = (a >>> (b &&& 0x3f).toInt64) → OwnEnds p e below G (T.setTop (mkF m pc' Ls (.long z :: st)))) : OwnEnds p e below G (T.setTop (mkF m pc Ls (.int b :: .long a :: st))) := by
  subst hp; exact own_st (fun _ q => XS.lshr X.here C.1 rfl (hb C.2.2.2.1 hd) rfl q) (hr _ rfl)
theorem own_lushr (X : Stand p l e R s m args below meth c T locs cells slots) (C : OwnCx p s m meth c Z y bs maxL rt) {a : Int64} {b : Int32} (hd : decode bs pc = .ok (.lushr, 1)) (pc' : Nat) (hp : pc + 1 = pc')
    (hr : ∀ z, z = ((a.toUInt64 >>> (b &&& 0x3f).toInt64.toUInt64).toInt64) → OwnEnds p e below G (T.setTop (mkF m pc' Ls (.long z :: st)))) : OwnEnds p e below G (T.setTop (mkF m pc Ls (.int b :: .long a :: st))) := by
  subst hp; exact own_st (fun _ q => XS.lushr X.here C.1 rfl (hb C.2.2.2.1 hd) rfl q) (hr _ rfl)
theorem own_ineg (X : Stand p l e R s m args below meth c T locs cells slots) (C : OwnCx p s m meth c Z y bs maxL rt) {a : Int32} (hd : decode bs pc = .ok (.ineg, 1)) (pc' : Nat) (hp : pc + 1 = pc')
    (hr : ∀ z, z = -a → OwnEnds p e below G (T.setTop (mkF m pc' Ls (.int z :: st)))) : OwnEnds p e below G (T.setTop (mkF m pc Ls (.int a :: st))) := by
  subst hp; exact own_st (fun _ q => XS.ineg X.here C.1 rfl (hb C.2.2.2.1 hd) rfl q) (hr _ rfl)
theorem own_lneg (X : Stand p l e R s m args below meth c T locs cells slots) (C : OwnCx p s m meth c Z y bs maxL rt) {a : Int64} (hd : decode bs pc = .ok (.lneg, 1)) (pc' : Nat) (hp : pc + 1 = pc')
    (hr : ∀ z, z = -a → OwnEnds p e below G (T.setTop (mkF m pc' Ls (.long z :: st)))) : OwnEnds p e below G (T.setTop (mkF m pc Ls (.long a :: st))) := by
  subst hp; exact own_st (fun _ q => XS.lneg X.here C.1 rfl (hb C.2.2.2.1 hd) rfl q) (hr _ rfl)
theorem own_i2l (X : Stand p l e R s m args below meth c T locs cells slots) (C : OwnCx p s m meth c Z y bs maxL rt) {a : Int32} (hd : decode bs pc = .ok (.i2l, 1)) (pc' : Nat) (hp : pc + 1 = pc')
    (hr : ∀ z, z = a.toInt64 → OwnEnds p e below G (T.setTop (mkF m pc' Ls (.long z :: st)))) : OwnEnds p e below G (T.setTop (mkF m pc Ls (.int a :: st))) := by
  subst hp; exact own_st (fun _ q => XS.i2l X.here C.1 rfl (hb C.2.2.2.1 hd) rfl q) (hr _ rfl)
theorem own_l2i (X : Stand p l e R s m args below meth c T locs cells slots) (C : OwnCx p s m meth c Z y bs maxL rt) {a : Int64} (hd : decode bs pc = .ok (.l2i, 1)) (pc' : Nat) (hp : pc + 1 = pc')
    (hr : ∀ z, z = a.toInt32 → OwnEnds p e below G (T.setTop (mkF m pc' Ls (.int z :: st)))) : OwnEnds p e below G (T.setTop (mkF m pc Ls (.long a :: st))) := by
  subst hp; exact own_st (fun _ q => XS.l2i X.here C.1 rfl (hb C.2.2.2.1 hd) rfl q) (hr _ rfl)
theorem own_i2b (X : Stand p l e R s m args below meth c T locs cells slots) (C : OwnCx p s m meth c Z y bs maxL rt) {a : Int32} (hd : decode bs pc = .ok (.i2b, 1)) (pc' : Nat) (hp : pc + 1 = pc')
    (hr : ∀ z, z = a.toInt8.toInt32 → OwnEnds p e below G (T.setTop (mkF m pc' Ls (.int z :: st)))) : OwnEnds p e below G (T.setTop (mkF m pc Ls (.int a :: st))) := by
  subst hp; exact own_st (fun _ q => XS.i2b X.here C.1 rfl (hb C.2.2.2.1 hd) rfl q) (hr _ rfl)
theorem own_i2s (X : Stand p l e R s m args below meth c T locs cells slots) (C : OwnCx p s m meth c Z y bs maxL rt) {a : Int32} (hd : decode bs pc = .ok (.i2s, 1)) (pc' : Nat) (hp : pc + 1 = pc')
    (hr : ∀ z, z = a.toInt16.toInt32 → OwnEnds p e below G (T.setTop (mkF m pc' Ls (.int z :: st)))) : OwnEnds p e below G (T.setTop (mkF m pc Ls (.int a :: st))) := by
  subst hp; exact own_st (fun _ q => XS.i2s X.here C.1 rfl (hb C.2.2.2.1 hd) rfl q) (hr _ rfl)
theorem own_i2c (X : Stand p l e R s m args below meth c T locs cells slots) (C : OwnCx p s m meth c Z y bs maxL rt) {a : Int32} (hd : decode bs pc = .ok (.i2c, 1)) (pc' : Nat) (hp : pc + 1 = pc')
    (hr : ∀ z, z = a.toUInt32.toUInt16.toUInt32.toInt32 → OwnEnds p e below G (T.setTop (mkF m pc' Ls (.int z :: st)))) : OwnEnds p e below G (T.setTop (mkF m pc Ls (.int a :: st))) := by
  subst hp; exact own_st (fun _ q => XS.i2c X.here C.1 rfl (hb C.2.2.2.1 hd) rfl q) (hr _ rfl)
theorem own_lcmp (X : Stand p l e R s m args below meth c T locs cells slots) (C : OwnCx p s m meth c Z y bs maxL rt) {a b : Int64} (hd : decode bs pc = .ok (.lcmp, 1)) (pc' : Nat) (hp : pc + 1 = pc')
    (hr : ∀ z : Int32, (a.toInt < b.toInt → z.toInt = -1) → (a.toInt = b.toInt → z.toInt = 0) → (b.toInt < a.toInt → z.toInt = 1) → OwnEnds p e below G (T.setTop (mkF m pc' Ls (.int z :: st)))) : OwnEnds p e below G (T.setTop (mkF m pc Ls (.long b :: .long a :: st))) := by
  subst hp; exact own_st (fun _ q => XS.lcmp X.here C.1 rfl (hb C.2.2.2.1 hd) rfl q) (hr _ (c_lcmp a b).1 (c_lcmp a b).2.1 (c_lcmp a b).2.2)
theorem own_dup (X : Stand p l e R s m args below meth c T locs cells slots) (C : OwnCx p s m meth c Z y bs maxL rt) {v : Value} (hd : decode bs pc = .ok (.dup, 1)) (pc' : Nat) (hp : pc + 1 = pc') (hc : v.category = 1)
    (hr : OwnEnds p e below G (T.setTop (mkF m pc' Ls (v :: v :: st)))) : OwnEnds p e below G (T.setTop (mkF m pc Ls (v :: st))) := by
  subst hp; exact own_st (fun _ q => XS.dup X.here C.1 rfl (hb C.2.2.2.1 hd) rfl hc q) hr
theorem own_dup_x1 (X : Stand p l e R s m args below meth c T locs cells slots) (C : OwnCx p s m meth c Z y bs maxL rt) {v w : Value} (hd : decode bs pc = .ok (.dup_x1, 1)) (pc' : Nat) (hp : pc + 1 = pc') (hc : v.category = 1) (hc' : w.category = 1)
    (hr : OwnEnds p e below G (T.setTop (mkF m pc' Ls (v :: w :: v :: st)))) : OwnEnds p e below G (T.setTop (mkF m pc Ls (v :: w :: st))) := by
  subst hp; exact own_st (fun _ q => XS.dupX1 X.here C.1 rfl (hb C.2.2.2.1 hd) rfl hc hc' q) hr
theorem own_pop (X : Stand p l e R s m args below meth c T locs cells slots) (C : OwnCx p s m meth c Z y bs maxL rt) {v : Value} (hd : decode bs pc = .ok (.pop, 1)) (pc' : Nat) (hp : pc + 1 = pc') (hc : v.category = 1)
    (hr : OwnEnds p e below G (T.setTop (mkF m pc' Ls st))) : OwnEnds p e below G (T.setTop (mkF m pc Ls (v :: st))) := by
  subst hp; exact own_st (fun _ q => XS.pop X.here C.1 rfl (hb C.2.2.2.1 hd) rfl hc q) hr
theorem own_dup2 (X : Stand p l e R s m args below meth c T locs cells slots) (C : OwnCx p s m meth c Z y bs maxL rt) {v w : Value} (hd : decode bs pc = .ok (.dup2, 1)) (pc' : Nat) (hp : pc + 1 = pc') (hc : v.category = 1) (hc' : w.category = 1)
    (hr : OwnEnds p e below G (T.setTop (mkF m pc' Ls (v :: w :: v :: w :: st)))) : OwnEnds p e below G (T.setTop (mkF m pc Ls (v :: w :: st))) := by
  subst hp; exact own_st (fun _ q => XT.dup2 X.here C.1 rfl (hb C.2.2.2.1 hd) rfl hc hc' q) hr
theorem own_goto (X : Stand p l e R s m args below meth c T locs cells slots) (C : OwnCx p s m meth c Z y bs maxL rt) {o : Int} (hd : decode bs pc = .ok (.goto o, 3)) (pc' : Nat) (ho : 0 ≤ (pc : Int) + o) (hp : ((pc : Int) + o).toNat = pc')
    (hr : OwnEnds p e below G (T.setTop (mkF m pc' Ls st))) : OwnEnds p e below G (T.setTop (mkF m pc Ls st)) :=
  own_st (fun _ q => XS.goto X.here C.1 rfl rfl (hb C.2.2.2.1 hd) ho hp q) hr
theorem own_icmplt (X : Stand p l e R s m args below meth c T locs cells slots) (C : OwnCx p s m meth c Z y bs maxL rt) {x' y' : Int32} {o : Int} (hd : decode bs pc = .ok (.if_icmp .lt o, 3)) (pn pc' : Nat) (hpn : pc + 3 = pn) (ho : 0 ≤ (pc : Int) + o) (hp : ((pc : Int) + o).toNat = pc') {i : Int} (hi : x'.toInt = i) {j : Int} (hj : y'.toInt = j) 
    (hy : i < j → OwnEnds p e below G (T.setTop (mkF m pc' Ls st))) (hn : j ≤ i → OwnEnds p e below G (T.setTop (mkF m pn Ls st))) : OwnEnds p e below G (T.setTop (mkF m pc Ls (.int y' :: .int x' :: st))) := by
  subst hpn
  by_cases k : x' < y'
  · exact own_st (fun _ q => XS.icmpYes X.here C.1 rfl rfl (hb C.2.2.2.1 hd) rfl (((tlt k).1)) ho hp q) (hy (by rw [Int32.lt_iff_toInt_lt] at k; have q : y'.toInt = j := hj; omega))
  · exact own_st (fun _ q => XS.icmpNo X.here C.1 rfl (hb C.2.2.2.1 hd) rfl (((flt k).1)) q) (hn (by rw [Int32.lt_iff_toInt_lt] at k; have q : y'.toInt = j := hj; omega))
theorem own_icmpge (X : Stand p l e R s m args below meth c T locs cells slots) (C : OwnCx p s m meth c Z y bs maxL rt) {x' y' : Int32} {o : Int} (hd : decode bs pc = .ok (.if_icmp .ge o, 3)) (pn pc' : Nat) (hpn : pc + 3 = pn) (ho : 0 ≤ (pc : Int) + o) (hp : ((pc : Int) + o).toNat = pc') {i : Int} (hi : x'.toInt = i) {j : Int} (hj : y'.toInt = j) 
    (hy : j ≤ i → OwnEnds p e below G (T.setTop (mkF m pc' Ls st))) (hn : i < j → OwnEnds p e below G (T.setTop (mkF m pn Ls st))) : OwnEnds p e below G (T.setTop (mkF m pc Ls (.int y' :: .int x' :: st))) := by
  subst hpn
  by_cases k : x' < y'
  · exact own_st (fun _ q => XS.icmpNo X.here C.1 rfl (hb C.2.2.2.1 hd) rfl (((tlt k).2.1)) q) (hn (by rw [Int32.lt_iff_toInt_lt] at k; have q : y'.toInt = j := hj; omega))
  · exact own_st (fun _ q => XS.icmpYes X.here C.1 rfl rfl (hb C.2.2.2.1 hd) rfl (((flt k).2.1)) ho hp q) (hy (by rw [Int32.lt_iff_toInt_lt] at k; have q : y'.toInt = j := hj; omega))
theorem own_icmpgt (X : Stand p l e R s m args below meth c T locs cells slots) (C : OwnCx p s m meth c Z y bs maxL rt) {x' y' : Int32} {o : Int} (hd : decode bs pc = .ok (.if_icmp .gt o, 3)) (pn pc' : Nat) (hpn : pc + 3 = pn) (ho : 0 ≤ (pc : Int) + o) (hp : ((pc : Int) + o).toNat = pc') {i : Int} (hi : x'.toInt = i) {j : Int} (hj : y'.toInt = j) 
    (hy : j < i → OwnEnds p e below G (T.setTop (mkF m pc' Ls st))) (hn : i ≤ j → OwnEnds p e below G (T.setTop (mkF m pn Ls st))) : OwnEnds p e below G (T.setTop (mkF m pc Ls (.int y' :: .int x' :: st))) := by
  subst hpn
  by_cases k : y' < x'
  · exact own_st (fun _ q => XS.icmpYes X.here C.1 rfl rfl (hb C.2.2.2.1 hd) rfl (((tlt k).2.2.1)) ho hp q) (hy (by rw [Int32.lt_iff_toInt_lt] at k; have q : y'.toInt = j := hj; omega))
  · exact own_st (fun _ q => XS.icmpNo X.here C.1 rfl (hb C.2.2.2.1 hd) rfl (((flt k).2.2.1)) q) (hn (by rw [Int32.lt_iff_toInt_lt] at k; have q : y'.toInt = j := hj; omega))
theorem own_icmple (X : Stand p l e R s m args below meth c T locs cells slots) (C : OwnCx p s m meth c Z y bs maxL rt) {x' y' : Int32} {o : Int} (hd : decode bs pc = .ok (.if_icmp .le o, 3)) (pn pc' : Nat) (hpn : pc + 3 = pn) (ho : 0 ≤ (pc : Int) + o) (hp : ((pc : Int) + o).toNat = pc') {i : Int} (hi : x'.toInt = i) {j : Int} (hj : y'.toInt = j) 
    (hy : i ≤ j → OwnEnds p e below G (T.setTop (mkF m pc' Ls st))) (hn : j < i → OwnEnds p e below G (T.setTop (mkF m pn Ls st))) : OwnEnds p e below G (T.setTop (mkF m pc Ls (.int y' :: .int x' :: st))) := by
  subst hpn
  by_cases k : y' < x'
  · exact own_st (fun _ q => XS.icmpNo X.here C.1 rfl (hb C.2.2.2.1 hd) rfl (((tlt k).2.2.2)) q) (hn (by rw [Int32.lt_iff_toInt_lt] at k; have q : y'.toInt = j := hj; omega))
  · exact own_st (fun _ q => XS.icmpYes X.here C.1 rfl rfl (hb C.2.2.2.1 hd) rfl (((flt k).2.2.2)) ho hp q) (hy (by rw [Int32.lt_iff_toInt_lt] at k; have q : y'.toInt = j := hj; omega))
theorem own_icmpeq (X : Stand p l e R s m args below meth c T locs cells slots) (C : OwnCx p s m meth c Z y bs maxL rt) {x' y' : Int32} {o : Int} (hd : decode bs pc = .ok (.if_icmp .eq o, 3)) (pn pc' : Nat) (hpn : pc + 3 = pn) (ho : 0 ≤ (pc : Int) + o) (hp : ((pc : Int) + o).toNat = pc') {i : Int} (hi : x'.toInt = i) {j : Int} (hj : y'.toInt = j) 
    (hy : i = j → OwnEnds p e below G (T.setTop (mkF m pc' Ls st))) (hn : i ≠ j → OwnEnds p e below G (T.setTop (mkF m pn Ls st))) : OwnEnds p e below G (T.setTop (mkF m pc Ls (.int y' :: .int x' :: st))) := by
  subst hpn
  by_cases k : x' = y'
  · exact own_st (fun _ q => XS.icmpYes X.here C.1 rfl rfl (hb C.2.2.2.1 hd) rfl (((teq k).1)) ho hp q) (hy (by subst k; exact hi.symm.trans hj))
  · exact own_st (fun _ q => XS.icmpNo X.here C.1 rfl (hb C.2.2.2.1 hd) rfl (((feq k).1)) q) (hn (fun q => k (Int32.toInt_inj.mp (hi.trans (q.trans hj.symm)))))
theorem own_icmpne (X : Stand p l e R s m args below meth c T locs cells slots) (C : OwnCx p s m meth c Z y bs maxL rt) {x' y' : Int32} {o : Int} (hd : decode bs pc = .ok (.if_icmp .ne o, 3)) (pn pc' : Nat) (hpn : pc + 3 = pn) (ho : 0 ≤ (pc : Int) + o) (hp : ((pc : Int) + o).toNat = pc') {i : Int} (hi : x'.toInt = i) {j : Int} (hj : y'.toInt = j) 
    (hy : i ≠ j → OwnEnds p e below G (T.setTop (mkF m pc' Ls st))) (hn : i = j → OwnEnds p e below G (T.setTop (mkF m pn Ls st))) : OwnEnds p e below G (T.setTop (mkF m pc Ls (.int y' :: .int x' :: st))) := by
  subst hpn
  by_cases k : x' = y'
  · exact own_st (fun _ q => XS.icmpNo X.here C.1 rfl (hb C.2.2.2.1 hd) rfl (((teq k).2)) q) (hn (by subst k; exact hi.symm.trans hj))
  · exact own_st (fun _ q => XS.icmpYes X.here C.1 rfl rfl (hb C.2.2.2.1 hd) rfl (((feq k).2)) ho hp q) (hy (fun q => k (Int32.toInt_inj.mp (hi.trans (q.trans hj.symm)))))
theorem own_iflt (X : Stand p l e R s m args below meth c T locs cells slots) (C : OwnCx p s m meth c Z y bs maxL rt) {x' : Int32} {o : Int} (hd : decode bs pc = .ok (.ifCond .lt o, 3)) (pn pc' : Nat) (hpn : pc + 3 = pn) (ho : 0 ≤ (pc : Int) + o) (hp : ((pc : Int) + o).toNat = pc') {i : Int} (hi : x'.toInt = i) 
    (hy : i < 0 → OwnEnds p e below G (T.setTop (mkF m pc' Ls st))) (hn : 0 ≤ i → OwnEnds p e below G (T.setTop (mkF m pn Ls st))) : OwnEnds p e below G (T.setTop (mkF m pc Ls (.int x' :: st))) := by
  subst hpn
  by_cases k : x' < (0 : Int32)
  · exact own_st (fun _ q => XS.ifYes X.here C.1 rfl rfl (hb C.2.2.2.1 hd) rfl ((if0 _ _).trans ((tlt k).1)) ho hp q) (hy (by rw [Int32.lt_iff_toInt_lt] at k; have q : (0 : Int32).toInt = 0 := (rfl : (0 : Int32).toInt = 0); omega))
  · exact own_st (fun _ q => XS.ifNo X.here C.1 rfl (hb C.2.2.2.1 hd) rfl ((if0 _ _).trans ((flt k).1)) q) (hn (by rw [Int32.lt_iff_toInt_lt] at k; have q : (0 : Int32).toInt = 0 := (rfl : (0 : Int32).toInt = 0); omega))
theorem own_ifge (X : Stand p l e R s m args below meth c T locs cells slots) (C : OwnCx p s m meth c Z y bs maxL rt) {x' : Int32} {o : Int} (hd : decode bs pc = .ok (.ifCond .ge o, 3)) (pn pc' : Nat) (hpn : pc + 3 = pn) (ho : 0 ≤ (pc : Int) + o) (hp : ((pc : Int) + o).toNat = pc') {i : Int} (hi : x'.toInt = i) 
    (hy : 0 ≤ i → OwnEnds p e below G (T.setTop (mkF m pc' Ls st))) (hn : i < 0 → OwnEnds p e below G (T.setTop (mkF m pn Ls st))) : OwnEnds p e below G (T.setTop (mkF m pc Ls (.int x' :: st))) := by
  subst hpn
  by_cases k : x' < (0 : Int32)
  · exact own_st (fun _ q => XS.ifNo X.here C.1 rfl (hb C.2.2.2.1 hd) rfl ((if0 _ _).trans ((tlt k).2.1)) q) (hn (by rw [Int32.lt_iff_toInt_lt] at k; have q : (0 : Int32).toInt = 0 := (rfl : (0 : Int32).toInt = 0); omega))
  · exact own_st (fun _ q => XS.ifYes X.here C.1 rfl rfl (hb C.2.2.2.1 hd) rfl ((if0 _ _).trans ((flt k).2.1)) ho hp q) (hy (by rw [Int32.lt_iff_toInt_lt] at k; have q : (0 : Int32).toInt = 0 := (rfl : (0 : Int32).toInt = 0); omega))
theorem own_ifgt (X : Stand p l e R s m args below meth c T locs cells slots) (C : OwnCx p s m meth c Z y bs maxL rt) {x' : Int32} {o : Int} (hd : decode bs pc = .ok (.ifCond .gt o, 3)) (pn pc' : Nat) (hpn : pc + 3 = pn) (ho : 0 ≤ (pc : Int) + o) (hp : ((pc : Int) + o).toNat = pc') {i : Int} (hi : x'.toInt = i) 
    (hy : 0 < i → OwnEnds p e below G (T.setTop (mkF m pc' Ls st))) (hn : i ≤ 0 → OwnEnds p e below G (T.setTop (mkF m pn Ls st))) : OwnEnds p e below G (T.setTop (mkF m pc Ls (.int x' :: st))) := by
  subst hpn
  by_cases k : (0 : Int32) < x'
  · exact own_st (fun _ q => XS.ifYes X.here C.1 rfl rfl (hb C.2.2.2.1 hd) rfl ((if0 _ _).trans ((tlt k).2.2.1)) ho hp q) (hy (by rw [Int32.lt_iff_toInt_lt] at k; have q : (0 : Int32).toInt = 0 := (rfl : (0 : Int32).toInt = 0); omega))
  · exact own_st (fun _ q => XS.ifNo X.here C.1 rfl (hb C.2.2.2.1 hd) rfl ((if0 _ _).trans ((flt k).2.2.1)) q) (hn (by rw [Int32.lt_iff_toInt_lt] at k; have q : (0 : Int32).toInt = 0 := (rfl : (0 : Int32).toInt = 0); omega))
theorem own_ifle (X : Stand p l e R s m args below meth c T locs cells slots) (C : OwnCx p s m meth c Z y bs maxL rt) {x' : Int32} {o : Int} (hd : decode bs pc = .ok (.ifCond .le o, 3)) (pn pc' : Nat) (hpn : pc + 3 = pn) (ho : 0 ≤ (pc : Int) + o) (hp : ((pc : Int) + o).toNat = pc') {i : Int} (hi : x'.toInt = i) 
    (hy : i ≤ 0 → OwnEnds p e below G (T.setTop (mkF m pc' Ls st))) (hn : 0 < i → OwnEnds p e below G (T.setTop (mkF m pn Ls st))) : OwnEnds p e below G (T.setTop (mkF m pc Ls (.int x' :: st))) := by
  subst hpn
  by_cases k : (0 : Int32) < x'
  · exact own_st (fun _ q => XS.ifNo X.here C.1 rfl (hb C.2.2.2.1 hd) rfl ((if0 _ _).trans ((tlt k).2.2.2)) q) (hn (by rw [Int32.lt_iff_toInt_lt] at k; have q : (0 : Int32).toInt = 0 := (rfl : (0 : Int32).toInt = 0); omega))
  · exact own_st (fun _ q => XS.ifYes X.here C.1 rfl rfl (hb C.2.2.2.1 hd) rfl ((if0 _ _).trans ((flt k).2.2.2)) ho hp q) (hy (by rw [Int32.lt_iff_toInt_lt] at k; have q : (0 : Int32).toInt = 0 := (rfl : (0 : Int32).toInt = 0); omega))
theorem own_ifeq (X : Stand p l e R s m args below meth c T locs cells slots) (C : OwnCx p s m meth c Z y bs maxL rt) {x' : Int32} {o : Int} (hd : decode bs pc = .ok (.ifCond .eq o, 3)) (pn pc' : Nat) (hpn : pc + 3 = pn) (ho : 0 ≤ (pc : Int) + o) (hp : ((pc : Int) + o).toNat = pc') {i : Int} (hi : x'.toInt = i) 
    (hy : i = 0 → OwnEnds p e below G (T.setTop (mkF m pc' Ls st))) (hn : i ≠ 0 → OwnEnds p e below G (T.setTop (mkF m pn Ls st))) : OwnEnds p e below G (T.setTop (mkF m pc Ls (.int x' :: st))) := by
  subst hpn
  by_cases k : x' = (0 : Int32)
  · exact own_st (fun _ q => XS.ifYes X.here C.1 rfl rfl (hb C.2.2.2.1 hd) rfl ((if0 _ _).trans ((teq k).1)) ho hp q) (hy (by subst k; exact hi.symm.trans (rfl : (0 : Int32).toInt = 0)))
  · exact own_st (fun _ q => XS.ifNo X.here C.1 rfl (hb C.2.2.2.1 hd) rfl ((if0 _ _).trans ((feq k).1)) q) (hn (fun q => k (Int32.toInt_inj.mp (hi.trans (q.trans (rfl : (0 : Int32).toInt = 0).symm)))))
theorem own_ifne (X : Stand p l e R s m args below meth c T locs cells slots) (C : OwnCx p s m meth c Z y bs maxL rt) {x' : Int32} {o : Int} (hd : decode bs pc = .ok (.ifCond .ne o, 3)) (pn pc' : Nat) (hpn : pc + 3 = pn) (ho : 0 ≤ (pc : Int) + o) (hp : ((pc : Int) + o).toNat = pc') {i : Int} (hi : x'.toInt = i) 
    (hy : i ≠ 0 → OwnEnds p e below G (T.setTop (mkF m pc' Ls st))) (hn : i = 0 → OwnEnds p e below G (T.setTop (mkF m pn Ls st))) : OwnEnds p e below G (T.setTop (mkF m pc Ls (.int x' :: st))) := by
  subst hpn
  by_cases k : x' = (0 : Int32)
  · exact own_st (fun _ q => XS.ifNo X.here C.1 rfl (hb C.2.2.2.1 hd) rfl ((if0 _ _).trans ((teq k).2)) q) (hn (by subst k; exact hi.symm.trans (rfl : (0 : Int32).toInt = 0)))
  · exact own_st (fun _ q => XS.ifYes X.here C.1 rfl rfl (hb C.2.2.2.1 hd) rfl ((if0 _ _).trans ((feq k).2)) ho hp q) (hy (fun q => k (Int32.toInt_inj.mp (hi.trans (q.trans (rfl : (0 : Int32).toInt = 0).symm)))))
theorem own_ifnonnull_y (X : Stand p l e R s m args below meth c T locs cells slots) (C : OwnCx p s m meth c Z y bs maxL rt) {b : Addr} {o : Int} (hd : decode bs pc = .ok (.ifnonnull o, 3)) (pc' : Nat) (ho : 0 ≤ (pc : Int) + o) (hp : ((pc : Int) + o).toNat = pc')
    (hr : OwnEnds p e below G (T.setTop (mkF m pc' Ls st))) : OwnEnds p e below G (T.setTop (mkF m pc Ls (.ref b :: st))) :=
  own_st (fun _ q => XS.ifnonnullYes X.here C.1 rfl rfl (hb C.2.2.2.1 hd) rfl ho hp q) hr
theorem own_ifnull_n (X : Stand p l e R s m args below meth c T locs cells slots) (C : OwnCx p s m meth c Z y bs maxL rt) {b : Addr} {o : Int} (hd : decode bs pc = .ok (.ifnull o, 3)) (pn : Nat) (hp : pc + 3 = pn)
    (hr : OwnEnds p e below G (T.setTop (mkF m pn Ls st))) : OwnEnds p e below G (T.setTop (mkF m pc Ls (.ref b :: st))) := by
  subst hp; exact own_st (fun _ q => XS.ifnullNo X.here C.1 rfl (hb C.2.2.2.1 hd) rfl q) hr
theorem own_ifnull_y (X : Stand p l e R s m args below meth c T locs cells slots) (C : OwnCx p s m meth c Z y bs maxL rt) {o : Int} (hd : decode bs pc = .ok (.ifnull o, 3)) (pc' : Nat) (ho : 0 ≤ (pc : Int) + o) (hp : ((pc : Int) + o).toNat = pc')
    (hr : OwnEnds p e below G (T.setTop (mkF m pc' Ls st))) : OwnEnds p e below G (T.setTop (mkF m pc Ls (.null :: st))) :=
  own_st (fun _ q => XS.ifnullYes X.here C.1 rfl rfl (hb C.2.2.2.1 hd) rfl ho hp q) hr
theorem own_ifnonnull_n (X : Stand p l e R s m args below meth c T locs cells slots) (C : OwnCx p s m meth c Z y bs maxL rt) {o : Int} (hd : decode bs pc = .ok (.ifnonnull o, 3)) (pn : Nat) (hp : pc + 3 = pn)
    (hr : OwnEnds p e below G (T.setTop (mkF m pn Ls st))) : OwnEnds p e below G (T.setTop (mkF m pc Ls (.null :: st))) := by
  subst hp; exact own_st (fun _ q => XS.ifnonnullNo X.here C.1 rfl (hb C.2.2.2.1 hd) rfl q) hr
theorem own_acmpeq (X : Stand p l e R s m args below meth c T locs cells slots) (C : OwnCx p s m meth c Z y bs maxL rt) {a b : Addr} {o : Int} (hd : decode bs pc = .ok (.if_acmp .eq o, 3)) (pn pc' : Nat) (hpn : pc + 3 = pn) (ho : 0 ≤ (pc : Int) + o) (hp : ((pc : Int) + o).toNat = pc')
    (hy : a = b → OwnEnds p e below G (T.setTop (mkF m pc' Ls st))) (hn : a ≠ b → OwnEnds p e below G (T.setTop (mkF m pn Ls st))) : OwnEnds p e below G (T.setTop (mkF m pc Ls (.ref b :: .ref a :: st))) := by
  subst hpn
  by_cases k : a = b
  · exact own_st (fun _ q => XS.acmpYes X.here C.1 rfl rfl (hb C.2.2.2.1 hd) rfl (by simp [if_acmp.holds, k]) ho hp q) (hy k)
  · exact own_st (fun _ q => XS.acmpNo X.here C.1 rfl (hb C.2.2.2.1 hd) rfl (by simp [if_acmp.holds, k]) q) (hn k)
theorem own_acmpne (X : Stand p l e R s m args below meth c T locs cells slots) (C : OwnCx p s m meth c Z y bs maxL rt) {a b : Addr} {o : Int} (hd : decode bs pc = .ok (.if_acmp .ne o, 3)) (pn pc' : Nat) (hpn : pc + 3 = pn) (ho : 0 ≤ (pc : Int) + o) (hp : ((pc : Int) + o).toNat = pc')
    (hy : a ≠ b → OwnEnds p e below G (T.setTop (mkF m pc' Ls st))) (hn : a = b → OwnEnds p e below G (T.setTop (mkF m pn Ls st))) : OwnEnds p e below G (T.setTop (mkF m pc Ls (.ref b :: .ref a :: st))) := by
  subst hpn
  by_cases k : a = b
  · exact own_st (fun _ q => XS.acmpNo X.here C.1 rfl (hb C.2.2.2.1 hd) rfl (by simp [if_acmp.holds, k]) q) (hn k)
  · exact own_st (fun _ q => XS.acmpYes X.here C.1 rfl rfl (hb C.2.2.2.1 hd) rfl (by simp [if_acmp.holds, k]) ho hp q) (hy k)
theorem own_leave (X : Stand p l e R s m args below meth c T locs cells slots) (C : OwnCx p s m meth c Z y bs maxL rt) (v : Option Value) (hv : meth.sig.returnType = none → v = none) (hce : cells ≤ ce) (hsl : slots ≤ sl) (hQ : Q v T.heap locs) {S : State}
    (k : ∀ fs, (∀ (f : JFrame) (acts : List Action), f.method = m → f.locked = none → f.entered = [] → (doReturn e (T.setTop f) acts v).1 = T.setFrames fs) → Steps p.tables e below S (T.setFrames fs)) : OwnEnds p e below (OwnG s ce sl Q) S := by
  obtain ⟨fs, hr, hrun, hended, hW, hsame⟩ := X.leave (v := v) hv C.2.2.2.2.2.2.1
  exact ⟨_, _, k fs hr, hrun, hended, _, _, rfl, hQ, ⟨_, rfl⟩, hW, hsame.mono hce hsl⟩
theorem own_return (X : Stand p l e R s m args below meth c T locs cells slots) (C : OwnCx p s m meth c Z y bs maxL rt) (hrt : rt = none) (hd : decode bs pc = .ok (.return_, 1)) (hce : cells ≤ ce) (hsl : slots ≤ sl) (hQ : Q none T.heap locs) : OwnEnds p e below (OwnG s ce sl Q) (T.setTop (mkF m pc Ls [])) := by
  subst hrt
  exact own_leave X C none (fun _ => rfl) hce hsl hQ fun fs hr => X.returnOut C.1 C.2.2.2.2.2.1 (hb C.2.2.2.1 hd) hr
theorem own_iretN (X : Stand p l e R s m args below meth c T locs cells slots) (C : OwnCx p s m meth c Z y bs maxL rt) {z : Int32} (t : FieldType) (hrt : rt = some t) (ht : t = .boolean ∨ t = .byte ∨ t = .char ∨ t = .short) (hd : decode bs pc = .ok (.ireturn, 1)) (hce : cells ≤ ce) (hsl : slots ≤ sl) (w : Int32) (hw : nar t z = w) (hQ : Q (some (.int w)) T.heap locs) : OwnEnds p e below (OwnG s ce sl Q) (T.setTop (mkF m pc Ls (.int z :: st))) := by
  subst hrt hw
  exact own_leave X C (some (.int (nar t z))) (fun q => by rw [C.2.2.2.2.2.1] at q; cases q) hce hsl hQ fun fs hr => retN X C.1 C.2.2.2.2.2.1 ht (hb C.2.2.2.1 hd) hr
theorem own_ireturn (X : Stand p l e R s m args below meth c T locs cells slots) (C : OwnCx p s m meth c Z y bs maxL rt) {z : Int32} (hrt : rt = some .int) (hd : decode bs pc = .ok (.ireturn, 1)) (hce : cells ≤ ce) (hsl : slots ≤ sl) (hQ : Q (some (.int z)) T.heap locs) : OwnEnds p e below (OwnG s ce sl Q) (T.setTop (mkF m pc Ls (.int z :: st))) := by
  subst hrt
  exact own_leave X C (some (.int z)) (fun q => by rw [C.2.2.2.2.2.1] at q; cases q) hce hsl hQ fun fs hr => retOut X C.1 C.2.2.2.2.2.1 rfl (Or.inl ⟨rfl, Or.inl rfl, z, rfl⟩) (hb C.2.2.2.1 hd) hr
theorem own_lreturn (X : Stand p l e R s m args below meth c T locs cells slots) (C : OwnCx p s m meth c Z y bs maxL rt) {z : Int64} (hrt : rt = some .long) (hd : decode bs pc = .ok (.lreturn, 1)) (hce : cells ≤ ce) (hsl : slots ≤ sl) (hQ : Q (some (.long z)) T.heap locs) : OwnEnds p e below (OwnG s ce sl Q) (T.setTop (mkF m pc Ls (.long z :: st))) := by
  subst hrt
  exact own_leave X C (some (.long z)) (fun q => by rw [C.2.2.2.2.2.1] at q; cases q) hce hsl hQ fun fs hr => retOut X C.1 C.2.2.2.2.2.1 rfl (Or.inr (Or.inl ⟨rfl, rfl, z, rfl⟩)) (hb C.2.2.2.1 hd) hr
theorem own_areturn (X : Stand p l e R s m args below meth c T locs cells slots) (C : OwnCx p s m meth c Z y bs maxL rt) {z : Value} (t : FieldType) (hrt : rt = some t) (ht : t.isReference = true) (hz : z.isRef = true) (hn : narrow t z = z) (hd : decode bs pc = .ok (.areturn, 1)) (hce : cells ≤ ce) (hsl : slots ≤ sl) (hQ : Q (some z) T.heap locs) : OwnEnds p e below (OwnG s ce sl Q) (T.setTop (mkF m pc Ls (z :: st))) := by
  subst hrt
  exact own_leave X C (some z) (fun q => by rw [C.2.2.2.2.2.1] at q; cases q) hce hsl hQ fun fs hr => retOut X C.1 C.2.2.2.2.2.1 hn (Or.inr (Or.inr (Or.inr (Or.inr ⟨rfl, ht, hz⟩)))) (hb C.2.2.2.1 hd) hr
theorem own_callS (X : Stand p l e R s m args below meth c T locs cells slots) (C : OwnCx p s m meth c Z y bs maxL rt) {idx : Nat} {y' : MethodName} {bs' : ByteArray} {maxL' : Nat} {rt' : Option FieldType} {rm : Room} {as' : Array Value} {Q' : Option Value → Heap → List Loc → Prop}
    (w1 : (Jvm.Cond.methodLink y.cls idx y').before a0 Z = true) (w2 : (Jvm.Cond.static y').before a0 Z = true) (w3 : (Jvm.Cond.initialized y'.cls).before a0 Z = true) (w4 : (Jvm.Cond.code y' bs' maxL' rt').before a0 Z = true) (hy : y'.cls ≠ "java/lang/invoke/MethodHandle" ∧ y'.cls ≠ "java/lang/invoke/VarHandle")
    (hM : OwnMet l Z y' bs' maxL' rt' [] rm as' h Q') (eT : T.heap = h) {ps : List FieldType} {r : Option FieldType} (hpd : parseMethodDescriptor y'.desc = some ⟨ps, r⟩) (argsL : List Value) (has : argsL.toArray = as') (hlen : argsL.length = ps.length) (hst : st = argsL.reverse ++ rest) (hsz : Ls.size = maxL)
    (W : Nat) (hW : (rest.map fun v => v.category).sum = W) (hf : rm.frames + 1 ≤ R.frames) (hlo : W + (maxL' + 11) + rm.locals ≤ R.locals) (hce : cells + rm.cells ≤ R.cells) (hsl : slots + rm.slots ≤ R.slots) (hd : decode bs pc = .ok (.invokestatic idx, 3)) (pc' : Nat) (hp : pc + 3 = pc')
    (hr : ∀ T' L v, Stand p l e R s m args below meth c T' (locs ++ L) (cells + rm.cells) (slots + rm.slots) → Q' v T'.heap L → OwnEnds p e below G (T'.setTop (mkF m pc' Ls (v.toList ++ rest)))) : OwnEnds p e below G (T.setTop (mkF m pc Ls st)) := by
  subst hp has hW
  obtain ⟨v, _, ⟨T', L, k, n⟩, -, X', ⟨L', hQ, l1, l2, l3⟩, stp⟩ := Jvm.LawKit.callS X C.1 C.2.2.1 (mvT C.2.1 w1) (mvT C.2.1 w2) (mvT C.2.1 w3) (mvT C.2.1 w4) hy (backOf (len := 3) (W := (rest.map fun v => v.category).sum) hM C.2.1 w4 w3 hf hlo) (g := mkF m pc Ls st) rfl (by rw [C.2.2.2.2.1]; exact hsz) (argsL := argsL) (rest := rest) (lenOf hpd hlen) hst (by show 2 * 0 + _ ≤ _; omega) (hb C.2.2.2.1 hd) (fun _ _ => ⟨rfl, eT, hce, hsl⟩)
  dsimp only [Pt.U, Pt.locs, Pt.cells, Pt.slots] at X' l1 l2 l3 stp hQ
  subst l1 l2 l3
  exact own_st stp (hr T' L' v X' hQ)
/-- a callee that returns w and leaves the heap alone -/
def OwnPure (w : Value) (h : Heap) : Option Value → Heap → List Loc → Prop := fun v h' L => v = some w ∧ h' = h ∧ L = []
theorem own_conv {ws : List Jvm.Cond} {rm : Room} {as' : Array Value} {w w' : Value} (H : OwnMet l Z y bs maxL rt ws rm as' h (OwnPure w h)) (q : w = w') : OwnMet l Z y bs maxL rt ws rm as' h (OwnPure w' h) := q ▸ H
theorem own_callP (X : Stand p l e R s m args below meth c T locs cells slots) (C : OwnCx p s m meth c Z y bs maxL rt) {idx : Nat} {y' : MethodName} {bs' : ByteArray} {maxL' : Nat} {rt' : Option FieldType} {rm : Room} {as' : Array Value} {w : Value}
    (w1 : (Jvm.Cond.methodLink y.cls idx y').before a0 Z = true) (w2 : (Jvm.Cond.static y').before a0 Z = true) (w3 : (Jvm.Cond.initialized y'.cls).before a0 Z = true) (w4 : (Jvm.Cond.code y' bs' maxL' rt').before a0 Z = true) (hy : y'.cls ≠ "java/lang/invoke/MethodHandle" ∧ y'.cls ≠ "java/lang/invoke/VarHandle")
    (hM : OwnMet l Z y' bs' maxL' rt' [] rm as' h (OwnPure w h)) (eT : T.heap = h) {ps : List FieldType} {r : Option FieldType} (hpd : parseMethodDescriptor y'.desc = some ⟨ps, r⟩) (argsL : List Value) (has : argsL.toArray = as') (hlen : argsL.length = ps.length) (hst : st = argsL.reverse ++ rest) (hsz : Ls.size = maxL)
    (W : Nat) (hW : (rest.map fun v => v.category).sum = W) (hf : rm.frames + 1 ≤ R.frames) (hlo : W + (maxL' + 11) + rm.locals ≤ R.locals) (hce : rm.cells = 0) (hsl : rm.slots = 0) (hc0 : cells ≤ R.cells) (hs0 : slots ≤ R.slots) (hd : decode bs pc = .ok (.invokestatic idx, 3)) (pc' : Nat) (hp : pc + 3 = pc')
    (hr : ∀ T', Stand p l e R s m args below meth c T' locs cells slots → T'.heap = h → OwnEnds p e below G (T'.setTop (mkF m pc' Ls (w :: rest)))) : OwnEnds p e below G (T.setTop (mkF m pc Ls st)) := by
  refine own_callS X C w1 w2 w3 w4 hy hM eT hpd argsL has hlen hst hsz W hW hf hlo (by omega) (by omega) hd pc' hp ?_
  rintro T' L v X' ⟨rfl, e, rfl⟩
  rw [List.append_nil, hce, hsl] at X'
  exact hr T' X' e
/-- a callee that leaves the heap alone and returns a value of which Pw says something -/
def OwnSome (Pw : Value → Prop) (h : Heap) : Option Value → Heap → List Loc → Prop := fun v h' L => (∃ w, v = some w ∧ Pw w) ∧ h' = h ∧ L = []
theorem own_callE (X : Stand p l e R s m args below meth c T locs cells slots) (C : OwnCx p s m meth c Z y bs maxL rt) {idx : Nat} {y' : MethodName} {bs' : ByteArray} {maxL' : Nat} {rt' : Option FieldType} {rm : Room} {as' : Array Value} {Pw : Value → Prop}
    (w1 : (Jvm.Cond.methodLink y.cls idx y').before a0 Z = true) (w2 : (Jvm.Cond.static y').before a0 Z = true) (w3 : (Jvm.Cond.initialized y'.cls).before a0 Z = true) (w4 : (Jvm.Cond.code y' bs' maxL' rt').before a0 Z = true) (hy : y'.cls ≠ "java/lang/invoke/MethodHandle" ∧ y'.cls ≠ "java/lang/invoke/VarHandle")
    (hM : OwnMet l Z y' bs' maxL' rt' [] rm as' h (OwnSome Pw h)) (eT : T.heap = h) {ps : List FieldType} {r : Option FieldType} (hpd : parseMethodDescriptor y'.desc = some ⟨ps, r⟩) (argsL : List Value) (has : argsL.toArray = as') (hlen : argsL.length = ps.length) (hst : st = argsL.reverse ++ rest) (hsz : Ls.size = maxL)
    (W : Nat) (hW : (rest.map fun v => v.category).sum = W) (hf : rm.frames + 1 ≤ R.frames) (hlo : W + (maxL' + 11) + rm.locals ≤ R.locals) (hce : rm.cells = 0) (hsl : rm.slots = 0) (hc0 : cells ≤ R.cells) (hs0 : slots ≤ R.slots) (hd : decode bs pc = .ok (.invokestatic idx, 3)) (pc' : Nat) (hp : pc + 3 = pc')
    (hr : ∀ T' w, Pw w → Stand p l e R s m args below meth c T' locs cells slots → T'.heap = h → OwnEnds p e below G (T'.setTop (mkF m pc' Ls (w :: rest)))) : OwnEnds p e below G (T.setTop (mkF m pc Ls st)) := by
  refine own_callS X C w1 w2 w3 w4 hy hM eT hpd argsL has hlen hst hsz W hW hf hlo (by omega) (by omega) hd pc' hp ?_
  rintro T' L v X' ⟨⟨w, rfl, hw⟩, e, rfl⟩
  rw [List.append_nil, hce, hsl] at X'
  exact hr T' w hw X' e
end OwnLayer
section OwnHeap
variable {p : Program} {l : Launch} {e : Env} {R : Room} {s : State} {m : MethodId} {args : Array Value} {below : List Frame} {meth : Method} {c : Code} {T : State} {locs : List Loc} {cells slots : Nat} {Z : State} {y : MethodName} {bs : ByteArray} {maxL : Nat} {rt : Option FieldType} {ce sl : Nat} {Q : Option Value → Heap → List Loc → Prop} {G : Outcome → State → Prop} {pc : Nat} {Ls : Array Slot} {st rest : List Value} {h h' : Heap} {a0 : Array Value} {a : Addr}
/-- an array: its length and what lies at each place -/
def OwnAr (Z : State) (h : Heap) (a : Addr) (ty : FieldType) (n : Nat) (f : Nat → Value) : Prop := ∃ cl : Cell, Arr Z h a cl ty ∧ cl.slots.size = n ∧ ∀ i, i < n → cl.slots[i]? = some (f i)
theorem OwnAr.lt {ty : FieldType} {n : Nat} {f : Nat → Value} (F : OwnAr Z h a ty n f) : a < h.size := by obtain ⟨cl, A, -⟩ := F; exact A.lt
theorem OwnAr.ext {ty : FieldType} {n : Nat} {f : Nat → Value} (F : OwnAr Z h a ty n f) (E : Ext h h') : OwnAr Z h' a ty n f := by obtain ⟨cl, A, r⟩ := F; exact ⟨cl, A.ext E, r⟩
theorem OwnAr.other {ty : FieldType} {n : Nat} {f : Nat → Value} {b : Addr} {sl : Nat} {v : Value} (F : OwnAr Z h a ty n f) (W : Wr h h' b sl v) (q : a ≠ b) : OwnAr Z h' a ty n f := by obtain ⟨cl, A, r⟩ := F; exact ⟨cl, A.other W q, r⟩
theorem OwnAr.keep {ty : FieldType} {n : Nat} {f : Nat → Value} {ws : List Addr} (F : OwnAr Z h a ty n f) (K : Keep h h' ws) (q : a ∉ ws) : OwnAr Z h' a ty n f := by obtain ⟨cl, A, r⟩ := F; exact ⟨cl, ⟨K.2.1 a cl A.1 q, A.2⟩, r⟩
theorem OwnAr.eqv {ty : FieldType} {n : Nat} {f g : Nat → Value} (F : OwnAr Z h a ty n f) (q : ∀ i, i < n → f i = g i) : OwnAr Z h a ty n g := by obtain ⟨cl, A, S, r⟩ := F; exact ⟨cl, A, S, fun i hi => by rw [r i hi, q i hi]⟩
theorem OwnAr.set {ty : FieldType} {n : Nat} {f : Nat → Value} {k : Nat} {v : Value} (F : OwnAr Z h a ty n f) (W : Wr h h' a k v) : OwnAr Z h' a ty n (fun i => if i = k then v else f i) := by
  obtain ⟨cl, A, S, r⟩ := F
  obtain ⟨cl', w1, w2, w3, w4⟩ := id W
  cases A.1.symm.trans w1
  refine ⟨cl.setSlot k v, A.same W, by rw [sz_set]; exact S, fun i hi => ?_⟩
  by_cases q : i = k
  · subst q; simp [Cell.setSlot, w3]
  · simp [Cell.setSlot, q, Array.getElem?_setIfInBounds_ne (Ne.symm q), r i hi]
theorem OwnAr.new {ty : FieldType} {n : Int32} {cA : ClassId} (A : Arr Z h a (newA cA ty n) ty) : OwnAr Z h a ty n.toNatClampNeg (fun _ => defaultValue ty) := ⟨_, A, sz_new _ _ _, fun i hi => by simp [newA, hi]⟩
theorem own_fr1 {k : Nat} {L : List Loc} {a : Addr} {sl : Nat} (N : Fr k L) (q : k ≤ a) : Fr k (L ++ [⟨a, sl⟩]) := N.app fun y hy => by cases List.mem_singleton.mp hy; exact q
theorem own_stak {C n d : String} {v : Value} (F : Sta Z h C n d v) (K : Keep h h' []) : Sta Z h' C n d v := by
  obtain ⟨cf, i, k, f, st, cell, h1, h2, h3, h4, h5, r⟩ := F
  exact ⟨cf, i, k, f, st, cell, h1, h2, h3, h4, K.2.1 _ _ h5 nin0, r⟩
theorem own_arl {a : Nat} {ty : FieldType} {n : Nat} {f : Nat → Value} (F : OwnAr Z h a ty n f) : a < h.size := F.lt
theorem own_exl {a : Nat} {K : String} (F : Exa Z h a K) : a < h.size := F.lt
theorem own_iteI {q : Prop} [Decidable q] {a b : Int32} : (if q then Value.int a else Value.int b) = Value.int (if q then a else b) := by split <;> rfl
theorem own_iteL {q : Prop} [Decidable q] {a b : Int64} : (if q then Value.long a else Value.long b) = Value.long (if q then a else b) := by split <;> rfl
theorem own_ne {x y : Nat} (q : x ≠ y) : @Ne Addr x y := q
theorem own_in {j : Int32} {n : Nat} (h0 : 0 ≤ j.toInt) (h1 : j.toInt < n) : ¬ (j < 0 ∨ n ≤ j.toNatClampNeg) := by
  rintro (q | q)
  · rw [Int32.lt_iff_toInt_lt] at q; have : (0 : Int32).toInt = 0 := rfl; omega
  · have e : j.toNatClampNeg = j.toInt.toNat := rfl
    omega
theorem own_len {n : Nat} (h : n < 2147483648) : (n.toInt32).toInt = n := by
  show (Int32.ofNat n).toInt = _
  rw [Int32.toInt_ofNat_of_lt (by omega)]
theorem own_iastore (X : Stand p l e R s m args below meth c T locs cells slots) (C : OwnCx p s m meth c Z y bs maxL rt) {v : Int32} {j : Int32} {n : Nat} {f : Nat → Value} (eT : T.heap = h) (F : OwnAr Z h a .int n f) (h0 : 0 ≤ j.toInt) (h1 : j.toInt < n) (hd : decode bs pc = .ok (.iastore, 1)) (pc' : Nat) (hp : pc + 1 = pc')
    (hr : ∀ T' h', Stand p l e R s m args below meth c T' (locs ++ [⟨a, j.toInt.toNat⟩]) cells slots → T'.heap = h' → Wr h h' a j.toInt.toNat (.int v) → OwnEnds p e below G (T'.setTop (mkF m pc' Ls st))) : OwnEnds p e below G (T.setTop (mkF m pc Ls ((.int v) :: .int j :: .ref a :: st))) := by
  subst hp
  obtain ⟨cl, A, S, r⟩ := F
  obtain ⟨T', h', X', e', W, stp⟩ := stI X C.1 C.2.1 eT A (j := j) (x := v) (by rw [S]; exact own_in h0 h1) (g := mkF m pc Ls _) rfl rfl (hb C.2.2.2.1 hd)
  exact own_st stp (hr T' h' X' e' W)
theorem own_lastore (X : Stand p l e R s m args below meth c T locs cells slots) (C : OwnCx p s m meth c Z y bs maxL rt) {v : Int64} {j : Int32} {n : Nat} {f : Nat → Value} (eT : T.heap = h) (F : OwnAr Z h a .long n f) (h0 : 0 ≤ j.toInt) (h1 : j.toInt < n) (hd : decode bs pc = .ok (.lastore, 1)) (pc' : Nat) (hp : pc + 1 = pc')
    (hr : ∀ T' h', Stand p l e R s m args below meth c T' (locs ++ [⟨a, j.toInt.toNat⟩]) cells slots → T'.heap = h' → Wr h h' a j.toInt.toNat (.long v) → OwnEnds p e below G (T'.setTop (mkF m pc' Ls st))) : OwnEnds p e below G (T.setTop (mkF m pc Ls ((.long v) :: .int j :: .ref a :: st))) := by
  subst hp
  obtain ⟨cl, A, S, r⟩ := F
  obtain ⟨T', h', X', e', W, stp⟩ := stJ X C.1 C.2.1 eT A (j := j) (x := v) (by rw [S]; exact own_in h0 h1) (g := mkF m pc Ls _) rfl rfl (hb C.2.2.2.1 hd)
  exact own_st stp (hr T' h' X' e' W)
theorem own_bastoreB (X : Stand p l e R s m args below meth c T locs cells slots) (C : OwnCx p s m meth c Z y bs maxL rt) {v : Int32} {j : Int32} {n : Nat} {f : Nat → Value} (eT : T.heap = h) (F : OwnAr Z h a .byte n f) (h0 : 0 ≤ j.toInt) (h1 : j.toInt < n) (hd : decode bs pc = .ok (.bastore, 1)) (pc' : Nat) (hp : pc + 1 = pc') (w : Int32) (hw : v.toInt8.toInt32 = w)
    (hr : ∀ T' h', Stand p l e R s m args below meth c T' (locs ++ [⟨a, j.toInt.toNat⟩]) cells slots → T'.heap = h' → Wr h h' a j.toInt.toNat (.int w) → OwnEnds p e below G (T'.setTop (mkF m pc' Ls st))) : OwnEnds p e below G (T.setTop (mkF m pc Ls (.int v :: .int j :: .ref a :: st))) := by
  subst hp hw
  obtain ⟨cl, A, S, r⟩ := F
  obtain ⟨T', h', X', e', W, stp⟩ := stB X C.1 C.2.1 eT A (j := j) (x := v) (by rw [S]; exact own_in h0 h1) (g := mkF m pc Ls _) rfl rfl (hb C.2.2.2.1 hd)
  exact own_st stp (hr T' h' X' e' W)
theorem own_castore (X : Stand p l e R s m args below meth c T locs cells slots) (C : OwnCx p s m meth c Z y bs maxL rt) {v : Int32} {j : Int32} {n : Nat} {f : Nat → Value} (eT : T.heap = h) (F : OwnAr Z h a .char n f) (h0 : 0 ≤ j.toInt) (h1 : j.toInt < n) (hd : decode bs pc = .ok (.castore, 1)) (pc' : Nat) (hp : pc + 1 = pc') (w : Int32) (hw : nar .char v = w)
    (hr : ∀ T' h', Stand p l e R s m args below meth c T' (locs ++ [⟨a, j.toInt.toNat⟩]) cells slots → T'.heap = h' → Wr h h' a j.toInt.toNat (.int w) → OwnEnds p e below G (T'.setTop (mkF m pc' Ls st))) : OwnEnds p e below G (T.setTop (mkF m pc Ls (.int v :: .int j :: .ref a :: st))) := by
  subst hp hw
  obtain ⟨cl, A, S, r⟩ := F
  obtain ⟨T', h', X', e', W, stp⟩ := stC X C.1 C.2.1 eT A (j := j) (x := v) (by rw [S]; exact own_in h0 h1) (g := mkF m pc Ls _) rfl rfl (hb C.2.2.2.1 hd)
  exact own_st stp (hr T' h' X' e' W)
theorem own_bastoreZ (X : Stand p l e R s m args below meth c T locs cells slots) (C : OwnCx p s m meth c Z y bs maxL rt) {v : Int32} {j : Int32} {n : Nat} {f : Nat → Value} (eT : T.heap = h) (F : OwnAr Z h a .boolean n f) (h0 : 0 ≤ j.toInt) (h1 : j.toInt < n) (hd : decode bs pc = .ok (.bastore, 1)) (pc' : Nat) (hp : pc + 1 = pc') (w : Int32) (hw : nar .boolean v = w)
    (hr : ∀ T' h', Stand p l e R s m args below meth c T' (locs ++ [⟨a, j.toInt.toNat⟩]) cells slots → T'.heap = h' → Wr h h' a j.toInt.toNat (.int w) → OwnEnds p e below G (T'.setTop (mkF m pc' Ls st))) : OwnEnds p e below G (T.setTop (mkF m pc Ls (.int v :: .int j :: .ref a :: st))) := by
  subst hp hw
  obtain ⟨cl, A, S, r⟩ := F
  obtain ⟨T', h', X', e', W, stp⟩ := stZ X C.1 C.2.1 eT A (j := j) (x := v) (by rw [S]; exact own_in h0 h1) (g := mkF m pc Ls _) rfl rfl (hb C.2.2.2.1 hd)
  exact own_st stp (hr T' h' X' e' W)
theorem own_iaload (X : Stand p l e R s m args below meth c T locs cells slots) (C : OwnCx p s m meth c Z y bs maxL rt) {j : Int32} {n : Nat} {f : Nat → Value} (eT : T.heap = h) (F : OwnAr Z h a .int n f) (h0 : 0 ≤ j.toInt) (h1 : j.toInt < n) (hd : decode bs pc = .ok (.iaload, 1)) (pc' : Nat) (hp : pc + 1 = pc') (v : Value) (hv : f j.toInt.toNat = v)
    (hr : OwnEnds p e below G (T.setTop (mkF m pc' Ls (v :: st)))) : OwnEnds p e below G (T.setTop (mkF m pc Ls (.int j :: .ref a :: st))) := by
  subst hp hv
  obtain ⟨cl, A, S, r⟩ := F
  exact own_st (fun _ q => X.iaload C.1 (j := j) (v := f j.toInt.toNat) (by rw [eT]; exact A.1) (State.isArrayOf_alike C.2.1.alike A.2.1) A.2.2 (by rw [S]; exact own_in h0 h1) (show cl.slots[j.toNatClampNeg]? = _ from r j.toInt.toNat (by omega)) (g := mkF m pc Ls _) rfl rfl (hb C.2.2.2.1 hd) _ q) hr
theorem own_laload (X : Stand p l e R s m args below meth c T locs cells slots) (C : OwnCx p s m meth c Z y bs maxL rt) {j : Int32} {n : Nat} {f : Nat → Value} (eT : T.heap = h) (F : OwnAr Z h a .long n f) (h0 : 0 ≤ j.toInt) (h1 : j.toInt < n) (hd : decode bs pc = .ok (.laload, 1)) (pc' : Nat) (hp : pc + 1 = pc') (v : Value) (hv : f j.toInt.toNat = v)
    (hr : OwnEnds p e below G (T.setTop (mkF m pc' Ls (v :: st)))) : OwnEnds p e below G (T.setTop (mkF m pc Ls (.int j :: .ref a :: st))) := by
  subst hp hv
  obtain ⟨cl, A, S, r⟩ := F
  exact own_st (fun _ q => X.laload C.1 (j := j) (v := f j.toInt.toNat) (by rw [eT]; exact A.1) (State.isArrayOf_alike C.2.1.alike A.2.1) A.2.2 (by rw [S]; exact own_in h0 h1) (show cl.slots[j.toNatClampNeg]? = _ from r j.toInt.toNat (by omega)) (g := mkF m pc Ls _) rfl rfl (hb C.2.2.2.1 hd) _ q) hr
theorem own_caload (X : Stand p l e R s m args below meth c T locs cells slots) (C : OwnCx p s m meth c Z y bs maxL rt) {j : Int32} {n : Nat} {f : Nat → Value} (eT : T.heap = h) (F : OwnAr Z h a .char n f) (h0 : 0 ≤ j.toInt) (h1 : j.toInt < n) (hd : decode bs pc = .ok (.caload, 1)) (pc' : Nat) (hp : pc + 1 = pc') (v : Value) (hv : f j.toInt.toNat = v)
    (hr : OwnEnds p e below G (T.setTop (mkF m pc' Ls (v :: st)))) : OwnEnds p e below G (T.setTop (mkF m pc Ls (.int j :: .ref a :: st))) := by
  subst hp hv
  obtain ⟨cl, A, S, r⟩ := F
  exact own_st (fun _ q => X.caload C.1 (j := j) (v := f j.toInt.toNat) (by rw [eT]; exact A.1) (State.isArrayOf_alike C.2.1.alike A.2.1) A.2.2 (by rw [S]; exact own_in h0 h1) (show cl.slots[j.toNatClampNeg]? = _ from r j.toInt.toNat (by omega)) (g := mkF m pc Ls _) rfl rfl (hb C.2.2.2.1 hd) _ q) hr
theorem own_baloadB (X : Stand p l e R s m args below meth c T locs cells slots) (C : OwnCx p s m meth c Z y bs maxL rt) {j : Int32} {n : Nat} {f : Nat → Value} (eT : T.heap = h) (F : OwnAr Z h a .byte n f) (h0 : 0 ≤ j.toInt) (h1 : j.toInt < n) (hd : decode bs pc = .ok (.baload, 1)) (pc' : Nat) (hp : pc + 1 = pc') (v : Value) (hv : f j.toInt.toNat = v)
    (hr : OwnEnds p e below G (T.setTop (mkF m pc' Ls (v :: st)))) : OwnEnds p e below G (T.setTop (mkF m pc Ls (.int j :: .ref a :: st))) := by
  subst hp hv
  obtain ⟨cl, A, S, r⟩ := F
  exact own_st (fun _ q => X.baloadBytes C.1 (j := j) (v := f j.toInt.toNat) (by rw [eT]; exact A.1) (State.isArrayOf_alike C.2.1.alike A.2.1) A.2.2 (by rw [S]; exact own_in h0 h1) (show cl.slots[j.toNatClampNeg]? = _ from r j.toInt.toNat (by omega)) (g := mkF m pc Ls _) rfl rfl (hb C.2.2.2.1 hd) _ q) hr
theorem own_baloadZ (X : Stand p l e R s m args below meth c T locs cells slots) (C : OwnCx p s m meth c Z y bs maxL rt) {j : Int32} {n : Nat} {f : Nat → Value} (eT : T.heap = h) (F : OwnAr Z h a .boolean n f) (h0 : 0 ≤ j.toInt) (h1 : j.toInt < n) (hd : decode bs pc = .ok (.baload, 1)) (pc' : Nat) (hp : pc + 1 = pc') (v : Value) (hv : f j.toInt.toNat = v)
    (hr : OwnEnds p e below G (T.setTop (mkF m pc' Ls (v :: st)))) : OwnEnds p e below G (T.setTop (mkF m pc Ls (.int j :: .ref a :: st))) := by
  subst hp hv
  obtain ⟨cl, A, S, r⟩ := F
  exact own_st (fun _ q => X.baloadBooleans C.1 (j := j) (v := f j.toInt.toNat) (by rw [eT]; exact A.1) (State.isArrayOf_alike C.2.1.alike A.2.1) A.2.2 (by rw [S]; exact own_in h0 h1) (show cl.slots[j.toNatClampNeg]? = _ from r j.toInt.toNat (by omega)) (g := mkF m pc Ls _) rfl rfl (hb C.2.2.2.1 hd) _ q) hr
theorem own_arraylength (X : Stand p l e R s m args below meth c T locs cells slots) (C : OwnCx p s m meth c Z y bs maxL rt) {ty : FieldType} {n : Nat} {f : Nat → Value} (eT : T.heap = h) (F : OwnAr Z h a ty n f) (hd : decode bs pc = .ok (.arraylength, 1)) (pc' : Nat) (hp : pc + 1 = pc') (hn : n < 2147483648)
    (hr : ∀ z : Int32, z.toInt = n → z = n.toInt32 → OwnEnds p e below G (T.setTop (mkF m pc' Ls (.int z :: st)))) : OwnEnds p e below G (T.setTop (mkF m pc Ls (.ref a :: st))) := by
  subst hp
  obtain ⟨cl, A, S, r⟩ := F
  have k := hr n.toInt32 (own_len hn) rfl
  rw [← S] at k
  exact own_st (fun _ q => X.arraylength C.1 (by rw [eT]; exact A.1) (State.isArrayOf_alike C.2.1.alike A.2.1) (g := mkF m pc Ls _) rfl rfl (hb C.2.2.2.1 hd) _ q) k
theorem own_newarray (X : Stand p l e R s m args below meth c T locs cells slots) (C : OwnCx p s m meth c Z y bs maxL rt) {aty : ArrayType} {n : Int32} (w : (Jvm.Cond.arrayClass (newarray.typeOf aty)).before a0 Z = true) (eT : T.heap = h) (hd : decode bs pc = .ok (.newarray aty, 2)) (pc' : Nat) (hp : pc + 2 = pc') (h0 : 0 ≤ n.toInt) (cap : Nat) (hcap : n.toInt ≤ cap) (hbig : cap * 8 ≤ 536870912) (hc : cells + 1 ≤ R.cells) (hl : slots + cap ≤ R.slots)
    (hr : ∀ T' h' b, b = h.size → Stand p l e R s m args below meth c T' locs (cells + 1) (slots + cap) → T'.heap = h' → Ext h h' → OwnAr Z h' b (newarray.typeOf aty) n.toInt.toNat (fun _ => defaultValue (newarray.typeOf aty)) → OwnEnds p e below G (T'.setTop (mkF m pc' Ls (.ref b :: st)))) : OwnEnds p e below G (T.setTop (mkF m pc Ls (.int n :: st))) := by
  subst hp
  have hn0 : ¬ n < 0 := fun q => by rw [Int32.lt_iff_toInt_lt] at q; have : (0 : Int32).toInt = 0 := rfl; omega
  obtain ⟨T', h', cA, X', e', E', A, stp⟩ := newP X C.1 C.2.1 w eT (g := mkF m pc Ls (.int n :: st)) rfl (hb C.2.2.2.1 hd) rfl hn0 (cap := cap) (by show n.toInt.toNat ≤ cap; omega) hbig hc hl
  exact own_st stp (hr T' h' _ rfl X' e' E' (OwnAr.new A))
theorem own_new (X : Stand p l e R s m args below meth c T locs cells slots) (C : OwnCx p s m meth c Z y bs maxL rt) {idx n : Nat} {K : String} (w : (Jvm.Cond.classLink y.cls idx K).before a0 Z = true) (wi : (Jvm.Cond.instantiable K n).before a0 Z = true) (wz : (Jvm.Cond.initialized K).before a0 Z = true) (eT : T.heap = h) (hd : decode bs pc = .ok (.new idx, 3)) (pc' : Nat) (hp : pc + 3 = pc') (hc : cells + 1 ≤ R.cells) (hl : slots + n ≤ R.slots)
    (hr : ∀ T' h' b, b = h.size → Stand p l e R s m args below meth c T' locs (cells + 1) (slots + n) → T'.heap = h' → Ext h h' → Exa Z h' b K → (∀ {O nm d : String} {ty : FieldType}, Laid Z a0 K O nm d → parseFieldDescriptor d = some ty → Fld Z h' b O nm d (defaultValue ty)) → OwnEnds p e below G (T'.setTop (mkF m pc' Ls (.ref b :: st)))) : OwnEnds p e below G (T.setTop (mkF m pc Ls st)) := by
  subst hp
  obtain ⟨T', h', X', e', E', A, D, -, stp⟩ := newO X C.1 C.2.1 C.2.2.1 w wi wz eT (g := mkF m pc Ls st) rfl (hb C.2.2.2.1 hd) hc hl
  exact own_st stp (hr T' h' _ rfl X' e' E' A D)
theorem own_getfield (X : Stand p l e R s m args below meth c T locs cells slots) (C : OwnCx p s m meth c Z y bs maxL rt) {idx : Nat} {R0 O n d host : String} {v : Value} (w : (Jvm.Cond.fieldLink y.cls idx R0 n d).before a0 Z = true ∨ (Jvm.Cond.fieldLinkNest y.cls idx R0 n d host).before a0 Z = true) (via : Via Z R0 O n d) (eT : T.heap = h) (F : Fld Z h a O n d v) (hd : decode bs pc = .ok (.getfield idx, 3)) (pc' : Nat) (hp : pc + 3 = pc')
    (hr : ∀ T', Stand p l e R s m args below meth c T' locs cells slots → T'.heap = h → OwnEnds p e below G (T'.setTop (mkF m pc' Ls (v :: st)))) : OwnEnds p e below G (T.setTop (mkF m pc Ls (.ref a :: st))) := by
  subst hp
  obtain ⟨T', X', e', stp⟩ := getF X C.1 C.2.1 C.2.2.1 w via eT F (g := mkF m pc Ls _) rfl rfl (hb C.2.2.2.1 hd)
  exact own_st stp (hr T' X' e')
theorem own_getstatic (X : Stand p l e R s m args below meth c T locs cells slots) (C : OwnCx p s m meth c Z y bs maxL rt) {idx : Nat} {R0 O n d host : String} {v : Value} (w : (Jvm.Cond.fieldLink y.cls idx R0 n d).before a0 Z = true ∨ (Jvm.Cond.fieldLinkNest y.cls idx R0 n d host).before a0 Z = true) (via : Via Z R0 O n d) (eT : T.heap = h) (F : Sta Z h O n d v) (hd : decode bs pc = .ok (.getstatic idx, 3)) (pc' : Nat) (hp : pc + 3 = pc')
    (hr : ∀ T', Stand p l e R s m args below meth c T' locs cells slots → T'.heap = h → OwnEnds p e below G (T'.setTop (mkF m pc' Ls (v :: st)))) : OwnEnds p e below G (T.setTop (mkF m pc Ls st)) := by
  subst hp
  obtain ⟨T', X', e', stp⟩ := getS2 X C.1 C.2.1 C.2.2.1 w via eT F (g := mkF m pc Ls st) rfl (hb C.2.2.2.1 hd)
  exact own_st stp (hr T' X' e')
theorem own_putfield (X : Stand p l e R s m args below meth c T locs cells slots) (C : OwnCx p s m meth c Z y bs maxL rt) {idx kk : Nat} {R0 O n d host K : String} {ty : FieldType} {v old : Value} (w : (Jvm.Cond.fieldLink y.cls idx R0 n d).before a0 Z = true ∨ (Jvm.Cond.fieldLinkNest y.cls idx R0 n d host).before a0 Z = true) (via : Via Z R0 O n d) (eT : T.heap = h) (F : Fld Z h a O n d old) (E : Exa Z h a K) (L : (Jvm.Cond.lays K O n d).before a0 Z = true ∨ ((Jvm.Cond.laysFinal K O n d).before a0 Z = true ∧ y.cls = O ∧ y.name = "<init>")) (wi : (Jvm.Cond.instantiable K kk).before a0 Z = true)
    (hty : parseFieldDescriptor d = some ty) (hn : narrow ty v = v) (hf : fits ty v = true) (hd : decode bs pc = .ok (.putfield idx, 3)) (pc' : Nat) (hp : pc + 3 = pc')
    (hr : ∀ T' h', Stand p l e R s m args below meth c T' (locs ++ [⟨a, Jvm.RoadKit.slotOf Z O n d⟩]) cells slots → T'.heap = h' → Wr h h' a (Jvm.RoadKit.slotOf Z O n d) v → OwnEnds p e below G (T'.setTop (mkF m pc' Ls st))) : OwnEnds p e below G (T.setTop (mkF m pc Ls (v :: .ref a :: st))) := by
  subst hp
  obtain ⟨T', h', X', e', W, stp⟩ := putF X C.1 C.2.1 C.2.2.1 w via eT F E (L.imp id fun q => ⟨q.1, q.2.1, C.2.2.2.2.2.2.2.trans q.2.2⟩) wi hty hn hf (g := mkF m pc Ls _) rfl rfl (hb C.2.2.2.1 hd)
  exact own_st stp (hr T' h' X' e' W)
theorem own_putfieldN (X : Stand p l e R s m args below meth c T locs cells slots) (C : OwnCx p s m meth c Z y bs maxL rt) {idx kk : Nat} {R0 O n d K : String} {ty : FieldType} {v v' old : Value} (w : (Jvm.Cond.fieldLink y.cls idx R0 n d).before a0 Z = true) (via : Via Z R0 O n d) (eT : T.heap = h) (F : Fld Z h a O n d old) (E : Exa Z h a K) (L : (Jvm.Cond.lays K O n d).before a0 Z = true ∨ ((Jvm.Cond.laysFinal K O n d).before a0 Z = true ∧ y.cls = O ∧ y.name = "<init>")) (wi : (Jvm.Cond.instantiable K kk).before a0 Z = true)
    (hty : parseFieldDescriptor d = some ty) (hn : narrow ty v = v') (hf : fits ty v' = true) (hd : decode bs pc = .ok (.putfield idx, 3)) (pc' : Nat) (hp : pc + 3 = pc')
    (hr : ∀ T' h', Stand p l e R s m args below meth c T' (locs ++ [⟨a, Jvm.RoadKit.slotOf Z O n d⟩]) cells slots → T'.heap = h' → Wr h h' a (Jvm.RoadKit.slotOf Z O n d) v' → OwnEnds p e below G (T'.setTop (mkF m pc' Ls st))) : OwnEnds p e below G (T.setTop (mkF m pc Ls (v :: .ref a :: st))) := by
  subst hp
  obtain ⟨T', h', X', e', W, stp⟩ := putFN X C.1 C.2.1 C.2.2.1 w via eT F E (L.imp id fun q => ⟨q.1, q.2.1, C.2.2.2.2.2.2.2.trans q.2.2⟩) wi hty hn hf (g := mkF m pc Ls _) rfl rfl (hb C.2.2.2.1 hd)
  exact own_st stp (hr T' h' X' e' W)
theorem own_callI (X : Stand p l e R s m args below meth c T locs cells slots) (C : OwnCx p s m meth c Z y bs maxL rt) {idx : Nat} {y' : MethodName} {bs' : ByteArray} {maxL' : Nat} {rt' : Option FieldType} {rm : Room} {as' : Array Value} {Q' : Option Value → Heap → List Loc → Prop} (hrt' : rt' = none)
    (w1 : (Jvm.Cond.methodLink y.cls idx y').before a0 Z = true) (w2 : (Jvm.Cond.instanceMethod y').before a0 Z = true) (w3 : (Jvm.Cond.initialized y'.cls).before a0 Z = true) (w4 : (Jvm.Cond.code y' bs' maxL' rt').before a0 Z = true) (hy1 : y'.name = "<init>") (hy : y'.cls ≠ "java/lang/invoke/MethodHandle" ∧ y'.cls ≠ "java/lang/invoke/VarHandle")
    (hM : OwnMet l Z y' bs' maxL' rt' [] rm as' h Q') (eT : T.heap = h) {ps : List FieldType} {r : Option FieldType} (hpd : parseMethodDescriptor y'.desc = some ⟨ps, r⟩) (argsL : List Value) (has : (Value.ref a :: argsL).toArray = as') (hlen : argsL.length = ps.length) (hst : st = argsL.reverse ++ .ref a :: rest) (hsz : Ls.size = maxL)
    (W : Nat) (hW : (rest.map fun v => v.category).sum = W) (hf : rm.frames + 1 ≤ R.frames) (hlo : W + (maxL' + 11) + rm.locals ≤ R.locals) (hce : cells + rm.cells ≤ R.cells) (hsl : slots + rm.slots ≤ R.slots) (hd : decode bs pc = .ok (.invokespecial idx, 3)) (pc' : Nat) (hp : pc + 3 = pc')
    (hr : ∀ T' L v, Stand p l e R s m args below meth c T' (locs ++ L) (cells + rm.cells) (slots + rm.slots) → Q' v T'.heap L → OwnEnds p e below G (T'.setTop (mkF m pc' Ls (v.toList ++ rest)))) : OwnEnds p e below G (T.setTop (mkF m pc Ls st)) := by
  subst hp has hW hrt'
  obtain ⟨v, _, ⟨T', L, k, n⟩, -, X', ⟨L', hQ, l1, l2, l3⟩, stp⟩ := X.specialBack C.1 hy1 C.2.2.1 (mvT C.2.1 w1) (mvT C.2.1 w2) (mvT C.2.1 w4) hy (backOf (len := 3) (W := (rest.map fun v => v.category).sum) hM C.2.1 w4 w3 hf hlo) (g := mkF m pc Ls st) rfl (by rw [C.2.2.2.2.1]; exact hsz) (Steps.refl _) (a := a) (argsL := argsL) (rest := rest) (lenOf hpd hlen) hst (by show 2 * 0 + _ ≤ _; omega) (hb C.2.2.2.1 hd) (fun _ _ => ⟨rfl, eT, hce, hsl⟩)
  dsimp only [Pt.U, Pt.locs, Pt.cells, Pt.slots] at X' l1 l2 l3 stp hQ
  subst l1 l2 l3
  exact own_tr stp (hr T' L' v X' hQ)
theorem own_callV (X : Stand p l e R s m args below meth c T locs cells slots) (C : OwnCx p s m meth c Z y bs maxL rt) {idx : Nat} {K : String} {y' : MethodName} {bs' : ByteArray} {maxL' : Nat} {rt' : Option FieldType} {rm : Room} {as' : Array Value} {Q' : Option Value → Heap → List Loc → Prop}
    (w1 : (Jvm.Cond.methodLink y.cls idx y').before a0 Z = true) (wd : (Jvm.Cond.declares y').before a0 Z = true) (ws : (Jvm.Cond.selects K y' y').before a0 Z = true) (w2 : (Jvm.Cond.instanceMethod y').before a0 Z = true) (w3 : (Jvm.Cond.initialized y'.cls).before a0 Z = true) (w4 : (Jvm.Cond.code y' bs' maxL' rt').before a0 Z = true) (hy : y'.cls ≠ "java/lang/invoke/MethodHandle" ∧ y'.cls ≠ "java/lang/invoke/VarHandle") (E : Exa Z h a K)
    (hM : OwnMet l Z y' bs' maxL' rt' [] rm as' h Q') (eT : T.heap = h) {ps : List FieldType} {r : Option FieldType} (hpd : parseMethodDescriptor y'.desc = some ⟨ps, r⟩) (argsL : List Value) (has : (Value.ref a :: argsL).toArray = as') (hlen : argsL.length = ps.length) (hst : st = argsL.reverse ++ .ref a :: rest) (hsz : Ls.size = maxL)
    (W : Nat) (hW : (rest.map fun v => v.category).sum = W) (hf : rm.frames + 1 ≤ R.frames) (hlo : W + (maxL' + 11) + rm.locals ≤ R.locals) (hce : cells + rm.cells ≤ R.cells) (hsl : slots + rm.slots ≤ R.slots) (hd : decode bs pc = .ok (.invokevirtual idx, 3)) (pc' : Nat) (hp : pc + 3 = pc')
    (hr : ∀ T' L v, Stand p l e R s m args below meth c T' (locs ++ L) (cells + rm.cells) (slots + rm.slots) → Q' v T'.heap L → OwnEnds p e below G (T'.setTop (mkF m pc' Ls (v.toList ++ rest)))) : OwnEnds p e below G (T.setTop (mkF m pc Ls st)) := by
  subst hp has hW
  obtain ⟨cq, kq, qa, qb, qc⟩ := isOf C.2.1 eT E
  obtain ⟨v, _, ⟨T', L, k, n⟩, -, X', ⟨L', hQ, l1, l2, l3⟩, stp⟩ := X.virtualBack C.1 (y := y') (z := y') C.2.2.1 (mvT C.2.1 w1) (mvT C.2.1 wd) (notFace_of_selects (args := #[]) (mvT C.2.1 ws)) (mvT C.2.1 ws) (mvT C.2.1 w2) hy (backOf (len := 3) (W := (rest.map fun v => v.category).sum) hM C.2.1 w4 w3 hf hlo) qa qc (g := mkF m pc Ls st) rfl (by rw [C.2.2.2.2.1]; exact hsz) (Steps.refl _) (argsL := argsL) (rest := rest) (lenOf hpd hlen) hst (by show 2 * 0 + _ ≤ _; omega) (hb C.2.2.2.1 hd) (fun _ _ => ⟨rfl, eT, hce, hsl⟩)
  dsimp only [Pt.U, Pt.locs, Pt.cells, Pt.slots] at X' l1 l2 l3 stp hQ
  subst l1 l2 l3
  exact own_tr stp (hr T' L' v X' hQ)
theorem own_instY (X : Stand p l e R s m args below meth c T locs cells slots) (C : OwnCx p s m meth c Z y bs maxL rt) {idx : Nat} {K : String} (w : (Jvm.Cond.classLink y.cls idx K).before a0 Z = true) (eT : T.heap = h) (F : Ins Z h a K true) (hd : decode bs pc = .ok (.instanceof idx, 3)) (pc' : Nat) (hp : pc + 3 = pc')
    (hr : ∀ T', Stand p l e R s m args below meth c T' locs cells slots → T'.heap = h → OwnEnds p e below G (T'.setTop (mkF m pc' Ls (.int 1 :: st)))) : OwnEnds p e below G (T.setTop (mkF m pc Ls (.ref a :: st))) := by
  subst hp
  obtain ⟨T', X', e', stp⟩ := instY X C.1 C.2.1 C.2.2.1 w eT F (g := mkF m pc Ls _) rfl rfl (hb C.2.2.2.1 hd)
  exact own_st stp (hr T' X' e')
theorem own_castY (X : Stand p l e R s m args below meth c T locs cells slots) (C : OwnCx p s m meth c Z y bs maxL rt) {idx : Nat} {K : String} (w : (Jvm.Cond.classLink y.cls idx K).before a0 Z = true) (eT : T.heap = h) (F : Ins Z h a K true) (hd : decode bs pc = .ok (.checkcast idx, 3)) (pc' : Nat) (hp : pc + 3 = pc')
    (hr : ∀ T', Stand p l e R s m args below meth c T' locs cells slots → T'.heap = h → OwnEnds p e below G (T'.setTop (mkF m pc' Ls (.ref a :: st)))) : OwnEnds p e below G (T.setTop (mkF m pc Ls (.ref a :: st))) := by
  subst hp
  obtain ⟨T', X', e', stp⟩ := castY X C.1 C.2.1 C.2.2.1 w eT F (g := mkF m pc Ls (.ref a :: st)) rfl (rest := st) rfl (hb C.2.2.2.1 hd)
  exact own_st stp (hr T' X' e')
end OwnHeap
theorem own_w {Z : State} {a0 : Array Value} (hw : ∀ d ∈ tables_1, d.before a0 Z = true) (k : Nat) {d : Jvm.Cond} (q : tables_1[k]? = some d) : d.before a0 Z = true := hw _ (List.mem_of_getElem? q)
theorem own_eqI {args : Array Value} {s : State} {t : Term} {k : Int32} (q : (Jvm.Cond.eq t (.int k)).value args s none s [] = some true) : t.eval args s none [] s = some (.int k) := by
  simp only [Cond.value, Term.int_eval] at q
  cases e : t.eval args s none [] s with
  | none => simp [e] at q
  | some v => cases v <;> simp [e] at q ⊢; exact q
theorem own_lenI {args : Array Value} {s : State} {t : Term} {a : Addr} {cl : Cell} {ty : FieldType} {k : Int32} (ev : t.eval args s none [] s = some (.ref a)) (A : Arr s s.heap a cl ty) (q : (Jvm.Cond.eq (.length t) (.int k)).value args s none s [] = some true) : (cl.slots.size : Int) = k.toInt := by
  have q1 := own_eqI q
  have q2 := A.fin (Vm.Alike.refl _)
  simp only [Term.eval, ev] at q1
  simp [q2] at q1
  obtain ⟨q3, q4⟩ := q1
  rw [← q4, len_toInt (by omega)]
theorem own_elI {args : Array Value} {s : State} {t : Term} {a : Addr} {cl : Cell} {ty : FieldType} {k j : Int32} (ev : t.eval args s none [] s = some (.ref a)) (A : Arr s s.heap a cl ty) (q : (Jvm.Cond.eq (.elem t (.int j)) (.int k)).value args s none s [] = some true) : cl.slots[j.toNatClampNeg]? = some (.int k) :=
  (elem_in (own_eqI q) ev (Term.int_eval j) A.1).2
theorem own_elJ {args : Array Value} {s : State} {t : Term} {a : Addr} {cl : Cell} {ty : FieldType} {k : Int32} {i : Nat} (ev : ∀ idx, t.eval args s none idx s = some (.ref a)) (A : Arr s s.heap a cl ty) (hi : i < cl.slots.size) (hs : cl.slots.size < 2147483648)
    (q : (Jvm.Cond.eq (.elem t (.index 0)) (.int k)).value args s none s [i] = some true) : cl.slots[i]? = some (.int k) := by
  have e1 : (Term.elem t (.index 0)).eval args s none [i] s = cl.slots[(i.toInt32).toNatClampNeg]? := elem_f (ev _) (Term.index_eval i) (A.fin (Vm.Alike.refl _)) (by rw [Int32.lt_iff_toInt_lt, own_len (by omega)]; have : (0 : Int32).toInt = 0 := rfl; omega)
  have e2 : (i.toInt32).toNatClampNeg = i := by show (i.toInt32).toInt.toNat = i; rw [own_len (by omega)]; omega
  rw [e2] at e1
  simp only [Cond.value, e1, Term.int_eval] at q
  rw [Array.getElem?_eq_getElem hi] at q ⊢
  cases v : cl.slots[i] <;> simp [v] at q ⊢; exact q
def own_tok (n : Nat) : Int32 := if (33 ≤ n ∧ n ≤ 33) ∨ (35 ≤ n ∧ n ≤ 39) ∨ (42 ≤ n ∧ n ≤ 43) ∨ (45 ≤ n ∧ n ≤ 46) ∨ (48 ≤ n ∧ n ≤ 57) ∨ (65 ≤ n ∧ n ≤ 90) ∨ (94 ≤ n ∧ n ≤ 122) ∨ (124 ≤ n ∧ n ≤ 124) ∨ (126 ≤ n ∧ n ≤ 126) then 1 else 0
def own_is (i : Int32) : Int32 := if (33 ≤ i.toInt ∧ i.toInt ≤ 33) ∨ (35 ≤ i.toInt ∧ i.toInt ≤ 39) ∨ (42 ≤ i.toInt ∧ i.toInt ≤ 43) ∨ (45 ≤ i.toInt ∧ i.toInt ≤ 46) ∨ (48 ≤ i.toInt ∧ i.toInt ≤ 57) ∨ (65 ≤ i.toInt ∧ i.toInt ≤ 90) ∨ (94 ≤ i.toInt ∧ i.toInt ≤ 122) ∨ (124 ≤ i.toInt ∧ i.toInt ≤ 124) ∨ (126 ≤ i.toInt ∧ i.toInt ≤ 126) then 1 else 0
theorem own_lt0 {x y : Int32} : x < y ↔ x.toInt < y.toInt := Int32.lt_iff_toInt_lt
theorem own_allI {args : Array Value} {s : State} {t : Term} {a : Addr} {cl : Cell} {ty : FieldType} {k lo hi : Int32} (ev : ∀ idx, t.eval args s none idx s = some (.ref a)) (A : Arr s s.heap a cl ty) (hs : cl.slots.size < 2147483648)
    (q : (Jvm.Cond.all t (.or (.lt (.index 0) (.int lo)) (.or (.le (.int hi) (.index 0)) (.eq (.elem t (.index 0)) (.int k))))).value args s none s [] = some true) (i : Nat) (hi' : i < cl.slots.size) (h1 : lo.toInt ≤ i) (h2 : i < hi.toInt) : cl.slots[i]? = some (.int k) := by
  have q1 := Cond.all_elim (ev []) (A.fin (Vm.Alike.refl _)) q i hi'
  have ei : (i.toInt32).toInt = i := own_len (by omega)
  have g1 : (Jvm.Cond.lt (.index 0) (.int lo)).value args s none s [i] = some (decide (i.toInt32 < lo)) := Cond.lt_ints rfl rfl
  have g2 : (Jvm.Cond.le (.int hi) (.index 0)).value args s none s [i] = some (decide (hi ≤ i.toInt32)) := Cond.le_ints rfl rfl
  rw [Cond.or_of_right (nay g1 (by rw [Int32.lt_iff_toInt_lt]; omega)), Cond.or_of_right (nay g2 (by rw [Int32.le_iff_toInt_le]; omega))] at q1
  exact own_elJ ev A hi' hs q1
theorem own_allZ {args : Array Value} {s : State} {t : Term} {a : Addr} {cl : Cell} {ty : FieldType} {k hi : Int32} (ev : ∀ idx, t.eval args s none idx s = some (.ref a)) (A : Arr s s.heap a cl ty) (hs : cl.slots.size < 2147483648)
    (q : (Jvm.Cond.all t (.or (.le (.int hi) (.index 0)) (.eq (.elem t (.index 0)) (.int k)))).value args s none s [] = some true) (i : Nat) (hi' : i < cl.slots.size) (h2 : i < hi.toInt) : cl.slots[i]? = some (.int k) := by
  have q1 := Cond.all_elim (ev []) (A.fin (Vm.Alike.refl _)) q i hi'
  have ei : (i.toInt32).toInt = i := own_len (by omega)
  have g2 : (Jvm.Cond.le (.int hi) (.index 0)).value args s none s [i] = some (decide (hi ≤ i.toInt32)) := Cond.le_ints rfl rfl
  rw [Cond.or_of_right (nay g2 (by rw [Int32.le_iff_toInt_le]; omega))] at q1
  exact own_elJ ev A hi' hs q1
theorem own_pn_HttpSyntax : plainName "com/example/wee_servlet/weeservlet/http/HttpSyntax" = true := by first | (simp [plainName, overriddenIn]; done) | decide +kernel
theorem own_pd_I_R_Z : parseMethodDescriptor "(I)Z" = some ⟨[.int], some .boolean⟩ := by decide +kernel
theorem own_d_prog_22_method_3_code_0 : decode prog_22_method_3_code 0 = .ok (.iload_n 0, 1) := by decide +kernel
theorem own_d_prog_22_method_3_code_1 : decode prog_22_method_3_code 1 = .ok (.ifCond .lt 23, 3) := by decide +kernel
theorem own_d_prog_22_method_3_code_4 : decode prog_22_method_3_code 4 = .ok (.iload_n 0, 1) := by decide +kernel
theorem own_d_prog_22_method_3_code_5 : decode prog_22_method_3_code 5 = .ok (.getstatic 27, 3) := by decide +kernel
theorem own_d_prog_22_method_3_code_8 : decode prog_22_method_3_code 8 = .ok (.arraylength, 1) := by decide +kernel
theorem own_d_prog_22_method_3_code_9 : decode prog_22_method_3_code 9 = .ok (.if_icmp .ge 15, 3) := by decide +kernel
theorem own_d_prog_22_method_3_code_12 : decode prog_22_method_3_code 12 = .ok (.getstatic 27, 3) := by decide +kernel
theorem own_d_prog_22_method_3_code_15 : decode prog_22_method_3_code 15 = .ok (.iload_n 0, 1) := by decide +kernel
theorem own_d_prog_22_method_3_code_16 : decode prog_22_method_3_code 16 = .ok (.baload, 1) := by decide +kernel
theorem own_d_prog_22_method_3_code_17 : decode prog_22_method_3_code 17 = .ok (.ifCond .eq 7, 3) := by decide +kernel
theorem own_d_prog_22_method_3_code_20 : decode prog_22_method_3_code 20 = .ok (.iconst 1, 1) := by decide +kernel
theorem own_d_prog_22_method_3_code_21 : decode prog_22_method_3_code 21 = .ok (.goto 4, 3) := by decide +kernel
theorem own_d_prog_22_method_3_code_24 : decode prog_22_method_3_code 24 = .ok (.iconst 0, 1) := by decide +kernel
theorem own_d_prog_22_method_3_code_25 : decode prog_22_method_3_code 25 = .ok (.ireturn, 1) := by decide +kernel
set_option maxRecDepth 65536 in
set_option maxHeartbeats 4000000 in
theorem own_ef_own_rm_isTokenChar (m : MethodId) (ia0 : Int32) : entryFrame m #[(.int ia0)] 1 = (mkF m 0 #[.val (.int ia0)] []) := by first | (simp [entryFrame, mkF, argsToLocals, Value.category]; done) | rfl
set_option maxRecDepth 65536 in
set_option maxHeartbeats 4000000 in
theorem own_rm_isTokenChar (l : Launch) (Z : State) (a0 : Array Value) (hw : ∀ d ∈ tables_1, d.before a0 Z = true) (ia0 : Int32) (h : Heap) (aT : Addr) (S_T : Sta Z h "com/example/wee_servlet/weeservlet/http/HttpSyntax" "TOKEN_CHARS" "[Z" (.ref aT)) (AT : OwnAr Z h aT .boolean 128 (fun i => .int (own_tok i))) :
    OwnMet l Z (⟨"com/example/wee_servlet/weeservlet/http/HttpSyntax", "isTokenChar", "(I)Z"⟩ : MethodName) prog_22_method_3_code 1 (some .boolean) [] ({ frames := 0, cells := 0, slots := 0, locals := 0 } : Room) #[(.int ia0)] h (OwnPure (.int (own_is ia0)) h) := by
  refine own_enter (f0 := fun m => mkF m 0 #[.val (.int ia0)] []) (plainFor_of_name own_pn_HttpSyntax) (fun m => own_ef_own_rm_isTokenChar m ia0) ?_
  intro p e s m below meth c T0 X0 C e0
  refine own_iload_n X0 C own_d_prog_22_method_3_code_0 1 rfl rfl ?_
  refine own_iflt X0 C own_d_prog_22_method_3_code_1 4 24 rfl (by decide) (by decide) (i := ia0.toInt) rfl (fun b1 => ?_) (fun b1 => ?_)
  · refine own_iconst X0 C own_d_prog_22_method_3_code_24 25 rfl (0) rfl ?_
    refine own_iretN X0 C .boolean rfl (by simp) own_d_prog_22_method_3_code_25 (by decide) (by decide) (0) (by decide) ?_
    exact ⟨by rw [own_is, if_neg (by omega)], e0, rfl⟩
  · refine own_iload_n X0 C own_d_prog_22_method_3_code_4 5 rfl rfl ?_
    refine own_getstatic X0 C (host := "") (Or.inl (own_w hw 4 rfl)) Via.refl e0 S_T own_d_prog_22_method_3_code_5 8 rfl (fun T2 X2 e2 => ?_)
    refine own_arraylength X2 C e2 AT own_d_prog_22_method_3_code_8 9 rfl (by decide) (fun v1 ev1 fv1 => ?_)
    refine own_icmpge X2 C own_d_prog_22_method_3_code_9 12 24 rfl (by decide) (by decide) (i := ia0.toInt) rfl (j := v1.toInt) rfl (fun b3 => ?_) (fun b3 => ?_)
    · refine own_iconst X2 C own_d_prog_22_method_3_code_24 25 rfl (0) rfl ?_
      refine own_iretN X2 C .boolean rfl (by simp) own_d_prog_22_method_3_code_25 (by decide) (by decide) (0) (by decide) ?_
      exact ⟨by rw [own_is, if_neg (by omega)], e2, rfl⟩
    · refine own_getstatic X2 C (host := "") (Or.inl (own_w hw 4 rfl)) Via.refl e2 S_T own_d_prog_22_method_3_code_12 15 rfl (fun T4 X4 e4 => ?_)
      refine own_iload_n X4 C own_d_prog_22_method_3_code_15 16 rfl rfl ?_
      refine own_baloadZ X4 C e4 AT (by omega) (by omega) own_d_prog_22_method_3_code_16 17 rfl (.int (own_tok ia0.toInt.toNat)) rfl ?_
      rcases (show (own_tok ia0.toInt.toNat = 1 ∧ ((33 ≤ ia0.toInt ∧ ia0.toInt ≤ 33) ∨ (35 ≤ ia0.toInt ∧ ia0.toInt ≤ 39) ∨ (42 ≤ ia0.toInt ∧ ia0.toInt ≤ 43) ∨ (45 ≤ ia0.toInt ∧ ia0.toInt ≤ 46) ∨ (48 ≤ ia0.toInt ∧ ia0.toInt ≤ 57) ∨ (65 ≤ ia0.toInt ∧ ia0.toInt ≤ 90) ∨ (94 ≤ ia0.toInt ∧ ia0.toInt ≤ 122) ∨ (124 ≤ ia0.toInt ∧ ia0.toInt ≤ 124) ∨ (126 ≤ ia0.toInt ∧ ia0.toInt ≤ 126))) ∨ (own_tok ia0.toInt.toNat = 0 ∧ ¬ ((33 ≤ ia0.toInt ∧ ia0.toInt ≤ 33) ∨ (35 ≤ ia0.toInt ∧ ia0.toInt ≤ 39) ∨ (42 ≤ ia0.toInt ∧ ia0.toInt ≤ 43) ∨ (45 ≤ ia0.toInt ∧ ia0.toInt ≤ 46) ∨ (48 ≤ ia0.toInt ∧ ia0.toInt ≤ 57) ∨ (65 ≤ ia0.toInt ∧ ia0.toInt ≤ 90) ∨ (94 ≤ ia0.toInt ∧ ia0.toInt ≤ 122) ∨ (124 ≤ ia0.toInt ∧ ia0.toInt ≤ 124) ∨ (126 ≤ ia0.toInt ∧ ia0.toInt ≤ 126))) by
          unfold own_tok; split
          · left; exact ⟨rfl, by omega⟩
          · right; exact ⟨rfl, by omega⟩) with ⟨ck, cp⟩ | ⟨ck, cp⟩
      · rw [ck]
        refine own_ifeq X4 C own_d_prog_22_method_3_code_17 20 24 rfl (by decide) (by decide) (i := 1) (by decide) (fun b5 => ?_) (fun b5 => ?_)
        · exfalso
          omega
        · refine own_iconst X4 C own_d_prog_22_method_3_code_20 21 rfl (1) rfl ?_
          refine own_goto X4 C own_d_prog_22_method_3_code_21 25 (by decide) (by decide) ?_
          refine own_iretN X4 C .boolean rfl (by simp) own_d_prog_22_method_3_code_25 (by decide) (by decide) (1) (by decide) ?_
          exact ⟨by rw [own_is, if_pos (by omega)], e4, rfl⟩
      · rw [ck]
        refine own_ifeq X4 C own_d_prog_22_method_3_code_17 20 24 rfl (by decide) (by decide) (i := 0) (by decide) (fun b6 => ?_) (fun b6 => ?_)
        · refine own_iconst X4 C own_d_prog_22_method_3_code_24 25 rfl (0) rfl ?_
          refine own_iretN X4 C .boolean rfl (by simp) own_d_prog_22_method_3_code_25 (by decide) (by decide) (0) (by decide) ?_
          exact ⟨by rw [own_is, if_neg (by omega)], e4, rfl⟩
        · exfalso
          omega
theorem own_pn_HttpSyntaxIsTokenCharPinLaw : plainName "com/example/wee_servlet/weeservlet/http/HttpSyntaxIsTokenCharPinLaw" = true := by first | (simp [plainName, overriddenIn]; done) | decide +kernel
theorem own_d_method_3_code_0 : decode method_3_code 0 = .ok (.iload_n 0, 1) := by decide +kernel
theorem own_d_method_3_code_1 : decode method_3_code 1 = .ok (.bipush 65, 2) := by decide +kernel
theorem own_d_method_3_code_3 : decode method_3_code 3 = .ok (.if_icmp .lt 11, 3) := by decide +kernel
theorem own_d_method_3_code_6 : decode method_3_code 6 = .ok (.iload_n 0, 1) := by decide +kernel
theorem own_d_method_3_code_7 : decode method_3_code 7 = .ok (.bipush 90, 2) := by decide +kernel
theorem own_d_method_3_code_9 : decode method_3_code 9 = .ok (.if_icmp .gt 5, 3) := by decide +kernel
theorem own_d_method_3_code_12 : decode method_3_code 12 = .ok (.iconst 1, 1) := by decide +kernel
theorem own_d_method_3_code_13 : decode method_3_code 13 = .ok (.ireturn, 1) := by decide +kernel
theorem own_d_method_3_code_14 : decode method_3_code 14 = .ok (.iload_n 0, 1) := by decide +kernel
theorem own_d_method_3_code_15 : decode method_3_code 15 = .ok (.bipush 97, 2) := by decide +kernel
theorem own_d_method_3_code_17 : decode method_3_code 17 = .ok (.if_icmp .lt 11, 3) := by decide +kernel
theorem own_d_method_3_code_20 : decode method_3_code 20 = .ok (.iload_n 0, 1) := by decide +kernel
theorem own_d_method_3_code_21 : decode method_3_code 21 = .ok (.bipush 122, 2) := by decide +kernel
theorem own_d_method_3_code_23 : decode method_3_code 23 = .ok (.if_icmp .gt 5, 3) := by decide +kernel
theorem own_d_method_3_code_26 : decode method_3_code 26 = .ok (.iconst 1, 1) := by decide +kernel
theorem own_d_method_3_code_27 : decode method_3_code 27 = .ok (.ireturn, 1) := by decide +kernel
theorem own_d_method_3_code_28 : decode method_3_code 28 = .ok (.iload_n 0, 1) := by decide +kernel
theorem own_d_method_3_code_29 : decode method_3_code 29 = .ok (.bipush 48, 2) := by decide +kernel
theorem own_d_method_3_code_31 : decode method_3_code 31 = .ok (.if_icmp .lt 11, 3) := by decide +kernel
theorem own_d_method_3_code_34 : decode method_3_code 34 = .ok (.iload_n 0, 1) := by decide +kernel
theorem own_d_method_3_code_35 : decode method_3_code 35 = .ok (.bipush 57, 2) := by decide +kernel
theorem own_d_method_3_code_37 : decode method_3_code 37 = .ok (.if_icmp .gt 5, 3) := by decide +kernel
theorem own_d_method_3_code_40 : decode method_3_code 40 = .ok (.iconst 1, 1) := by decide +kernel
theorem own_d_method_3_code_41 : decode method_3_code 41 = .ok (.ireturn, 1) := by decide +kernel
theorem own_d_method_3_code_42 : decode method_3_code 42 = .ok (.iload_n 0, 1) := by decide +kernel
theorem own_d_method_3_code_43 : decode method_3_code 43 = .ok (.bipush 33, 2) := by decide +kernel
theorem own_d_method_3_code_45 : decode method_3_code 45 = .ok (.if_icmp .eq 87, 3) := by decide +kernel
theorem own_d_method_3_code_48 : decode method_3_code 48 = .ok (.iload_n 0, 1) := by decide +kernel
theorem own_d_method_3_code_49 : decode method_3_code 49 = .ok (.bipush 35, 2) := by decide +kernel
theorem own_d_method_3_code_51 : decode method_3_code 51 = .ok (.if_icmp .eq 81, 3) := by decide +kernel
theorem own_d_method_3_code_54 : decode method_3_code 54 = .ok (.iload_n 0, 1) := by decide +kernel
theorem own_d_method_3_code_55 : decode method_3_code 55 = .ok (.bipush 36, 2) := by decide +kernel
theorem own_d_method_3_code_57 : decode method_3_code 57 = .ok (.if_icmp .eq 75, 3) := by decide +kernel
theorem own_d_method_3_code_60 : decode method_3_code 60 = .ok (.iload_n 0, 1) := by decide +kernel
theorem own_d_method_3_code_61 : decode method_3_code 61 = .ok (.bipush 37, 2) := by decide +kernel
theorem own_d_method_3_code_63 : decode method_3_code 63 = .ok (.if_icmp .eq 69, 3) := by decide +kernel
theorem own_d_method_3_code_66 : decode method_3_code 66 = .ok (.iload_n 0, 1) := by decide +kernel
theorem own_d_method_3_code_67 : decode method_3_code 67 = .ok (.bipush 38, 2) := by decide +kernel
theorem own_d_method_3_code_69 : decode method_3_code 69 = .ok (.if_icmp .eq 63, 3) := by decide +kernel
theorem own_d_method_3_code_72 : decode method_3_code 72 = .ok (.iload_n 0, 1) := by decide +kernel
theorem own_d_method_3_code_73 : decode method_3_code 73 = .ok (.bipush 39, 2) := by decide +kernel
theorem own_d_method_3_code_75 : decode method_3_code 75 = .ok (.if_icmp .eq 57, 3) := by decide +kernel
theorem own_d_method_3_code_78 : decode method_3_code 78 = .ok (.iload_n 0, 1) := by decide +kernel
theorem own_d_method_3_code_79 : decode method_3_code 79 = .ok (.bipush 42, 2) := by decide +kernel
theorem own_d_method_3_code_81 : decode method_3_code 81 = .ok (.if_icmp .eq 51, 3) := by decide +kernel
theorem own_d_method_3_code_84 : decode method_3_code 84 = .ok (.iload_n 0, 1) := by decide +kernel
theorem own_d_method_3_code_85 : decode method_3_code 85 = .ok (.bipush 43, 2) := by decide +kernel
theorem own_d_method_3_code_87 : decode method_3_code 87 = .ok (.if_icmp .eq 45, 3) := by decide +kernel
theorem own_d_method_3_code_90 : decode method_3_code 90 = .ok (.iload_n 0, 1) := by decide +kernel
theorem own_d_method_3_code_91 : decode method_3_code 91 = .ok (.bipush 45, 2) := by decide +kernel
theorem own_d_method_3_code_93 : decode method_3_code 93 = .ok (.if_icmp .eq 39, 3) := by decide +kernel
theorem own_d_method_3_code_96 : decode method_3_code 96 = .ok (.iload_n 0, 1) := by decide +kernel
theorem own_d_method_3_code_97 : decode method_3_code 97 = .ok (.bipush 46, 2) := by decide +kernel
theorem own_d_method_3_code_99 : decode method_3_code 99 = .ok (.if_icmp .eq 33, 3) := by decide +kernel
theorem own_d_method_3_code_102 : decode method_3_code 102 = .ok (.iload_n 0, 1) := by decide +kernel
theorem own_d_method_3_code_103 : decode method_3_code 103 = .ok (.bipush 94, 2) := by decide +kernel
theorem own_d_method_3_code_105 : decode method_3_code 105 = .ok (.if_icmp .eq 27, 3) := by decide +kernel
theorem own_d_method_3_code_108 : decode method_3_code 108 = .ok (.iload_n 0, 1) := by decide +kernel
theorem own_d_method_3_code_109 : decode method_3_code 109 = .ok (.bipush 95, 2) := by decide +kernel
theorem own_d_method_3_code_111 : decode method_3_code 111 = .ok (.if_icmp .eq 21, 3) := by decide +kernel
theorem own_d_method_3_code_114 : decode method_3_code 114 = .ok (.iload_n 0, 1) := by decide +kernel
theorem own_d_method_3_code_115 : decode method_3_code 115 = .ok (.bipush 96, 2) := by decide +kernel
theorem own_d_method_3_code_117 : decode method_3_code 117 = .ok (.if_icmp .eq 15, 3) := by decide +kernel
theorem own_d_method_3_code_120 : decode method_3_code 120 = .ok (.iload_n 0, 1) := by decide +kernel
theorem own_d_method_3_code_121 : decode method_3_code 121 = .ok (.bipush 124, 2) := by decide +kernel
theorem own_d_method_3_code_123 : decode method_3_code 123 = .ok (.if_icmp .eq 9, 3) := by decide +kernel
theorem own_d_method_3_code_126 : decode method_3_code 126 = .ok (.iload_n 0, 1) := by decide +kernel
theorem own_d_method_3_code_127 : decode method_3_code 127 = .ok (.bipush 126, 2) := by decide +kernel
theorem own_d_method_3_code_129 : decode method_3_code 129 = .ok (.if_icmp .ne 7, 3) := by decide +kernel
theorem own_d_method_3_code_132 : decode method_3_code 132 = .ok (.iconst 1, 1) := by decide +kernel
theorem own_d_method_3_code_133 : decode method_3_code 133 = .ok (.goto 4, 3) := by decide +kernel
theorem own_d_method_3_code_136 : decode method_3_code 136 = .ok (.iconst 0, 1) := by decide +kernel
theorem own_d_method_3_code_137 : decode method_3_code 137 = .ok (.ireturn, 1) := by decide +kernel
set_option maxRecDepth 65536 in
set_option maxHeartbeats 4000000 in
theorem own_ef_own_rm_expected (m : MethodId) (ia0 : Int32) : entryFrame m #[(.int ia0)] 1 = (mkF m 0 #[.val (.int ia0)] []) := by first | (simp [entryFrame, mkF, argsToLocals, Value.category]; done) | rfl
set_option maxRecDepth 65536 in
set_option maxHeartbeats 4000000 in
theorem own_rm_expected (l : Launch) (Z : State) (a0 : Array Value) (hw : ∀ d ∈ tables_1, d.before a0 Z = true) (ia0 : Int32) (h : Heap)  :
    OwnMet l Z (⟨"com/example/wee_servlet/weeservlet/http/HttpSyntaxIsTokenCharPinLaw", "expected", "(I)Z"⟩ : MethodName) method_3_code 1 (some .boolean) [] ({ frames := 0, cells := 0, slots := 0, locals := 0 } : Room) #[(.int ia0)] h (OwnPure (.int (own_is ia0)) h) := by
  refine own_enter (f0 := fun m => mkF m 0 #[.val (.int ia0)] []) (plainFor_of_name own_pn_HttpSyntaxIsTokenCharPinLaw) (fun m => own_ef_own_rm_expected m ia0) ?_
  intro p e s m below meth c T0 X0 C e0
  refine own_iload_n X0 C own_d_method_3_code_0 1 rfl rfl ?_
  refine own_bipush X0 C own_d_method_3_code_1 3 rfl (65) rfl ?_
  refine own_icmplt X0 C own_d_method_3_code_3 6 14 rfl (by decide) (by decide) (i := ia0.toInt) rfl (j := 65) (by decide) (fun b1 => ?_) (fun b1 => ?_)
  · refine own_iload_n X0 C own_d_method_3_code_14 15 rfl rfl ?_
    refine own_bipush X0 C own_d_method_3_code_15 17 rfl (97) rfl ?_
    refine own_icmplt X0 C own_d_method_3_code_17 20 28 rfl (by decide) (by decide) (i := ia0.toInt) rfl (j := 97) (by decide) (fun b2 => ?_) (fun b2 => ?_)
    · refine own_iload_n X0 C own_d_method_3_code_28 29 rfl rfl ?_
      refine own_bipush X0 C own_d_method_3_code_29 31 rfl (48) rfl ?_
      refine own_icmplt X0 C own_d_method_3_code_31 34 42 rfl (by decide) (by decide) (i := ia0.toInt) rfl (j := 48) (by decide) (fun b3 => ?_) (fun b3 => ?_)
      · refine own_iload_n X0 C own_d_method_3_code_42 43 rfl rfl ?_
        refine own_bipush X0 C own_d_method_3_code_43 45 rfl (33) rfl ?_
        refine own_icmpeq X0 C own_d_method_3_code_45 48 132 rfl (by decide) (by decide) (i := ia0.toInt) rfl (j := 33) (by decide) (fun b4 => ?_) (fun b4 => ?_)
        · refine own_iconst X0 C own_d_method_3_code_132 133 rfl (1) rfl ?_
          refine own_goto X0 C own_d_method_3_code_133 137 (by decide) (by decide) ?_
          refine own_iretN X0 C .boolean rfl (by simp) own_d_method_3_code_137 (by decide) (by decide) (1) (by decide) ?_
          exact ⟨by rw [own_is, if_pos (by omega)], e0, rfl⟩
        · refine own_iload_n X0 C own_d_method_3_code_48 49 rfl rfl ?_
          refine own_bipush X0 C own_d_method_3_code_49 51 rfl (35) rfl ?_
          refine own_icmpeq X0 C own_d_method_3_code_51 54 132 rfl (by decide) (by decide) (i := ia0.toInt) rfl (j := 35) (by decide) (fun b5 => ?_) (fun b5 => ?_)
          · refine own_iconst X0 C own_d_method_3_code_132 133 rfl (1) rfl ?_
            refine own_goto X0 C own_d_method_3_code_133 137 (by decide) (by decide) ?_
            refine own_iretN X0 C .boolean rfl (by simp) own_d_method_3_code_137 (by decide) (by decide) (1) (by decide) ?_
            exact ⟨by rw [own_is, if_pos (by omega)], e0, rfl⟩
          · refine own_iload_n X0 C own_d_method_3_code_54 55 rfl rfl ?_
            refine own_bipush X0 C own_d_method_3_code_55 57 rfl (36) rfl ?_
            refine own_icmpeq X0 C own_d_method_3_code_57 60 132 rfl (by decide) (by decide) (i := ia0.toInt) rfl (j := 36) (by decide) (fun b6 => ?_) (fun b6 => ?_)
            · refine own_iconst X0 C own_d_method_3_code_132 133 rfl (1) rfl ?_
              refine own_goto X0 C own_d_method_3_code_133 137 (by decide) (by decide) ?_
              refine own_iretN X0 C .boolean rfl (by simp) own_d_method_3_code_137 (by decide) (by decide) (1) (by decide) ?_
              exact ⟨by rw [own_is, if_pos (by omega)], e0, rfl⟩
            · refine own_iload_n X0 C own_d_method_3_code_60 61 rfl rfl ?_
              refine own_bipush X0 C own_d_method_3_code_61 63 rfl (37) rfl ?_
              refine own_icmpeq X0 C own_d_method_3_code_63 66 132 rfl (by decide) (by decide) (i := ia0.toInt) rfl (j := 37) (by decide) (fun b7 => ?_) (fun b7 => ?_)
              · refine own_iconst X0 C own_d_method_3_code_132 133 rfl (1) rfl ?_
                refine own_goto X0 C own_d_method_3_code_133 137 (by decide) (by decide) ?_
                refine own_iretN X0 C .boolean rfl (by simp) own_d_method_3_code_137 (by decide) (by decide) (1) (by decide) ?_
                exact ⟨by rw [own_is, if_pos (by omega)], e0, rfl⟩
              · refine own_iload_n X0 C own_d_method_3_code_66 67 rfl rfl ?_
                refine own_bipush X0 C own_d_method_3_code_67 69 rfl (38) rfl ?_
                refine own_icmpeq X0 C own_d_method_3_code_69 72 132 rfl (by decide) (by decide) (i := ia0.toInt) rfl (j := 38) (by decide) (fun b8 => ?_) (fun b8 => ?_)
                · refine own_iconst X0 C own_d_method_3_code_132 133 rfl (1) rfl ?_
                  refine own_goto X0 C own_d_method_3_code_133 137 (by decide) (by decide) ?_
                  refine own_iretN X0 C .boolean rfl (by simp) own_d_method_3_code_137 (by decide) (by decide) (1) (by decide) ?_
                  exact ⟨by rw [own_is, if_pos (by omega)], e0, rfl⟩
                · refine own_iload_n X0 C own_d_method_3_code_72 73 rfl rfl ?_
                  refine own_bipush X0 C own_d_method_3_code_73 75 rfl (39) rfl ?_
                  refine own_icmpeq X0 C own_d_method_3_code_75 78 132 rfl (by decide) (by decide) (i := ia0.toInt) rfl (j := 39) (by decide) (fun b9 => ?_) (fun b9 => ?_)
                  · refine own_iconst X0 C own_d_method_3_code_132 133 rfl (1) rfl ?_
                    refine own_goto X0 C own_d_method_3_code_133 137 (by decide) (by decide) ?_
                    refine own_iretN X0 C .boolean rfl (by simp) own_d_method_3_code_137 (by decide) (by decide) (1) (by decide) ?_
                    exact ⟨by rw [own_is, if_pos (by omega)], e0, rfl⟩
                  · refine own_iload_n X0 C own_d_method_3_code_78 79 rfl rfl ?_
                    refine own_bipush X0 C own_d_method_3_code_79 81 rfl (42) rfl ?_
                    refine own_icmpeq X0 C own_d_method_3_code_81 84 132 rfl (by decide) (by decide) (i := ia0.toInt) rfl (j := 42) (by decide) (fun b10 => ?_) (fun b10 => ?_)
                    · refine own_iconst X0 C own_d_method_3_code_132 133 rfl (1) rfl ?_
                      refine own_goto X0 C own_d_method_3_code_133 137 (by decide) (by decide) ?_
                      refine own_iretN X0 C .boolean rfl (by simp) own_d_method_3_code_137 (by decide) (by decide) (1) (by decide) ?_
                      exact ⟨by rw [own_is, if_pos (by omega)], e0, rfl⟩
                    · refine own_iload_n X0 C own_d_method_3_code_84 85 rfl rfl ?_
                      refine own_bipush X0 C own_d_method_3_code_85 87 rfl (43) rfl ?_
                      refine own_icmpeq X0 C own_d_method_3_code_87 90 132 rfl (by decide) (by decide) (i := ia0.toInt) rfl (j := 43) (by decide) (fun b11 => ?_) (fun b11 => ?_)
                      · refine own_iconst X0 C own_d_method_3_code_132 133 rfl (1) rfl ?_
                        refine own_goto X0 C own_d_method_3_code_133 137 (by decide) (by decide) ?_
                        refine own_iretN X0 C .boolean rfl (by simp) own_d_method_3_code_137 (by decide) (by decide) (1) (by decide) ?_
                        exact ⟨by rw [own_is, if_pos (by omega)], e0, rfl⟩
                      · refine own_iload_n X0 C own_d_method_3_code_90 91 rfl rfl ?_
                        refine own_bipush X0 C own_d_method_3_code_91 93 rfl (45) rfl ?_
                        refine own_icmpeq X0 C own_d_method_3_code_93 96 132 rfl (by decide) (by decide) (i := ia0.toInt) rfl (j := 45) (by decide) (fun b12 => ?_) (fun b12 => ?_)
                        · refine own_iconst X0 C own_d_method_3_code_132 133 rfl (1) rfl ?_
                          refine own_goto X0 C own_d_method_3_code_133 137 (by decide) (by decide) ?_
                          refine own_iretN X0 C .boolean rfl (by simp) own_d_method_3_code_137 (by decide) (by decide) (1) (by decide) ?_
                          exact ⟨by rw [own_is, if_pos (by omega)], e0, rfl⟩
                        · refine own_iload_n X0 C own_d_method_3_code_96 97 rfl rfl ?_
                          refine own_bipush X0 C own_d_method_3_code_97 99 rfl (46) rfl ?_
                          refine own_icmpeq X0 C own_d_method_3_code_99 102 132 rfl (by decide) (by decide) (i := ia0.toInt) rfl (j := 46) (by decide) (fun b13 => ?_) (fun b13 => ?_)
                          · refine own_iconst X0 C own_d_method_3_code_132 133 rfl (1) rfl ?_
                            refine own_goto X0 C own_d_method_3_code_133 137 (by decide) (by decide) ?_
                            refine own_iretN X0 C .boolean rfl (by simp) own_d_method_3_code_137 (by decide) (by decide) (1) (by decide) ?_
                            exact ⟨by rw [own_is, if_pos (by omega)], e0, rfl⟩
                          · refine own_iload_n X0 C own_d_method_3_code_102 103 rfl rfl ?_
                            refine own_bipush X0 C own_d_method_3_code_103 105 rfl (94) rfl ?_
                            refine own_icmpeq X0 C own_d_method_3_code_105 108 132 rfl (by decide) (by decide) (i := ia0.toInt) rfl (j := 94) (by decide) (fun b14 => ?_) (fun b14 => ?_)
                            · refine own_iconst X0 C own_d_method_3_code_132 133 rfl (1) rfl ?_
                              refine own_goto X0 C own_d_method_3_code_133 137 (by decide) (by decide) ?_
                              refine own_iretN X0 C .boolean rfl (by simp) own_d_method_3_code_137 (by decide) (by decide) (1) (by decide) ?_
                              exact ⟨by rw [own_is, if_pos (by omega)], e0, rfl⟩
                            · refine own_iload_n X0 C own_d_method_3_code_108 109 rfl rfl ?_
                              refine own_bipush X0 C own_d_method_3_code_109 111 rfl (95) rfl ?_
                              refine own_icmpeq X0 C own_d_method_3_code_111 114 132 rfl (by decide) (by decide) (i := ia0.toInt) rfl (j := 95) (by decide) (fun b15 => ?_) (fun b15 => ?_)
                              · refine own_iconst X0 C own_d_method_3_code_132 133 rfl (1) rfl ?_
                                refine own_goto X0 C own_d_method_3_code_133 137 (by decide) (by decide) ?_
                                refine own_iretN X0 C .boolean rfl (by simp) own_d_method_3_code_137 (by decide) (by decide) (1) (by decide) ?_
                                exact ⟨by rw [own_is, if_pos (by omega)], e0, rfl⟩
                              · refine own_iload_n X0 C own_d_method_3_code_114 115 rfl rfl ?_
                                refine own_bipush X0 C own_d_method_3_code_115 117 rfl (96) rfl ?_
                                refine own_icmpeq X0 C own_d_method_3_code_117 120 132 rfl (by decide) (by decide) (i := ia0.toInt) rfl (j := 96) (by decide) (fun b16 => ?_) (fun b16 => ?_)
                                · refine own_iconst X0 C own_d_method_3_code_132 133 rfl (1) rfl ?_
                                  refine own_goto X0 C own_d_method_3_code_133 137 (by decide) (by decide) ?_
                                  refine own_iretN X0 C .boolean rfl (by simp) own_d_method_3_code_137 (by decide) (by decide) (1) (by decide) ?_
                                  exact ⟨by rw [own_is, if_pos (by omega)], e0, rfl⟩
                                · refine own_iload_n X0 C own_d_method_3_code_120 121 rfl rfl ?_
                                  refine own_bipush X0 C own_d_method_3_code_121 123 rfl (124) rfl ?_
                                  refine own_icmpeq X0 C own_d_method_3_code_123 126 132 rfl (by decide) (by decide) (i := ia0.toInt) rfl (j := 124) (by decide) (fun b17 => ?_) (fun b17 => ?_)
                                  · refine own_iconst X0 C own_d_method_3_code_132 133 rfl (1) rfl ?_
                                    refine own_goto X0 C own_d_method_3_code_133 137 (by decide) (by decide) ?_
                                    refine own_iretN X0 C .boolean rfl (by simp) own_d_method_3_code_137 (by decide) (by decide) (1) (by decide) ?_
                                    exact ⟨by rw [own_is, if_pos (by omega)], e0, rfl⟩
                                  · refine own_iload_n X0 C own_d_method_3_code_126 127 rfl rfl ?_
                                    refine own_bipush X0 C own_d_method_3_code_127 129 rfl (126) rfl ?_
                                    refine own_icmpne X0 C own_d_method_3_code_129 132 136 rfl (by decide) (by decide) (i := ia0.toInt) rfl (j := 126) (by decide) (fun b18 => ?_) (fun b18 => ?_)
                                    · refine own_iconst X0 C own_d_method_3_code_136 137 rfl (0) rfl ?_
                                      refine own_iretN X0 C .boolean rfl (by simp) own_d_method_3_code_137 (by decide) (by decide) (0) (by decide) ?_
                                      exact ⟨by rw [own_is, if_neg (by omega)], e0, rfl⟩
                                    · refine own_iconst X0 C own_d_method_3_code_132 133 rfl (1) rfl ?_
                                      refine own_goto X0 C own_d_method_3_code_133 137 (by decide) (by decide) ?_
                                      refine own_iretN X0 C .boolean rfl (by simp) own_d_method_3_code_137 (by decide) (by decide) (1) (by decide) ?_
                                      exact ⟨by rw [own_is, if_pos (by omega)], e0, rfl⟩
      · refine own_iload_n X0 C own_d_method_3_code_34 35 rfl rfl ?_
        refine own_bipush X0 C own_d_method_3_code_35 37 rfl (57) rfl ?_
        refine own_icmpgt X0 C own_d_method_3_code_37 40 42 rfl (by decide) (by decide) (i := ia0.toInt) rfl (j := 57) (by decide) (fun b19 => ?_) (fun b19 => ?_)
        · refine own_iload_n X0 C own_d_method_3_code_42 43 rfl rfl ?_
          refine own_bipush X0 C own_d_method_3_code_43 45 rfl (33) rfl ?_
          refine own_icmpeq X0 C own_d_method_3_code_45 48 132 rfl (by decide) (by decide) (i := ia0.toInt) rfl (j := 33) (by decide) (fun b20 => ?_) (fun b20 => ?_)
          · refine own_iconst X0 C own_d_method_3_code_132 133 rfl (1) rfl ?_
            refine own_goto X0 C own_d_method_3_code_133 137 (by decide) (by decide) ?_
            refine own_iretN X0 C .boolean rfl (by simp) own_d_method_3_code_137 (by decide) (by decide) (1) (by decide) ?_
            exact ⟨by rw [own_is, if_pos (by omega)], e0, rfl⟩
          · refine own_iload_n X0 C own_d_method_3_code_48 49 rfl rfl ?_
            refine own_bipush X0 C own_d_method_3_code_49 51 rfl (35) rfl ?_
            refine own_icmpeq X0 C own_d_method_3_code_51 54 132 rfl (by decide) (by decide) (i := ia0.toInt) rfl (j := 35) (by decide) (fun b21 => ?_) (fun b21 => ?_)
            · refine own_iconst X0 C own_d_method_3_code_132 133 rfl (1) rfl ?_
              refine own_goto X0 C own_d_method_3_code_133 137 (by decide) (by decide) ?_
              refine own_iretN X0 C .boolean rfl (by simp) own_d_method_3_code_137 (by decide) (by decide) (1) (by decide) ?_
              exact ⟨by rw [own_is, if_pos (by omega)], e0, rfl⟩
            · refine own_iload_n X0 C own_d_method_3_code_54 55 rfl rfl ?_
              refine own_bipush X0 C own_d_method_3_code_55 57 rfl (36) rfl ?_
              refine own_icmpeq X0 C own_d_method_3_code_57 60 132 rfl (by decide) (by decide) (i := ia0.toInt) rfl (j := 36) (by decide) (fun b22 => ?_) (fun b22 => ?_)
              · refine own_iconst X0 C own_d_method_3_code_132 133 rfl (1) rfl ?_
                refine own_goto X0 C own_d_method_3_code_133 137 (by decide) (by decide) ?_
                refine own_iretN X0 C .boolean rfl (by simp) own_d_method_3_code_137 (by decide) (by decide) (1) (by decide) ?_
                exact ⟨by rw [own_is, if_pos (by omega)], e0, rfl⟩
              · refine own_iload_n X0 C own_d_method_3_code_60 61 rfl rfl ?_
                refine own_bipush X0 C own_d_method_3_code_61 63 rfl (37) rfl ?_
                refine own_icmpeq X0 C own_d_method_3_code_63 66 132 rfl (by decide) (by decide) (i := ia0.toInt) rfl (j := 37) (by decide) (fun b23 => ?_) (fun b23 => ?_)
                · refine own_iconst X0 C own_d_method_3_code_132 133 rfl (1) rfl ?_
                  refine own_goto X0 C own_d_method_3_code_133 137 (by decide) (by decide) ?_
                  refine own_iretN X0 C .boolean rfl (by simp) own_d_method_3_code_137 (by decide) (by decide) (1) (by decide) ?_
                  exact ⟨by rw [own_is, if_pos (by omega)], e0, rfl⟩
                · refine own_iload_n X0 C own_d_method_3_code_66 67 rfl rfl ?_
                  refine own_bipush X0 C own_d_method_3_code_67 69 rfl (38) rfl ?_
                  refine own_icmpeq X0 C own_d_method_3_code_69 72 132 rfl (by decide) (by decide) (i := ia0.toInt) rfl (j := 38) (by decide) (fun b24 => ?_) (fun b24 => ?_)
                  · refine own_iconst X0 C own_d_method_3_code_132 133 rfl (1) rfl ?_
                    refine own_goto X0 C own_d_method_3_code_133 137 (by decide) (by decide) ?_
                    refine own_iretN X0 C .boolean rfl (by simp) own_d_method_3_code_137 (by decide) (by decide) (1) (by decide) ?_
                    exact ⟨by rw [own_is, if_pos (by omega)], e0, rfl⟩
                  · refine own_iload_n X0 C own_d_method_3_code_72 73 rfl rfl ?_
                    refine own_bipush X0 C own_d_method_3_code_73 75 rfl (39) rfl ?_
                    refine own_icmpeq X0 C own_d_method_3_code_75 78 132 rfl (by decide) (by decide) (i := ia0.toInt) rfl (j := 39) (by decide) (fun b25 => ?_) (fun b25 => ?_)
                    · refine own_iconst X0 C own_d_method_3_code_132 133 rfl (1) rfl ?_
                      refine own_goto X0 C own_d_method_3_code_133 137 (by decide) (by decide) ?_
                      refine own_iretN X0 C .boolean rfl (by simp) own_d_method_3_code_137 (by decide) (by decide) (1) (by decide) ?_
                      exact ⟨by rw [own_is, if_pos (by omega)], e0, rfl⟩
                    · refine own_iload_n X0 C own_d_method_3_code_78 79 rfl rfl ?_
                      refine own_bipush X0 C own_d_method_3_code_79 81 rfl (42) rfl ?_
                      refine own_icmpeq X0 C own_d_method_3_code_81 84 132 rfl (by decide) (by decide) (i := ia0.toInt) rfl (j := 42) (by decide) (fun b26 => ?_) (fun b26 => ?_)
                      · refine own_iconst X0 C own_d_method_3_code_132 133 rfl (1) rfl ?_
                        refine own_goto X0 C own_d_method_3_code_133 137 (by decide) (by decide) ?_
                        refine own_iretN X0 C .boolean rfl (by simp) own_d_method_3_code_137 (by decide) (by decide) (1) (by decide) ?_
                        exact ⟨by rw [own_is, if_pos (by omega)], e0, rfl⟩
                      · refine own_iload_n X0 C own_d_method_3_code_84 85 rfl rfl ?_
                        refine own_bipush X0 C own_d_method_3_code_85 87 rfl (43) rfl ?_
                        refine own_icmpeq X0 C own_d_method_3_code_87 90 132 rfl (by decide) (by decide) (i := ia0.toInt) rfl (j := 43) (by decide) (fun b27 => ?_) (fun b27 => ?_)
                        · refine own_iconst X0 C own_d_method_3_code_132 133 rfl (1) rfl ?_
                          refine own_goto X0 C own_d_method_3_code_133 137 (by decide) (by decide) ?_
                          refine own_iretN X0 C .boolean rfl (by simp) own_d_method_3_code_137 (by decide) (by decide) (1) (by decide) ?_
                          exact ⟨by rw [own_is, if_pos (by omega)], e0, rfl⟩
                        · refine own_iload_n X0 C own_d_method_3_code_90 91 rfl rfl ?_
                          refine own_bipush X0 C own_d_method_3_code_91 93 rfl (45) rfl ?_
                          refine own_icmpeq X0 C own_d_method_3_code_93 96 132 rfl (by decide) (by decide) (i := ia0.toInt) rfl (j := 45) (by decide) (fun b28 => ?_) (fun b28 => ?_)
                          · refine own_iconst X0 C own_d_method_3_code_132 133 rfl (1) rfl ?_
                            refine own_goto X0 C own_d_method_3_code_133 137 (by decide) (by decide) ?_
                            refine own_iretN X0 C .boolean rfl (by simp) own_d_method_3_code_137 (by decide) (by decide) (1) (by decide) ?_
                            exact ⟨by rw [own_is, if_pos (by omega)], e0, rfl⟩
                          · refine own_iload_n X0 C own_d_method_3_code_96 97 rfl rfl ?_
                            refine own_bipush X0 C own_d_method_3_code_97 99 rfl (46) rfl ?_
                            refine own_icmpeq X0 C own_d_method_3_code_99 102 132 rfl (by decide) (by decide) (i := ia0.toInt) rfl (j := 46) (by decide) (fun b29 => ?_) (fun b29 => ?_)
                            · refine own_iconst X0 C own_d_method_3_code_132 133 rfl (1) rfl ?_
                              refine own_goto X0 C own_d_method_3_code_133 137 (by decide) (by decide) ?_
                              refine own_iretN X0 C .boolean rfl (by simp) own_d_method_3_code_137 (by decide) (by decide) (1) (by decide) ?_
                              exact ⟨by rw [own_is, if_pos (by omega)], e0, rfl⟩
                            · refine own_iload_n X0 C own_d_method_3_code_102 103 rfl rfl ?_
                              refine own_bipush X0 C own_d_method_3_code_103 105 rfl (94) rfl ?_
                              refine own_icmpeq X0 C own_d_method_3_code_105 108 132 rfl (by decide) (by decide) (i := ia0.toInt) rfl (j := 94) (by decide) (fun b30 => ?_) (fun b30 => ?_)
                              · refine own_iconst X0 C own_d_method_3_code_132 133 rfl (1) rfl ?_
                                refine own_goto X0 C own_d_method_3_code_133 137 (by decide) (by decide) ?_
                                refine own_iretN X0 C .boolean rfl (by simp) own_d_method_3_code_137 (by decide) (by decide) (1) (by decide) ?_
                                exact ⟨by rw [own_is, if_pos (by omega)], e0, rfl⟩
                              · refine own_iload_n X0 C own_d_method_3_code_108 109 rfl rfl ?_
                                refine own_bipush X0 C own_d_method_3_code_109 111 rfl (95) rfl ?_
                                refine own_icmpeq X0 C own_d_method_3_code_111 114 132 rfl (by decide) (by decide) (i := ia0.toInt) rfl (j := 95) (by decide) (fun b31 => ?_) (fun b31 => ?_)
                                · refine own_iconst X0 C own_d_method_3_code_132 133 rfl (1) rfl ?_
                                  refine own_goto X0 C own_d_method_3_code_133 137 (by decide) (by decide) ?_
                                  refine own_iretN X0 C .boolean rfl (by simp) own_d_method_3_code_137 (by decide) (by decide) (1) (by decide) ?_
                                  exact ⟨by rw [own_is, if_pos (by omega)], e0, rfl⟩
                                · refine own_iload_n X0 C own_d_method_3_code_114 115 rfl rfl ?_
                                  refine own_bipush X0 C own_d_method_3_code_115 117 rfl (96) rfl ?_
                                  refine own_icmpeq X0 C own_d_method_3_code_117 120 132 rfl (by decide) (by decide) (i := ia0.toInt) rfl (j := 96) (by decide) (fun b32 => ?_) (fun b32 => ?_)
                                  · refine own_iconst X0 C own_d_method_3_code_132 133 rfl (1) rfl ?_
                                    refine own_goto X0 C own_d_method_3_code_133 137 (by decide) (by decide) ?_
                                    refine own_iretN X0 C .boolean rfl (by simp) own_d_method_3_code_137 (by decide) (by decide) (1) (by decide) ?_
                                    exact ⟨by rw [own_is, if_pos (by omega)], e0, rfl⟩
                                  · refine own_iload_n X0 C own_d_method_3_code_120 121 rfl rfl ?_
                                    refine own_bipush X0 C own_d_method_3_code_121 123 rfl (124) rfl ?_
                                    refine own_icmpeq X0 C own_d_method_3_code_123 126 132 rfl (by decide) (by decide) (i := ia0.toInt) rfl (j := 124) (by decide) (fun b33 => ?_) (fun b33 => ?_)
                                    · refine own_iconst X0 C own_d_method_3_code_132 133 rfl (1) rfl ?_
                                      refine own_goto X0 C own_d_method_3_code_133 137 (by decide) (by decide) ?_
                                      refine own_iretN X0 C .boolean rfl (by simp) own_d_method_3_code_137 (by decide) (by decide) (1) (by decide) ?_
                                      exact ⟨by rw [own_is, if_pos (by omega)], e0, rfl⟩
                                    · refine own_iload_n X0 C own_d_method_3_code_126 127 rfl rfl ?_
                                      refine own_bipush X0 C own_d_method_3_code_127 129 rfl (126) rfl ?_
                                      refine own_icmpne X0 C own_d_method_3_code_129 132 136 rfl (by decide) (by decide) (i := ia0.toInt) rfl (j := 126) (by decide) (fun b34 => ?_) (fun b34 => ?_)
                                      · refine own_iconst X0 C own_d_method_3_code_136 137 rfl (0) rfl ?_
                                        refine own_iretN X0 C .boolean rfl (by simp) own_d_method_3_code_137 (by decide) (by decide) (0) (by decide) ?_
                                        exact ⟨by rw [own_is, if_neg (by omega)], e0, rfl⟩
                                      · refine own_iconst X0 C own_d_method_3_code_132 133 rfl (1) rfl ?_
                                        refine own_goto X0 C own_d_method_3_code_133 137 (by decide) (by decide) ?_
                                        refine own_iretN X0 C .boolean rfl (by simp) own_d_method_3_code_137 (by decide) (by decide) (1) (by decide) ?_
                                        exact ⟨by rw [own_is, if_pos (by omega)], e0, rfl⟩
        · refine own_iconst X0 C own_d_method_3_code_40 41 rfl (1) rfl ?_
          refine own_iretN X0 C .boolean rfl (by simp) own_d_method_3_code_41 (by decide) (by decide) (1) (by decide) ?_
          exact ⟨by rw [own_is, if_pos (by omega)], e0, rfl⟩
    · refine own_iload_n X0 C own_d_method_3_code_20 21 rfl rfl ?_
      refine own_bipush X0 C own_d_method_3_code_21 23 rfl (122) rfl ?_
      refine own_icmpgt X0 C own_d_method_3_code_23 26 28 rfl (by decide) (by decide) (i := ia0.toInt) rfl (j := 122) (by decide) (fun b35 => ?_) (fun b35 => ?_)
      · refine own_iload_n X0 C own_d_method_3_code_28 29 rfl rfl ?_
        refine own_bipush X0 C own_d_method_3_code_29 31 rfl (48) rfl ?_
        refine own_icmplt X0 C own_d_method_3_code_31 34 42 rfl (by decide) (by decide) (i := ia0.toInt) rfl (j := 48) (by decide) (fun b36 => ?_) (fun b36 => ?_)
        · refine own_iload_n X0 C own_d_method_3_code_42 43 rfl rfl ?_
          refine own_bipush X0 C own_d_method_3_code_43 45 rfl (33) rfl ?_
          refine own_icmpeq X0 C own_d_method_3_code_45 48 132 rfl (by decide) (by decide) (i := ia0.toInt) rfl (j := 33) (by decide) (fun b37 => ?_) (fun b37 => ?_)
          · refine own_iconst X0 C own_d_method_3_code_132 133 rfl (1) rfl ?_
            refine own_goto X0 C own_d_method_3_code_133 137 (by decide) (by decide) ?_
            refine own_iretN X0 C .boolean rfl (by simp) own_d_method_3_code_137 (by decide) (by decide) (1) (by decide) ?_
            exact ⟨by rw [own_is, if_pos (by omega)], e0, rfl⟩
          · refine own_iload_n X0 C own_d_method_3_code_48 49 rfl rfl ?_
            refine own_bipush X0 C own_d_method_3_code_49 51 rfl (35) rfl ?_
            refine own_icmpeq X0 C own_d_method_3_code_51 54 132 rfl (by decide) (by decide) (i := ia0.toInt) rfl (j := 35) (by decide) (fun b38 => ?_) (fun b38 => ?_)
            · refine own_iconst X0 C own_d_method_3_code_132 133 rfl (1) rfl ?_
              refine own_goto X0 C own_d_method_3_code_133 137 (by decide) (by decide) ?_
              refine own_iretN X0 C .boolean rfl (by simp) own_d_method_3_code_137 (by decide) (by decide) (1) (by decide) ?_
              exact ⟨by rw [own_is, if_pos (by omega)], e0, rfl⟩
            · refine own_iload_n X0 C own_d_method_3_code_54 55 rfl rfl ?_
              refine own_bipush X0 C own_d_method_3_code_55 57 rfl (36) rfl ?_
              refine own_icmpeq X0 C own_d_method_3_code_57 60 132 rfl (by decide) (by decide) (i := ia0.toInt) rfl (j := 36) (by decide) (fun b39 => ?_) (fun b39 => ?_)
              · refine own_iconst X0 C own_d_method_3_code_132 133 rfl (1) rfl ?_
                refine own_goto X0 C own_d_method_3_code_133 137 (by decide) (by decide) ?_
                refine own_iretN X0 C .boolean rfl (by simp) own_d_method_3_code_137 (by decide) (by decide) (1) (by decide) ?_
                exact ⟨by rw [own_is, if_pos (by omega)], e0, rfl⟩
              · refine own_iload_n X0 C own_d_method_3_code_60 61 rfl rfl ?_
                refine own_bipush X0 C own_d_method_3_code_61 63 rfl (37) rfl ?_
                refine own_icmpeq X0 C own_d_method_3_code_63 66 132 rfl (by decide) (by decide) (i := ia0.toInt) rfl (j := 37) (by decide) (fun b40 => ?_) (fun b40 => ?_)
                · refine own_iconst X0 C own_d_method_3_code_132 133 rfl (1) rfl ?_
                  refine own_goto X0 C own_d_method_3_code_133 137 (by decide) (by decide) ?_
                  refine own_iretN X0 C .boolean rfl (by simp) own_d_method_3_code_137 (by decide) (by decide) (1) (by decide) ?_
                  exact ⟨by rw [own_is, if_pos (by omega)], e0, rfl⟩
                · refine own_iload_n X0 C own_d_method_3_code_66 67 rfl rfl ?_
                  refine own_bipush X0 C own_d_method_3_code_67 69 rfl (38) rfl ?_
                  refine own_icmpeq X0 C own_d_method_3_code_69 72 132 rfl (by decide) (by decide) (i := ia0.toInt) rfl (j := 38) (by decide) (fun b41 => ?_) (fun b41 => ?_)
                  · refine own_iconst X0 C own_d_method_3_code_132 133 rfl (1) rfl ?_
                    refine own_goto X0 C own_d_method_3_code_133 137 (by decide) (by decide) ?_
                    refine own_iretN X0 C .boolean rfl (by simp) own_d_method_3_code_137 (by decide) (by decide) (1) (by decide) ?_
                    exact ⟨by rw [own_is, if_pos (by omega)], e0, rfl⟩
                  · refine own_iload_n X0 C own_d_method_3_code_72 73 rfl rfl ?_
                    refine own_bipush X0 C own_d_method_3_code_73 75 rfl (39) rfl ?_
                    refine own_icmpeq X0 C own_d_method_3_code_75 78 132 rfl (by decide) (by decide) (i := ia0.toInt) rfl (j := 39) (by decide) (fun b42 => ?_) (fun b42 => ?_)
                    · refine own_iconst X0 C own_d_method_3_code_132 133 rfl (1) rfl ?_
                      refine own_goto X0 C own_d_method_3_code_133 137 (by decide) (by decide) ?_
                      refine own_iretN X0 C .boolean rfl (by simp) own_d_method_3_code_137 (by decide) (by decide) (1) (by decide) ?_
                      exact ⟨by rw [own_is, if_pos (by omega)], e0, rfl⟩
                    · refine own_iload_n X0 C own_d_method_3_code_78 79 rfl rfl ?_
                      refine own_bipush X0 C own_d_method_3_code_79 81 rfl (42) rfl ?_
                      refine own_icmpeq X0 C own_d_method_3_code_81 84 132 rfl (by decide) (by decide) (i := ia0.toInt) rfl (j := 42) (by decide) (fun b43 => ?_) (fun b43 => ?_)
                      · refine own_iconst X0 C own_d_method_3_code_132 133 rfl (1) rfl ?_
                        refine own_goto X0 C own_d_method_3_code_133 137 (by decide) (by decide) ?_
                        refine own_iretN X0 C .boolean rfl (by simp) own_d_method_3_code_137 (by decide) (by decide) (1) (by decide) ?_
                        exact ⟨by rw [own_is, if_pos (by omega)], e0, rfl⟩
                      · refine own_iload_n X0 C own_d_method_3_code_84 85 rfl rfl ?_
                        refine own_bipush X0 C own_d_method_3_code_85 87 rfl (43) rfl ?_
                        refine own_icmpeq X0 C own_d_method_3_code_87 90 132 rfl (by decide) (by decide) (i := ia0.toInt) rfl (j := 43) (by decide) (fun b44 => ?_) (fun b44 => ?_)
                        · refine own_iconst X0 C own_d_method_3_code_132 133 rfl (1) rfl ?_
                          refine own_goto X0 C own_d_method_3_code_133 137 (by decide) (by decide) ?_
                          refine own_iretN X0 C .boolean rfl (by simp) own_d_method_3_code_137 (by decide) (by decide) (1) (by decide) ?_
                          exact ⟨by rw [own_is, if_pos (by omega)], e0, rfl⟩
                        · refine own_iload_n X0 C own_d_method_3_code_90 91 rfl rfl ?_
                          refine own_bipush X0 C own_d_method_3_code_91 93 rfl (45) rfl ?_
                          refine own_icmpeq X0 C own_d_method_3_code_93 96 132 rfl (by decide) (by decide) (i := ia0.toInt) rfl (j := 45) (by decide) (fun b45 => ?_) (fun b45 => ?_)
                          · refine own_iconst X0 C own_d_method_3_code_132 133 rfl (1) rfl ?_
                            refine own_goto X0 C own_d_method_3_code_133 137 (by decide) (by decide) ?_
                            refine own_iretN X0 C .boolean rfl (by simp) own_d_method_3_code_137 (by decide) (by decide) (1) (by decide) ?_
                            exact ⟨by rw [own_is, if_pos (by omega)], e0, rfl⟩
                          · refine own_iload_n X0 C own_d_method_3_code_96 97 rfl rfl ?_
                            refine own_bipush X0 C own_d_method_3_code_97 99 rfl (46) rfl ?_
                            refine own_icmpeq X0 C own_d_method_3_code_99 102 132 rfl (by decide) (by decide) (i := ia0.toInt) rfl (j := 46) (by decide) (fun b46 => ?_) (fun b46 => ?_)
                            · refine own_iconst X0 C own_d_method_3_code_132 133 rfl (1) rfl ?_
                              refine own_goto X0 C own_d_method_3_code_133 137 (by decide) (by decide) ?_
                              refine own_iretN X0 C .boolean rfl (by simp) own_d_method_3_code_137 (by decide) (by decide) (1) (by decide) ?_
                              exact ⟨by rw [own_is, if_pos (by omega)], e0, rfl⟩
                            · refine own_iload_n X0 C own_d_method_3_code_102 103 rfl rfl ?_
                              refine own_bipush X0 C own_d_method_3_code_103 105 rfl (94) rfl ?_
                              refine own_icmpeq X0 C own_d_method_3_code_105 108 132 rfl (by decide) (by decide) (i := ia0.toInt) rfl (j := 94) (by decide) (fun b47 => ?_) (fun b47 => ?_)
                              · refine own_iconst X0 C own_d_method_3_code_132 133 rfl (1) rfl ?_
                                refine own_goto X0 C own_d_method_3_code_133 137 (by decide) (by decide) ?_
                                refine own_iretN X0 C .boolean rfl (by simp) own_d_method_3_code_137 (by decide) (by decide) (1) (by decide) ?_
                                exact ⟨by rw [own_is, if_pos (by omega)], e0, rfl⟩
                              · refine own_iload_n X0 C own_d_method_3_code_108 109 rfl rfl ?_
                                refine own_bipush X0 C own_d_method_3_code_109 111 rfl (95) rfl ?_
                                refine own_icmpeq X0 C own_d_method_3_code_111 114 132 rfl (by decide) (by decide) (i := ia0.toInt) rfl (j := 95) (by decide) (fun b48 => ?_) (fun b48 => ?_)
                                · refine own_iconst X0 C own_d_method_3_code_132 133 rfl (1) rfl ?_
                                  refine own_goto X0 C own_d_method_3_code_133 137 (by decide) (by decide) ?_
                                  refine own_iretN X0 C .boolean rfl (by simp) own_d_method_3_code_137 (by decide) (by decide) (1) (by decide) ?_
                                  exact ⟨by rw [own_is, if_pos (by omega)], e0, rfl⟩
                                · refine own_iload_n X0 C own_d_method_3_code_114 115 rfl rfl ?_
                                  refine own_bipush X0 C own_d_method_3_code_115 117 rfl (96) rfl ?_
                                  refine own_icmpeq X0 C own_d_method_3_code_117 120 132 rfl (by decide) (by decide) (i := ia0.toInt) rfl (j := 96) (by decide) (fun b49 => ?_) (fun b49 => ?_)
                                  · refine own_iconst X0 C own_d_method_3_code_132 133 rfl (1) rfl ?_
                                    refine own_goto X0 C own_d_method_3_code_133 137 (by decide) (by decide) ?_
                                    refine own_iretN X0 C .boolean rfl (by simp) own_d_method_3_code_137 (by decide) (by decide) (1) (by decide) ?_
                                    exact ⟨by rw [own_is, if_pos (by omega)], e0, rfl⟩
                                  · refine own_iload_n X0 C own_d_method_3_code_120 121 rfl rfl ?_
                                    refine own_bipush X0 C own_d_method_3_code_121 123 rfl (124) rfl ?_
                                    refine own_icmpeq X0 C own_d_method_3_code_123 126 132 rfl (by decide) (by decide) (i := ia0.toInt) rfl (j := 124) (by decide) (fun b50 => ?_) (fun b50 => ?_)
                                    · refine own_iconst X0 C own_d_method_3_code_132 133 rfl (1) rfl ?_
                                      refine own_goto X0 C own_d_method_3_code_133 137 (by decide) (by decide) ?_
                                      refine own_iretN X0 C .boolean rfl (by simp) own_d_method_3_code_137 (by decide) (by decide) (1) (by decide) ?_
                                      exact ⟨by rw [own_is, if_pos (by omega)], e0, rfl⟩
                                    · refine own_iload_n X0 C own_d_method_3_code_126 127 rfl rfl ?_
                                      refine own_bipush X0 C own_d_method_3_code_127 129 rfl (126) rfl ?_
                                      refine own_icmpne X0 C own_d_method_3_code_129 132 136 rfl (by decide) (by decide) (i := ia0.toInt) rfl (j := 126) (by decide) (fun b51 => ?_) (fun b51 => ?_)
                                      · refine own_iconst X0 C own_d_method_3_code_136 137 rfl (0) rfl ?_
                                        refine own_iretN X0 C .boolean rfl (by simp) own_d_method_3_code_137 (by decide) (by decide) (0) (by decide) ?_
                                        exact ⟨by rw [own_is, if_neg (by omega)], e0, rfl⟩
                                      · refine own_iconst X0 C own_d_method_3_code_132 133 rfl (1) rfl ?_
                                        refine own_goto X0 C own_d_method_3_code_133 137 (by decide) (by decide) ?_
                                        refine own_iretN X0 C .boolean rfl (by simp) own_d_method_3_code_137 (by decide) (by decide) (1) (by decide) ?_
                                        exact ⟨by rw [own_is, if_pos (by omega)], e0, rfl⟩
        · refine own_iload_n X0 C own_d_method_3_code_34 35 rfl rfl ?_
          refine own_bipush X0 C own_d_method_3_code_35 37 rfl (57) rfl ?_
          refine own_icmpgt X0 C own_d_method_3_code_37 40 42 rfl (by decide) (by decide) (i := ia0.toInt) rfl (j := 57) (by decide) (fun b52 => ?_) (fun b52 => ?_)
          · refine own_iload_n X0 C own_d_method_3_code_42 43 rfl rfl ?_
            refine own_bipush X0 C own_d_method_3_code_43 45 rfl (33) rfl ?_
            refine own_icmpeq X0 C own_d_method_3_code_45 48 132 rfl (by decide) (by decide) (i := ia0.toInt) rfl (j := 33) (by decide) (fun b53 => ?_) (fun b53 => ?_)
            · refine own_iconst X0 C own_d_method_3_code_132 133 rfl (1) rfl ?_
              refine own_goto X0 C own_d_method_3_code_133 137 (by decide) (by decide) ?_
              refine own_iretN X0 C .boolean rfl (by simp) own_d_method_3_code_137 (by decide) (by decide) (1) (by decide) ?_
              exact ⟨by rw [own_is, if_pos (by omega)], e0, rfl⟩
            · refine own_iload_n X0 C own_d_method_3_code_48 49 rfl rfl ?_
              refine own_bipush X0 C own_d_method_3_code_49 51 rfl (35) rfl ?_
              refine own_icmpeq X0 C own_d_method_3_code_51 54 132 rfl (by decide) (by decide) (i := ia0.toInt) rfl (j := 35) (by decide) (fun b54 => ?_) (fun b54 => ?_)
              · refine own_iconst X0 C own_d_method_3_code_132 133 rfl (1) rfl ?_
                refine own_goto X0 C own_d_method_3_code_133 137 (by decide) (by decide) ?_
                refine own_iretN X0 C .boolean rfl (by simp) own_d_method_3_code_137 (by decide) (by decide) (1) (by decide) ?_
                exact ⟨by rw [own_is, if_pos (by omega)], e0, rfl⟩
              · refine own_iload_n X0 C own_d_method_3_code_54 55 rfl rfl ?_
                refine own_bipush X0 C own_d_method_3_code_55 57 rfl (36) rfl ?_
                refine own_icmpeq X0 C own_d_method_3_code_57 60 132 rfl (by decide) (by decide) (i := ia0.toInt) rfl (j := 36) (by decide) (fun b55 => ?_) (fun b55 => ?_)
                · refine own_iconst X0 C own_d_method_3_code_132 133 rfl (1) rfl ?_
                  refine own_goto X0 C own_d_method_3_code_133 137 (by decide) (by decide) ?_
                  refine own_iretN X0 C .boolean rfl (by simp) own_d_method_3_code_137 (by decide) (by decide) (1) (by decide) ?_
                  exact ⟨by rw [own_is, if_pos (by omega)], e0, rfl⟩
                · refine own_iload_n X0 C own_d_method_3_code_60 61 rfl rfl ?_
                  refine own_bipush X0 C own_d_method_3_code_61 63 rfl (37) rfl ?_
                  refine own_icmpeq X0 C own_d_method_3_code_63 66 132 rfl (by decide) (by decide) (i := ia0.toInt) rfl (j := 37) (by decide) (fun b56 => ?_) (fun b56 => ?_)
                  · refine own_iconst X0 C own_d_method_3_code_132 133 rfl (1) rfl ?_
                    refine own_goto X0 C own_d_method_3_code_133 137 (by decide) (by decide) ?_
                    refine own_iretN X0 C .boolean rfl (by simp) own_d_method_3_code_137 (by decide) (by decide) (1) (by decide) ?_
                    exact ⟨by rw [own_is, if_pos (by omega)], e0, rfl⟩
                  · refine own_iload_n X0 C own_d_method_3_code_66 67 rfl rfl ?_
                    refine own_bipush X0 C own_d_method_3_code_67 69 rfl (38) rfl ?_
                    refine own_icmpeq X0 C own_d_method_3_code_69 72 132 rfl (by decide) (by decide) (i := ia0.toInt) rfl (j := 38) (by decide) (fun b57 => ?_) (fun b57 => ?_)
                    · refine own_iconst X0 C own_d_method_3_code_132 133 rfl (1) rfl ?_
                      refine own_goto X0 C own_d_method_3_code_133 137 (by decide) (by decide) ?_
                      refine own_iretN X0 C .boolean rfl (by simp) own_d_method_3_code_137 (by decide) (by decide) (1) (by decide) ?_
                      exact ⟨by rw [own_is, if_pos (by omega)], e0, rfl⟩
                    · refine own_iload_n X0 C own_d_method_3_code_72 73 rfl rfl ?_
                      refine own_bipush X0 C own_d_method_3_code_73 75 rfl (39) rfl ?_
                      refine own_icmpeq X0 C own_d_method_3_code_75 78 132 rfl (by decide) (by decide) (i := ia0.toInt) rfl (j := 39) (by decide) (fun b58 => ?_) (fun b58 => ?_)
                      · refine own_iconst X0 C own_d_method_3_code_132 133 rfl (1) rfl ?_
                        refine own_goto X0 C own_d_method_3_code_133 137 (by decide) (by decide) ?_
                        refine own_iretN X0 C .boolean rfl (by simp) own_d_method_3_code_137 (by decide) (by decide) (1) (by decide) ?_
                        exact ⟨by rw [own_is, if_pos (by omega)], e0, rfl⟩
                      · refine own_iload_n X0 C own_d_method_3_code_78 79 rfl rfl ?_
                        refine own_bipush X0 C own_d_method_3_code_79 81 rfl (42) rfl ?_
                        refine own_icmpeq X0 C own_d_method_3_code_81 84 132 rfl (by decide) (by decide) (i := ia0.toInt) rfl (j := 42) (by decide) (fun b59 => ?_) (fun b59 => ?_)
                        · refine own_iconst X0 C own_d_method_3_code_132 133 rfl (1) rfl ?_
                          refine own_goto X0 C own_d_method_3_code_133 137 (by decide) (by decide) ?_
                          refine own_iretN X0 C .boolean rfl (by simp) own_d_method_3_code_137 (by decide) (by decide) (1) (by decide) ?_
                          exact ⟨by rw [own_is, if_pos (by omega)], e0, rfl⟩
                        · refine own_iload_n X0 C own_d_method_3_code_84 85 rfl rfl ?_
                          refine own_bipush X0 C own_d_method_3_code_85 87 rfl (43) rfl ?_
                          refine own_icmpeq X0 C own_d_method_3_code_87 90 132 rfl (by decide) (by decide) (i := ia0.toInt) rfl (j := 43) (by decide) (fun b60 => ?_) (fun b60 => ?_)
                          · refine own_iconst X0 C own_d_method_3_code_132 133 rfl (1) rfl ?_
                            refine own_goto X0 C own_d_method_3_code_133 137 (by decide) (by decide) ?_
                            refine own_iretN X0 C .boolean rfl (by simp) own_d_method_3_code_137 (by decide) (by decide) (1) (by decide) ?_
                            exact ⟨by rw [own_is, if_pos (by omega)], e0, rfl⟩
                          · refine own_iload_n X0 C own_d_method_3_code_90 91 rfl rfl ?_
                            refine own_bipush X0 C own_d_method_3_code_91 93 rfl (45) rfl ?_
                            refine own_icmpeq X0 C own_d_method_3_code_93 96 132 rfl (by decide) (by decide) (i := ia0.toInt) rfl (j := 45) (by decide) (fun b61 => ?_) (fun b61 => ?_)
                            · refine own_iconst X0 C own_d_method_3_code_132 133 rfl (1) rfl ?_
                              refine own_goto X0 C own_d_method_3_code_133 137 (by decide) (by decide) ?_
                              refine own_iretN X0 C .boolean rfl (by simp) own_d_method_3_code_137 (by decide) (by decide) (1) (by decide) ?_
                              exact ⟨by rw [own_is, if_pos (by omega)], e0, rfl⟩
                            · refine own_iload_n X0 C own_d_method_3_code_96 97 rfl rfl ?_
                              refine own_bipush X0 C own_d_method_3_code_97 99 rfl (46) rfl ?_
                              refine own_icmpeq X0 C own_d_method_3_code_99 102 132 rfl (by decide) (by decide) (i := ia0.toInt) rfl (j := 46) (by decide) (fun b62 => ?_) (fun b62 => ?_)
                              · refine own_iconst X0 C own_d_method_3_code_132 133 rfl (1) rfl ?_
                                refine own_goto X0 C own_d_method_3_code_133 137 (by decide) (by decide) ?_
                                refine own_iretN X0 C .boolean rfl (by simp) own_d_method_3_code_137 (by decide) (by decide) (1) (by decide) ?_
                                exact ⟨by rw [own_is, if_pos (by omega)], e0, rfl⟩
                              · refine own_iload_n X0 C own_d_method_3_code_102 103 rfl rfl ?_
                                refine own_bipush X0 C own_d_method_3_code_103 105 rfl (94) rfl ?_
                                refine own_icmpeq X0 C own_d_method_3_code_105 108 132 rfl (by decide) (by decide) (i := ia0.toInt) rfl (j := 94) (by decide) (fun b63 => ?_) (fun b63 => ?_)
                                · refine own_iconst X0 C own_d_method_3_code_132 133 rfl (1) rfl ?_
                                  refine own_goto X0 C own_d_method_3_code_133 137 (by decide) (by decide) ?_
                                  refine own_iretN X0 C .boolean rfl (by simp) own_d_method_3_code_137 (by decide) (by decide) (1) (by decide) ?_
                                  exact ⟨by rw [own_is, if_pos (by omega)], e0, rfl⟩
                                · refine own_iload_n X0 C own_d_method_3_code_108 109 rfl rfl ?_
                                  refine own_bipush X0 C own_d_method_3_code_109 111 rfl (95) rfl ?_
                                  refine own_icmpeq X0 C own_d_method_3_code_111 114 132 rfl (by decide) (by decide) (i := ia0.toInt) rfl (j := 95) (by decide) (fun b64 => ?_) (fun b64 => ?_)
                                  · refine own_iconst X0 C own_d_method_3_code_132 133 rfl (1) rfl ?_
                                    refine own_goto X0 C own_d_method_3_code_133 137 (by decide) (by decide) ?_
                                    refine own_iretN X0 C .boolean rfl (by simp) own_d_method_3_code_137 (by decide) (by decide) (1) (by decide) ?_
                                    exact ⟨by rw [own_is, if_pos (by omega)], e0, rfl⟩
                                  · refine own_iload_n X0 C own_d_method_3_code_114 115 rfl rfl ?_
                                    refine own_bipush X0 C own_d_method_3_code_115 117 rfl (96) rfl ?_
                                    refine own_icmpeq X0 C own_d_method_3_code_117 120 132 rfl (by decide) (by decide) (i := ia0.toInt) rfl (j := 96) (by decide) (fun b65 => ?_) (fun b65 => ?_)
                                    · refine own_iconst X0 C own_d_method_3_code_132 133 rfl (1) rfl ?_
                                      refine own_goto X0 C own_d_method_3_code_133 137 (by decide) (by decide) ?_
                                      refine own_iretN X0 C .boolean rfl (by simp) own_d_method_3_code_137 (by decide) (by decide) (1) (by decide) ?_
                                      exact ⟨by rw [own_is, if_pos (by omega)], e0, rfl⟩
                                    · refine own_iload_n X0 C own_d_method_3_code_120 121 rfl rfl ?_
                                      refine own_bipush X0 C own_d_method_3_code_121 123 rfl (124) rfl ?_
                                      refine own_icmpeq X0 C own_d_method_3_code_123 126 132 rfl (by decide) (by decide) (i := ia0.toInt) rfl (j := 124) (by decide) (fun b66 => ?_) (fun b66 => ?_)
                                      · refine own_iconst X0 C own_d_method_3_code_132 133 rfl (1) rfl ?_
                                        refine own_goto X0 C own_d_method_3_code_133 137 (by decide) (by decide) ?_
                                        refine own_iretN X0 C .boolean rfl (by simp) own_d_method_3_code_137 (by decide) (by decide) (1) (by decide) ?_
                                        exact ⟨by rw [own_is, if_pos (by omega)], e0, rfl⟩
                                      · refine own_iload_n X0 C own_d_method_3_code_126 127 rfl rfl ?_
                                        refine own_bipush X0 C own_d_method_3_code_127 129 rfl (126) rfl ?_
                                        refine own_icmpne X0 C own_d_method_3_code_129 132 136 rfl (by decide) (by decide) (i := ia0.toInt) rfl (j := 126) (by decide) (fun b67 => ?_) (fun b67 => ?_)
                                        · refine own_iconst X0 C own_d_method_3_code_136 137 rfl (0) rfl ?_
                                          refine own_iretN X0 C .boolean rfl (by simp) own_d_method_3_code_137 (by decide) (by decide) (0) (by decide) ?_
                                          exact ⟨by rw [own_is, if_neg (by omega)], e0, rfl⟩
                                        · refine own_iconst X0 C own_d_method_3_code_132 133 rfl (1) rfl ?_
                                          refine own_goto X0 C own_d_method_3_code_133 137 (by decide) (by decide) ?_
                                          refine own_iretN X0 C .boolean rfl (by simp) own_d_method_3_code_137 (by decide) (by decide) (1) (by decide) ?_
                                          exact ⟨by rw [own_is, if_pos (by omega)], e0, rfl⟩
          · refine own_iconst X0 C own_d_method_3_code_40 41 rfl (1) rfl ?_
            refine own_iretN X0 C .boolean rfl (by simp) own_d_method_3_code_41 (by decide) (by decide) (1) (by decide) ?_
            exact ⟨by rw [own_is, if_pos (by omega)], e0, rfl⟩
      · refine own_iconst X0 C own_d_method_3_code_26 27 rfl (1) rfl ?_
        refine own_iretN X0 C .boolean rfl (by simp) own_d_method_3_code_27 (by decide) (by decide) (1) (by decide) ?_
        exact ⟨by rw [own_is, if_pos (by omega)], e0, rfl⟩
  · refine own_iload_n X0 C own_d_method_3_code_6 7 rfl rfl ?_
    refine own_bipush X0 C own_d_method_3_code_7 9 rfl (90) rfl ?_
    refine own_icmpgt X0 C own_d_method_3_code_9 12 14 rfl (by decide) (by decide) (i := ia0.toInt) rfl (j := 90) (by decide) (fun b68 => ?_) (fun b68 => ?_)
    · refine own_iload_n X0 C own_d_method_3_code_14 15 rfl rfl ?_
      refine own_bipush X0 C own_d_method_3_code_15 17 rfl (97) rfl ?_
      refine own_icmplt X0 C own_d_method_3_code_17 20 28 rfl (by decide) (by decide) (i := ia0.toInt) rfl (j := 97) (by decide) (fun b69 => ?_) (fun b69 => ?_)
      · refine own_iload_n X0 C own_d_method_3_code_28 29 rfl rfl ?_
        refine own_bipush X0 C own_d_method_3_code_29 31 rfl (48) rfl ?_
        refine own_icmplt X0 C own_d_method_3_code_31 34 42 rfl (by decide) (by decide) (i := ia0.toInt) rfl (j := 48) (by decide) (fun b70 => ?_) (fun b70 => ?_)
        · refine own_iload_n X0 C own_d_method_3_code_42 43 rfl rfl ?_
          refine own_bipush X0 C own_d_method_3_code_43 45 rfl (33) rfl ?_
          refine own_icmpeq X0 C own_d_method_3_code_45 48 132 rfl (by decide) (by decide) (i := ia0.toInt) rfl (j := 33) (by decide) (fun b71 => ?_) (fun b71 => ?_)
          · refine own_iconst X0 C own_d_method_3_code_132 133 rfl (1) rfl ?_
            refine own_goto X0 C own_d_method_3_code_133 137 (by decide) (by decide) ?_
            refine own_iretN X0 C .boolean rfl (by simp) own_d_method_3_code_137 (by decide) (by decide) (1) (by decide) ?_
            exact ⟨by rw [own_is, if_pos (by omega)], e0, rfl⟩
          · refine own_iload_n X0 C own_d_method_3_code_48 49 rfl rfl ?_
            refine own_bipush X0 C own_d_method_3_code_49 51 rfl (35) rfl ?_
            refine own_icmpeq X0 C own_d_method_3_code_51 54 132 rfl (by decide) (by decide) (i := ia0.toInt) rfl (j := 35) (by decide) (fun b72 => ?_) (fun b72 => ?_)
            · refine own_iconst X0 C own_d_method_3_code_132 133 rfl (1) rfl ?_
              refine own_goto X0 C own_d_method_3_code_133 137 (by decide) (by decide) ?_
              refine own_iretN X0 C .boolean rfl (by simp) own_d_method_3_code_137 (by decide) (by decide) (1) (by decide) ?_
              exact ⟨by rw [own_is, if_pos (by omega)], e0, rfl⟩
            · refine own_iload_n X0 C own_d_method_3_code_54 55 rfl rfl ?_
              refine own_bipush X0 C own_d_method_3_code_55 57 rfl (36) rfl ?_
              refine own_icmpeq X0 C own_d_method_3_code_57 60 132 rfl (by decide) (by decide) (i := ia0.toInt) rfl (j := 36) (by decide) (fun b73 => ?_) (fun b73 => ?_)
              · refine own_iconst X0 C own_d_method_3_code_132 133 rfl (1) rfl ?_
                refine own_goto X0 C own_d_method_3_code_133 137 (by decide) (by decide) ?_
                refine own_iretN X0 C .boolean rfl (by simp) own_d_method_3_code_137 (by decide) (by decide) (1) (by decide) ?_
                exact ⟨by rw [own_is, if_pos (by omega)], e0, rfl⟩
              · refine own_iload_n X0 C own_d_method_3_code_60 61 rfl rfl ?_
                refine own_bipush X0 C own_d_method_3_code_61 63 rfl (37) rfl ?_
                refine own_icmpeq X0 C own_d_method_3_code_63 66 132 rfl (by decide) (by decide) (i := ia0.toInt) rfl (j := 37) (by decide) (fun b74 => ?_) (fun b74 => ?_)
                · refine own_iconst X0 C own_d_method_3_code_132 133 rfl (1) rfl ?_
                  refine own_goto X0 C own_d_method_3_code_133 137 (by decide) (by decide) ?_
                  refine own_iretN X0 C .boolean rfl (by simp) own_d_method_3_code_137 (by decide) (by decide) (1) (by decide) ?_
                  exact ⟨by rw [own_is, if_pos (by omega)], e0, rfl⟩
                · refine own_iload_n X0 C own_d_method_3_code_66 67 rfl rfl ?_
                  refine own_bipush X0 C own_d_method_3_code_67 69 rfl (38) rfl ?_
                  refine own_icmpeq X0 C own_d_method_3_code_69 72 132 rfl (by decide) (by decide) (i := ia0.toInt) rfl (j := 38) (by decide) (fun b75 => ?_) (fun b75 => ?_)
                  · refine own_iconst X0 C own_d_method_3_code_132 133 rfl (1) rfl ?_
                    refine own_goto X0 C own_d_method_3_code_133 137 (by decide) (by decide) ?_
                    refine own_iretN X0 C .boolean rfl (by simp) own_d_method_3_code_137 (by decide) (by decide) (1) (by decide) ?_
                    exact ⟨by rw [own_is, if_pos (by omega)], e0, rfl⟩
                  · refine own_iload_n X0 C own_d_method_3_code_72 73 rfl rfl ?_
                    refine own_bipush X0 C own_d_method_3_code_73 75 rfl (39) rfl ?_
                    refine own_icmpeq X0 C own_d_method_3_code_75 78 132 rfl (by decide) (by decide) (i := ia0.toInt) rfl (j := 39) (by decide) (fun b76 => ?_) (fun b76 => ?_)
                    · refine own_iconst X0 C own_d_method_3_code_132 133 rfl (1) rfl ?_
                      refine own_goto X0 C own_d_method_3_code_133 137 (by decide) (by decide) ?_
                      refine own_iretN X0 C .boolean rfl (by simp) own_d_method_3_code_137 (by decide) (by decide) (1) (by decide) ?_
                      exact ⟨by rw [own_is, if_pos (by omega)], e0, rfl⟩
                    · refine own_iload_n X0 C own_d_method_3_code_78 79 rfl rfl ?_
                      refine own_bipush X0 C own_d_method_3_code_79 81 rfl (42) rfl ?_
                      refine own_icmpeq X0 C own_d_method_3_code_81 84 132 rfl (by decide) (by decide) (i := ia0.toInt) rfl (j := 42) (by decide) (fun b77 => ?_) (fun b77 => ?_)
                      · refine own_iconst X0 C own_d_method_3_code_132 133 rfl (1) rfl ?_
                        refine own_goto X0 C own_d_method_3_code_133 137 (by decide) (by decide) ?_
                        refine own_iretN X0 C .boolean rfl (by simp) own_d_method_3_code_137 (by decide) (by decide) (1) (by decide) ?_
                        exact ⟨by rw [own_is, if_pos (by omega)], e0, rfl⟩
                      · refine own_iload_n X0 C own_d_method_3_code_84 85 rfl rfl ?_
                        refine own_bipush X0 C own_d_method_3_code_85 87 rfl (43) rfl ?_
                        refine own_icmpeq X0 C own_d_method_3_code_87 90 132 rfl (by decide) (by decide) (i := ia0.toInt) rfl (j := 43) (by decide) (fun b78 => ?_) (fun b78 => ?_)
                        · refine own_iconst X0 C own_d_method_3_code_132 133 rfl (1) rfl ?_
                          refine own_goto X0 C own_d_method_3_code_133 137 (by decide) (by decide) ?_
                          refine own_iretN X0 C .boolean rfl (by simp) own_d_method_3_code_137 (by decide) (by decide) (1) (by decide) ?_
                          exact ⟨by rw [own_is, if_pos (by omega)], e0, rfl⟩
                        · refine own_iload_n X0 C own_d_method_3_code_90 91 rfl rfl ?_
                          refine own_bipush X0 C own_d_method_3_code_91 93 rfl (45) rfl ?_
                          refine own_icmpeq X0 C own_d_method_3_code_93 96 132 rfl (by decide) (by decide) (i := ia0.toInt) rfl (j := 45) (by decide) (fun b79 => ?_) (fun b79 => ?_)
                          · refine own_iconst X0 C own_d_method_3_code_132 133 rfl (1) rfl ?_
                            refine own_goto X0 C own_d_method_3_code_133 137 (by decide) (by decide) ?_
                            refine own_iretN X0 C .boolean rfl (by simp) own_d_method_3_code_137 (by decide) (by decide) (1) (by decide) ?_
                            exact ⟨by rw [own_is, if_pos (by omega)], e0, rfl⟩
                          · refine own_iload_n X0 C own_d_method_3_code_96 97 rfl rfl ?_
                            refine own_bipush X0 C own_d_method_3_code_97 99 rfl (46) rfl ?_
                            refine own_icmpeq X0 C own_d_method_3_code_99 102 132 rfl (by decide) (by decide) (i := ia0.toInt) rfl (j := 46) (by decide) (fun b80 => ?_) (fun b80 => ?_)
                            · refine own_iconst X0 C own_d_method_3_code_132 133 rfl (1) rfl ?_
                              refine own_goto X0 C own_d_method_3_code_133 137 (by decide) (by decide) ?_
                              refine own_iretN X0 C .boolean rfl (by simp) own_d_method_3_code_137 (by decide) (by decide) (1) (by decide) ?_
                              exact ⟨by rw [own_is, if_pos (by omega)], e0, rfl⟩
                            · refine own_iload_n X0 C own_d_method_3_code_102 103 rfl rfl ?_
                              refine own_bipush X0 C own_d_method_3_code_103 105 rfl (94) rfl ?_
                              refine own_icmpeq X0 C own_d_method_3_code_105 108 132 rfl (by decide) (by decide) (i := ia0.toInt) rfl (j := 94) (by decide) (fun b81 => ?_) (fun b81 => ?_)
                              · refine own_iconst X0 C own_d_method_3_code_132 133 rfl (1) rfl ?_
                                refine own_goto X0 C own_d_method_3_code_133 137 (by decide) (by decide) ?_
                                refine own_iretN X0 C .boolean rfl (by simp) own_d_method_3_code_137 (by decide) (by decide) (1) (by decide) ?_
                                exact ⟨by rw [own_is, if_pos (by omega)], e0, rfl⟩
                              · refine own_iload_n X0 C own_d_method_3_code_108 109 rfl rfl ?_
                                refine own_bipush X0 C own_d_method_3_code_109 111 rfl (95) rfl ?_
                                refine own_icmpeq X0 C own_d_method_3_code_111 114 132 rfl (by decide) (by decide) (i := ia0.toInt) rfl (j := 95) (by decide) (fun b82 => ?_) (fun b82 => ?_)
                                · refine own_iconst X0 C own_d_method_3_code_132 133 rfl (1) rfl ?_
                                  refine own_goto X0 C own_d_method_3_code_133 137 (by decide) (by decide) ?_
                                  refine own_iretN X0 C .boolean rfl (by simp) own_d_method_3_code_137 (by decide) (by decide) (1) (by decide) ?_
                                  exact ⟨by rw [own_is, if_pos (by omega)], e0, rfl⟩
                                · refine own_iload_n X0 C own_d_method_3_code_114 115 rfl rfl ?_
                                  refine own_bipush X0 C own_d_method_3_code_115 117 rfl (96) rfl ?_
                                  refine own_icmpeq X0 C own_d_method_3_code_117 120 132 rfl (by decide) (by decide) (i := ia0.toInt) rfl (j := 96) (by decide) (fun b83 => ?_) (fun b83 => ?_)
                                  · refine own_iconst X0 C own_d_method_3_code_132 133 rfl (1) rfl ?_
                                    refine own_goto X0 C own_d_method_3_code_133 137 (by decide) (by decide) ?_
                                    refine own_iretN X0 C .boolean rfl (by simp) own_d_method_3_code_137 (by decide) (by decide) (1) (by decide) ?_
                                    exact ⟨by rw [own_is, if_pos (by omega)], e0, rfl⟩
                                  · refine own_iload_n X0 C own_d_method_3_code_120 121 rfl rfl ?_
                                    refine own_bipush X0 C own_d_method_3_code_121 123 rfl (124) rfl ?_
                                    refine own_icmpeq X0 C own_d_method_3_code_123 126 132 rfl (by decide) (by decide) (i := ia0.toInt) rfl (j := 124) (by decide) (fun b84 => ?_) (fun b84 => ?_)
                                    · refine own_iconst X0 C own_d_method_3_code_132 133 rfl (1) rfl ?_
                                      refine own_goto X0 C own_d_method_3_code_133 137 (by decide) (by decide) ?_
                                      refine own_iretN X0 C .boolean rfl (by simp) own_d_method_3_code_137 (by decide) (by decide) (1) (by decide) ?_
                                      exact ⟨by rw [own_is, if_pos (by omega)], e0, rfl⟩
                                    · refine own_iload_n X0 C own_d_method_3_code_126 127 rfl rfl ?_
                                      refine own_bipush X0 C own_d_method_3_code_127 129 rfl (126) rfl ?_
                                      refine own_icmpne X0 C own_d_method_3_code_129 132 136 rfl (by decide) (by decide) (i := ia0.toInt) rfl (j := 126) (by decide) (fun b85 => ?_) (fun b85 => ?_)
                                      · refine own_iconst X0 C own_d_method_3_code_136 137 rfl (0) rfl ?_
                                        refine own_iretN X0 C .boolean rfl (by simp) own_d_method_3_code_137 (by decide) (by decide) (0) (by decide) ?_
                                        exact ⟨by rw [own_is, if_neg (by omega)], e0, rfl⟩
                                      · refine own_iconst X0 C own_d_method_3_code_132 133 rfl (1) rfl ?_
                                        refine own_goto X0 C own_d_method_3_code_133 137 (by decide) (by decide) ?_
                                        refine own_iretN X0 C .boolean rfl (by simp) own_d_method_3_code_137 (by decide) (by decide) (1) (by decide) ?_
                                        exact ⟨by rw [own_is, if_pos (by omega)], e0, rfl⟩
        · refine own_iload_n X0 C own_d_method_3_code_34 35 rfl rfl ?_
          refine own_bipush X0 C own_d_method_3_code_35 37 rfl (57) rfl ?_
          refine own_icmpgt X0 C own_d_method_3_code_37 40 42 rfl (by decide) (by decide) (i := ia0.toInt) rfl (j := 57) (by decide) (fun b86 => ?_) (fun b86 => ?_)
          · refine own_iload_n X0 C own_d_method_3_code_42 43 rfl rfl ?_
            refine own_bipush X0 C own_d_method_3_code_43 45 rfl (33) rfl ?_
            refine own_icmpeq X0 C own_d_method_3_code_45 48 132 rfl (by decide) (by decide) (i := ia0.toInt) rfl (j := 33) (by decide) (fun b87 => ?_) (fun b87 => ?_)
            · refine own_iconst X0 C own_d_method_3_code_132 133 rfl (1) rfl ?_
              refine own_goto X0 C own_d_method_3_code_133 137 (by decide) (by decide) ?_
              refine own_iretN X0 C .boolean rfl (by simp) own_d_method_3_code_137 (by decide) (by decide) (1) (by decide) ?_
              exact ⟨by rw [own_is, if_pos (by omega)], e0, rfl⟩
            · refine own_iload_n X0 C own_d_method_3_code_48 49 rfl rfl ?_
              refine own_bipush X0 C own_d_method_3_code_49 51 rfl (35) rfl ?_
              refine own_icmpeq X0 C own_d_method_3_code_51 54 132 rfl (by decide) (by decide) (i := ia0.toInt) rfl (j := 35) (by decide) (fun b88 => ?_) (fun b88 => ?_)
              · refine own_iconst X0 C own_d_method_3_code_132 133 rfl (1) rfl ?_
                refine own_goto X0 C own_d_method_3_code_133 137 (by decide) (by decide) ?_
                refine own_iretN X0 C .boolean rfl (by simp) own_d_method_3_code_137 (by decide) (by decide) (1) (by decide) ?_
                exact ⟨by rw [own_is, if_pos (by omega)], e0, rfl⟩
              · refine own_iload_n X0 C own_d_method_3_code_54 55 rfl rfl ?_
                refine own_bipush X0 C own_d_method_3_code_55 57 rfl (36) rfl ?_
                refine own_icmpeq X0 C own_d_method_3_code_57 60 132 rfl (by decide) (by decide) (i := ia0.toInt) rfl (j := 36) (by decide) (fun b89 => ?_) (fun b89 => ?_)
                · refine own_iconst X0 C own_d_method_3_code_132 133 rfl (1) rfl ?_
                  refine own_goto X0 C own_d_method_3_code_133 137 (by decide) (by decide) ?_
                  refine own_iretN X0 C .boolean rfl (by simp) own_d_method_3_code_137 (by decide) (by decide) (1) (by decide) ?_
                  exact ⟨by rw [own_is, if_pos (by omega)], e0, rfl⟩
                · refine own_iload_n X0 C own_d_method_3_code_60 61 rfl rfl ?_
                  refine own_bipush X0 C own_d_method_3_code_61 63 rfl (37) rfl ?_
                  refine own_icmpeq X0 C own_d_method_3_code_63 66 132 rfl (by decide) (by decide) (i := ia0.toInt) rfl (j := 37) (by decide) (fun b90 => ?_) (fun b90 => ?_)
                  · refine own_iconst X0 C own_d_method_3_code_132 133 rfl (1) rfl ?_
                    refine own_goto X0 C own_d_method_3_code_133 137 (by decide) (by decide) ?_
                    refine own_iretN X0 C .boolean rfl (by simp) own_d_method_3_code_137 (by decide) (by decide) (1) (by decide) ?_
                    exact ⟨by rw [own_is, if_pos (by omega)], e0, rfl⟩
                  · refine own_iload_n X0 C own_d_method_3_code_66 67 rfl rfl ?_
                    refine own_bipush X0 C own_d_method_3_code_67 69 rfl (38) rfl ?_
                    refine own_icmpeq X0 C own_d_method_3_code_69 72 132 rfl (by decide) (by decide) (i := ia0.toInt) rfl (j := 38) (by decide) (fun b91 => ?_) (fun b91 => ?_)
                    · refine own_iconst X0 C own_d_method_3_code_132 133 rfl (1) rfl ?_
                      refine own_goto X0 C own_d_method_3_code_133 137 (by decide) (by decide) ?_
                      refine own_iretN X0 C .boolean rfl (by simp) own_d_method_3_code_137 (by decide) (by decide) (1) (by decide) ?_
                      exact ⟨by rw [own_is, if_pos (by omega)], e0, rfl⟩
                    · refine own_iload_n X0 C own_d_method_3_code_72 73 rfl rfl ?_
                      refine own_bipush X0 C own_d_method_3_code_73 75 rfl (39) rfl ?_
                      refine own_icmpeq X0 C own_d_method_3_code_75 78 132 rfl (by decide) (by decide) (i := ia0.toInt) rfl (j := 39) (by decide) (fun b92 => ?_) (fun b92 => ?_)
                      · refine own_iconst X0 C own_d_method_3_code_132 133 rfl (1) rfl ?_
                        refine own_goto X0 C own_d_method_3_code_133 137 (by decide) (by decide) ?_
                        refine own_iretN X0 C .boolean rfl (by simp) own_d_method_3_code_137 (by decide) (by decide) (1) (by decide) ?_
                        exact ⟨by rw [own_is, if_pos (by omega)], e0, rfl⟩
                      · refine own_iload_n X0 C own_d_method_3_code_78 79 rfl rfl ?_
                        refine own_bipush X0 C own_d_method_3_code_79 81 rfl (42) rfl ?_
                        refine own_icmpeq X0 C own_d_method_3_code_81 84 132 rfl (by decide) (by decide) (i := ia0.toInt) rfl (j := 42) (by decide) (fun b93 => ?_) (fun b93 => ?_)
                        · refine own_iconst X0 C own_d_method_3_code_132 133 rfl (1) rfl ?_
                          refine own_goto X0 C own_d_method_3_code_133 137 (by decide) (by decide) ?_
                          refine own_iretN X0 C .boolean rfl (by simp) own_d_method_3_code_137 (by decide) (by decide) (1) (by decide) ?_
                          exact ⟨by rw [own_is, if_pos (by omega)], e0, rfl⟩
                        · refine own_iload_n X0 C own_d_method_3_code_84 85 rfl rfl ?_
                          refine own_bipush X0 C own_d_method_3_code_85 87 rfl (43) rfl ?_
                          refine own_icmpeq X0 C own_d_method_3_code_87 90 132 rfl (by decide) (by decide) (i := ia0.toInt) rfl (j := 43) (by decide) (fun b94 => ?_) (fun b94 => ?_)
                          · refine own_iconst X0 C own_d_method_3_code_132 133 rfl (1) rfl ?_
                            refine own_goto X0 C own_d_method_3_code_133 137 (by decide) (by decide) ?_
                            refine own_iretN X0 C .boolean rfl (by simp) own_d_method_3_code_137 (by decide) (by decide) (1) (by decide) ?_
                            exact ⟨by rw [own_is, if_pos (by omega)], e0, rfl⟩
                          · refine own_iload_n X0 C own_d_method_3_code_90 91 rfl rfl ?_
                            refine own_bipush X0 C own_d_method_3_code_91 93 rfl (45) rfl ?_
                            refine own_icmpeq X0 C own_d_method_3_code_93 96 132 rfl (by decide) (by decide) (i := ia0.toInt) rfl (j := 45) (by decide) (fun b95 => ?_) (fun b95 => ?_)
                            · refine own_iconst X0 C own_d_method_3_code_132 133 rfl (1) rfl ?_
                              refine own_goto X0 C own_d_method_3_code_133 137 (by decide) (by decide) ?_
                              refine own_iretN X0 C .boolean rfl (by simp) own_d_method_3_code_137 (by decide) (by decide) (1) (by decide) ?_
                              exact ⟨by rw [own_is, if_pos (by omega)], e0, rfl⟩
                            · refine own_iload_n X0 C own_d_method_3_code_96 97 rfl rfl ?_
                              refine own_bipush X0 C own_d_method_3_code_97 99 rfl (46) rfl ?_
                              refine own_icmpeq X0 C own_d_method_3_code_99 102 132 rfl (by decide) (by decide) (i := ia0.toInt) rfl (j := 46) (by decide) (fun b96 => ?_) (fun b96 => ?_)
                              · refine own_iconst X0 C own_d_method_3_code_132 133 rfl (1) rfl ?_
                                refine own_goto X0 C own_d_method_3_code_133 137 (by decide) (by decide) ?_
                                refine own_iretN X0 C .boolean rfl (by simp) own_d_method_3_code_137 (by decide) (by decide) (1) (by decide) ?_
                                exact ⟨by rw [own_is, if_pos (by omega)], e0, rfl⟩
                              · refine own_iload_n X0 C own_d_method_3_code_102 103 rfl rfl ?_
                                refine own_bipush X0 C own_d_method_3_code_103 105 rfl (94) rfl ?_
                                refine own_icmpeq X0 C own_d_method_3_code_105 108 132 rfl (by decide) (by decide) (i := ia0.toInt) rfl (j := 94) (by decide) (fun b97 => ?_) (fun b97 => ?_)
                                · refine own_iconst X0 C own_d_method_3_code_132 133 rfl (1) rfl ?_
                                  refine own_goto X0 C own_d_method_3_code_133 137 (by decide) (by decide) ?_
                                  refine own_iretN X0 C .boolean rfl (by simp) own_d_method_3_code_137 (by decide) (by decide) (1) (by decide) ?_
                                  exact ⟨by rw [own_is, if_pos (by omega)], e0, rfl⟩
                                · refine own_iload_n X0 C own_d_method_3_code_108 109 rfl rfl ?_
                                  refine own_bipush X0 C own_d_method_3_code_109 111 rfl (95) rfl ?_
                                  refine own_icmpeq X0 C own_d_method_3_code_111 114 132 rfl (by decide) (by decide) (i := ia0.toInt) rfl (j := 95) (by decide) (fun b98 => ?_) (fun b98 => ?_)
                                  · refine own_iconst X0 C own_d_method_3_code_132 133 rfl (1) rfl ?_
                                    refine own_goto X0 C own_d_method_3_code_133 137 (by decide) (by decide) ?_
                                    refine own_iretN X0 C .boolean rfl (by simp) own_d_method_3_code_137 (by decide) (by decide) (1) (by decide) ?_
                                    exact ⟨by rw [own_is, if_pos (by omega)], e0, rfl⟩
                                  · refine own_iload_n X0 C own_d_method_3_code_114 115 rfl rfl ?_
                                    refine own_bipush X0 C own_d_method_3_code_115 117 rfl (96) rfl ?_
                                    refine own_icmpeq X0 C own_d_method_3_code_117 120 132 rfl (by decide) (by decide) (i := ia0.toInt) rfl (j := 96) (by decide) (fun b99 => ?_) (fun b99 => ?_)
                                    · refine own_iconst X0 C own_d_method_3_code_132 133 rfl (1) rfl ?_
                                      refine own_goto X0 C own_d_method_3_code_133 137 (by decide) (by decide) ?_
                                      refine own_iretN X0 C .boolean rfl (by simp) own_d_method_3_code_137 (by decide) (by decide) (1) (by decide) ?_
                                      exact ⟨by rw [own_is, if_pos (by omega)], e0, rfl⟩
                                    · refine own_iload_n X0 C own_d_method_3_code_120 121 rfl rfl ?_
                                      refine own_bipush X0 C own_d_method_3_code_121 123 rfl (124) rfl ?_
                                      refine own_icmpeq X0 C own_d_method_3_code_123 126 132 rfl (by decide) (by decide) (i := ia0.toInt) rfl (j := 124) (by decide) (fun b100 => ?_) (fun b100 => ?_)
                                      · refine own_iconst X0 C own_d_method_3_code_132 133 rfl (1) rfl ?_
                                        refine own_goto X0 C own_d_method_3_code_133 137 (by decide) (by decide) ?_
                                        refine own_iretN X0 C .boolean rfl (by simp) own_d_method_3_code_137 (by decide) (by decide) (1) (by decide) ?_
                                        exact ⟨by rw [own_is, if_pos (by omega)], e0, rfl⟩
                                      · refine own_iload_n X0 C own_d_method_3_code_126 127 rfl rfl ?_
                                        refine own_bipush X0 C own_d_method_3_code_127 129 rfl (126) rfl ?_
                                        refine own_icmpne X0 C own_d_method_3_code_129 132 136 rfl (by decide) (by decide) (i := ia0.toInt) rfl (j := 126) (by decide) (fun b101 => ?_) (fun b101 => ?_)
                                        · refine own_iconst X0 C own_d_method_3_code_136 137 rfl (0) rfl ?_
                                          refine own_iretN X0 C .boolean rfl (by simp) own_d_method_3_code_137 (by decide) (by decide) (0) (by decide) ?_
                                          exact ⟨by rw [own_is, if_neg (by omega)], e0, rfl⟩
                                        · refine own_iconst X0 C own_d_method_3_code_132 133 rfl (1) rfl ?_
                                          refine own_goto X0 C own_d_method_3_code_133 137 (by decide) (by decide) ?_
                                          refine own_iretN X0 C .boolean rfl (by simp) own_d_method_3_code_137 (by decide) (by decide) (1) (by decide) ?_
                                          exact ⟨by rw [own_is, if_pos (by omega)], e0, rfl⟩
          · refine own_iconst X0 C own_d_method_3_code_40 41 rfl (1) rfl ?_
            refine own_iretN X0 C .boolean rfl (by simp) own_d_method_3_code_41 (by decide) (by decide) (1) (by decide) ?_
            exact ⟨by rw [own_is, if_pos (by omega)], e0, rfl⟩
      · refine own_iload_n X0 C own_d_method_3_code_20 21 rfl rfl ?_
        refine own_bipush X0 C own_d_method_3_code_21 23 rfl (122) rfl ?_
        refine own_icmpgt X0 C own_d_method_3_code_23 26 28 rfl (by decide) (by decide) (i := ia0.toInt) rfl (j := 122) (by decide) (fun b102 => ?_) (fun b102 => ?_)
        · refine own_iload_n X0 C own_d_method_3_code_28 29 rfl rfl ?_
          refine own_bipush X0 C own_d_method_3_code_29 31 rfl (48) rfl ?_
          refine own_icmplt X0 C own_d_method_3_code_31 34 42 rfl (by decide) (by decide) (i := ia0.toInt) rfl (j := 48) (by decide) (fun b103 => ?_) (fun b103 => ?_)
          · refine own_iload_n X0 C own_d_method_3_code_42 43 rfl rfl ?_
            refine own_bipush X0 C own_d_method_3_code_43 45 rfl (33) rfl ?_
            refine own_icmpeq X0 C own_d_method_3_code_45 48 132 rfl (by decide) (by decide) (i := ia0.toInt) rfl (j := 33) (by decide) (fun b104 => ?_) (fun b104 => ?_)
            · refine own_iconst X0 C own_d_method_3_code_132 133 rfl (1) rfl ?_
              refine own_goto X0 C own_d_method_3_code_133 137 (by decide) (by decide) ?_
              refine own_iretN X0 C .boolean rfl (by simp) own_d_method_3_code_137 (by decide) (by decide) (1) (by decide) ?_
              exact ⟨by rw [own_is, if_pos (by omega)], e0, rfl⟩
            · refine own_iload_n X0 C own_d_method_3_code_48 49 rfl rfl ?_
              refine own_bipush X0 C own_d_method_3_code_49 51 rfl (35) rfl ?_
              refine own_icmpeq X0 C own_d_method_3_code_51 54 132 rfl (by decide) (by decide) (i := ia0.toInt) rfl (j := 35) (by decide) (fun b105 => ?_) (fun b105 => ?_)
              · refine own_iconst X0 C own_d_method_3_code_132 133 rfl (1) rfl ?_
                refine own_goto X0 C own_d_method_3_code_133 137 (by decide) (by decide) ?_
                refine own_iretN X0 C .boolean rfl (by simp) own_d_method_3_code_137 (by decide) (by decide) (1) (by decide) ?_
                exact ⟨by rw [own_is, if_pos (by omega)], e0, rfl⟩
              · refine own_iload_n X0 C own_d_method_3_code_54 55 rfl rfl ?_
                refine own_bipush X0 C own_d_method_3_code_55 57 rfl (36) rfl ?_
                refine own_icmpeq X0 C own_d_method_3_code_57 60 132 rfl (by decide) (by decide) (i := ia0.toInt) rfl (j := 36) (by decide) (fun b106 => ?_) (fun b106 => ?_)
                · refine own_iconst X0 C own_d_method_3_code_132 133 rfl (1) rfl ?_
                  refine own_goto X0 C own_d_method_3_code_133 137 (by decide) (by decide) ?_
                  refine own_iretN X0 C .boolean rfl (by simp) own_d_method_3_code_137 (by decide) (by decide) (1) (by decide) ?_
                  exact ⟨by rw [own_is, if_pos (by omega)], e0, rfl⟩
                · refine own_iload_n X0 C own_d_method_3_code_60 61 rfl rfl ?_
                  refine own_bipush X0 C own_d_method_3_code_61 63 rfl (37) rfl ?_
                  refine own_icmpeq X0 C own_d_method_3_code_63 66 132 rfl (by decide) (by decide) (i := ia0.toInt) rfl (j := 37) (by decide) (fun b107 => ?_) (fun b107 => ?_)
                  · refine own_iconst X0 C own_d_method_3_code_132 133 rfl (1) rfl ?_
                    refine own_goto X0 C own_d_method_3_code_133 137 (by decide) (by decide) ?_
                    refine own_iretN X0 C .boolean rfl (by simp) own_d_method_3_code_137 (by decide) (by decide) (1) (by decide) ?_
                    exact ⟨by rw [own_is, if_pos (by omega)], e0, rfl⟩
                  · refine own_iload_n X0 C own_d_method_3_code_66 67 rfl rfl ?_
                    refine own_bipush X0 C own_d_method_3_code_67 69 rfl (38) rfl ?_
                    refine own_icmpeq X0 C own_d_method_3_code_69 72 132 rfl (by decide) (by decide) (i := ia0.toInt) rfl (j := 38) (by decide) (fun b108 => ?_) (fun b108 => ?_)
                    · refine own_iconst X0 C own_d_method_3_code_132 133 rfl (1) rfl ?_
                      refine own_goto X0 C own_d_method_3_code_133 137 (by decide) (by decide) ?_
                      refine own_iretN X0 C .boolean rfl (by simp) own_d_method_3_code_137 (by decide) (by decide) (1) (by decide) ?_
                      exact ⟨by rw [own_is, if_pos (by omega)], e0, rfl⟩
                    · refine own_iload_n X0 C own_d_method_3_code_72 73 rfl rfl ?_
                      refine own_bipush X0 C own_d_method_3_code_73 75 rfl (39) rfl ?_
                      refine own_icmpeq X0 C own_d_method_3_code_75 78 132 rfl (by decide) (by decide) (i := ia0.toInt) rfl (j := 39) (by decide) (fun b109 => ?_) (fun b109 => ?_)
                      · refine own_iconst X0 C own_d_method_3_code_132 133 rfl (1) rfl ?_
                        refine own_goto X0 C own_d_method_3_code_133 137 (by decide) (by decide) ?_
                        refine own_iretN X0 C .boolean rfl (by simp) own_d_method_3_code_137 (by decide) (by decide) (1) (by decide) ?_
                        exact ⟨by rw [own_is, if_pos (by omega)], e0, rfl⟩
                      · refine own_iload_n X0 C own_d_method_3_code_78 79 rfl rfl ?_
                        refine own_bipush X0 C own_d_method_3_code_79 81 rfl (42) rfl ?_
                        refine own_icmpeq X0 C own_d_method_3_code_81 84 132 rfl (by decide) (by decide) (i := ia0.toInt) rfl (j := 42) (by decide) (fun b110 => ?_) (fun b110 => ?_)
                        · refine own_iconst X0 C own_d_method_3_code_132 133 rfl (1) rfl ?_
                          refine own_goto X0 C own_d_method_3_code_133 137 (by decide) (by decide) ?_
                          refine own_iretN X0 C .boolean rfl (by simp) own_d_method_3_code_137 (by decide) (by decide) (1) (by decide) ?_
                          exact ⟨by rw [own_is, if_pos (by omega)], e0, rfl⟩
                        · refine own_iload_n X0 C own_d_method_3_code_84 85 rfl rfl ?_
                          refine own_bipush X0 C own_d_method_3_code_85 87 rfl (43) rfl ?_
                          refine own_icmpeq X0 C own_d_method_3_code_87 90 132 rfl (by decide) (by decide) (i := ia0.toInt) rfl (j := 43) (by decide) (fun b111 => ?_) (fun b111 => ?_)
                          · refine own_iconst X0 C own_d_method_3_code_132 133 rfl (1) rfl ?_
                            refine own_goto X0 C own_d_method_3_code_133 137 (by decide) (by decide) ?_
                            refine own_iretN X0 C .boolean rfl (by simp) own_d_method_3_code_137 (by decide) (by decide) (1) (by decide) ?_
                            exact ⟨by rw [own_is, if_pos (by omega)], e0, rfl⟩
                          · refine own_iload_n X0 C own_d_method_3_code_90 91 rfl rfl ?_
                            refine own_bipush X0 C own_d_method_3_code_91 93 rfl (45) rfl ?_
                            refine own_icmpeq X0 C own_d_method_3_code_93 96 132 rfl (by decide) (by decide) (i := ia0.toInt) rfl (j := 45) (by decide) (fun b112 => ?_) (fun b112 => ?_)
                            · refine own_iconst X0 C own_d_method_3_code_132 133 rfl (1) rfl ?_
                              refine own_goto X0 C own_d_method_3_code_133 137 (by decide) (by decide) ?_
                              refine own_iretN X0 C .boolean rfl (by simp) own_d_method_3_code_137 (by decide) (by decide) (1) (by decide) ?_
                              exact ⟨by rw [own_is, if_pos (by omega)], e0, rfl⟩
                            · refine own_iload_n X0 C own_d_method_3_code_96 97 rfl rfl ?_
                              refine own_bipush X0 C own_d_method_3_code_97 99 rfl (46) rfl ?_
                              refine own_icmpeq X0 C own_d_method_3_code_99 102 132 rfl (by decide) (by decide) (i := ia0.toInt) rfl (j := 46) (by decide) (fun b113 => ?_) (fun b113 => ?_)
                              · refine own_iconst X0 C own_d_method_3_code_132 133 rfl (1) rfl ?_
                                refine own_goto X0 C own_d_method_3_code_133 137 (by decide) (by decide) ?_
                                refine own_iretN X0 C .boolean rfl (by simp) own_d_method_3_code_137 (by decide) (by decide) (1) (by decide) ?_
                                exact ⟨by rw [own_is, if_pos (by omega)], e0, rfl⟩
                              · refine own_iload_n X0 C own_d_method_3_code_102 103 rfl rfl ?_
                                refine own_bipush X0 C own_d_method_3_code_103 105 rfl (94) rfl ?_
                                refine own_icmpeq X0 C own_d_method_3_code_105 108 132 rfl (by decide) (by decide) (i := ia0.toInt) rfl (j := 94) (by decide) (fun b114 => ?_) (fun b114 => ?_)
                                · refine own_iconst X0 C own_d_method_3_code_132 133 rfl (1) rfl ?_
                                  refine own_goto X0 C own_d_method_3_code_133 137 (by decide) (by decide) ?_
                                  refine own_iretN X0 C .boolean rfl (by simp) own_d_method_3_code_137 (by decide) (by decide) (1) (by decide) ?_
                                  exact ⟨by rw [own_is, if_pos (by omega)], e0, rfl⟩
                                · refine own_iload_n X0 C own_d_method_3_code_108 109 rfl rfl ?_
                                  refine own_bipush X0 C own_d_method_3_code_109 111 rfl (95) rfl ?_
                                  refine own_icmpeq X0 C own_d_method_3_code_111 114 132 rfl (by decide) (by decide) (i := ia0.toInt) rfl (j := 95) (by decide) (fun b115 => ?_) (fun b115 => ?_)
                                  · refine own_iconst X0 C own_d_method_3_code_132 133 rfl (1) rfl ?_
                                    refine own_goto X0 C own_d_method_3_code_133 137 (by decide) (by decide) ?_
                                    refine own_iretN X0 C .boolean rfl (by simp) own_d_method_3_code_137 (by decide) (by decide) (1) (by decide) ?_
                                    exact ⟨by rw [own_is, if_pos (by omega)], e0, rfl⟩
                                  · refine own_iload_n X0 C own_d_method_3_code_114 115 rfl rfl ?_
                                    refine own_bipush X0 C own_d_method_3_code_115 117 rfl (96) rfl ?_
                                    refine own_icmpeq X0 C own_d_method_3_code_117 120 132 rfl (by decide) (by decide) (i := ia0.toInt) rfl (j := 96) (by decide) (fun b116 => ?_) (fun b116 => ?_)
                                    · refine own_iconst X0 C own_d_method_3_code_132 133 rfl (1) rfl ?_
                                      refine own_goto X0 C own_d_method_3_code_133 137 (by decide) (by decide) ?_
                                      refine own_iretN X0 C .boolean rfl (by simp) own_d_method_3_code_137 (by decide) (by decide) (1) (by decide) ?_
                                      exact ⟨by rw [own_is, if_pos (by omega)], e0, rfl⟩
                                    · refine own_iload_n X0 C own_d_method_3_code_120 121 rfl rfl ?_
                                      refine own_bipush X0 C own_d_method_3_code_121 123 rfl (124) rfl ?_
                                      refine own_icmpeq X0 C own_d_method_3_code_123 126 132 rfl (by decide) (by decide) (i := ia0.toInt) rfl (j := 124) (by decide) (fun b117 => ?_) (fun b117 => ?_)
                                      · refine own_iconst X0 C own_d_method_3_code_132 133 rfl (1) rfl ?_
                                        refine own_goto X0 C own_d_method_3_code_133 137 (by decide) (by decide) ?_
                                        refine own_iretN X0 C .boolean rfl (by simp) own_d_method_3_code_137 (by decide) (by decide) (1) (by decide) ?_
                                        exact ⟨by rw [own_is, if_pos (by omega)], e0, rfl⟩
                                      · refine own_iload_n X0 C own_d_method_3_code_126 127 rfl rfl ?_
                                        refine own_bipush X0 C own_d_method_3_code_127 129 rfl (126) rfl ?_
                                        refine own_icmpne X0 C own_d_method_3_code_129 132 136 rfl (by decide) (by decide) (i := ia0.toInt) rfl (j := 126) (by decide) (fun b118 => ?_) (fun b118 => ?_)
                                        · refine own_iconst X0 C own_d_method_3_code_136 137 rfl (0) rfl ?_
                                          refine own_iretN X0 C .boolean rfl (by simp) own_d_method_3_code_137 (by decide) (by decide) (0) (by decide) ?_
                                          exact ⟨by rw [own_is, if_neg (by omega)], e0, rfl⟩
                                        · refine own_iconst X0 C own_d_method_3_code_132 133 rfl (1) rfl ?_
                                          refine own_goto X0 C own_d_method_3_code_133 137 (by decide) (by decide) ?_
                                          refine own_iretN X0 C .boolean rfl (by simp) own_d_method_3_code_137 (by decide) (by decide) (1) (by decide) ?_
                                          exact ⟨by rw [own_is, if_pos (by omega)], e0, rfl⟩
          · refine own_iload_n X0 C own_d_method_3_code_34 35 rfl rfl ?_
            refine own_bipush X0 C own_d_method_3_code_35 37 rfl (57) rfl ?_
            refine own_icmpgt X0 C own_d_method_3_code_37 40 42 rfl (by decide) (by decide) (i := ia0.toInt) rfl (j := 57) (by decide) (fun b119 => ?_) (fun b119 => ?_)
            · refine own_iload_n X0 C own_d_method_3_code_42 43 rfl rfl ?_
              refine own_bipush X0 C own_d_method_3_code_43 45 rfl (33) rfl ?_
              refine own_icmpeq X0 C own_d_method_3_code_45 48 132 rfl (by decide) (by decide) (i := ia0.toInt) rfl (j := 33) (by decide) (fun b120 => ?_) (fun b120 => ?_)
              · refine own_iconst X0 C own_d_method_3_code_132 133 rfl (1) rfl ?_
                refine own_goto X0 C own_d_method_3_code_133 137 (by decide) (by decide) ?_
                refine own_iretN X0 C .boolean rfl (by simp) own_d_method_3_code_137 (by decide) (by decide) (1) (by decide) ?_
                exact ⟨by rw [own_is, if_pos (by omega)], e0, rfl⟩
              · refine own_iload_n X0 C own_d_method_3_code_48 49 rfl rfl ?_
                refine own_bipush X0 C own_d_method_3_code_49 51 rfl (35) rfl ?_
                refine own_icmpeq X0 C own_d_method_3_code_51 54 132 rfl (by decide) (by decide) (i := ia0.toInt) rfl (j := 35) (by decide) (fun b121 => ?_) (fun b121 => ?_)
                · refine own_iconst X0 C own_d_method_3_code_132 133 rfl (1) rfl ?_
                  refine own_goto X0 C own_d_method_3_code_133 137 (by decide) (by decide) ?_
                  refine own_iretN X0 C .boolean rfl (by simp) own_d_method_3_code_137 (by decide) (by decide) (1) (by decide) ?_
                  exact ⟨by rw [own_is, if_pos (by omega)], e0, rfl⟩
                · refine own_iload_n X0 C own_d_method_3_code_54 55 rfl rfl ?_
                  refine own_bipush X0 C own_d_method_3_code_55 57 rfl (36) rfl ?_
                  refine own_icmpeq X0 C own_d_method_3_code_57 60 132 rfl (by decide) (by decide) (i := ia0.toInt) rfl (j := 36) (by decide) (fun b122 => ?_) (fun b122 => ?_)
                  · refine own_iconst X0 C own_d_method_3_code_132 133 rfl (1) rfl ?_
                    refine own_goto X0 C own_d_method_3_code_133 137 (by decide) (by decide) ?_
                    refine own_iretN X0 C .boolean rfl (by simp) own_d_method_3_code_137 (by decide) (by decide) (1) (by decide) ?_
                    exact ⟨by rw [own_is, if_pos (by omega)], e0, rfl⟩
                  · refine own_iload_n X0 C own_d_method_3_code_60 61 rfl rfl ?_
                    refine own_bipush X0 C own_d_method_3_code_61 63 rfl (37) rfl ?_
                    refine own_icmpeq X0 C own_d_method_3_code_63 66 132 rfl (by decide) (by decide) (i := ia0.toInt) rfl (j := 37) (by decide) (fun b123 => ?_) (fun b123 => ?_)
                    · refine own_iconst X0 C own_d_method_3_code_132 133 rfl (1) rfl ?_
                      refine own_goto X0 C own_d_method_3_code_133 137 (by decide) (by decide) ?_
                      refine own_iretN X0 C .boolean rfl (by simp) own_d_method_3_code_137 (by decide) (by decide) (1) (by decide) ?_
                      exact ⟨by rw [own_is, if_pos (by omega)], e0, rfl⟩
                    · refine own_iload_n X0 C own_d_method_3_code_66 67 rfl rfl ?_
                      refine own_bipush X0 C own_d_method_3_code_67 69 rfl (38) rfl ?_
                      refine own_icmpeq X0 C own_d_method_3_code_69 72 132 rfl (by decide) (by decide) (i := ia0.toInt) rfl (j := 38) (by decide) (fun b124 => ?_) (fun b124 => ?_)
                      · refine own_iconst X0 C own_d_method_3_code_132 133 rfl (1) rfl ?_
                        refine own_goto X0 C own_d_method_3_code_133 137 (by decide) (by decide) ?_
                        refine own_iretN X0 C .boolean rfl (by simp) own_d_method_3_code_137 (by decide) (by decide) (1) (by decide) ?_
                        exact ⟨by rw [own_is, if_pos (by omega)], e0, rfl⟩
                      · refine own_iload_n X0 C own_d_method_3_code_72 73 rfl rfl ?_
                        refine own_bipush X0 C own_d_method_3_code_73 75 rfl (39) rfl ?_
                        refine own_icmpeq X0 C own_d_method_3_code_75 78 132 rfl (by decide) (by decide) (i := ia0.toInt) rfl (j := 39) (by decide) (fun b125 => ?_) (fun b125 => ?_)
                        · refine own_iconst X0 C own_d_method_3_code_132 133 rfl (1) rfl ?_
                          refine own_goto X0 C own_d_method_3_code_133 137 (by decide) (by decide) ?_
                          refine own_iretN X0 C .boolean rfl (by simp) own_d_method_3_code_137 (by decide) (by decide) (1) (by decide) ?_
                          exact ⟨by rw [own_is, if_pos (by omega)], e0, rfl⟩
                        · refine own_iload_n X0 C own_d_method_3_code_78 79 rfl rfl ?_
                          refine own_bipush X0 C own_d_method_3_code_79 81 rfl (42) rfl ?_
                          refine own_icmpeq X0 C own_d_method_3_code_81 84 132 rfl (by decide) (by decide) (i := ia0.toInt) rfl (j := 42) (by decide) (fun b126 => ?_) (fun b126 => ?_)
                          · refine own_iconst X0 C own_d_method_3_code_132 133 rfl (1) rfl ?_
                            refine own_goto X0 C own_d_method_3_code_133 137 (by decide) (by decide) ?_
                            refine own_iretN X0 C .boolean rfl (by simp) own_d_method_3_code_137 (by decide) (by decide) (1) (by decide) ?_
                            exact ⟨by rw [own_is, if_pos (by omega)], e0, rfl⟩
                          · refine own_iload_n X0 C own_d_method_3_code_84 85 rfl rfl ?_
                            refine own_bipush X0 C own_d_method_3_code_85 87 rfl (43) rfl ?_
                            refine own_icmpeq X0 C own_d_method_3_code_87 90 132 rfl (by decide) (by decide) (i := ia0.toInt) rfl (j := 43) (by decide) (fun b127 => ?_) (fun b127 => ?_)
                            · refine own_iconst X0 C own_d_method_3_code_132 133 rfl (1) rfl ?_
                              refine own_goto X0 C own_d_method_3_code_133 137 (by decide) (by decide) ?_
                              refine own_iretN X0 C .boolean rfl (by simp) own_d_method_3_code_137 (by decide) (by decide) (1) (by decide) ?_
                              exact ⟨by rw [own_is, if_pos (by omega)], e0, rfl⟩
                            · refine own_iload_n X0 C own_d_method_3_code_90 91 rfl rfl ?_
                              refine own_bipush X0 C own_d_method_3_code_91 93 rfl (45) rfl ?_
                              refine own_icmpeq X0 C own_d_method_3_code_93 96 132 rfl (by decide) (by decide) (i := ia0.toInt) rfl (j := 45) (by decide) (fun b128 => ?_) (fun b128 => ?_)
                              · refine own_iconst X0 C own_d_method_3_code_132 133 rfl (1) rfl ?_
                                refine own_goto X0 C own_d_method_3_code_133 137 (by decide) (by decide) ?_
                                refine own_iretN X0 C .boolean rfl (by simp) own_d_method_3_code_137 (by decide) (by decide) (1) (by decide) ?_
                                exact ⟨by rw [own_is, if_pos (by omega)], e0, rfl⟩
                              · refine own_iload_n X0 C own_d_method_3_code_96 97 rfl rfl ?_
                                refine own_bipush X0 C own_d_method_3_code_97 99 rfl (46) rfl ?_
                                refine own_icmpeq X0 C own_d_method_3_code_99 102 132 rfl (by decide) (by decide) (i := ia0.toInt) rfl (j := 46) (by decide) (fun b129 => ?_) (fun b129 => ?_)
                                · refine own_iconst X0 C own_d_method_3_code_132 133 rfl (1) rfl ?_
                                  refine own_goto X0 C own_d_method_3_code_133 137 (by decide) (by decide) ?_
                                  refine own_iretN X0 C .boolean rfl (by simp) own_d_method_3_code_137 (by decide) (by decide) (1) (by decide) ?_
                                  exact ⟨by rw [own_is, if_pos (by omega)], e0, rfl⟩
                                · refine own_iload_n X0 C own_d_method_3_code_102 103 rfl rfl ?_
                                  refine own_bipush X0 C own_d_method_3_code_103 105 rfl (94) rfl ?_
                                  refine own_icmpeq X0 C own_d_method_3_code_105 108 132 rfl (by decide) (by decide) (i := ia0.toInt) rfl (j := 94) (by decide) (fun b130 => ?_) (fun b130 => ?_)
                                  · refine own_iconst X0 C own_d_method_3_code_132 133 rfl (1) rfl ?_
                                    refine own_goto X0 C own_d_method_3_code_133 137 (by decide) (by decide) ?_
                                    refine own_iretN X0 C .boolean rfl (by simp) own_d_method_3_code_137 (by decide) (by decide) (1) (by decide) ?_
                                    exact ⟨by rw [own_is, if_pos (by omega)], e0, rfl⟩
                                  · refine own_iload_n X0 C own_d_method_3_code_108 109 rfl rfl ?_
                                    refine own_bipush X0 C own_d_method_3_code_109 111 rfl (95) rfl ?_
                                    refine own_icmpeq X0 C own_d_method_3_code_111 114 132 rfl (by decide) (by decide) (i := ia0.toInt) rfl (j := 95) (by decide) (fun b131 => ?_) (fun b131 => ?_)
                                    · refine own_iconst X0 C own_d_method_3_code_132 133 rfl (1) rfl ?_
                                      refine own_goto X0 C own_d_method_3_code_133 137 (by decide) (by decide) ?_
                                      refine own_iretN X0 C .boolean rfl (by simp) own_d_method_3_code_137 (by decide) (by decide) (1) (by decide) ?_
                                      exact ⟨by rw [own_is, if_pos (by omega)], e0, rfl⟩
                                    · refine own_iload_n X0 C own_d_method_3_code_114 115 rfl rfl ?_
                                      refine own_bipush X0 C own_d_method_3_code_115 117 rfl (96) rfl ?_
                                      refine own_icmpeq X0 C own_d_method_3_code_117 120 132 rfl (by decide) (by decide) (i := ia0.toInt) rfl (j := 96) (by decide) (fun b132 => ?_) (fun b132 => ?_)
                                      · refine own_iconst X0 C own_d_method_3_code_132 133 rfl (1) rfl ?_
                                        refine own_goto X0 C own_d_method_3_code_133 137 (by decide) (by decide) ?_
                                        refine own_iretN X0 C .boolean rfl (by simp) own_d_method_3_code_137 (by decide) (by decide) (1) (by decide) ?_
                                        exact ⟨by rw [own_is, if_pos (by omega)], e0, rfl⟩
                                      · refine own_iload_n X0 C own_d_method_3_code_120 121 rfl rfl ?_
                                        refine own_bipush X0 C own_d_method_3_code_121 123 rfl (124) rfl ?_
                                        refine own_icmpeq X0 C own_d_method_3_code_123 126 132 rfl (by decide) (by decide) (i := ia0.toInt) rfl (j := 124) (by decide) (fun b133 => ?_) (fun b133 => ?_)
                                        · refine own_iconst X0 C own_d_method_3_code_132 133 rfl (1) rfl ?_
                                          refine own_goto X0 C own_d_method_3_code_133 137 (by decide) (by decide) ?_
                                          refine own_iretN X0 C .boolean rfl (by simp) own_d_method_3_code_137 (by decide) (by decide) (1) (by decide) ?_
                                          exact ⟨by rw [own_is, if_pos (by omega)], e0, rfl⟩
                                        · refine own_iload_n X0 C own_d_method_3_code_126 127 rfl rfl ?_
                                          refine own_bipush X0 C own_d_method_3_code_127 129 rfl (126) rfl ?_
                                          refine own_icmpne X0 C own_d_method_3_code_129 132 136 rfl (by decide) (by decide) (i := ia0.toInt) rfl (j := 126) (by decide) (fun b134 => ?_) (fun b134 => ?_)
                                          · refine own_iconst X0 C own_d_method_3_code_136 137 rfl (0) rfl ?_
                                            refine own_iretN X0 C .boolean rfl (by simp) own_d_method_3_code_137 (by decide) (by decide) (0) (by decide) ?_
                                            exact ⟨by rw [own_is, if_neg (by omega)], e0, rfl⟩
                                          · refine own_iconst X0 C own_d_method_3_code_132 133 rfl (1) rfl ?_
                                            refine own_goto X0 C own_d_method_3_code_133 137 (by decide) (by decide) ?_
                                            refine own_iretN X0 C .boolean rfl (by simp) own_d_method_3_code_137 (by decide) (by decide) (1) (by decide) ?_
                                            exact ⟨by rw [own_is, if_pos (by omega)], e0, rfl⟩
            · refine own_iconst X0 C own_d_method_3_code_40 41 rfl (1) rfl ?_
              refine own_iretN X0 C .boolean rfl (by simp) own_d_method_3_code_41 (by decide) (by decide) (1) (by decide) ?_
              exact ⟨by rw [own_is, if_pos (by omega)], e0, rfl⟩
        · refine own_iconst X0 C own_d_method_3_code_26 27 rfl (1) rfl ?_
          refine own_iretN X0 C .boolean rfl (by simp) own_d_method_3_code_27 (by decide) (by decide) (1) (by decide) ?_
          exact ⟨by rw [own_is, if_pos (by omega)], e0, rfl⟩
    · refine own_iconst X0 C own_d_method_3_code_12 13 rfl (1) rfl ?_
      refine own_iretN X0 C .boolean rfl (by simp) own_d_method_3_code_13 (by decide) (by decide) (1) (by decide) ?_
      exact ⟨by rw [own_is, if_pos (by omega)], e0, rfl⟩
theorem own_pd_II_R_Z : parseMethodDescriptor "(II)Z" = some ⟨[.int, .int], some .boolean⟩ := by decide +kernel
set_option maxRecDepth 65536 in
set_option maxHeartbeats 4000000 in
theorem own_ef_own_rm_law (m : MethodId) (ia0 : Int32) (ia1 : Int32) : entryFrame m #[(.int ia0), (.int ia1)] maxLocals = (mkF m 0 #[.val (.int ia0), .val (.int ia1), .unset] []) := by first | (simp [entryFrame, mkF, argsToLocals, Value.category, maxLocals]; done) | rfl
set_option maxRecDepth 65536 in
set_option maxHeartbeats 4000000 in
theorem own_rm_law (l : Launch) (Z : State) (a0 : Array Value) (hw : ∀ d ∈ tables_1, d.before a0 Z = true) (ia0 : Int32) (ia1 : Int32) (h : Heap) (n0 : Nat) (aT : Addr) (S_T : Sta Z h "com/example/wee_servlet/weeservlet/http/HttpSyntax" "TOKEN_CHARS" "[Z" (.ref aT)) (AT : OwnAr Z h aT .boolean 128 (fun i => .int (own_tok i))) :
    OwnMet l Z x code maxLocals ret tables_1 room_1 #[(.int ia0), (.int ia1)] h (fun v h' L => v = some (.int 1) ∧ Fr n0 L) := by
  refine own_enter (f0 := fun m => mkF m 0 #[.val (.int ia0), .val (.int ia1), .unset] []) (plainFor_of_name own_pn_HttpSyntaxIsTokenCharPinLaw) (fun m => own_ef_own_rm_law m ia0 ia1) ?_
  intro p e s m below meth c T0 X0 C e0
  refine own_iload_n X0 C at_0 1 rfl rfl ?_
  refine own_iconst X0 C at_1 2 rfl (1) rfl ?_
  refine own_iand X0 C at_2 3 rfl (fun v1 ev1 => ?_)
  refine own_ifeq X0 C at_3 6 10 rfl (by decide) (by decide) (i := v1.toInt) rfl (fun b1 => ?_) (fun b1 => ?_)
  · refine own_iload_n X0 C at_10 11 rfl rfl ?_
    refine own_sipush X0 C at_11 14 rfl (511) rfl ?_
    refine own_iand X0 C at_14 15 rfl (fun v2 ev2 => ?_)
    refine own_sipush X0 C at_15 18 rfl (128) rfl ?_
    refine own_isub X0 C at_18 19 rfl (fun v3 ev3 => ?_)
    refine own_istore_n X0 C at_19 20 rfl #[.val (.int ia0), .val (.int ia1), .val (.int v3)] rfl ?_
    refine own_iload_n X0 C at_20 21 rfl rfl ?_
    refine own_callP X0 C (own_w hw 0 rfl) (own_w hw 1 rfl) (own_w hw 2 rfl) (own_w hw 3 rfl) (by decide) (own_rm_isTokenChar l Z a0 hw v3 h aT S_T AT) e0 own_pd_I_R_Z [(.int v3)] rfl rfl rfl rfl 0 rfl (by decide) (by decide) rfl rfl (by decide) (by decide) at_21 24 rfl (fun T2 X2 e2 => ?_)
    refine own_iload_n X2 C at_24 25 rfl rfl ?_
    refine own_callP X2 C (own_w hw 6 rfl) (own_w hw 7 rfl) (own_w hw 8 rfl) (own_w hw 9 rfl) (by decide) (own_rm_expected l Z a0 hw v3 h) e2 own_pd_I_R_Z [(.int v3)] rfl rfl rfl rfl 1 rfl (by decide) (by decide) rfl rfl (by decide) (by decide) at_25 28 rfl (fun T3 X3 e3 => ?_)
    refine own_icmpne X3 C at_28 31 35 rfl (by decide) (by decide) (i := (own_is v3).toInt) rfl (j := (own_is v3).toInt) rfl (fun b4 => ?_) (fun b4 => ?_)
    · exfalso
      exact b4 rfl
    · refine own_iconst X3 C at_31 32 rfl (1) rfl ?_
      refine own_goto X3 C at_32 36 (by decide) (by decide) ?_
      refine own_iretN X3 C .boolean rfl (by simp) at_36 (by decide) (by decide) (1) (by decide) ?_
      exact ⟨rfl, Fr.nil _⟩
  · refine own_iload_n X0 C at_6 7 rfl rfl ?_
    refine own_goto X0 C at_7 19 (by decide) (by decide) ?_
    refine own_istore_n X0 C at_19 20 rfl #[.val (.int ia0), .val (.int ia1), .val (.int ia0)] rfl ?_
    refine own_iload_n X0 C at_20 21 rfl rfl ?_
    refine own_callP X0 C (own_w hw 0 rfl) (own_w hw 1 rfl) (own_w hw 2 rfl) (own_w hw 3 rfl) (by decide) (own_rm_isTokenChar l Z a0 hw ia0 h aT S_T AT) e0 own_pd_I_R_Z [(.int ia0)] rfl rfl rfl rfl 0 rfl (by decide) (by decide) rfl rfl (by decide) (by decide) at_21 24 rfl (fun T5 X5 e5 => ?_)
    refine own_iload_n X5 C at_24 25 rfl rfl ?_
    refine own_callP X5 C (own_w hw 6 rfl) (own_w hw 7 rfl) (own_w hw 8 rfl) (own_w hw 9 rfl) (by decide) (own_rm_expected l Z a0 hw ia0 h) e5 own_pd_I_R_Z [(.int ia0)] rfl rfl rfl rfl 1 rfl (by decide) (by decide) rfl rfl (by decide) (by decide) at_25 28 rfl (fun T6 X6 e6 => ?_)
    refine own_icmpne X6 C at_28 31 35 rfl (by decide) (by decide) (i := (own_is ia0).toInt) rfl (j := (own_is ia0).toInt) rfl (fun b7 => ?_) (fun b7 => ?_)
    · exfalso
      exact b7 rfl
    · refine own_iconst X6 C at_31 32 rfl (1) rfl ?_
      refine own_goto X6 C at_32 36 (by decide) (by decide) ?_
      refine own_iretN X6 C .boolean rfl (by simp) at_36 (by decide) (by decide) (1) (by decide) ?_
      exact ⟨rfl, Fr.nil _⟩
set_option maxRecDepth 65536 in
set_option maxHeartbeats 4000000 in
theorem own_comes_1 {Post : Tables → Env → Array Value → State → Outcome → State → Prop} (hpost : ∀ tb e args s v u, (limb_1_1.after args s (.returned v) u = true ∧ limb_1_2.after args s (.returned v) u = true ∧ True) → FrameEnd s (.returned v) u (Jvm.fieldLocs frame_1_writes args s ++ Jvm.arrayLocs frame_1_arrays args s ++ Jvm.staticLocs frame_1_statics s) 0 0 → Post tb e args s (.returned v) u) :
    ArmFor flags0 classFile x code maxLocals ret World_1 tables_1 room_1 Calls_1 rest_1 Pre_1 Post := by
  intro l hfl _ _ p e ha hc hk s m args below hf hA hF happ hP
  obtain ⟨hcalls, hrest, hpre⟩ := hP
  obtain ⟨-, -, -, hnamed, -, -, -, hat⟩ := (Spec.applies_iff hf).mp happ
  obtain ⟨hg, hn⟩ := and_e (Cond.before_iff.mp (show (Jvm.Cond.and given_1 narrow_1).before args s = true from hpre))
  obtain ⟨g0, g0r⟩ := and_e hg
  obtain ⟨g1, g1r⟩ := and_e g0r
  obtain ⟨w0, w1, rfl⟩ : ∃ w0 w1 : Value, args = #[w0, w1] := by
    have hs : args.size = 2 := by simpa [Cond.value, given_1] using g0
    obtain ⟨L⟩ := args
    match L, hs with
    | [w0, w1], _ => exact ⟨w0, w1, rfl⟩
  have hw := fun d (hd : d ∈ tables_1) => atoms_spec (ws := Jvm.Cond.code x code maxLocals ret :: tables_1) hat d (List.mem_cons_of_mem _ hd)
  have hfit : Fit s := fun {y c} hc i hi => by
    obtain ⟨ha, rfl⟩ := Array.getElem?_eq_some_iff.mp hc
    have q := List.all_eq_true.mp ((Array.all_eq_true_iff_forall_mem.mp hF) _ (Array.getElem_mem ha)) i (List.mem_range.mpr hi)
    simpa [Array.getElem?_eq_getElem hi] using q
  obtain ⟨i0, q0⟩ := is_v g1
  obtain rfl : w0 = (.int i0) := Option.some.inj q0
  obtain ⟨i1, q1⟩ := is_v g1r
  obtain rfl : w1 = (.int i1) := Option.some.inj q1
  obtain ⟨n0, n0r⟩ := and_e hn
  obtain ⟨n1, n1r⟩ := and_e n0r
  obtain ⟨n2, n2r⟩ := and_e n1r
  obtain ⟨n3, n3r⟩ := and_e n2r
  obtain ⟨n4, n4r⟩ := and_e n3r
  obtain ⟨n5, n5r⟩ := and_e n4r
  obtain ⟨n6, n6r⟩ := and_e n5r
  obtain ⟨n7, n7r⟩ := and_e n6r
  obtain ⟨n8, n8r⟩ := and_e n7r
  obtain ⟨n9, n9r⟩ := and_e n8r
  obtain ⟨n10, n10r⟩ := and_e n9r
  obtain ⟨n11, n11r⟩ := and_e n10r
  obtain ⟨n12, n12r⟩ := and_e n11r
  obtain ⟨n13, n13r⟩ := and_e n12r
  obtain ⟨n14, n14r⟩ := and_e n13r
  obtain ⟨n15, n15r⟩ := and_e n14r
  obtain ⟨n16, n16r⟩ := and_e n15r
  obtain ⟨n17, n17r⟩ := and_e n16r
  obtain ⟨n18, n18r⟩ := and_e n17r
  obtain ⟨n19, n19r⟩ := and_e n18r
  obtain ⟨n20, n20r⟩ := and_e n19r
  obtain ⟨n21, n21r⟩ := and_e n20r
  obtain ⟨n22, n22r⟩ := and_e n21r
  obtain ⟨n23, n23r⟩ := and_e n22r
  obtain ⟨n24, n24r⟩ := and_e n23r
  obtain ⟨a_TOKEN_CHARS, ev_TOKEN_CHARS⟩ := arr_v n0
  have S_TOKEN_CHARS : Sta s s.heap "com/example/wee_servlet/weeservlet/http/HttpSyntax" "TOKEN_CHARS" "[Z" (.ref a_TOKEN_CHARS) := Sta.start ev_TOKEN_CHARS (Or.inr ⟨(own_w hw 2 rfl), (own_w hw 5 rfl)⟩)
  obtain ⟨cl_TOKEN_CHARS, Ar_TOKEN_CHARS⟩ := Arr.start ev_TOKEN_CHARS n0
  have len_TOKEN_CHARS := own_lenI ev_TOKEN_CHARS Ar_TOKEN_CHARS n1
  have el_TOKEN_CHARS_33 := own_elI ev_TOKEN_CHARS Ar_TOKEN_CHARS n3
  have el_TOKEN_CHARS_34 := own_elI ev_TOKEN_CHARS Ar_TOKEN_CHARS n4
  have el_TOKEN_CHARS_40 := own_elI ev_TOKEN_CHARS Ar_TOKEN_CHARS n6
  have el_TOKEN_CHARS_41 := own_elI ev_TOKEN_CHARS Ar_TOKEN_CHARS n7
  have el_TOKEN_CHARS_42 := own_elI ev_TOKEN_CHARS Ar_TOKEN_CHARS n8
  have el_TOKEN_CHARS_43 := own_elI ev_TOKEN_CHARS Ar_TOKEN_CHARS n9
  have el_TOKEN_CHARS_44 := own_elI ev_TOKEN_CHARS Ar_TOKEN_CHARS n10
  have el_TOKEN_CHARS_45 := own_elI ev_TOKEN_CHARS Ar_TOKEN_CHARS n11
  have el_TOKEN_CHARS_46 := own_elI ev_TOKEN_CHARS Ar_TOKEN_CHARS n12
  have el_TOKEN_CHARS_47 := own_elI ev_TOKEN_CHARS Ar_TOKEN_CHARS n13
  have el_TOKEN_CHARS_91 := own_elI ev_TOKEN_CHARS Ar_TOKEN_CHARS n17
  have el_TOKEN_CHARS_92 := own_elI ev_TOKEN_CHARS Ar_TOKEN_CHARS n18
  have el_TOKEN_CHARS_93 := own_elI ev_TOKEN_CHARS Ar_TOKEN_CHARS n19
  have el_TOKEN_CHARS_123 := own_elI ev_TOKEN_CHARS Ar_TOKEN_CHARS n21
  have el_TOKEN_CHARS_124 := own_elI ev_TOKEN_CHARS Ar_TOKEN_CHARS n22
  have el_TOKEN_CHARS_125 := own_elI ev_TOKEN_CHARS Ar_TOKEN_CHARS n23
  have el_TOKEN_CHARS_126 := own_elI ev_TOKEN_CHARS Ar_TOKEN_CHARS n24
  have el_TOKEN_CHARS_127 := own_elI ev_TOKEN_CHARS Ar_TOKEN_CHARS n24r
  have ev' : ∀ idx, (Term.static "com/example/wee_servlet/weeservlet/http/HttpSyntax" "TOKEN_CHARS" "[Z").eval (#[Value.int i0, Value.int i1] : Array Value) s none idx s = some (.ref a_TOKEN_CHARS) := fun idx => ev_TOKEN_CHARS
  have hlen : cl_TOKEN_CHARS.slots.size = 128 := by
    have q : (128 : Int32).toInt = 128 := by decide
    omega
  have AT : OwnAr s s.heap a_TOKEN_CHARS .boolean 128 (fun i => .int (own_tok i)) := by
    refine ⟨cl_TOKEN_CHARS, Ar_TOKEN_CHARS, hlen, fun i hi => ?_⟩
    show cl_TOKEN_CHARS.slots[i]? = some (.int (own_tok i))
    have q0 : (0 : Int32).toInt = 0 := by decide
    have q33 : (33 : Int32).toInt = 33 := by decide
    have q35 : (35 : Int32).toInt = 35 := by decide
    have q40 : (40 : Int32).toInt = 40 := by decide
    have q48 : (48 : Int32).toInt = 48 := by decide
    have q58 : (58 : Int32).toInt = 58 := by decide
    have q65 : (65 : Int32).toInt = 65 := by decide
    have q91 : (91 : Int32).toInt = 91 := by decide
    have q94 : (94 : Int32).toInt = 94 := by decide
    have q123 : (123 : Int32).toInt = 123 := by decide
    by_cases c33 : i < 33
    · rw [show own_tok i = 0 from if_neg (by omega)]
      exact own_allZ ev' Ar_TOKEN_CHARS (by omega) n2 i (by omega) (by omega)
    by_cases c34 : i < 34
    · rw [show own_tok i = 1 from if_pos (by omega)]
      obtain rfl : i = 33 := by omega
      exact el_TOKEN_CHARS_33
    by_cases c35 : i < 35
    · rw [show own_tok i = 0 from if_neg (by omega)]
      obtain rfl : i = 34 := by omega
      exact el_TOKEN_CHARS_34
    by_cases c40 : i < 40
    · rw [show own_tok i = 1 from if_pos (by omega)]
      exact own_allI ev' Ar_TOKEN_CHARS (by omega) n5 i (by omega) (by omega) (by omega)
    by_cases c41 : i < 41
    · rw [show own_tok i = 0 from if_neg (by omega)]
      obtain rfl : i = 40 := by omega
      exact el_TOKEN_CHARS_40
    by_cases c42 : i < 42
    · rw [show own_tok i = 0 from if_neg (by omega)]
      obtain rfl : i = 41 := by omega
      exact el_TOKEN_CHARS_41
    by_cases c43 : i < 43
    · rw [show own_tok i = 1 from if_pos (by omega)]
      obtain rfl : i = 42 := by omega
      exact el_TOKEN_CHARS_42
    by_cases c44 : i < 44
    · rw [show own_tok i = 1 from if_pos (by omega)]
      obtain rfl : i = 43 := by omega
      exact el_TOKEN_CHARS_43
    by_cases c45 : i < 45
    · rw [show own_tok i = 0 from if_neg (by omega)]
      obtain rfl : i = 44 := by omega
      exact el_TOKEN_CHARS_44
    by_cases c46 : i < 46
    · rw [show own_tok i = 1 from if_pos (by omega)]
      obtain rfl : i = 45 := by omega
      exact el_TOKEN_CHARS_45
    by_cases c47 : i < 47
    · rw [show own_tok i = 1 from if_pos (by omega)]
      obtain rfl : i = 46 := by omega
      exact el_TOKEN_CHARS_46
    by_cases c48 : i < 48
    · rw [show own_tok i = 0 from if_neg (by omega)]
      obtain rfl : i = 47 := by omega
      exact el_TOKEN_CHARS_47
    by_cases c58 : i < 58
    · rw [show own_tok i = 1 from if_pos (by omega)]
      exact own_allI ev' Ar_TOKEN_CHARS (by omega) n14 i (by omega) (by omega) (by omega)
    by_cases c65 : i < 65
    · rw [show own_tok i = 0 from if_neg (by omega)]
      exact own_allI ev' Ar_TOKEN_CHARS (by omega) n15 i (by omega) (by omega) (by omega)
    by_cases c91 : i < 91
    · rw [show own_tok i = 1 from if_pos (by omega)]
      exact own_allI ev' Ar_TOKEN_CHARS (by omega) n16 i (by omega) (by omega) (by omega)
    by_cases c92 : i < 92
    · rw [show own_tok i = 0 from if_neg (by omega)]
      obtain rfl : i = 91 := by omega
      exact el_TOKEN_CHARS_91
    by_cases c93 : i < 93
    · rw [show own_tok i = 0 from if_neg (by omega)]
      obtain rfl : i = 92 := by omega
      exact el_TOKEN_CHARS_92
    by_cases c94 : i < 94
    · rw [show own_tok i = 0 from if_neg (by omega)]
      obtain rfl : i = 93 := by omega
      exact el_TOKEN_CHARS_93
    by_cases c123 : i < 123
    · rw [show own_tok i = 1 from if_pos (by omega)]
      exact own_allI ev' Ar_TOKEN_CHARS (by omega) n20 i (by omega) (by omega) (by omega)
    by_cases c124 : i < 124
    · rw [show own_tok i = 0 from if_neg (by omega)]
      obtain rfl : i = 123 := by omega
      exact el_TOKEN_CHARS_123
    by_cases c125 : i < 125
    · rw [show own_tok i = 1 from if_pos (by omega)]
      obtain rfl : i = 124 := by omega
      exact el_TOKEN_CHARS_124
    by_cases c126 : i < 126
    · rw [show own_tok i = 0 from if_neg (by omega)]
      obtain rfl : i = 125 := by omega
      exact el_TOKEN_CHARS_125
    by_cases c127 : i < 127
    · rw [show own_tok i = 1 from if_pos (by omega)]
      obtain rfl : i = 126 := by omega
      exact el_TOKEN_CHARS_126
    by_cases c128 : i < 128
    · rw [show own_tok i = 0 from if_neg (by omega)]
      obtain rfl : i = 127 := by omega
      exact el_TOKEN_CHARS_127
    omega
  obtain ⟨n, o, h1, h2, h3, _, L, rfl, ⟨rfl, N⟩, hq⟩ := own_rm_law l s _ hw i0 i1 s.heap s.heap.size a_TOKEN_CHARS S_TOKEN_CHARS AT p e ha hc hk s m _ below hf ((Spec.applies_iff_loose hf).mp happ).1 ⟨rfl, State.Warmed39.refl s, rfl⟩ trivial
  refine ⟨n, _, h1, h2, h3, hpost _ _ _ _ _ _ ⟨Cond.after_iff.mpr rfl, Cond.after_iff.mpr (eq_i res_at (Term.int_eval (1)) rfl), trivial⟩ ⟨hq.1, hq.2.1, (hq.2.2.sift fun y hy => Or.inr (N y hy)).mono (by decide) (by decide)⟩⟩
theorem main_1_1 : Claimed_1_1 := own_comes_1 fun _ _ _ _ _ _ h hF => ⟨h.1, hF⟩
theorem main_1_2 : Claimed_1_2 := own_comes_1 fun _ _ _ _ _ _ h hF => ⟨h.2.1, hF⟩
end Jvm.Pilot.@@N@@
namespace Jvm.Pilot.@@N@@
open Jvm Jvm.ClassFile Sem Op Lib Jvm.Free Jvm.Stand Jvm.Pilot.@@N@@.Jvm.D
/-! MADE BY PROGRAM (witnessworld.py) out of the Statement's table words and the real class files: 11 classes; the members and pool entries that the words name. The judged class is class 1, her method 1. -/
namespace start1
open Jvm.ClassFile
def u (s : String) : CpInfo := .utf8 (stringToUtf16 s)
/-- a pool by its gaps: so many unusable entries, then the entry; so many at the end -/
def gap : Nat → List CpInfo → List CpInfo
  | 0, r => r
  | n + 1, r => .unusable :: gap n r
def poolList (es : List (Nat × CpInfo)) (last : Nat) : List CpInfo := es.foldr (fun e r => gap e.1 (e.2 :: r)) (gap last [])
def pool (es : List (Nat × CpInfo)) (last : Nat) : Array CpInfo := ⟨poolList es last⟩
def fileOf (pool : Array CpInfo) (this : Nat) (attrs : Array Attribute := #[]) (ms : Array MethodInfo := #[]) (fl : Nat := 33) (sup : Nat := 0) (ifs : Array Nat := #[]) (fds : Array FieldInfo := #[]) : ClassFile where
  minorVersion := 0
  majorVersion := 65
  constantPool := pool
  accessFlags := fl
  thisClass := this
  superClass := sup
  interfaces := ifs
  fields := fds
  methods := ms
  attributes := attrs
def plain (name : String) (sup : Option ClassId) : Class where
  name := name
  kind := .ordinary
  loader := none
  accessFlags := 33
  super := sup
  interfaces := #[]
  cf := none
  fields := #[]
  methods := #[]
  instanceTypes := #[]
  staticTypes := #[]
  resolved := #[]
  callSites := []
  init := .initialized
  statics := none
  mirror := none

def pool0 : Array CpInfo := pool [(5, u "<init>"), (0, u "()V"), (1, .class_ 10), (1, u "java/lang/Object")] 113

def k0m0 : Method := { name := "<init>", desc := "()V", sig := { parameters := [], returnType := none }, accessFlags := 1, code := none }
/-- java/lang/Object -/
def k0 : Class := { plain "java/lang/Object" none with
  accessFlags := 33
  interfaces := #[]
  cf := some (fileOf pool0 8 #[] #[{ accessFlags := 1, nameIndex := 5, descriptorIndex := 6, attributes := #[] }] 33 0 #[] #[])
  fields := #[]
  methods := #[k0m0]
  instanceTypes := #[]
  staticTypes := #[]
  resolved := Array.replicate 124 none
  statics := none }

def pool1 : Array CpInfo := pool [(2, .class_ 4), (1, u "java/lang/Object"), (0, u "<init>"), (0, u "()V"), (0, .methodref 8 9), (0, .class_ 10), (0, .nameAndType 11 12), (0, u "com/example/wee_servlet/weeservlet/http/HttpSyntax"), (0, u "isTokenChar"), (0, u "(I)Z"), (0, .methodref 14 15), (0, .class_ 16), (0, .nameAndType 17 12), (0, u "com/example/wee_servlet/weeservlet/http/HttpSyntaxIsTokenCharPinLaw"), (0, u "expected"), (2, u "law"), (0, u "(II)Z")] 3

def k1m0 : Method := { name := "<init>", desc := "()V", sig := { parameters := [], returnType := none }, accessFlags := 2, code := none }
def k1c1 : Code := { maxStack := 2, maxLocals := 3, code := code, exceptionTable := #[], attributes := #[] }
def k1m1 : Method := { name := "law", desc := "(II)Z", sig := { parameters := [.int, .int], returnType := some .boolean }, accessFlags := 9, code := some k1c1 }
def k1c2 : Code := { maxStack := 2, maxLocals := 1, code := method_3_code, exceptionTable := #[], attributes := #[] }
def k1m2 : Method := { name := "expected", desc := "(I)Z", sig := { parameters := [.int], returnType := some .boolean }, accessFlags := 10, code := some k1c2 }
/-- com/example/wee_servlet/weeservlet/http/HttpSyntaxIsTokenCharPinLaw -/
def k1 : Class := { plain "com/example/wee_servlet/weeservlet/http/HttpSyntaxIsTokenCharPinLaw" (some 0) with
  accessFlags := 49
  interfaces := #[]
  cf := some (fileOf pool1 14 #[] #[{ accessFlags := 2, nameIndex := 5, descriptorIndex := 6, attributes := #[] }, { accessFlags := 9, nameIndex := 20, descriptorIndex := 21, attributes := #[] }, { accessFlags := 10, nameIndex := 17, descriptorIndex := 12, attributes := #[] }] 49 2 #[] #[])
  fields := #[]
  methods := #[k1m0, k1m1, k1m2]
  instanceTypes := #[]
  staticTypes := #[]
  resolved := Array.replicate 25 none
  statics := none }

def pool2 : Array CpInfo := pool [(2, .class_ 4), (1, u "java/lang/Object"), (0, u "<init>"), (0, u "()V"), (15, .class_ 24), (1, u "com/example/wee_servlet/weeservlet/http/HttpSyntax"), (0, u "isTokenChar"), (0, u "(I)Z"), (0, .fieldref 22 28), (0, .nameAndType 29 30), (0, u "TOKEN_CHARS"), (0, u "[Z"), (23, u "TOKEN_SYMBOLS"), (0, u "Ljava/lang/String;"), (1, u "UNRESERVED_SYMBOLS"), (0, u "SUB_DELIMS")] 13

def k2m0 : Method := { name := "<init>", desc := "()V", sig := { parameters := [], returnType := none }, accessFlags := 2, code := none }
def k2c1 : Code := { maxStack := 2, maxLocals := 1, code := prog_22_method_3_code, exceptionTable := #[], attributes := #[] }
def k2m1 : Method := { name := "isTokenChar", desc := "(I)Z", sig := { parameters := [.int], returnType := some .boolean }, accessFlags := 8, code := some k2c1 }
/-- com/example/wee_servlet/weeservlet/http/HttpSyntax -/
def k2 : Class := { plain "com/example/wee_servlet/weeservlet/http/HttpSyntax" (some 0) with
  accessFlags := 48
  interfaces := #[]
  cf := some (fileOf pool2 22 #[] #[{ accessFlags := 2, nameIndex := 5, descriptorIndex := 6, attributes := #[] }, { accessFlags := 8, nameIndex := 25, descriptorIndex := 26, attributes := #[] }] 48 2 #[] #[{ accessFlags := 26, nameIndex := 54, descriptorIndex := 55, attributes := #[] }, { accessFlags := 26, nameIndex := 57, descriptorIndex := 55, attributes := #[] }, { accessFlags := 26, nameIndex := 58, descriptorIndex := 55, attributes := #[] }, { accessFlags := 26, nameIndex := 29, descriptorIndex := 30, attributes := #[] }])
  fields := #[{ name := "TOKEN_SYMBOLS", type := (.object "java/lang/String"), accessFlags := 26, slot := 0, constantValue := 0 }, { name := "UNRESERVED_SYMBOLS", type := (.object "java/lang/String"), accessFlags := 26, slot := 1, constantValue := 0 }, { name := "SUB_DELIMS", type := (.object "java/lang/String"), accessFlags := 26, slot := 2, constantValue := 0 }, { name := "TOKEN_CHARS", type := (.array .boolean), accessFlags := 26, slot := 3, constantValue := 0 }]
  methods := #[k2m0, k2m1]
  instanceTypes := #[]
  staticTypes := #[(.object "java/lang/String"), (.object "java/lang/String"), (.object "java/lang/String"), (.array .boolean)]
  resolved := Array.replicate 72 none
  statics := some 0 }

def pool3 : Array CpInfo := pool [(1, u "java/lang/Cloneable"), (0, .class_ 1), (0, u "java/lang/Object"), (0, .class_ 3)] 3

/-- java/lang/Cloneable -/
def k3 : Class := { plain "java/lang/Cloneable" (some 0) with
  accessFlags := 1537
  interfaces := #[]
  cf := some (fileOf pool3 2 #[] #[] 1537 4 #[] #[])
  fields := #[]
  methods := #[]
  instanceTypes := #[]
  staticTypes := #[]
  resolved := Array.replicate 8 none
  statics := none }

def pool4 : Array CpInfo := pool [(1, u "java/io/Serializable"), (0, .class_ 1), (0, u "java/lang/Object"), (0, .class_ 3)] 3

/-- java/io/Serializable -/
def k4 : Class := { plain "java/io/Serializable" (some 0) with
  accessFlags := 1537
  interfaces := #[]
  cf := some (fileOf pool4 2 #[] #[] 1537 4 #[] #[])
  fields := #[]
  methods := #[]
  instanceTypes := #[]
  staticTypes := #[]
  resolved := Array.replicate 8 none
  statics := none }

/-- the primitive boolean -/
def k5 : Class := { plain "boolean" none with kind := .primitive 'Z', accessFlags := 0x411 }
/-- [Z -/
def k6 : Class := { plain "[Z" (some 0) with kind := .array 5 .boolean, interfaces := #[3, 4], accessFlags := 1041 }

/-- the primitive byte -/
def k7 : Class := { plain "byte" none with kind := .primitive 'B', accessFlags := 0x411 }
/-- [B -/
def k8 : Class := { plain "[B" (some 0) with kind := .array 7 .byte, interfaces := #[3, 4], accessFlags := 1041 }

/-- the primitive int -/
def k9 : Class := { plain "int" none with kind := .primitive 'I', accessFlags := 0x411 }
/-- [I -/
def k10 : Class := { plain "[I" (some 0) with kind := .array 9 .int, interfaces := #[3, 4], accessFlags := 1041 }

def heap : Heap := #[{ cls := 2, slots := #[.null, .null, .null, .ref 1], vm := .statics 2 },
  { cls := 6, slots := #[.int 0, .int 0, .int 0, .int 0, .int 0, .int 0, .int 0, .int 0, .int 0, .int 0, .int 0, .int 0, .int 0, .int 0, .int 0, .int 0, .int 0, .int 0, .int 0, .int 0, .int 0, .int 0, .int 0, .int 0, .int 0, .int 0, .int 0, .int 0, .int 0, .int 0, .int 0, .int 0, .int 0, .int 1, .int 0, .int 1, .int 1, .int 1, .int 1, .int 1, .int 0, .int 0, .int 1, .int 1, .int 0, .int 1, .int 1, .int 0, .int 1, .int 1, .int 1, .int 1, .int 1, .int 1, .int 1, .int 1, .int 1, .int 1, .int 0, .int 0, .int 0, .int 0, .int 0, .int 0, .int 0, .int 1, .int 1, .int 1, .int 1, .int 1, .int 1, .int 1, .int 1, .int 1, .int 1, .int 1, .int 1, .int 1, .int 1, .int 1, .int 1, .int 1, .int 1, .int 1, .int 1, .int 1, .int 1, .int 1, .int 1, .int 1, .int 1, .int 0, .int 0, .int 0, .int 1, .int 1, .int 1, .int 1, .int 1, .int 1, .int 1, .int 1, .int 1, .int 1, .int 1, .int 1, .int 1, .int 1, .int 1, .int 1, .int 1, .int 1, .int 1, .int 1, .int 1, .int 1, .int 1, .int 1, .int 1, .int 1, .int 1, .int 1, .int 1, .int 0, .int 1, .int 0, .int 1, .int 0], vm := .none }]
def classes : Array Class := #[k0, k1, k2, k3, k4, k5, k6, k7, k8, k9, k10]
def interned : List (Array UInt16 × Addr) := []
def slotsUsed : Nat := 132
def theMethod : MethodId := ⟨1, 1⟩
def args0 : Array Value := #[.int 65, .int 1]
def aboutOver (below : List Frame) : State where
  vm := { classes := classes, interned := interned.toArray }
  heap := heap
  slotsUsed := slotsUsed
  threads := #[{ frames := .invoking theMethod args0 :: below }]
def below0 : List Frame := [.native { method := ⟨0, 0⟩, args := #[] }]
def about1 : State := aboutOver below0
def p0 : Program := .bare "" "" ""
def e0 : Env := launch0.env 0 0 0
theorem w_frames : about1.frames = Frame.invoking theMethod args0 :: below0 := rfl
set_option maxRecDepth 65536 in
theorem w_args : argsFit about1.vm theMethod args0 = true := by decide +kernel
set_option maxRecDepth 65536 in
theorem w_heap : heapFits about1 = true := by decide +kernel
set_option maxRecDepth 65536 in
theorem w_runnable : about1.curStatus? = some .runnable := by decide +kernel
set_option maxRecDepth 65536 in
theorem w_alone : about1.alone = true := by decide +kernel
set_option maxRecDepth 65536 in
theorem w_named : about1.methodNamed? x = some theMethod := by decide +kernel
set_option maxRecDepth 65536 in
theorem w_hears : about1.hears theMethod below0 = true := by decide +kernel
set_option maxRecDepth 65536 in
theorem w_ripe : about1.ripe theMethod args0 below0 = true := by decide +kernel
theorem w_running : about1.status = .running := rfl
set_option maxRecDepth 65536 in
theorem w_room : about1.hasRoom e0.platform room_1 = true :=
  launch0.hasRoom_least _ room_1 (by decide +kernel) (by decide +kernel) (by decide +kernel) (by decide +kernel) (by decide +kernel) (by decide +kernel)
theorem allAtoms_all (ts : List Jvm.Cond) (a : Array Jvm.Value) (st : Jvm.State) : (allAtoms ts).before a st = ts.all (fun c => c.before a st) := by
  induction ts with
  | nil => rfl
  | cons c t ih =>
    show (Jvm.Cond.and c (allAtoms t)).before a st = _
    rw [Jvm.Cond.before_and, ih, List.all_cons]
def words1 : List Jvm.Cond := Jvm.Cond.code x code maxLocals ret :: tables_1
/-- a 'code' word, met by the world's own term for the bytes: nothing is compared byte by byte -/
theorem code_word {y : MethodName} {bytes : ByteArray} {mx : Nat} {rt : Option FieldType} {a : Array Value} {s : State} {m : MethodId} {meth : Method} {c : Code} (h1 : s.methodNamed? y = some m) (h2 : s.vm.method? m = some meth) (h3 : meth.code = some c) (h4 : c.code = bytes)
    (h5 : (c.maxLocals == mx && c.exceptionTable.isEmpty && decide (c.maxStack ≤ mostOperands) && decide (meth.sig.returnType = rt) && !meth.locks && decide (parseMethodDescriptor y.desc = some meth.sig)) = true) : (Jvm.Cond.code y bytes mx rt).before a s = true := by
  simp only [Bool.and_eq_true, beq_iff_eq, Bool.not_eq_true', decide_eq_true_eq] at h5
  obtain ⟨⟨⟨⟨⟨g1, g2⟩, g3⟩, g4⟩, g5⟩, g6⟩ := h5
  simp [Cond.before, Cond.holds, Cond.value, h1, h2, h3, h4, g1, g2, g3, g4, g5, g6]
def isCode : Jvm.Cond → Bool
  | .code _ _ _ _ => true
  | _ => false
theorem all_split {L : List Jvm.Cond} {P : Jvm.Cond → Bool} (h1 : L.all (fun c => isCode c || P c) = true) (h2 : ∀ c ∈ L.filter isCode, P c = true) : L.all P = true := by
  refine List.all_eq_true.mpr fun c hc => ?_
  have h := List.all_eq_true.mp h1 c hc
  rcases Bool.eq_false_or_eq_true (isCode c) with hi | hi
  · exact h2 c (List.mem_filter.mpr ⟨hc, hi⟩)
  · simpa [hi] using h
set_option maxRecDepth 65536 in
theorem w_c0 : (Jvm.Cond.code x code maxLocals ret).before args0 about1 = true := code_word (m := ⟨1, 1⟩) (meth := k1m1) (c := k1c1) (by decide +kernel) rfl rfl rfl (by decide +kernel)
set_option maxRecDepth 65536 in
theorem w_c1 : (Jvm.Cond.code ({ cls := "com/example/wee_servlet/weeservlet/http/HttpSyntax", name := "isTokenChar", desc := "(I)Z" } : Jvm.MethodName) prog_22_method_3_code (1 : Nat) (Option.some Jvm.ClassFile.FieldType.boolean)).before args0 about1 = true := code_word (m := ⟨2, 1⟩) (meth := k2m1) (c := k2c1) (by decide +kernel) rfl rfl rfl (by decide +kernel)
set_option maxRecDepth 65536 in
theorem w_c2 : (Jvm.Cond.code ({ cls := "com/example/wee_servlet/weeservlet/http/HttpSyntaxIsTokenCharPinLaw", name := "expected", desc := "(I)Z" } : Jvm.MethodName) method_3_code (1 : Nat) (Option.some Jvm.ClassFile.FieldType.boolean)).before args0 about1 = true := code_word (m := ⟨1, 2⟩) (meth := k1m2) (c := k1c2) (by decide +kernel) rfl rfl rfl (by decide +kernel)
def codes1 : List Jvm.Cond := [Jvm.Cond.code x code maxLocals ret, Jvm.Cond.code ({ cls := "com/example/wee_servlet/weeservlet/http/HttpSyntax", name := "isTokenChar", desc := "(I)Z" } : Jvm.MethodName) prog_22_method_3_code (1 : Nat) (Option.some Jvm.ClassFile.FieldType.boolean), Jvm.Cond.code ({ cls := "com/example/wee_servlet/weeservlet/http/HttpSyntaxIsTokenCharPinLaw", name := "expected", desc := "(I)Z" } : Jvm.MethodName) method_3_code (1 : Nat) (Option.some Jvm.ClassFile.FieldType.boolean)]
set_option maxRecDepth 65536 in
theorem codes_eq : words1.filter isCode = codes1 := rfl
theorem w_codes : ∀ c ∈ words1.filter isCode, c.before args0 about1 = true := by
  rw [codes_eq]
  intro c hc
  simp only [codes1, List.mem_cons, List.not_mem_nil, or_false] at hc
  rcases hc with rfl | rfl | rfl
  · exact w_c0
  · exact w_c1
  · exact w_c2
set_option maxRecDepth 65536 in
theorem w_t1 : words1.all (fun c => isCode c || c.before args0 about1) = true := by decide +kernel
theorem w_tables : (allAtoms (Jvm.Cond.code x code maxLocals ret :: tables_1)).before args0 about1 = true := by
  rw [allAtoms_all]
  show words1.all (fun c => c.before args0 about1) = true
  refine all_split ?_ w_codes
  rw [w_t1]
set_option maxRecDepth 65536 in
theorem w_case : (Jvm.Cond.and given_1 narrow_1).before args0 about1 = true := by decide +kernel
theorem w_applies : (headSpec (Jvm.Cond.code x code maxLocals ret :: tables_1) room_1).applies x e0.platform about1 = true :=
  (Spec.applies_iff w_frames).mpr ⟨w_running, w_runnable, w_alone, w_named, w_hears, w_ripe, w_room, w_tables⟩
theorem atStart : AtStart classFile x code maxLocals ret World_1 tables_1 room_1 Calls_1 rest_1 Pre_1 launch0 p0 e0 about1 theMethod args0 below0 :=
  ⟨lists_1, trivial, launch0.admits_env _ _ _, launch0.least_env, fairChoices_fair.cas, fairChoices_fair.clock, w_frames, w_args, w_heap, w_applies, trivial, trivial, w_case⟩
end start1
theorem witness_1 : WitnessClaimed_1 := ⟨start1.p0, start1.e0, start1.about1, start1.theMethod, start1.args0, start1.below0, start1.atStart⟩
end Jvm.Pilot.@@N@@
