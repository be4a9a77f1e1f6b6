import JvmDerived
import JvmDerived.Pilot.@@N@@Statement
import JvmDerived.Pilot.@@N@@Code
set_option linter.unusedVariables false
set_option linter.unusedSimpArgs false
namespace Jvm.Pilot.@@N@@
open Jvm Jvm.ClassFile Sem Op Lib Jvm.Free Jvm.Stand Jvm.LawKit Jvm.RoadKit Bundle Jvm.Pilot.@@N@@.Jvm.D
section OwnLayer
variable {p : Program} {l : Launch} {e : Env} {R : Room} {s : State} {m : MethodId} {args : Array Value} {below : List Frame} {meth : Method} {c : Code} {T : State} {locs : List Loc} {cells slots : Nat} {Z : State} {y : MethodName} {bs : ByteArray} {maxL : Nat} {rt : Option FieldType} {ce sl : Nat} {Q : Option Value → Heap → List Loc → Prop} {G : Outcome → State → Prop} {pc : Nat} {Ls : Array Slot} {st rest : List Value} {h : Heap} {a0 : Array Value}
/-- from S the body runs on, returns, and Q says what it leaves -/
def OwnEnds (p : Program) (e : Env) (below : List Frame) (G : Outcome → State → Prop) (S : State) : Prop :=
  ∃ s₂ o, Steps p.tables e below S s₂ ∧ s₂.status = .running ∧ Ended s₂ below o ∧ G o s₂
def OwnG (s : State) (ce sl : Nat) (Q : Option Value → Heap → List Loc → Prop) : Outcome → State → Prop := fun o s₂ => ∃ v L, o = .returned v ∧ Q v s₂.heap L ∧ FrameEnd s o s₂ L ce sl
/-- what stands throughout a body's walk -/
def OwnCx (p : Program) (s : State) (m : MethodId) (meth : Method) (c : Code) (Z : State) (y : MethodName) (bs : ByteArray) (maxL : Nat) (rt : Option FieldType) : Prop :=
  p.tables.exec = Jvm.exec ∧ Z.Warmed39 s.vm ∧ s.vm.findClass y.cls = some m.cls ∧ c.code = bs ∧ c.maxLocals = maxL ∧ meth.sig.returnType = rt ∧ meth.locks = false ∧ meth.name = y.name
/-- a body's contract over the heap h at these arguments -/
def OwnMet (l : Launch) (Z : State) (y : MethodName) (bs : ByteArray) (maxL : Nat) (rt : Option FieldType) (ws : List Jvm.Cond) (rm : Room) (as' : Array Value) (h : Heap) (Q : Option Value → Heap → List Loc → Prop) : Prop :=
  MetFree l y (head1 (Jvm.Cond.code y bs maxL rt :: ws) rm) (fun a U => a = as' ∧ Z.Warmed39 U.vm ∧ U.heap = h) (fun _ _ _ _ _ => True) (fun _ U o U' => ∃ v L, o = .returned v ∧ Q v U'.heap L ∧ FrameEnd U o U' L rm.cells rm.slots)
theorem own_nz32 {d : Int32} (q : d.toInt ≠ 0) : d ≠ 0 := fun r => q (by rw [r]; rfl)
theorem own_nz64 {d : Int64} (q : d.toInt ≠ 0) : d ≠ 0 := fun r => q (by rw [r]; rfl)
theorem own_st {S S' : State} (k : ∀ t, Steps p.tables e below S' t → Steps p.tables e below S t) (r : OwnEnds p e below G S') : OwnEnds p e below G S := by
  obtain ⟨s₂, o, h1, r⟩ := r
  exact ⟨s₂, o, k _ h1, r⟩
theorem own_tr {S S' : State} (k : Steps p.tables e below S S') (r : OwnEnds p e below G S') : OwnEnds p e below G S := own_st (fun _ q => k.trans q) r
theorem own_enter {ws : List Jvm.Cond} {rm : Room} {as' : Array Value} {f0 : MethodId → JFrame} (hp : plainFor y = true) (hf : ∀ m, entryFrame m as' maxL = f0 m)
    (H : ∀ p e s m below meth c T, Stand p l e rm s m as' below meth c T [] 0 0 → OwnCx p s m meth c Z y bs maxL rt → T.heap = h → OwnEnds p e below (OwnG s rm.cells rm.slots Q) (T.setTop (f0 m))) : OwnMet l Z y bs maxL rt ws rm as' h Q := by
  refine MetFree.of_bodySF hp hisR ?_
  intro p e s m args below meth c s₁ Bd hml0 hP hK
  obtain ⟨rfl, hZ, hh⟩ := hP
  have k := H p e s m below meth c s₁ (Stand.of_body Bd) ⟨Bd.exec, hZ, findClass_of_methodNamed Bd.named, Bd.bytes, hml0, Bd.returns, Bd.notSynchronized, (name_of_methodNamed Bd.named Bd.method).1⟩ (by rw [← hh, Bd.state]; rfl)
  rw [← hf m] at k
  exact k
theorem own_mono {ws : List Jvm.Cond} {rm : Room} {as' : Array Value} {Q' : Option Value → Heap → List Loc → Prop} (H : OwnMet l Z y bs maxL rt ws rm as' h Q) (q : ∀ v h' L, Q v h' L → Q' v h' L) : OwnMet l Z y bs maxL rt ws rm as' h Q' := by
  intro p e ha hc hk s m args below hf happ hP hK
  obtain ⟨n, o, h1, h2, h3, v, L, h4, h5, h6⟩ := H p e ha hc hk s m args below hf happ hP hK
  exact ⟨n, o, h1, h2, h3, v, L, h4, q _ _ _ h5, h6⟩
theorem own_iload (X : Stand p l e R s m args below meth c T locs cells slots) (C : OwnCx p s m meth c Z y bs maxL rt) {k : Nat} {v : Int32} (hd : decode bs pc = .ok (.iload k, 2)) (pc' : Nat) (hp : pc + 2 = pc') (hl : Ls[k]? = some (.val (.int v)))
    (hr : OwnEnds p e below G (T.setTop (mkF m pc' Ls (.int v :: st)))) : OwnEnds p e below G (T.setTop (mkF m pc Ls st)) := by
  subst hp; exact own_st (fun _ q => XS.iload X.here C.1 rfl (hb C.2.2.2.1 hd) hl q) hr
theorem own_lload (X : Stand p l e R s m args below meth c T locs cells slots) (C : OwnCx p s m meth c Z y bs maxL rt) {k : Nat} {v : Int64} (hd : decode bs pc = .ok (.lload k, 2)) (pc' : Nat) (hp : pc + 2 = pc') (hl : Ls[k]? = some (.val (.long v)))
    (hr : OwnEnds p e below G (T.setTop (mkF m pc' Ls (.long v :: st)))) : OwnEnds p e below G (T.setTop (mkF m pc Ls st)) := by
  subst hp; exact own_st (fun _ q => XS.lload X.here C.1 rfl (hb C.2.2.2.1 hd) hl q) hr
theorem own_iload_n (X : Stand p l e R s m args below meth c T locs cells slots) (C : OwnCx p s m meth c Z y bs maxL rt) {k : Fin 4} {v : Int32} (hd : decode bs pc = .ok (.iload_n k, 1)) (pc' : Nat) (hp : pc + 1 = pc') (hl : Ls[k.val]? = some (.val (.int v)))
    (hr : OwnEnds p e below G (T.setTop (mkF m pc' Ls (.int v :: st)))) : OwnEnds p e below G (T.setTop (mkF m pc Ls st)) := by
  subst hp; exact own_st (fun _ q => XS.iloadN X.here C.1 rfl (hb C.2.2.2.1 hd) hl q) hr
theorem own_lload_n (X : Stand p l e R s m args below meth c T locs cells slots) (C : OwnCx p s m meth c Z y bs maxL rt) {k : Fin 4} {v : Int64} (hd : decode bs pc = .ok (.lload_n k, 1)) (pc' : Nat) (hp : pc + 1 = pc') (hl : Ls[k.val]? = some (.val (.long v)))
    (hr : OwnEnds p e below G (T.setTop (mkF m pc' Ls (.long v :: st)))) : OwnEnds p e below G (T.setTop (mkF m pc Ls st)) := by
  subst hp; exact own_st (fun _ q => XS.lloadN X.here C.1 rfl (hb C.2.2.2.1 hd) hl q) hr
theorem own_aload (X : Stand p l e R s m args below meth c T locs cells slots) (C : OwnCx p s m meth c Z y bs maxL rt) {k : Nat} {v : Value} (hd : decode bs pc = .ok (.aload k, 2)) (pc' : Nat) (hp : pc + 2 = pc') (hl : Ls[k]? = some (.val v)) (hv : v.isRef = true)
    (hr : OwnEnds p e below G (T.setTop (mkF m pc' Ls (v :: st)))) : OwnEnds p e below G (T.setTop (mkF m pc Ls st)) := by
  subst hp; exact own_st (fun _ q => XS.aload X.here C.1 rfl (hb C.2.2.2.1 hd) hl hv q) hr
theorem own_aload_n (X : Stand p l e R s m args below meth c T locs cells slots) (C : OwnCx p s m meth c Z y bs maxL rt) {k : Fin 4} {v : Value} (hd : decode bs pc = .ok (.aload_n k, 1)) (pc' : Nat) (hp : pc + 1 = pc') (hl : Ls[k.val]? = some (.val v)) (hv : v.isRef = true)
    (hr : OwnEnds p e below G (T.setTop (mkF m pc' Ls (v :: st)))) : OwnEnds p e below G (T.setTop (mkF m pc Ls st)) := by
  subst hp; exact own_st (fun _ q => XS.aloadN X.here C.1 rfl (hb C.2.2.2.1 hd) hl hv q) hr
theorem own_istore (X : Stand p l e R s m args below meth c T locs cells slots) (C : OwnCx p s m meth c Z y bs maxL rt) {k : Nat} {v : Int32} (hd : decode bs pc = .ok (.istore k, 2)) (pc' : Nat) (hp : pc + 2 = pc') (L' : Array Slot) (hl : storeLocals Ls k (.int v) = some L')
    (hr : OwnEnds p e below G (T.setTop (mkF m pc' L' st))) : OwnEnds p e below G (T.setTop (mkF m pc Ls (.int v :: st))) := by
  subst hp; exact own_st (fun _ q => XS.istore X.here C.1 rfl (hb C.2.2.2.1 hd) rfl hl q) hr
theorem own_lstore (X : Stand p l e R s m args below meth c T locs cells slots) (C : OwnCx p s m meth c Z y bs maxL rt) {k : Nat} {v : Int64} (hd : decode bs pc = .ok (.lstore k, 2)) (pc' : Nat) (hp : pc + 2 = pc') (L' : Array Slot) (hl : storeLocals Ls k (.long v) = some L')
    (hr : OwnEnds p e below G (T.setTop (mkF m pc' L' st))) : OwnEnds p e below G (T.setTop (mkF m pc Ls (.long v :: st))) := by
  subst hp; exact own_st (fun _ q => XS.lstore X.here C.1 rfl (hb C.2.2.2.1 hd) rfl hl q) hr
theorem own_istore_n (X : Stand p l e R s m args below meth c T locs cells slots) (C : OwnCx p s m meth c Z y bs maxL rt) {k : Fin 4} {v : Int32} (hd : decode bs pc = .ok (.istore_n k, 1)) (pc' : Nat) (hp : pc + 1 = pc') (L' : Array Slot) (hl : storeLocals Ls k.val (.int v) = some L')
    (hr : OwnEnds p e below G (T.setTop (mkF m pc' L' st))) : OwnEnds p e below G (T.setTop (mkF m pc Ls (.int v :: st))) := by
  subst hp; exact own_st (fun _ q => XS.istoreN X.here C.1 rfl (hb C.2.2.2.1 hd) rfl hl q) hr
theorem own_lstore_n (X : Stand p l e R s m args below meth c T locs cells slots) (C : OwnCx p s m meth c Z y bs maxL rt) {k : Fin 4} {v : Int64} (hd : decode bs pc = .ok (.lstore_n k, 1)) (pc' : Nat) (hp : pc + 1 = pc') (L' : Array Slot) (hl : storeLocals Ls k.val (.long v) = some L')
    (hr : OwnEnds p e below G (T.setTop (mkF m pc' L' st))) : OwnEnds p e below G (T.setTop (mkF m pc Ls (.long v :: st))) := by
  subst hp; exact own_st (fun _ q => XS.lstoreN X.here C.1 rfl (hb C.2.2.2.1 hd) rfl hl q) hr
theorem own_astore (X : Stand p l e R s m args below meth c T locs cells slots) (C : OwnCx p s m meth c Z y bs maxL rt) {k : Nat} {v : Value} (hd : decode bs pc = .ok (.astore k, 2)) (pc' : Nat) (hp : pc + 2 = pc') (hv : v.isRef = true) (L' : Array Slot) (hl : storeLocals Ls k v = some L')
    (hr : OwnEnds p e below G (T.setTop (mkF m pc' L' st))) : OwnEnds p e below G (T.setTop (mkF m pc Ls (v :: st))) := by
  subst hp; exact own_st (fun _ q => XS.astore X.here C.1 rfl (hb C.2.2.2.1 hd) rfl hv hl q) hr
theorem own_astore_n (X : Stand p l e R s m args below meth c T locs cells slots) (C : OwnCx p s m meth c Z y bs maxL rt) {k : Fin 4} {v : Value} (hd : decode bs pc = .ok (.astore_n k, 1)) (pc' : Nat) (hp : pc + 1 = pc') (hv : v.isRef = true) (L' : Array Slot) (hl : storeLocals Ls k.val v = some L')
    (hr : OwnEnds p e below G (T.setTop (mkF m pc' L' st))) : OwnEnds p e below G (T.setTop (mkF m pc Ls (v :: st))) := by
  subst hp; exact own_st (fun _ q => XS.astoreN X.here C.1 rfl (hb C.2.2.2.1 hd) rfl hv hl q) hr
theorem own_iinc (X : Stand p l e R s m args below meth c T locs cells slots) (C : OwnCx p s m meth c Z y bs maxL rt) {k : Nat} {cst : Int} {v : Int32} (hd : decode bs pc = .ok (.iinc k cst, 3)) (pc' : Nat) (hp : pc + 3 = pc') (hl : Ls[k]? = some (.val (.int v))) (w : Int32) (hw : Int32.ofInt cst = w) (F : Int32 → Array Slot) (hl' : ∀ z, storeLocals Ls k (.int z) = some (F z))
    (hr : ∀ z, z = v + w → OwnEnds p e below G (T.setTop (mkF m pc' (F z) st))) : OwnEnds p e below G (T.setTop (mkF m pc Ls st)) := by
  subst hp hw; exact own_st (fun _ q => XS.iinc X.here C.1 rfl (hb C.2.2.2.1 hd) hl (hl' _) q) (hr _ rfl)
theorem own_iconst (X : Stand p l e R s m args below meth c T locs cells slots) (C : OwnCx p s m meth c Z y bs maxL rt) {i : Int} (hd : decode bs pc = .ok (.iconst i, 1)) (pc' : Nat) (hp : pc + 1 = pc') (k : Int32) (hk : Int32.ofInt i = k)
    (hr : OwnEnds p e below G (T.setTop (mkF m pc' Ls (.int k :: st)))) : OwnEnds p e below G (T.setTop (mkF m pc Ls st)) := by
  subst hp hk; exact own_st (fun _ q => XS.iconst X.here C.1 rfl (hb C.2.2.2.1 hd) q) hr
theorem own_bipush (X : Stand p l e R s m args below meth c T locs cells slots) (C : OwnCx p s m meth c Z y bs maxL rt) {i : Int} (hd : decode bs pc = .ok (.bipush i, 2)) (pc' : Nat) (hp : pc + 2 = pc') (k : Int32) (hk : (Int8.ofInt i).toInt32 = k)
    (hr : OwnEnds p e below G (T.setTop (mkF m pc' Ls (.int k :: st)))) : OwnEnds p e below G (T.setTop (mkF m pc Ls st)) := by
  subst hp hk; exact own_st (fun _ q => XS.bipush X.here C.1 rfl (hb C.2.2.2.1 hd) q) hr
theorem own_sipush (X : Stand p l e R s m args below meth c T locs cells slots) (C : OwnCx p s m meth c Z y bs maxL rt) {i : Int} (hd : decode bs pc = .ok (.sipush i, 3)) (pc' : Nat) (hp : pc + 3 = pc') (k : Int32) (hk : (Int16.ofInt i).toInt32 = k)
    (hr : OwnEnds p e below G (T.setTop (mkF m pc' Ls (.int k :: st)))) : OwnEnds p e below G (T.setTop (mkF m pc Ls st)) := by
  subst hp hk; exact own_st (fun _ q => XS.sipush X.here C.1 rfl (hb C.2.2.2.1 hd) q) hr
theorem own_lconst (X : Stand p l e R s m args below meth c T locs cells slots) (C : OwnCx p s m meth c Z y bs maxL rt) {i : Fin 2} (hd : decode bs pc = .ok (.lconst i, 1)) (pc' : Nat) (hp : pc + 1 = pc') (k : Int64) (hk : Int64.ofNat i = k)
    (hr : OwnEnds p e below G (T.setTop (mkF m pc' Ls (.long k :: st)))) : OwnEnds p e below G (T.setTop (mkF m pc Ls st)) := by
  subst hp hk; exact own_st (fun _ q => XS.lconst X.here C.1 rfl (hb C.2.2.2.1 hd) q) hr
theorem own_aconst_null (X : Stand p l e R s m args below meth c T locs cells slots) (C : OwnCx p s m meth c Z y bs maxL rt) (hd : decode bs pc = .ok (.aconst_null, 1)) (pc' : Nat) (hp : pc + 1 = pc')
    (hr : OwnEnds p e below G (T.setTop (mkF m pc' Ls (.null :: st)))) : OwnEnds p e below G (T.setTop (mkF m pc Ls st)) := by
  subst hp; exact own_st (fun _ q => XS.aconstNull X.here C.1 rfl (hb C.2.2.2.1 hd) q) hr
theorem own_ldc (X : Stand p l e R s m args below meth c T locs cells slots) (C : OwnCx p s m meth c Z y bs maxL rt) {i : Nat} {v : Int32} (w : (Jvm.Cond.constant y.cls i v).before a0 Z = true) (hd : decode bs pc = .ok (.ldc i, 2)) (pc' : Nat) (hp : pc + 2 = pc')
    (hr : OwnEnds p e below G (T.setTop (mkF m pc' Ls (.int v :: st)))) : OwnEnds p e below G (T.setTop (mkF m pc Ls st)) := by
  subst hp; exact own_st (X.ldcInt C.1 C.2.2.1 (mvT C.2.1 w) (g := mkF m pc Ls st) rfl (hb C.2.2.2.1 hd)) hr
theorem own_ldcw (X : Stand p l e R s m args below meth c T locs cells slots) (C : OwnCx p s m meth c Z y bs maxL rt) {i : Nat} {v : Int32} (w : (Jvm.Cond.constant y.cls i v).before a0 Z = true) (hd : decode bs pc = .ok (.ldc_w i, 3)) (pc' : Nat) (hp : pc + 3 = pc')
    (hr : OwnEnds p e below G (T.setTop (mkF m pc' Ls (.int v :: st)))) : OwnEnds p e below G (T.setTop (mkF m pc Ls st)) := by
  subst hp; exact own_st (X.ldcwInt C.1 C.2.2.1 (mvT C.2.1 w) (g := mkF m pc Ls st) rfl (hb C.2.2.2.1 hd)) hr
theorem own_ldc2 (X : Stand p l e R s m args below meth c T locs cells slots) (C : OwnCx p s m meth c Z y bs maxL rt) {i : Nat} {v : Int64} (w : (Jvm.Cond.constantLong y.cls i v).before a0 Z = true) (hd : decode bs pc = .ok (.ldc2_w i, 3)) (pc' : Nat) (hp : pc + 3 = pc')
    (hr : OwnEnds p e below G (T.setTop (mkF m pc' Ls (.long v :: st)))) : OwnEnds p e below G (T.setTop (mkF m pc Ls st)) := by
  subst hp; exact own_st (X.ldc2Long C.1 C.2.2.1 (mvT C.2.1 w) (g := mkF m pc Ls st) rfl (hb C.2.2.2.1 hd)) hr
theorem own_iadd (X : Stand p l e R s m args below meth c T locs cells slots) (C : OwnCx p s m meth c Z y bs maxL rt) {a b : Int32} (hd : decode bs pc = .ok (.iadd, 1)) (pc' : Nat) (hp : pc + 1 = pc')
    (hr : ∀ z, z = a + b → OwnEnds p e below G (T.setTop (mkF m pc' Ls (.int z :: st)))) : OwnEnds p e below G (T.setTop (mkF m pc Ls (.int b :: .int a :: st))) := by
  subst hp; exact own_st (fun _ q => XS.iadd X.here C.1 rfl (hb C.2.2.2.1 hd) rfl q) (hr _ rfl)
theorem own_isub (X : Stand p l e R s m args below meth c T locs cells slots) (C : OwnCx p s m meth c Z y bs maxL rt) {a b : Int32} (hd : decode bs pc = .ok (.isub, 1)) (pc' : Nat) (hp : pc + 1 = pc')
    (hr : ∀ z, z = a - b → OwnEnds p e below G (T.setTop (mkF m pc' Ls (.int z :: st)))) : OwnEnds p e below G (T.setTop (mkF m pc Ls (.int b :: .int a :: st))) := by
  subst hp; exact own_st (fun _ q => XS.isub X.here C.1 rfl (hb C.2.2.2.1 hd) rfl q) (hr _ rfl)
theorem own_imul (X : Stand p l e R s m args below meth c T locs cells slots) (C : OwnCx p s m meth c Z y bs maxL rt) {a b : Int32} (hd : decode bs pc = .ok (.imul, 1)) (pc' : Nat) (hp : pc + 1 = pc')
    (hr : ∀ z, z = a * b → OwnEnds p e below G (T.setTop (mkF m pc' Ls (.int z :: st)))) : OwnEnds p e below G (T.setTop (mkF m pc Ls (.int b :: .int a :: st))) := by
  subst hp; exact own_st (fun _ q => XS.imul X.here C.1 rfl (hb C.2.2.2.1 hd) rfl q) (hr _ rfl)
theorem own_iand (X : Stand p l e R s m args below meth c T locs cells slots) (C : OwnCx p s m meth c Z y bs maxL rt) {a b : Int32} (hd : decode bs pc = .ok (.iand, 1)) (pc' : Nat) (hp : pc + 1 = pc')
    (hr : ∀ z, z = a &&& b → OwnEnds p e below G (T.setTop (mkF m pc' Ls (.int z :: st)))) : OwnEnds p e below G (T.setTop (mkF m pc Ls (.int b :: .int a :: st))) := by
  subst hp; exact own_st (fun _ q => XS.iand X.here C.1 rfl (hb C.2.2.2.1 hd) rfl q) (hr _ rfl)
theorem own_ior (X : Stand p l e R s m args below meth c T locs cells slots) (C : OwnCx p s m meth c Z y bs maxL rt) {a b : Int32} (hd : decode bs pc = .ok (.ior, 1)) (pc' : Nat) (hp : pc + 1 = pc')
    (hr : ∀ z, z = a ||| b → OwnEnds p e below G (T.setTop (mkF m pc' Ls (.int z :: st)))) : OwnEnds p e below G (T.setTop (mkF m pc Ls (.int b :: .int a :: st))) := by
  subst hp; exact own_st (fun _ q => XS.ior X.here C.1 rfl (hb C.2.2.2.1 hd) rfl q) (hr _ rfl)
theorem own_ixor (X : Stand p l e R s m args below meth c T locs cells slots) (C : OwnCx p s m meth c Z y bs maxL rt) {a b : Int32} (hd : decode bs pc = .ok (.ixor, 1)) (pc' : Nat) (hp : pc + 1 = pc')
    (hr : ∀ z, z = a ^^^ b → OwnEnds p e below G (T.setTop (mkF m pc' Ls (.int z :: st)))) : OwnEnds p e below G (T.setTop (mkF m pc Ls (.int b :: .int a :: st))) := by
  subst hp; exact own_st (fun _ q => XS.ixor X.here C.1 rfl (hb C.2.2.2.1 hd) rfl q) (hr _ rfl)
theorem own_idiv (X : Stand p l e R s m args below meth c T locs cells slots) (C : OwnCx p s m meth c Z y bs maxL rt) {a b : Int32} (hd : decode bs pc = .ok (.idiv, 1)) (pc' : Nat) (hp : pc + 1 = pc') (hz : b ≠ 0)
    (hr : ∀ z, z = a / b → OwnEnds p e below G (T.setTop (mkF m pc' Ls (.int z :: st)))) : OwnEnds p e below G (T.setTop (mkF m pc Ls (.int b :: .int a :: st))) := by
  subst hp; exact own_st (fun _ q => XS.idiv X.here C.1 rfl (hb C.2.2.2.1 hd) rfl hz q) (hr _ rfl)
theorem own_ladd (X : Stand p l e R s m args below meth c T locs cells slots) (C : OwnCx p s m meth c Z y bs maxL rt) {a b : Int64} (hd : decode bs pc = .ok (.ladd, 1)) (pc' : Nat) (hp : pc + 1 = pc')
    (hr : ∀ z, z = a + b → OwnEnds p e below G (T.setTop (mkF m pc' Ls (.long z :: st)))) : OwnEnds p e below G (T.setTop (mkF m pc Ls (.long b :: .long a :: st))) := by
  subst hp; exact own_st (fun _ q => XS.ladd X.here C.1 rfl (hb C.2.2.2.1 hd) rfl q) (hr _ rfl)
theorem own_lsub (X : Stand p l e R s m args below meth c T locs cells slots) (C : OwnCx p s m meth c Z y bs maxL rt) {a b : Int64} (hd : decode bs pc = .ok (.lsub, 1)) (pc' : Nat) (hp : pc + 1 = pc')
    (hr : ∀ z, z = a - b → OwnEnds p e below G (T.setTop (mkF m pc' Ls (.long z :: st)))) : OwnEnds p e below G (T.setTop (mkF m pc Ls (.long b :: .long a :: st))) := by
  subst hp; exact own_st (fun _ q => XS.lsub X.here C.1 rfl (hb C.2.2.2.1 hd) rfl q) (hr _ rfl)
theorem own_lmul (X : Stand p l e R s m args below meth c T locs cells slots) (C : OwnCx p s m meth c Z y bs maxL rt) {a b : Int64} (hd : decode bs pc = .ok (.lmul, 1)) (pc' : Nat) (hp : pc + 1 = pc')
    (hr : ∀ z, z = a * b → OwnEnds p e below G (T.setTop (mkF m pc' Ls (.long z :: st)))) : OwnEnds p e below G (T.setTop (mkF m pc Ls (.long b :: .long a :: st))) := by
  subst hp; exact own_st (fun _ q => XS.lmul X.here C.1 rfl (hb C.2.2.2.1 hd) rfl q) (hr _ rfl)
theorem own_land (X : Stand p l e R s m args below meth c T locs cells slots) (C : OwnCx p s m meth c Z y bs maxL rt) {a b : Int64} (hd : decode bs pc = .ok (.land, 1)) (pc' : Nat) (hp : pc + 1 = pc')
    (hr : ∀ z, z = a &&& b → OwnEnds p e below G (T.setTop (mkF m pc' Ls (.long z :: st)))) : OwnEnds p e below G (T.setTop (mkF m pc Ls (.long b :: .long a :: st))) := by
  subst hp; exact own_st (fun _ q => XS.land X.here C.1 rfl (hb C.2.2.2.1 hd) rfl q) (hr _ rfl)
theorem own_lor (X : Stand p l e R s m args below meth c T locs cells slots) (C : OwnCx p s m meth c Z y bs maxL rt) {a b : Int64} (hd : decode bs pc = .ok (.lor, 1)) (pc' : Nat) (hp : pc + 1 = pc')
    (hr : ∀ z, z = a ||| b → OwnEnds p e below G (T.setTop (mkF m pc' Ls (.long z :: st)))) : OwnEnds p e below G (T.setTop (mkF m pc Ls (.long b :: .long a :: st))) := by
  subst hp; exact own_st (fun _ q => XS.lor X.here C.1 rfl (hb C.2.2.2.1 hd) rfl q) (hr _ rfl)
theorem own_lxor (X : Stand p l e R s m args below meth c T locs cells slots) (C : OwnCx p s m meth c Z y bs maxL rt) {a b : Int64} (hd : decode bs pc = .ok (.lxor, 1)) (pc' : Nat) (hp : pc + 1 = pc')
    (hr : ∀ z, z = a ^^^ b → OwnEnds p e below G (T.setTop (mkF m pc' Ls (.long z :: st)))) : OwnEnds p e below G (T.setTop (mkF m pc Ls (.long b :: .long a :: st))) := by
  subst hp; exact own_st (fun _ q => XS.lxor X.here C.1 rfl (hb C.2.2.2.1 hd) rfl q) (hr _ rfl)
theorem own_ldiv (X : Stand p l e R s m args below meth c T locs cells slots) (C : OwnCx p s m meth c Z y bs maxL rt) {a b : Int64} (hd : decode bs pc = .ok (.ldiv, 1)) (pc' : Nat) (hp : pc + 1 = pc') (hz : b ≠ 0)
    (hr : ∀ z, z = a / b → OwnEnds p e below G (T.setTop (mkF m pc' Ls (.long z :: st)))) : OwnEnds p e below G (T.setTop (mkF m pc Ls (.long b :: .long a :: st))) := by
  subst hp; exact own_st (fun _ q => XS.ldiv X.here C.1 rfl (hb C.2.2.2.1 hd) rfl hz q) (hr _ rfl)
theorem own_irem (X : Stand p l e R s m args below meth c T locs cells slots) (C : OwnCx p s m meth c Z y bs maxL rt) {a b : Int32} (hd : decode bs pc = .ok (.irem, 1)) (pc' : Nat) (hp : pc + 1 = pc') (hz : b ≠ 0)
    (hr : ∀ z, z = a % b → OwnEnds p e below G (T.setTop (mkF m pc' Ls (.int z :: st)))) : OwnEnds p e below G (T.setTop (mkF m pc Ls (.int b :: .int a :: st))) := by
  subst hp; exact own_st (fun _ q => iremM X C.1 rfl (hb C.2.2.2.1 hd) rfl hz q) (hr _ rfl)
theorem own_lrem (X : Stand p l e R s m args below meth c T locs cells slots) (C : OwnCx p s m meth c Z y bs maxL rt) {a b : Int64} (hd : decode bs pc = .ok (.lrem, 1)) (pc' : Nat) (hp : pc + 1 = pc') (hz : b ≠ 0)
    (hr : ∀ z, z = a % b → OwnEnds p e below G (T.setTop (mkF m pc' Ls (.long z :: st)))) : OwnEnds p e below G (T.setTop (mkF m pc Ls (.long b :: .long a :: st))) := by
  subst hp; exact own_st (fun _ q => XS.lrem X.here C.1 rfl (hb C.2.2.2.1 hd) rfl hz q) (hr _ (lrem_mod a b))
theorem own_ishl (X : Stand p l e R s m args below meth c T locs cells slots) (C : OwnCx p s m meth c Z y bs maxL rt) {a : Int32} {b : Int32} (hd : decode bs pc = .ok (.ishl, 1)) (pc' : Nat) (hp : pc + 1 = pc')
    (hr : ∀ z, z = (a <<< (b &&& 31)) → OwnEnds p e below G (T.setTop (mkF m pc' Ls (.int z :: st)))) : OwnEnds p e below G (T.setTop (mkF m pc Ls (.int b :: .int a :: st))) := by
  subst hp; exact own_st (fun _ q => XS.ishl X.here C.1 rfl (hb C.2.2.2.1 hd) rfl q) (hr _ rfl)
theorem own_ishr (X : Stand p l e R s m args below meth c T locs cells slots) (C : OwnCx p s m meth c Z y bs maxL rt) {a : Int32} {b : Int32} (hd : decode bs pc = .ok (.ishr, 1)) (pc' : Nat) (hp : pc + 1 = pc')
    (hr : ∀ z, z = (a >>> (b &&& 31)) → OwnEnds p e below G (T.setTop (mkF m pc' Ls (.int z :: st)))) : OwnEnds p e below G (T.setTop (mkF m pc Ls (.int b :: .int a :: st))) := by
  subst hp; exact own_st (fun _ q => XS.ishr X.here C.1 rfl (hb C.2.2.2.1 hd) rfl q) (hr _ rfl)
theorem own_iushr (X : Stand p l e R s m args below meth c T locs cells slots) (C : OwnCx p s m meth c Z y bs maxL rt) {a : Int32} {b : Int32} (hd : decode bs pc = .ok (.iushr, 1)) (pc' : Nat) (hp : pc + 1 = pc')
    (hr : ∀ z, z = ((a.toUInt32 >>> (b &&& 31).toUInt32).toInt32) → OwnEnds p e below G (T.setTop (mkF m pc' Ls (.int z :: st)))) : OwnEnds p e below G (T.setTop (mkF m pc Ls (.int b :: .int a :: st))) := by
  subst hp; exact own_st (fun _ q => XS.iushr X.here C.1 rfl (hb C.2.2.2.1 hd) rfl q) (hr _ rfl)
theorem own_lshl (X : Stand p l e R s m args below meth c T locs cells slots) (C : OwnCx p s m meth c Z y bs maxL rt) {a : Int64} {b : Int32} (hd : decode bs pc = .ok (.lshl, 1)) (pc' : Nat) (hp : pc + 1 = pc')
    (hr : ∀ z, z = (a <<< (b &&& 0x3f).toInt64) → OwnEnds p e below G (T.setTop (mkF m pc' Ls (.long z :: st)))) : OwnEnds p e below G (T.setTop (mkF m pc Ls (.int b :: .long a :: st))) := by
  subst hp; exact own_st (fun _ q => XS.lshl X.here C.1 rfl (hb C.2.2.2.1 hd) rfl q) (hr _ rfl)
theorem own_lshr (X : Stand p l e R s m args below meth c T locs cells slots) (C : OwnCx p s m meth c Z y bs maxL rt) {a : Int64} {b : Int32} (hd : decode bs pc = .ok (.lshr, 1)) (pc' : Nat) (hp : pc + 1 = pc')
    (hr : ∀ z, z = (a >>> (b &&& 0x3f).toInt64) → OwnEnds p e below G (T.setTop (mkF m pc' Ls (.long z :: st)))) : OwnEnds p e below G (T.setTop (mkF m pc Ls (.int b :: .long a :: st))) := by
  subst hp; exact own_st (fun _ q => XS.lshr X.here C.1 rfl (hb C.2.2.2.1 hd) rfl q) (hr _ rfl)
theorem own_lushr (X : Stand p l e R s m args below meth c T locs cells slots) (C : OwnCx p s m meth c Z y bs maxL rt) {a : Int64} {b : Int32} (hd : decode bs pc = .ok (.lushr, 1)) (pc' : Nat) (hp : pc + 1 = pc')
    (hr : ∀ z, z = ((a.toUInt64 >>> (b &&& 0x3f).toInt64.toUInt64).toInt64) → OwnEnds p e below G (T.setTop (mkF m pc' Ls (.long z :: st)))) : OwnEnds p e below G (T.setTop (mkF m pc Ls (.int b :: .long a :: st))) := by
  subst hp; exact own_st (fun _ q => XS.lushr X.here C.1 rfl (hb C.2.2.2.1 hd) rfl q) (hr _ rfl)
theorem own_ineg (X : Stand p l e R s m args below meth c T locs cells slots) (C : OwnCx p s m meth c Z y bs maxL rt) {a : Int32} (hd : decode bs pc = .ok (.ineg, 1)) (pc' : Nat) (hp : pc + 1 = pc')
    (hr : ∀ z, z = -a → OwnEnds p e below G (T.setTop (mkF m pc' Ls (.int z :: st)))) : OwnEnds p e below G (T.setTop (mkF m pc Ls (.int a :: st))) := by
  subst hp; exact own_st (fun _ q => XS.ineg X.here C.1 rfl (hb C.2.2.2.1 hd) rfl q) (hr _ rfl)
theorem own_lneg (X : Stand p l e R s m args below meth c T locs cells slots) (C : OwnCx p s m meth c Z y bs maxL rt) {a : Int64} (hd : decode bs pc = .ok (.lneg, 1)) (pc' : Nat) (hp : pc + 1 = pc')
    (hr : ∀ z, z = -a → OwnEnds p e below G (T.setTop (mkF m pc' Ls (.long z :: st)))) : OwnEnds p e below G (T.setTop (mkF m pc Ls (.long a :: st))) := by
  subst hp; exact own_st (fun _ q => XS.lneg X.here C.1 rfl (hb C.2.2.2.1 hd) rfl q) (hr _ rfl)
theorem own_i2l (X : Stand p l e R s m args below meth c T locs cells slots) (C : OwnCx p s m meth c Z y bs maxL rt) {a : Int32} (hd : decode bs pc = .ok (.i2l, 1)) (pc' : Nat) (hp : pc + 1 = pc')
    (hr : ∀ z, z = a.toInt64 → OwnEnds p e below G (T.setTop (mkF m pc' Ls (.long z :: st)))) : OwnEnds p e below G (T.setTop (mkF m pc Ls (.int a :: st))) := by
  subst hp; exact own_st (fun _ q => XS.i2l X.here C.1 rfl (hb C.2.2.2.1 hd) rfl q) (hr _ rfl)
theorem own_l2i (X : Stand p l e R s m args below meth c T locs cells slots) (C : OwnCx p s m meth c Z y bs maxL rt) {a : Int64} (hd : decode bs pc = .ok (.l2i, 1)) (pc' : Nat) (hp : pc + 1 = pc')
    (hr : ∀ z, z = a.toInt32 → OwnEnds p e below G (T.setTop (mkF m pc' Ls (.int z :: st)))) : OwnEnds p e below G (T.setTop (mkF m pc Ls (.long a :: st))) := by
  subst hp; exact own_st (fun _ q => XS.l2i X.here C.1 rfl (hb C.2.2.2.1 hd) rfl q) (hr _ rfl)
theorem own_i2b (X : Stand p l e R s m args below meth c T locs cells slots) (C : OwnCx p s m meth c Z y bs maxL rt) {a : Int32} (hd : decode bs pc = .ok (.i2b, 1)) (pc' : Nat) (hp : pc + 1 = pc')
    (hr : ∀ z, z = a.toInt8.toInt32 → OwnEnds p e below G (T.setTop (mkF m pc' Ls (.int z :: st)))) : OwnEnds p e below G (T.setTop (mkF m pc Ls (.int a :: st))) := by
  subst hp; exact own_st (fun _ q => XS.i2b X.here C.1 rfl (hb C.2.2.2.1 hd) rfl q) (hr _ rfl)
theorem own_i2s (X : Stand p l e R s m args below meth c T locs cells slots) (C : OwnCx p s m meth c Z y bs maxL rt) {a : Int32} (hd : decode bs pc = .ok (.i2s, 1)) (pc' : Nat) (hp : pc + 1 = pc')
    (hr : ∀ z, z = a.toInt16.toInt32 → OwnEnds p e below G (T.setTop (mkF m pc' Ls (.int z :: st)))) : OwnEnds p e below G (T.setTop (mkF m pc Ls (.int a :: st))) := by
  subst hp; exact own_st (fun _ q => XS.i2s X.here C.1 rfl (hb C.2.2.2.1 hd) rfl q) (hr _ rfl)
theorem own_i2c (X : Stand p l e R s m args below meth c T locs cells slots) (C : OwnCx p s m meth c Z y bs maxL rt) {a : Int32} (hd : decode bs pc = .ok (.i2c, 1)) (pc' : Nat) (hp : pc + 1 = pc')
    (hr : ∀ z, z = a.toUInt32.toUInt16.toUInt32.toInt32 → OwnEnds p e below G (T.setTop (mkF m pc' Ls (.int z :: st)))) : OwnEnds p e below G (T.setTop (mkF m pc Ls (.int a :: st))) := by
  subst hp; exact own_st (fun _ q => XS.i2c X.here C.1 rfl (hb C.2.2.2.1 hd) rfl q) (hr _ rfl)
theorem own_lcmp (X : Stand p l e R s m args below meth c T locs cells slots) (C : OwnCx p s m meth c Z y bs maxL rt) {a b : Int64} (hd : decode bs pc = .ok (.lcmp, 1)) (pc' : Nat) (hp : pc + 1 = pc')
    (hr : ∀ z : Int32, (a.toInt < b.toInt → z.toInt = -1) → (a.toInt = b.toInt → z.toInt = 0) → (b.toInt < a.toInt → z.toInt = 1) → OwnEnds p e below G (T.setTop (mkF m pc' Ls (.int z :: st)))) : OwnEnds p e below G (T.setTop (mkF m pc Ls (.long b :: .long a :: st))) := by
  subst hp; exact own_st (fun _ q => XS.lcmp X.here C.1 rfl (hb C.2.2.2.1 hd) rfl q) (hr _ (c_lcmp a b).1 (c_lcmp a b).2.1 (c_lcmp a b).2.2)
theorem own_dup (X : Stand p l e R s m args below meth c T locs cells slots) (C : OwnCx p s m meth c Z y bs maxL rt) {v : Value} (hd : decode bs pc = .ok (.dup, 1)) (pc' : Nat) (hp : pc + 1 = pc') (hc : v.category = 1)
    (hr : OwnEnds p e below G (T.setTop (mkF m pc' Ls (v :: v :: st)))) : OwnEnds p e below G (T.setTop (mkF m pc Ls (v :: st))) := by
  subst hp; exact own_st (fun _ q => XS.dup X.here C.1 rfl (hb C.2.2.2.1 hd) rfl hc q) hr
theorem own_dup_x1 (X : Stand p l e R s m args below meth c T locs cells slots) (C : OwnCx p s m meth c Z y bs maxL rt) {v w : Value} (hd : decode bs pc = .ok (.dup_x1, 1)) (pc' : Nat) (hp : pc + 1 = pc') (hc : v.category = 1) (hc' : w.category = 1)
    (hr : OwnEnds p e below G (T.setTop (mkF m pc' Ls (v :: w :: v :: st)))) : OwnEnds p e below G (T.setTop (mkF m pc Ls (v :: w :: st))) := by
  subst hp; exact own_st (fun _ q => XS.dupX1 X.here C.1 rfl (hb C.2.2.2.1 hd) rfl hc hc' q) hr
theorem own_pop (X : Stand p l e R s m args below meth c T locs cells slots) (C : OwnCx p s m meth c Z y bs maxL rt) {v : Value} (hd : decode bs pc = .ok (.pop, 1)) (pc' : Nat) (hp : pc + 1 = pc') (hc : v.category = 1)
    (hr : OwnEnds p e below G (T.setTop (mkF m pc' Ls st))) : OwnEnds p e below G (T.setTop (mkF m pc Ls (v :: st))) := by
  subst hp; exact own_st (fun _ q => XS.pop X.here C.1 rfl (hb C.2.2.2.1 hd) rfl hc q) hr
theorem own_dup2 (X : Stand p l e R s m args below meth c T locs cells slots) (C : OwnCx p s m meth c Z y bs maxL rt) {v w : Value} (hd : decode bs pc = .ok (.dup2, 1)) (pc' : Nat) (hp : pc + 1 = pc') (hc : v.category = 1) (hc' : w.category = 1)
    (hr : OwnEnds p e below G (T.setTop (mkF m pc' Ls (v :: w :: v :: w :: st)))) : OwnEnds p e below G (T.setTop (mkF m pc Ls (v :: w :: st))) := by
  subst hp; exact own_st (fun _ q => XT.dup2 X.here C.1 rfl (hb C.2.2.2.1 hd) rfl hc hc' q) hr
theorem own_goto (X : Stand p l e R s m args below meth c T locs cells slots) (C : OwnCx p s m meth c Z y bs maxL rt) {o : Int} (hd : decode bs pc = .ok (.goto o, 3)) (pc' : Nat) (ho : 0 ≤ (pc : Int) + o) (hp : ((pc : Int) + o).toNat = pc')
    (hr : OwnEnds p e below G (T.setTop (mkF m pc' Ls st))) : OwnEnds p e below G (T.setTop (mkF m pc Ls st)) :=
  own_st (fun _ q => XS.goto X.here C.1 rfl rfl (hb C.2.2.2.1 hd) ho hp q) hr
theorem own_icmplt (X : Stand p l e R s m args below meth c T locs cells slots) (C : OwnCx p s m meth c Z y bs maxL rt) {x' y' : Int32} {o : Int} (hd : decode bs pc = .ok (.if_icmp .lt o, 3)) (pn pc' : Nat) (hpn : pc + 3 = pn) (ho : 0 ≤ (pc : Int) + o) (hp : ((pc : Int) + o).toNat = pc') {i : Int} (hi : x'.toInt = i) {j : Int} (hj : y'.toInt = j) 
    (hy : i < j → OwnEnds p e below G (T.setTop (mkF m pc' Ls st))) (hn : j ≤ i → OwnEnds p e below G (T.setTop (mkF m pn Ls st))) : OwnEnds p e below G (T.setTop (mkF m pc Ls (.int y' :: .int x' :: st))) := by
  subst hpn
  by_cases k : x' < y'
  · exact own_st (fun _ q => XS.icmpYes X.here C.1 rfl rfl (hb C.2.2.2.1 hd) rfl (((tlt k).1)) ho hp q) (hy (by rw [Int32.lt_iff_toInt_lt] at k; have q : y'.toInt = j := hj; omega))
  · exact own_st (fun _ q => XS.icmpNo X.here C.1 rfl (hb C.2.2.2.1 hd) rfl (((flt k).1)) q) (hn (by rw [Int32.lt_iff_toInt_lt] at k; have q : y'.toInt = j := hj; omega))
theorem own_icmpge (X : Stand p l e R s m args below meth c T locs cells slots) (C : OwnCx p s m meth c Z y bs maxL rt) {x' y' : Int32} {o : Int} (hd : decode bs pc = .ok (.if_icmp .ge o, 3)) (pn pc' : Nat) (hpn : pc + 3 = pn) (ho : 0 ≤ (pc : Int) + o) (hp : ((pc : Int) + o).toNat = pc') {i : Int} (hi : x'.toInt = i) {j : Int} (hj : y'.toInt = j) 
    (hy : j ≤ i → OwnEnds p e below G (T.setTop (mkF m pc' Ls st))) (hn : i < j → OwnEnds p e below G (T.setTop (mkF m pn Ls st))) : OwnEnds p e below G (T.setTop (mkF m pc Ls (.int y' :: .int x' :: st))) := by
  subst hpn
  by_cases k : x' < y'
  · exact own_st (fun _ q => XS.icmpNo X.here C.1 rfl (hb C.2.2.2.1 hd) rfl (((tlt k).2.1)) q) (hn (by rw [Int32.lt_iff_toInt_lt] at k; have q : y'.toInt = j := hj; omega))
  · exact own_st (fun _ q => XS.icmpYes X.here C.1 rfl rfl (hb C.2.2.2.1 hd) rfl (((flt k).2.1)) ho hp q) (hy (by rw [Int32.lt_iff_toInt_lt] at k; have q : y'.toInt = j := hj; omega))
theorem own_icmpgt (X : Stand p l e R s m args below meth c T locs cells slots) (C : OwnCx p s m meth c Z y bs maxL rt) {x' y' : Int32} {o : Int} (hd : decode bs pc = .ok (.if_icmp .gt o, 3)) (pn pc' : Nat) (hpn : pc + 3 = pn) (ho : 0 ≤ (pc : Int) + o) (hp : ((pc : Int) + o).toNat = pc') {i : Int} (hi : x'.toInt = i) {j : Int} (hj : y'.toInt = j) 
    (hy : j < i → OwnEnds p e below G (T.setTop (mkF m pc' Ls st))) (hn : i ≤ j → OwnEnds p e below G (T.setTop (mkF m pn Ls st))) : OwnEnds p e below G (T.setTop (mkF m pc Ls (.int y' :: .int x' :: st))) := by
  subst hpn
  by_cases k : y' < x'
  · exact own_st (fun _ q => XS.icmpYes X.here C.1 rfl rfl (hb C.2.2.2.1 hd) rfl (((tlt k).2.2.1)) ho hp q) (hy (by rw [Int32.lt_iff_toInt_lt] at k; have q : y'.toInt = j := hj; omega))
  · exact own_st (fun _ q => XS.icmpNo X.here C.1 rfl (hb C.2.2.2.1 hd) rfl (((flt k).2.2.1)) q) (hn (by rw [Int32.lt_iff_toInt_lt] at k; have q : y'.toInt = j := hj; omega))
theorem own_icmple (X : Stand p l e R s m args below meth c T locs cells slots) (C : OwnCx p s m meth c Z y bs maxL rt) {x' y' : Int32} {o : Int} (hd : decode bs pc = .ok (.if_icmp .le o, 3)) (pn pc' : Nat) (hpn : pc + 3 = pn) (ho : 0 ≤ (pc : Int) + o) (hp : ((pc : Int) + o).toNat = pc') {i : Int} (hi : x'.toInt = i) {j : Int} (hj : y'.toInt = j) 
    (hy : i ≤ j → OwnEnds p e below G (T.setTop (mkF m pc' Ls st))) (hn : j < i → OwnEnds p e below G (T.setTop (mkF m pn Ls st))) : OwnEnds p e below G (T.setTop (mkF m pc Ls (.int y' :: .int x' :: st))) := by
  subst hpn
  by_cases k : y' < x'
  · exact own_st (fun _ q => XS.icmpNo X.here C.1 rfl (hb C.2.2.2.1 hd) rfl (((tlt k).2.2.2)) q) (hn (by rw [Int32.lt_iff_toInt_lt] at k; have q : y'.toInt = j := hj; omega))
  · exact own_st (fun _ q => XS.icmpYes X.here C.1 rfl rfl (hb C.2.2.2.1 hd) rfl (((flt k).2.2.2)) ho hp q) (hy (by rw [Int32.lt_iff_toInt_lt] at k; have q : y'.toInt = j := hj; omega))
theorem own_icmpeq (X : Stand p l e R s m args below meth c T locs cells slots) (C : OwnCx p s m meth c Z y bs maxL rt) {x' y' : Int32} {o : Int} (hd : decode bs pc = .ok (.if_icmp .eq o, 3)) (pn pc' : Nat) (hpn : pc + 3 = pn) (ho : 0 ≤ (pc : Int) + o) (hp : ((pc : Int) + o).toNat = pc') {i : Int} (hi : x'.toInt = i) {j : Int} (hj : y'.toInt = j) 
    (hy : i = j → OwnEnds p e below G (T.setTop (mkF m pc' Ls st))) (hn : i ≠ j → OwnEnds p e below G (T.setTop (mkF m pn Ls st))) : OwnEnds p e below G (T.setTop (mkF m pc Ls (.int y' :: .int x' :: st))) := by
  subst hpn
  by_cases k : x' = y'
  · exact own_st (fun _ q => XS.icmpYes X.here C.1 rfl rfl (hb C.2.2.2.1 hd) rfl (((teq k).1)) ho hp q) (hy (by subst k; exact hi.symm.trans hj))
  · exact own_st (fun _ q => XS.icmpNo X.here C.1 rfl (hb C.2.2.2.1 hd) rfl (((feq k).1)) q) (hn (fun q => k (Int32.toInt_inj.mp (hi.trans (q.trans hj.symm)))))
theorem own_icmpne (X : Stand p l e R s m args below meth c T locs cells slots) (C : OwnCx p s m meth c Z y bs maxL rt) {x' y' : Int32} {o : Int} (hd : decode bs pc = .ok (.if_icmp .ne o, 3)) (pn pc' : Nat) (hpn : pc + 3 = pn) (ho : 0 ≤ (pc : Int) + o) (hp : ((pc : Int) + o).toNat = pc') {i : Int} (hi : x'.toInt = i) {j : Int} (hj : y'.toInt = j) 
    (hy : i ≠ j → OwnEnds p e below G (T.setTop (mkF m pc' Ls st))) (hn : i = j → OwnEnds p e below G (T.setTop (mkF m pn Ls st))) : OwnEnds p e below G (T.setTop (mkF m pc Ls (.int y' :: .int x' :: st))) := by
  subst hpn
  by_cases k : x' = y'
  · exact own_st (fun _ q => XS.icmpNo X.here C.1 rfl (hb C.2.2.2.1 hd) rfl (((teq k).2)) q) (hn (by subst k; exact hi.symm.trans hj))
  · exact own_st (fun _ q => XS.icmpYes X.here C.1 rfl rfl (hb C.2.2.2.1 hd) rfl (((feq k).2)) ho hp q) (hy (fun q => k (Int32.toInt_inj.mp (hi.trans (q.trans hj.symm)))))
theorem own_iflt (X : Stand p l e R s m args below meth c T locs cells slots) (C : OwnCx p s m meth c Z y bs maxL rt) {x' : Int32} {o : Int} (hd : decode bs pc = .ok (.ifCond .lt o, 3)) (pn pc' : Nat) (hpn : pc + 3 = pn) (ho : 0 ≤ (pc : Int) + o) (hp : ((pc : Int) + o).toNat = pc') {i : Int} (hi : x'.toInt = i) 
    (hy : i < 0 → OwnEnds p e below G (T.setTop (mkF m pc' Ls st))) (hn : 0 ≤ i → OwnEnds p e below G (T.setTop (mkF m pn Ls st))) : OwnEnds p e below G (T.setTop (mkF m pc Ls (.int x' :: st))) := by
  subst hpn
  by_cases k : x' < (0 : Int32)
  · exact own_st (fun _ q => XS.ifYes X.here C.1 rfl rfl (hb C.2.2.2.1 hd) rfl ((if0 _ _).trans ((tlt k).1)) ho hp q) (hy (by rw [Int32.lt_iff_toInt_lt] at k; have q : (0 : Int32).toInt = 0 := (rfl : (0 : Int32).toInt = 0); omega))
  · exact own_st (fun _ q => XS.ifNo X.here C.1 rfl (hb C.2.2.2.1 hd) rfl ((if0 _ _).trans ((flt k).1)) q) (hn (by rw [Int32.lt_iff_toInt_lt] at k; have q : (0 : Int32).toInt = 0 := (rfl : (0 : Int32).toInt = 0); omega))
theorem own_ifge (X : Stand p l e R s m args below meth c T locs cells slots) (C : OwnCx p s m meth c Z y bs maxL rt) {x' : Int32} {o : Int} (hd : decode bs pc = .ok (.ifCond .ge o, 3)) (pn pc' : Nat) (hpn : pc + 3 = pn) (ho : 0 ≤ (pc : Int) + o) (hp : ((pc : Int) + o).toNat = pc') {i : Int} (hi : x'.toInt = i) 
    (hy : 0 ≤ i → OwnEnds p e below G (T.setTop (mkF m pc' Ls st))) (hn : i < 0 → OwnEnds p e below G (T.setTop (mkF m pn Ls st))) : OwnEnds p e below G (T.setTop (mkF m pc Ls (.int x' :: st))) := by
  subst hpn
  by_cases k : x' < (0 : Int32)
  · exact own_st (fun _ q => XS.ifNo X.here C.1 rfl (hb C.2.2.2.1 hd) rfl ((if0 _ _).trans ((tlt k).2.1)) q) (hn (by rw [Int32.lt_iff_toInt_lt] at k; have q : (0 : Int32).toInt = 0 := (rfl : (0 : Int32).toInt = 0); omega))
  · exact own_st (fun _ q => XS.ifYes X.here C.1 rfl rfl (hb C.2.2.2.1 hd) rfl ((if0 _ _).trans ((flt k).2.1)) ho hp q) (hy (by rw [Int32.lt_iff_toInt_lt] at k; have q : (0 : Int32).toInt = 0 := (rfl : (0 : Int32).toInt = 0); omega))
theorem own_ifgt (X : Stand p l e R s m args below meth c T locs cells slots) (C : OwnCx p s m meth c Z y bs maxL rt) {x' : Int32} {o : Int} (hd : decode bs pc = .ok (.ifCond .gt o, 3)) (pn pc' : Nat) (hpn : pc + 3 = pn) (ho : 0 ≤ (pc : Int) + o) (hp : ((pc : Int) + o).toNat = pc') {i : Int} (hi : x'.toInt = i) 
    (hy : 0 < i → OwnEnds p e below G (T.setTop (mkF m pc' Ls st))) (hn : i ≤ 0 → OwnEnds p e below G (T.setTop (mkF m pn Ls st))) : OwnEnds p e below G (T.setTop (mkF m pc Ls (.int x' :: st))) := by
  subst hpn
  by_cases k : (0 : Int32) < x'
  · exact own_st (fun _ q => XS.ifYes X.here C.1 rfl rfl (hb C.2.2.2.1 hd) rfl ((if0 _ _).trans ((tlt k).2.2.1)) ho hp q) (hy (by rw [Int32.lt_iff_toInt_lt] at k; have q : (0 : Int32).toInt = 0 := (rfl : (0 : Int32).toInt = 0); omega))
  · exact own_st (fun _ q => XS.ifNo X.here C.1 rfl (hb C.2.2.2.1 hd) rfl ((if0 _ _).trans ((flt k).2.2.1)) q) (hn (by rw [Int32.lt_iff_toInt_lt] at k; have q : (0 : Int32).toInt = 0 := (rfl : (0 : Int32).toInt = 0); omega))
theorem own_ifle (X : Stand p l e R s m args below meth c T locs cells slots) (C : OwnCx p s m meth c Z y bs maxL rt) {x' : Int32} {o : Int} (hd : decode bs pc = .ok (.ifCond .le o, 3)) (pn pc' : Nat) (hpn : pc + 3 = pn) (ho : 0 ≤ (pc : Int) + o) (hp : ((pc : Int) + o).toNat = pc') {i : Int} (hi : x'.toInt = i) 
    (hy : i ≤ 0 → OwnEnds p e below G (T.setTop (mkF m pc' Ls st))) (hn : 0 < i → OwnEnds p e below G (T.setTop (mkF m pn Ls st))) : OwnEnds p e below G (T.setTop (mkF m pc Ls (.int x' :: st))) := by
  subst hpn
  by_cases k : (0 : Int32) < x'
  · exact own_st (fun _ q => XS.ifNo X.here C.1 rfl (hb C.2.2.2.1 hd) rfl ((if0 _ _).trans ((tlt k).2.2.2)) q) (hn (by rw [Int32.lt_iff_toInt_lt] at k; have q : (0 : Int32).toInt = 0 := (rfl : (0 : Int32).toInt = 0); omega))
  · exact own_st (fun _ q => XS.ifYes X.here C.1 rfl rfl (hb C.2.2.2.1 hd) rfl ((if0 _ _).trans ((flt k).2.2.2)) ho hp q) (hy (by rw [Int32.lt_iff_toInt_lt] at k; have q : (0 : Int32).toInt = 0 := (rfl : (0 : Int32).toInt = 0); omega))
theorem own_ifeq (X : Stand p l e R s m args below meth c T locs cells slots) (C : OwnCx p s m meth c Z y bs maxL rt) {x' : Int32} {o : Int} (hd : decode bs pc = .ok (.ifCond .eq o, 3)) (pn pc' : Nat) (hpn : pc + 3 = pn) (ho : 0 ≤ (pc : Int) + o) (hp : ((pc : Int) + o).toNat = pc') {i : Int} (hi : x'.toInt = i) 
    (hy : i = 0 → OwnEnds p e below G (T.setTop (mkF m pc' Ls st))) (hn : i ≠ 0 → OwnEnds p e below G (T.setTop (mkF m pn Ls st))) : OwnEnds p e below G (T.setTop (mkF m pc Ls (.int x' :: st))) := by
  subst hpn
  by_cases k : x' = (0 : Int32)
  · exact own_st (fun _ q => XS.ifYes X.here C.1 rfl rfl (hb C.2.2.2.1 hd) rfl ((if0 _ _).trans ((teq k).1)) ho hp q) (hy (by subst k; exact hi.symm.trans (rfl : (0 : Int32).toInt = 0)))
  · exact own_st (fun _ q => XS.ifNo X.here C.1 rfl (hb C.2.2.2.1 hd) rfl ((if0 _ _).trans ((feq k).1)) q) (hn (fun q => k (Int32.toInt_inj.mp (hi.trans (q.trans (rfl : (0 : Int32).toInt = 0).symm)))))
theorem own_ifne (X : Stand p l e R s m args below meth c T locs cells slots) (C : OwnCx p s m meth c Z y bs maxL rt) {x' : Int32} {o : Int} (hd : decode bs pc = .ok (.ifCond .ne o, 3)) (pn pc' : Nat) (hpn : pc + 3 = pn) (ho : 0 ≤ (pc : Int) + o) (hp : ((pc : Int) + o).toNat = pc') {i : Int} (hi : x'.toInt = i) 
    (hy : i ≠ 0 → OwnEnds p e below G (T.setTop (mkF m pc' Ls st))) (hn : i = 0 → OwnEnds p e below G (T.setTop (mkF m pn Ls st))) : OwnEnds p e below G (T.setTop (mkF m pc Ls (.int x' :: st))) := by
  subst hpn
  by_cases k : x' = (0 : Int32)
  · exact own_st (fun _ q => XS.ifNo X.here C.1 rfl (hb C.2.2.2.1 hd) rfl ((if0 _ _).trans ((teq k).2)) q) (hn (by subst k; exact hi.symm.trans (rfl : (0 : Int32).toInt = 0)))
  · exact own_st (fun _ q => XS.ifYes X.here C.1 rfl rfl (hb C.2.2.2.1 hd) rfl ((if0 _ _).trans ((feq k).2)) ho hp q) (hy (fun q => k (Int32.toInt_inj.mp (hi.trans (q.trans (rfl : (0 : Int32).toInt = 0).symm)))))
theorem own_ifnonnull_y (X : Stand p l e R s m args below meth c T locs cells slots) (C : OwnCx p s m meth c Z y bs maxL rt) {b : Addr} {o : Int} (hd : decode bs pc = .ok (.ifnonnull o, 3)) (pc' : Nat) (ho : 0 ≤ (pc : Int) + o) (hp : ((pc : Int) + o).toNat = pc')
    (hr : OwnEnds p e below G (T.setTop (mkF m pc' Ls st))) : OwnEnds p e below G (T.setTop (mkF m pc Ls (.ref b :: st))) :=
  own_st (fun _ q => XS.ifnonnullYes X.here C.1 rfl rfl (hb C.2.2.2.1 hd) rfl ho hp q) hr
theorem own_ifnull_n (X : Stand p l e R s m args below meth c T locs cells slots) (C : OwnCx p s m meth c Z y bs maxL rt) {b : Addr} {o : Int} (hd : decode bs pc = .ok (.ifnull o, 3)) (pn : Nat) (hp : pc + 3 = pn)
    (hr : OwnEnds p e below G (T.setTop (mkF m pn Ls st))) : OwnEnds p e below G (T.setTop (mkF m pc Ls (.ref b :: st))) := by
  subst hp; exact own_st (fun _ q => XS.ifnullNo X.here C.1 rfl (hb C.2.2.2.1 hd) rfl q) hr
theorem own_ifnull_y (X : Stand p l e R s m args below meth c T locs cells slots) (C : OwnCx p s m meth c Z y bs maxL rt) {o : Int} (hd : decode bs pc = .ok (.ifnull o, 3)) (pc' : Nat) (ho : 0 ≤ (pc : Int) + o) (hp : ((pc : Int) + o).toNat = pc')
    (hr : OwnEnds p e below G (T.setTop (mkF m pc' Ls st))) : OwnEnds p e below G (T.setTop (mkF m pc Ls (.null :: st))) :=
  own_st (fun _ q => XS.ifnullYes X.here C.1 rfl rfl (hb C.2.2.2.1 hd) rfl ho hp q) hr
theorem own_ifnonnull_n (X : Stand p l e R s m args below meth c T locs cells slots) (C : OwnCx p s m meth c Z y bs maxL rt) {o : Int} (hd : decode bs pc = .ok (.ifnonnull o, 3)) (pn : Nat) (hp : pc + 3 = pn)
    (hr : OwnEnds p e below G (T.setTop (mkF m pn Ls st))) : OwnEnds p e below G (T.setTop (mkF m pc Ls (.null :: st))) := by
  subst hp; exact own_st (fun _ q => XS.ifnonnullNo X.here C.1 rfl (hb C.2.2.2.1 hd) rfl q) hr
theorem own_acmpeq (X : Stand p l e R s m args below meth c T locs cells slots) (C : OwnCx p s m meth c Z y bs maxL rt) {a b : Addr} {o : Int} (hd : decode bs pc = .ok (.if_acmp .eq o, 3)) (pn pc' : Nat) (hpn : pc + 3 = pn) (ho : 0 ≤ (pc : Int) + o) (hp : ((pc : Int) + o).toNat = pc')
    (hy : a = b → OwnEnds p e below G (T.setTop (mkF m pc' Ls st))) (hn : a ≠ b → OwnEnds p e below G (T.setTop (mkF m pn Ls st))) : OwnEnds p e below G (T.setTop (mkF m pc Ls (.ref b :: .ref a :: st))) := by
  subst hpn
  by_cases k : a = b
  · exact own_st (fun _ q => XS.acmpYes X.here C.1 rfl rfl (hb C.2.2.2.1 hd) rfl (by simp [if_acmp.holds, k]) ho hp q) (hy k)
  · exact own_st (fun _ q => XS.acmpNo X.here C.1 rfl (hb C.2.2.2.1 hd) rfl (by simp [if_acmp.holds, k]) q) (hn k)
theorem own_acmpne (X : Stand p l e R s m args below meth c T locs cells slots) (C : OwnCx p s m meth c Z y bs maxL rt) {a b : Addr} {o : Int} (hd : decode bs pc = .ok (.if_acmp .ne o, 3)) (pn pc' : Nat) (hpn : pc + 3 = pn) (ho : 0 ≤ (pc : Int) + o) (hp : ((pc : Int) + o).toNat = pc')
    (hy : a ≠ b → OwnEnds p e below G (T.setTop (mkF m pc' Ls st))) (hn : a = b → OwnEnds p e below G (T.setTop (mkF m pn Ls st))) : OwnEnds p e below G (T.setTop (mkF m pc Ls (.ref b :: .ref a :: st))) := by
  subst hpn
  by_cases k : a = b
  · exact own_st (fun _ q => XS.acmpNo X.here C.1 rfl (hb C.2.2.2.1 hd) rfl (by simp [if_acmp.holds, k]) q) (hn k)
  · exact own_st (fun _ q => XS.acmpYes X.here C.1 rfl rfl (hb C.2.2.2.1 hd) rfl (by simp [if_acmp.holds, k]) ho hp q) (hy k)
theorem own_leave (X : Stand p l e R s m args below meth c T locs cells slots) (C : OwnCx p s m meth c Z y bs maxL rt) (v : Option Value) (hv : meth.sig.returnType = none → v = none) (hce : cells ≤ ce) (hsl : slots ≤ sl) (hQ : Q v T.heap locs) {S : State}
    (k : ∀ fs, (∀ (f : JFrame) (acts : List Action), f.method = m → f.locked = none → f.entered = [] → (doReturn e (T.setTop f) acts v).1 = T.setFrames fs) → Steps p.tables e below S (T.setFrames fs)) : OwnEnds p e below (OwnG s ce sl Q) S := by
  obtain ⟨fs, hr, hrun, hended, hW, hsame⟩ := X.leave (v := v) hv C.2.2.2.2.2.2.1
  exact ⟨_, _, k fs hr, hrun, hended, _, _, rfl, hQ, ⟨_, rfl⟩, hW, hsame.mono hce hsl⟩
theorem own_return (X : Stand p l e R s m args below meth c T locs cells slots) (C : OwnCx p s m meth c Z y bs maxL rt) (hrt : rt = none) (hd : decode bs pc = .ok (.return_, 1)) (hce : cells ≤ ce) (hsl : slots ≤ sl) (hQ : Q none T.heap locs) : OwnEnds p e below (OwnG s ce sl Q) (T.setTop (mkF m pc Ls [])) := by
  subst hrt
  exact own_leave X C none (fun _ => rfl) hce hsl hQ fun fs hr => X.returnOut C.1 C.2.2.2.2.2.1 (hb C.2.2.2.1 hd) hr
theorem own_iretN (X : Stand p l e R s m args below meth c T locs cells slots) (C : OwnCx p s m meth c Z y bs maxL rt) {z : Int32} (t : FieldType) (hrt : rt = some t) (ht : t = .boolean ∨ t = .byte ∨ t = .char ∨ t = .short) (hd : decode bs pc = .ok (.ireturn, 1)) (hce : cells ≤ ce) (hsl : slots ≤ sl) (w : Int32) (hw : nar t z = w) (hQ : Q (some (.int w)) T.heap locs) : OwnEnds p e below (OwnG s ce sl Q) (T.setTop (mkF m pc Ls (.int z :: st))) := by
  subst hrt hw
  exact own_leave X C (some (.int (nar t z))) (fun q => by rw [C.2.2.2.2.2.1] at q; cases q) hce hsl hQ fun fs hr => retN X C.1 C.2.2.2.2.2.1 ht (hb C.2.2.2.1 hd) hr
theorem own_ireturn (X : Stand p l e R s m args below meth c T locs cells slots) (C : OwnCx p s m meth c Z y bs maxL rt) {z : Int32} (hrt : rt = some .int) (hd : decode bs pc = .ok (.ireturn, 1)) (hce : cells ≤ ce) (hsl : slots ≤ sl) (hQ : Q (some (.int z)) T.heap locs) : OwnEnds p e below (OwnG s ce sl Q) (T.setTop (mkF m pc Ls (.int z :: st))) := by
  subst hrt
  exact own_leave X C (some (.int z)) (fun q => by rw [C.2.2.2.2.2.1] at q; cases q) hce hsl hQ fun fs hr => retOut X C.1 C.2.2.2.2.2.1 rfl (Or.inl ⟨rfl, Or.inl rfl, z, rfl⟩) (hb C.2.2.2.1 hd) hr
theorem own_lreturn (X : Stand p l e R s m args below meth c T locs cells slots) (C : OwnCx p s m meth c Z y bs maxL rt) {z : Int64} (hrt : rt = some .long) (hd : decode bs pc = .ok (.lreturn, 1)) (hce : cells ≤ ce) (hsl : slots ≤ sl) (hQ : Q (some (.long z)) T.heap locs) : OwnEnds p e below (OwnG s ce sl Q) (T.setTop (mkF m pc Ls (.long z :: st))) := by
  subst hrt
  exact own_leave X C (some (.long z)) (fun q => by rw [C.2.2.2.2.2.1] at q; cases q) hce hsl hQ fun fs hr => retOut X C.1 C.2.2.2.2.2.1 rfl (Or.inr (Or.inl ⟨rfl, rfl, z, rfl⟩)) (hb C.2.2.2.1 hd) hr
theorem own_areturn (X : Stand p l e R s m args below meth c T locs cells slots) (C : OwnCx p s m meth c Z y bs maxL rt) {z : Value} (t : FieldType) (hrt : rt = some t) (ht : t.isReference = true) (hz : z.isRef = true) (hn : narrow t z = z) (hd : decode bs pc = .ok (.areturn, 1)) (hce : cells ≤ ce) (hsl : slots ≤ sl) (hQ : Q (some z) T.heap locs) : OwnEnds p e below (OwnG s ce sl Q) (T.setTop (mkF m pc Ls (z :: st))) := by
  subst hrt
  exact own_leave X C (some z) (fun q => by rw [C.2.2.2.2.2.1] at q; cases q) hce hsl hQ fun fs hr => retOut X C.1 C.2.2.2.2.2.1 hn (Or.inr (Or.inr (Or.inr (Or.inr ⟨rfl, ht, hz⟩)))) (hb C.2.2.2.1 hd) hr
theorem own_callS (X : Stand p l e R s m args below meth c T locs cells slots) (C : OwnCx p s m meth c Z y bs maxL rt) {idx : Nat} {y' : MethodName} {bs' : ByteArray} {maxL' : Nat} {rt' : Option FieldType} {rm : Room} {as' : Array Value} {Q' : Option Value → Heap → List Loc → Prop}
    (w1 : (Jvm.Cond.methodLink y.cls idx y').before a0 Z = true) (w2 : (Jvm.Cond.static y').before a0 Z = true) (w3 : (Jvm.Cond.initialized y'.cls).before a0 Z = true) (w4 : (Jvm.Cond.code y' bs' maxL' rt').before a0 Z = true) (hy : y'.cls ≠ "java/lang/invoke/MethodHandle" ∧ y'.cls ≠ "java/lang/invoke/VarHandle")
    (hM : OwnMet l Z y' bs' maxL' rt' [] rm as' h Q') (eT : T.heap = h) {ps : List FieldType} {r : Option FieldType} (hpd : parseMethodDescriptor y'.desc = some ⟨ps, r⟩) (argsL : List Value) (has : argsL.toArray = as') (hlen : argsL.length = ps.length) (hst : st = argsL.reverse ++ rest) (hsz : Ls.size = maxL)
    (W : Nat) (hW : (rest.map fun v => v.category).sum = W) (hf : rm.frames + 1 ≤ R.frames) (hlo : W + (maxL' + 11) + rm.locals ≤ R.locals) (hce : cells + rm.cells ≤ R.cells) (hsl : slots + rm.slots ≤ R.slots) (hd : decode bs pc = .ok (.invokestatic idx, 3)) (pc' : Nat) (hp : pc + 3 = pc')
    (hr : ∀ T' L v, Stand p l e R s m args below meth c T' (locs ++ L) (cells + rm.cells) (slots + rm.slots) → Q' v T'.heap L → OwnEnds p e below G (T'.setTop (mkF m pc' Ls (v.toList ++ rest)))) : OwnEnds p e below G (T.setTop (mkF m pc Ls st)) := by
  subst hp has hW
  obtain ⟨v, _, ⟨T', L, k, n⟩, -, X', ⟨L', hQ, l1, l2, l3⟩, stp⟩ := Jvm.LawKit.callS X C.1 C.2.2.1 (mvT C.2.1 w1) (mvT C.2.1 w2) (mvT C.2.1 w3) (mvT C.2.1 w4) hy (backOf (len := 3) (W := (rest.map fun v => v.category).sum) hM C.2.1 w4 w3 hf hlo) (g := mkF m pc Ls st) rfl (by rw [C.2.2.2.2.1]; exact hsz) (argsL := argsL) (rest := rest) (lenOf hpd hlen) hst (by show 2 * 0 + _ ≤ _; omega) (hb C.2.2.2.1 hd) (fun _ _ => ⟨rfl, eT, hce, hsl⟩)
  dsimp only [Pt.U, Pt.locs, Pt.cells, Pt.slots] at X' l1 l2 l3 stp hQ
  subst l1 l2 l3
  exact own_st stp (hr T' L' v X' hQ)
/-- a callee that returns w and leaves the heap alone -/
def OwnPure (w : Value) (h : Heap) : Option Value → Heap → List Loc → Prop := fun v h' L => v = some w ∧ h' = h ∧ L = []
theorem own_conv {ws : List Jvm.Cond} {rm : Room} {as' : Array Value} {w w' : Value} (H : OwnMet l Z y bs maxL rt ws rm as' h (OwnPure w h)) (q : w = w') : OwnMet l Z y bs maxL rt ws rm as' h (OwnPure w' h) := q ▸ H
theorem own_callP (X : Stand p l e R s m args below meth c T locs cells slots) (C : OwnCx p s m meth c Z y bs maxL rt) {idx : Nat} {y' : MethodName} {bs' : ByteArray} {maxL' : Nat} {rt' : Option FieldType} {rm : Room} {as' : Array Value} {w : Value}
    (w1 : (Jvm.Cond.methodLink y.cls idx y').before a0 Z = true) (w2 : (Jvm.Cond.static y').before a0 Z = true) (w3 : (Jvm.Cond.initialized y'.cls).before a0 Z = true) (w4 : (Jvm.Cond.code y' bs' maxL' rt').before a0 Z = true) (hy : y'.cls ≠ "java/lang/invoke/MethodHandle" ∧ y'.cls ≠ "java/lang/invoke/VarHandle")
    (hM : OwnMet l Z y' bs' maxL' rt' [] rm as' h (OwnPure w h)) (eT : T.heap = h) {ps : List FieldType} {r : Option FieldType} (hpd : parseMethodDescriptor y'.desc = some ⟨ps, r⟩) (argsL : List Value) (has : argsL.toArray = as') (hlen : argsL.length = ps.length) (hst : st = argsL.reverse ++ rest) (hsz : Ls.size = maxL)
    (W : Nat) (hW : (rest.map fun v => v.category).sum = W) (hf : rm.frames + 1 ≤ R.frames) (hlo : W + (maxL' + 11) + rm.locals ≤ R.locals) (hce : rm.cells = 0) (hsl : rm.slots = 0) (hc0 : cells ≤ R.cells) (hs0 : slots ≤ R.slots) (hd : decode bs pc = .ok (.invokestatic idx, 3)) (pc' : Nat) (hp : pc + 3 = pc')
    (hr : ∀ T', Stand p l e R s m args below meth c T' locs cells slots → T'.heap = h → OwnEnds p e below G (T'.setTop (mkF m pc' Ls (w :: rest)))) : OwnEnds p e below G (T.setTop (mkF m pc Ls st)) := by
  refine own_callS X C w1 w2 w3 w4 hy hM eT hpd argsL has hlen hst hsz W hW hf hlo (by omega) (by omega) hd pc' hp ?_
  rintro T' L v X' ⟨rfl, e, rfl⟩
  rw [List.append_nil, hce, hsl] at X'
  exact hr T' X' e
/-- a callee that leaves the heap alone and returns a value of which Pw says something -/
def OwnSome (Pw : Value → Prop) (h : Heap) : Option Value → Heap → List Loc → Prop := fun v h' L => (∃ w, v = some w ∧ Pw w) ∧ h' = h ∧ L = []
theorem own_callE (X : Stand p l e R s m args below meth c T locs cells slots) (C : OwnCx p s m meth c Z y bs maxL rt) {idx : Nat} {y' : MethodName} {bs' : ByteArray} {maxL' : Nat} {rt' : Option FieldType} {rm : Room} {as' : Array Value} {Pw : Value → Prop}
    (w1 : (Jvm.Cond.methodLink y.cls idx y').before a0 Z = true) (w2 : (Jvm.Cond.static y').before a0 Z = true) (w3 : (Jvm.Cond.initialized y'.cls).before a0 Z = true) (w4 : (Jvm.Cond.code y' bs' maxL' rt').before a0 Z = true) (hy : y'.cls ≠ "java/lang/invoke/MethodHandle" ∧ y'.cls ≠ "java/lang/invoke/VarHandle")
    (hM : OwnMet l Z y' bs' maxL' rt' [] rm as' h (OwnSome Pw h)) (eT : T.heap = h) {ps : List FieldType} {r : Option FieldType} (hpd : parseMethodDescriptor y'.desc = some ⟨ps, r⟩) (argsL : List Value) (has : argsL.toArray = as') (hlen : argsL.length = ps.length) (hst : st = argsL.reverse ++ rest) (hsz : Ls.size = maxL)
    (W : Nat) (hW : (rest.map fun v => v.category).sum = W) (hf : rm.frames + 1 ≤ R.frames) (hlo : W + (maxL' + 11) + rm.locals ≤ R.locals) (hce : rm.cells = 0) (hsl : rm.slots = 0) (hc0 : cells ≤ R.cells) (hs0 : slots ≤ R.slots) (hd : decode bs pc = .ok (.invokestatic idx, 3)) (pc' : Nat) (hp : pc + 3 = pc')
    (hr : ∀ T' w, Pw w → Stand p l e R s m args below meth c T' locs cells slots → T'.heap = h → OwnEnds p e below G (T'.setTop (mkF m pc' Ls (w :: rest)))) : OwnEnds p e below G (T.setTop (mkF m pc Ls st)) := by
  refine own_callS X C w1 w2 w3 w4 hy hM eT hpd argsL has hlen hst hsz W hW hf hlo (by omega) (by omega) hd pc' hp ?_
  rintro T' L v X' ⟨⟨w, rfl, hw⟩, e, rfl⟩
  rw [List.append_nil, hce, hsl] at X'
  exact hr T' w hw X' e
end OwnLayer
section OwnHeap
variable {p : Program} {l : Launch} {e : Env} {R : Room} {s : State} {m : MethodId} {args : Array Value} {below : List Frame} {meth : Method} {c : Code} {T : State} {locs : List Loc} {cells slots : Nat} {Z : State} {y : MethodName} {bs : ByteArray} {maxL : Nat} {rt : Option FieldType} {ce sl : Nat} {Q : Option Value → Heap → List Loc → Prop} {G : Outcome → State → Prop} {pc : Nat} {Ls : Array Slot} {st rest : List Value} {h h' : Heap} {a0 : Array Value} {a : Addr}
/-- an array: its length and what lies at each place -/
def OwnAr (Z : State) (h : Heap) (a : Addr) (ty : FieldType) (n : Nat) (f : Nat → Value) : Prop := ∃ cl : Cell, Arr Z h a cl ty ∧ cl.slots.size = n ∧ ∀ i, i < n → cl.slots[i]? = some (f i)
theorem OwnAr.lt {ty : FieldType} {n : Nat} {f : Nat → Value} (F : OwnAr Z h a ty n f) : a < h.size := by obtain ⟨cl, A, -⟩ := F; exact A.lt
theorem OwnAr.ext {ty : FieldType} {n : Nat} {f : Nat → Value} (F : OwnAr Z h a ty n f) (E : Ext h h') : OwnAr Z h' a ty n f := by obtain ⟨cl, A, r⟩ := F; exact ⟨cl, A.ext E, r⟩
theorem OwnAr.other {ty : FieldType} {n : Nat} {f : Nat → Value} {b : Addr} {sl : Nat} {v : Value} (F : OwnAr Z h a ty n f) (W : Wr h h' b sl v) (q : a ≠ b) : OwnAr Z h' a ty n f := by obtain ⟨cl, A, r⟩ := F; exact ⟨cl, A.other W q, r⟩
theorem OwnAr.keep {ty : FieldType} {n : Nat} {f : Nat → Value} {ws : List Addr} (F : OwnAr Z h a ty n f) (K : Keep h h' ws) (q : a ∉ ws) : OwnAr Z h' a ty n f := by obtain ⟨cl, A, r⟩ := F; exact ⟨cl, ⟨K.2.1 a cl A.1 q, A.2⟩, r⟩
theorem OwnAr.eqv {ty : FieldType} {n : Nat} {f g : Nat → Value} (F : OwnAr Z h a ty n f) (q : ∀ i, i < n → f i = g i) : OwnAr Z h a ty n g := by obtain ⟨cl, A, S, r⟩ := F; exact ⟨cl, A, S, fun i hi => by rw [r i hi, q i hi]⟩
theorem OwnAr.set {ty : FieldType} {n : Nat} {f : Nat → Value} {k : Nat} {v : Value} (F : OwnAr Z h a ty n f) (W : Wr h h' a k v) : OwnAr Z h' a ty n (fun i => if i = k then v else f i) := by
  obtain ⟨cl, A, S, r⟩ := F
  obtain ⟨cl', w1, w2, w3, w4⟩ := id W
  cases A.1.symm.trans w1
  refine ⟨cl.setSlot k v, A.same W, by rw [sz_set]; exact S, fun i hi => ?_⟩
  by_cases q : i = k
  · subst q; simp [Cell.setSlot, w3]
  · simp [Cell.setSlot, q, Array.getElem?_setIfInBounds_ne (Ne.symm q), r i hi]
theorem OwnAr.new {ty : FieldType} {n : Int32} {cA : ClassId} (A : Arr Z h a (newA cA ty n) ty) : OwnAr Z h a ty n.toNatClampNeg (fun _ => defaultValue ty) := ⟨_, A, sz_new _ _ _, fun i hi => by simp [newA, hi]⟩
theorem own_fr1 {k : Nat} {L : List Loc} {a : Addr} {sl : Nat} (N : Fr k L) (q : k ≤ a) : Fr k (L ++ [⟨a, sl⟩]) := N.app fun y hy => by cases List.mem_singleton.mp hy; exact q
theorem own_stak {C n d : String} {v : Value} (F : Sta Z h C n d v) (K : Keep h h' []) : Sta Z h' C n d v := by
  obtain ⟨cf, i, k, f, st, cell, h1, h2, h3, h4, h5, r⟩ := F
  exact ⟨cf, i, k, f, st, cell, h1, h2, h3, h4, K.2.1 _ _ h5 nin0, r⟩
theorem own_arl {a : Nat} {ty : FieldType} {n : Nat} {f : Nat → Value} (F : OwnAr Z h a ty n f) : a < h.size := F.lt
theorem own_exl {a : Nat} {K : String} (F : Exa Z h a K) : a < h.size := F.lt
theorem own_iteI {q : Prop} [Decidable q] {a b : Int32} : (if q then Value.int a else Value.int b) = Value.int (if q then a else b) := by split <;> rfl
theorem own_iteL {q : Prop} [Decidable q] {a b : Int64} : (if q then Value.long a else Value.long b) = Value.long (if q then a else b) := by split <;> rfl
theorem own_ne {x y : Nat} (q : x ≠ y) : @Ne Addr x y := q
theorem own_in {j : Int32} {n : Nat} (h0 : 0 ≤ j.toInt) (h1 : j.toInt < n) : ¬ (j < 0 ∨ n ≤ j.toNatClampNeg) := by
  rintro (q | q)
  · rw [Int32.lt_iff_toInt_lt] at q; have : (0 : Int32).toInt = 0 := rfl; omega
  · have e : j.toNatClampNeg = j.toInt.toNat := rfl
    omega
theorem own_len {n : Nat} (h : n < 2147483648) : (n.toInt32).toInt = n := by
  show (Int32.ofNat n).toInt = _
  rw [Int32.toInt_ofNat_of_lt (by omega)]
theorem own_iastore (X : Stand p l e R s m args below meth c T locs cells slots) (C : OwnCx p s m meth c Z y bs maxL rt) {v : Int32} {j : Int32} {n : Nat} {f : Nat → Value} (eT : T.heap = h) (F : OwnAr Z h a .int n f) (h0 : 0 ≤ j.toInt) (h1 : j.toInt < n) (hd : decode bs pc = .ok (.iastore, 1)) (pc' : Nat) (hp : pc + 1 = pc')
    (hr : ∀ T' h', Stand p l e R s m args below meth c T' (locs ++ [⟨a, j.toInt.toNat⟩]) cells slots → T'.heap = h' → Wr h h' a j.toInt.toNat (.int v) → OwnEnds p e below G (T'.setTop (mkF m pc' Ls st))) : OwnEnds p e below G (T.setTop (mkF m pc Ls ((.int v) :: .int j :: .ref a :: st))) := by
  subst hp
  obtain ⟨cl, A, S, r⟩ := F
  obtain ⟨T', h', X', e', W, stp⟩ := stI X C.1 C.2.1 eT A (j := j) (x := v) (by rw [S]; exact own_in h0 h1) (g := mkF m pc Ls _) rfl rfl (hb C.2.2.2.1 hd)
  exact own_st stp (hr T' h' X' e' W)
theorem own_lastore (X : Stand p l e R s m args below meth c T locs cells slots) (C : OwnCx p s m meth c Z y bs maxL rt) {v : Int64} {j : Int32} {n : Nat} {f : Nat → Value} (eT : T.heap = h) (F : OwnAr Z h a .long n f) (h0 : 0 ≤ j.toInt) (h1 : j.toInt < n) (hd : decode bs pc = .ok (.lastore, 1)) (pc' : Nat) (hp : pc + 1 = pc')
    (hr : ∀ T' h', Stand p l e R s m args below meth c T' (locs ++ [⟨a, j.toInt.toNat⟩]) cells slots → T'.heap = h' → Wr h h' a j.toInt.toNat (.long v) → OwnEnds p e below G (T'.setTop (mkF m pc' Ls st))) : OwnEnds p e below G (T.setTop (mkF m pc Ls ((.long v) :: .int j :: .ref a :: st))) := by
  subst hp
  obtain ⟨cl, A, S, r⟩ := F
  obtain ⟨T', h', X', e', W, stp⟩ := stJ X C.1 C.2.1 eT A (j := j) (x := v) (by rw [S]; exact own_in h0 h1) (g := mkF m pc Ls _) rfl rfl (hb C.2.2.2.1 hd)
  exact own_st stp (hr T' h' X' e' W)
theorem own_bastoreB (X : Stand p l e R s m args below meth c T locs cells slots) (C : OwnCx p s m meth c Z y bs maxL rt) {v : Int32} {j : Int32} {n : Nat} {f : Nat → Value} (eT : T.heap = h) (F : OwnAr Z h a .byte n f) (h0 : 0 ≤ j.toInt) (h1 : j.toInt < n) (hd : decode bs pc = .ok (.bastore, 1)) (pc' : Nat) (hp : pc + 1 = pc') (w : Int32) (hw : v.toInt8.toInt32 = w)
    (hr : ∀ T' h', Stand p l e R s m args below meth c T' (locs ++ [⟨a, j.toInt.toNat⟩]) cells slots → T'.heap = h' → Wr h h' a j.toInt.toNat (.int w) → OwnEnds p e below G (T'.setTop (mkF m pc' Ls st))) : OwnEnds p e below G (T.setTop (mkF m pc Ls (.int v :: .int j :: .ref a :: st))) := by
  subst hp hw
  obtain ⟨cl, A, S, r⟩ := F
  obtain ⟨T', h', X', e', W, stp⟩ := stB X C.1 C.2.1 eT A (j := j) (x := v) (by rw [S]; exact own_in h0 h1) (g := mkF m pc Ls _) rfl rfl (hb C.2.2.2.1 hd)
  exact own_st stp (hr T' h' X' e' W)
theorem own_castore (X : Stand p l e R s m args below meth c T locs cells slots) (C : OwnCx p s m meth c Z y bs maxL rt) {v : Int32} {j : Int32} {n : Nat} {f : Nat → Value} (eT : T.heap = h) (F : OwnAr Z h a .char n f) (h0 : 0 ≤ j.toInt) (h1 : j.toInt < n) (hd : decode bs pc = .ok (.castore, 1)) (pc' : Nat) (hp : pc + 1 = pc') (w : Int32) (hw : nar .char v = w)
    (hr : ∀ T' h', Stand p l e R s m args below meth c T' (locs ++ [⟨a, j.toInt.toNat⟩]) cells slots → T'.heap = h' → Wr h h' a j.toInt.toNat (.int w) → OwnEnds p e below G (T'.setTop (mkF m pc' Ls st))) : OwnEnds p e below G (T.setTop (mkF m pc Ls (.int v :: .int j :: .ref a :: st))) := by
  subst hp hw
  obtain ⟨cl, A, S, r⟩ := F
  obtain ⟨T', h', X', e', W, stp⟩ := stC X C.1 C.2.1 eT A (j := j) (x := v) (by rw [S]; exact own_in h0 h1) (g := mkF m pc Ls _) rfl rfl (hb C.2.2.2.1 hd)
  exact own_st stp (hr T' h' X' e' W)
theorem own_bastoreZ (X : Stand p l e R s m args below meth c T locs cells slots) (C : OwnCx p s m meth c Z y bs maxL rt) {v : Int32} {j : Int32} {n : Nat} {f : Nat → Value} (eT : T.heap = h) (F : OwnAr Z h a .boolean n f) (h0 : 0 ≤ j.toInt) (h1 : j.toInt < n) (hd : decode bs pc = .ok (.bastore, 1)) (pc' : Nat) (hp : pc + 1 = pc') (w : Int32) (hw : nar .boolean v = w)
    (hr : ∀ T' h', Stand p l e R s m args below meth c T' (locs ++ [⟨a, j.toInt.toNat⟩]) cells slots → T'.heap = h' → Wr h h' a j.toInt.toNat (.int w) → OwnEnds p e below G (T'.setTop (mkF m pc' Ls st))) : OwnEnds p e below G (T.setTop (mkF m pc Ls (.int v :: .int j :: .ref a :: st))) := by
  subst hp hw
  obtain ⟨cl, A, S, r⟩ := F
  obtain ⟨T', h', X', e', W, stp⟩ := stZ X C.1 C.2.1 eT A (j := j) (x := v) (by rw [S]; exact own_in h0 h1) (g := mkF m pc Ls _) rfl rfl (hb C.2.2.2.1 hd)
  exact own_st stp (hr T' h' X' e' W)
theorem own_iaload (X : Stand p l e R s m args below meth c T locs cells slots) (C : OwnCx p s m meth c Z y bs maxL rt) {j : Int32} {n : Nat} {f : Nat → Value} (eT : T.heap = h) (F : OwnAr Z h a .int n f) (h0 : 0 ≤ j.toInt) (h1 : j.toInt < n) (hd : decode bs pc = .ok (.iaload, 1)) (pc' : Nat) (hp : pc + 1 = pc') (v : Value) (hv : f j.toInt.toNat = v)
    (hr : OwnEnds p e below G (T.setTop (mkF m pc' Ls (v :: st)))) : OwnEnds p e below G (T.setTop (mkF m pc Ls (.int j :: .ref a :: st))) := by
  subst hp hv
  obtain ⟨cl, A, S, r⟩ := F
  exact own_st (fun _ q => X.iaload C.1 (j := j) (v := f j.toInt.toNat) (by rw [eT]; exact A.1) (State.isArrayOf_alike C.2.1.alike A.2.1) A.2.2 (by rw [S]; exact own_in h0 h1) (show cl.slots[j.toNatClampNeg]? = _ from r j.toInt.toNat (by omega)) (g := mkF m pc Ls _) rfl rfl (hb C.2.2.2.1 hd) _ q) hr
theorem own_laload (X : Stand p l e R s m args below meth c T locs cells slots) (C : OwnCx p s m meth c Z y bs maxL rt) {j : Int32} {n : Nat} {f : Nat → Value} (eT : T.heap = h) (F : OwnAr Z h a .long n f) (h0 : 0 ≤ j.toInt) (h1 : j.toInt < n) (hd : decode bs pc = .ok (.laload, 1)) (pc' : Nat) (hp : pc + 1 = pc') (v : Value) (hv : f j.toInt.toNat = v)
    (hr : OwnEnds p e below G (T.setTop (mkF m pc' Ls (v :: st)))) : OwnEnds p e below G (T.setTop (mkF m pc Ls (.int j :: .ref a :: st))) := by
  subst hp hv
  obtain ⟨cl, A, S, r⟩ := F
  exact own_st (fun _ q => X.laload C.1 (j := j) (v := f j.toInt.toNat) (by rw [eT]; exact A.1) (State.isArrayOf_alike C.2.1.alike A.2.1) A.2.2 (by rw [S]; exact own_in h0 h1) (show cl.slots[j.toNatClampNeg]? = _ from r j.toInt.toNat (by omega)) (g := mkF m pc Ls _) rfl rfl (hb C.2.2.2.1 hd) _ q) hr
theorem own_caload (X : Stand p l e R s m args below meth c T locs cells slots) (C : OwnCx p s m meth c Z y bs maxL rt) {j : Int32} {n : Nat} {f : Nat → Value} (eT : T.heap = h) (F : OwnAr Z h a .char n f) (h0 : 0 ≤ j.toInt) (h1 : j.toInt < n) (hd : decode bs pc = .ok (.caload, 1)) (pc' : Nat) (hp : pc + 1 = pc') (v : Value) (hv : f j.toInt.toNat = v)
    (hr : OwnEnds p e below G (T.setTop (mkF m pc' Ls (v :: st)))) : OwnEnds p e below G (T.setTop (mkF m pc Ls (.int j :: .ref a :: st))) := by
  subst hp hv
  obtain ⟨cl, A, S, r⟩ := F
  exact own_st (fun _ q => X.caload C.1 (j := j) (v := f j.toInt.toNat) (by rw [eT]; exact A.1) (State.isArrayOf_alike C.2.1.alike A.2.1) A.2.2 (by rw [S]; exact own_in h0 h1) (show cl.slots[j.toNatClampNeg]? = _ from r j.toInt.toNat (by omega)) (g := mkF m pc Ls _) rfl rfl (hb C.2.2.2.1 hd) _ q) hr
theorem own_baloadB (X : Stand p l e R s m args below meth c T locs cells slots) (C : OwnCx p s m meth c Z y bs maxL rt) {j : Int32} {n : Nat} {f : Nat → Value} (eT : T.heap = h) (F : OwnAr Z h a .byte n f) (h0 : 0 ≤ j.toInt) (h1 : j.toInt < n) (hd : decode bs pc = .ok (.baload, 1)) (pc' : Nat) (hp : pc + 1 = pc') (v : Value) (hv : f j.toInt.toNat = v)
    (hr : OwnEnds p e below G (T.setTop (mkF m pc' Ls (v :: st)))) : OwnEnds p e below G (T.setTop (mkF m pc Ls (.int j :: .ref a :: st))) := by
  subst hp hv
  obtain ⟨cl, A, S, r⟩ := F
  exact own_st (fun _ q => X.baloadBytes C.1 (j := j) (v := f j.toInt.toNat) (by rw [eT]; exact A.1) (State.isArrayOf_alike C.2.1.alike A.2.1) A.2.2 (by rw [S]; exact own_in h0 h1) (show cl.slots[j.toNatClampNeg]? = _ from r j.toInt.toNat (by omega)) (g := mkF m pc Ls _) rfl rfl (hb C.2.2.2.1 hd) _ q) hr
theorem own_baloadZ (X : Stand p l e R s m args below meth c T locs cells slots) (C : OwnCx p s m meth c Z y bs maxL rt) {j : Int32} {n : Nat} {f : Nat → Value} (eT : T.heap = h) (F : OwnAr Z h a .boolean n f) (h0 : 0 ≤ j.toInt) (h1 : j.toInt < n) (hd : decode bs pc = .ok (.baload, 1)) (pc' : Nat) (hp : pc + 1 = pc') (v : Value) (hv : f j.toInt.toNat = v)
    (hr : OwnEnds p e below G (T.setTop (mkF m pc' Ls (v :: st)))) : OwnEnds p e below G (T.setTop (mkF m pc Ls (.int j :: .ref a :: st))) := by
  subst hp hv
  obtain ⟨cl, A, S, r⟩ := F
  exact own_st (fun _ q => X.baloadBooleans C.1 (j := j) (v := f j.toInt.toNat) (by rw [eT]; exact A.1) (State.isArrayOf_alike C.2.1.alike A.2.1) A.2.2 (by rw [S]; exact own_in h0 h1) (show cl.slots[j.toNatClampNeg]? = _ from r j.toInt.toNat (by omega)) (g := mkF m pc Ls _) rfl rfl (hb C.2.2.2.1 hd) _ q) hr
theorem own_arraylength (X : Stand p l e R s m args below meth c T locs cells slots) (C : OwnCx p s m meth c Z y bs maxL rt) {ty : FieldType} {n : Nat} {f : Nat → Value} (eT : T.heap = h) (F : OwnAr Z h a ty n f) (hd : decode bs pc = .ok (.arraylength, 1)) (pc' : Nat) (hp : pc + 1 = pc') (hn : n < 2147483648)
    (hr : ∀ z : Int32, z.toInt = n → z = n.toInt32 → OwnEnds p e below G (T.setTop (mkF m pc' Ls (.int z :: st)))) : OwnEnds p e below G (T.setTop (mkF m pc Ls (.ref a :: st))) := by
  subst hp
  obtain ⟨cl, A, S, r⟩ := F
  have k := hr n.toInt32 (own_len hn) rfl
  rw [← S] at k
  exact own_st (fun _ q => X.arraylength C.1 (by rw [eT]; exact A.1) (State.isArrayOf_alike C.2.1.alike A.2.1) (g := mkF m pc Ls _) rfl rfl (hb C.2.2.2.1 hd) _ q) k
theorem own_newarray (X : Stand p l e R s m args below meth c T locs cells slots) (C : OwnCx p s m meth c Z y bs maxL rt) {aty : ArrayType} {n : Int32} (w : (Jvm.Cond.arrayClass (newarray.typeOf aty)).before a0 Z = true) (eT : T.heap = h) (hd : decode bs pc = .ok (.newarray aty, 2)) (pc' : Nat) (hp : pc + 2 = pc') (h0 : 0 ≤ n.toInt) (cap : Nat) (hcap : n.toInt ≤ cap) (hbig : cap * 8 ≤ 536870912) (hc : cells + 1 ≤ R.cells) (hl : slots + cap ≤ R.slots)
    (hr : ∀ T' h' b, b = h.size → Stand p l e R s m args below meth c T' locs (cells + 1) (slots + cap) → T'.heap = h' → Ext h h' → OwnAr Z h' b (newarray.typeOf aty) n.toInt.toNat (fun _ => defaultValue (newarray.typeOf aty)) → OwnEnds p e below G (T'.setTop (mkF m pc' Ls (.ref b :: st)))) : OwnEnds p e below G (T.setTop (mkF m pc Ls (.int n :: st))) := by
  subst hp
  have hn0 : ¬ n < 0 := fun q => by rw [Int32.lt_iff_toInt_lt] at q; have : (0 : Int32).toInt = 0 := rfl; omega
  obtain ⟨T', h', cA, X', e', E', A, stp⟩ := newP X C.1 C.2.1 w eT (g := mkF m pc Ls (.int n :: st)) rfl (hb C.2.2.2.1 hd) rfl hn0 (cap := cap) (by show n.toInt.toNat ≤ cap; omega) hbig hc hl
  exact own_st stp (hr T' h' _ rfl X' e' E' (OwnAr.new A))
theorem own_new (X : Stand p l e R s m args below meth c T locs cells slots) (C : OwnCx p s m meth c Z y bs maxL rt) {idx n : Nat} {K : String} (w : (Jvm.Cond.classLink y.cls idx K).before a0 Z = true) (wi : (Jvm.Cond.instantiable K n).before a0 Z = true) (wz : (Jvm.Cond.initialized K).before a0 Z = true) (eT : T.heap = h) (hd : decode bs pc = .ok (.new idx, 3)) (pc' : Nat) (hp : pc + 3 = pc') (hc : cells + 1 ≤ R.cells) (hl : slots + n ≤ R.slots)
    (hr : ∀ T' h' b, b = h.size → Stand p l e R s m args below meth c T' locs (cells + 1) (slots + n) → T'.heap = h' → Ext h h' → Exa Z h' b K → (∀ {O nm d : String} {ty : FieldType}, Laid Z a0 K O nm d → parseFieldDescriptor d = some ty → Fld Z h' b O nm d (defaultValue ty)) → OwnEnds p e below G (T'.setTop (mkF m pc' Ls (.ref b :: st)))) : OwnEnds p e below G (T.setTop (mkF m pc Ls st)) := by
  subst hp
  obtain ⟨T', h', X', e', E', A, D, -, stp⟩ := newO X C.1 C.2.1 C.2.2.1 w wi wz eT (g := mkF m pc Ls st) rfl (hb C.2.2.2.1 hd) hc hl
  exact own_st stp (hr T' h' _ rfl X' e' E' A D)
theorem own_getfield (X : Stand p l e R s m args below meth c T locs cells slots) (C : OwnCx p s m meth c Z y bs maxL rt) {idx : Nat} {R0 O n d host : String} {v : Value} (w : (Jvm.Cond.fieldLink y.cls idx R0 n d).before a0 Z = true ∨ (Jvm.Cond.fieldLinkNest y.cls idx R0 n d host).before a0 Z = true) (via : Via Z R0 O n d) (eT : T.heap = h) (F : Fld Z h a O n d v) (hd : decode bs pc = .ok (.getfield idx, 3)) (pc' : Nat) (hp : pc + 3 = pc')
    (hr : ∀ T', Stand p l e R s m args below meth c T' locs cells slots → T'.heap = h → OwnEnds p e below G (T'.setTop (mkF m pc' Ls (v :: st)))) : OwnEnds p e below G (T.setTop (mkF m pc Ls (.ref a :: st))) := by
  subst hp
  obtain ⟨T', X', e', stp⟩ := getF X C.1 C.2.1 C.2.2.1 w via eT F (g := mkF m pc Ls _) rfl rfl (hb C.2.2.2.1 hd)
  exact own_st stp (hr T' X' e')
theorem own_getstatic (X : Stand p l e R s m args below meth c T locs cells slots) (C : OwnCx p s m meth c Z y bs maxL rt) {idx : Nat} {R0 O n d host : String} {v : Value} (w : (Jvm.Cond.fieldLink y.cls idx R0 n d).before a0 Z = true ∨ (Jvm.Cond.fieldLinkNest y.cls idx R0 n d host).before a0 Z = true) (via : Via Z R0 O n d) (eT : T.heap = h) (F : Sta Z h O n d v) (hd : decode bs pc = .ok (.getstatic idx, 3)) (pc' : Nat) (hp : pc + 3 = pc')
    (hr : ∀ T', Stand p l e R s m args below meth c T' locs cells slots → T'.heap = h → OwnEnds p e below G (T'.setTop (mkF m pc' Ls (v :: st)))) : OwnEnds p e below G (T.setTop (mkF m pc Ls st)) := by
  subst hp
  obtain ⟨T', X', e', stp⟩ := getS2 X C.1 C.2.1 C.2.2.1 w via eT F (g := mkF m pc Ls st) rfl (hb C.2.2.2.1 hd)
  exact own_st stp (hr T' X' e')
theorem own_putfield (X : Stand p l e R s m args below meth c T locs cells slots) (C : OwnCx p s m meth c Z y bs maxL rt) {idx kk : Nat} {R0 O n d host K : String} {ty : FieldType} {v old : Value} (w : (Jvm.Cond.fieldLink y.cls idx R0 n d).before a0 Z = true ∨ (Jvm.Cond.fieldLinkNest y.cls idx R0 n d host).before a0 Z = true) (via : Via Z R0 O n d) (eT : T.heap = h) (F : Fld Z h a O n d old) (E : Exa Z h a K) (L : (Jvm.Cond.lays K O n d).before a0 Z = true ∨ ((Jvm.Cond.laysFinal K O n d).before a0 Z = true ∧ y.cls = O ∧ y.name = "<init>")) (wi : (Jvm.Cond.instantiable K kk).before a0 Z = true)
    (hty : parseFieldDescriptor d = some ty) (hn : narrow ty v = v) (hf : fits ty v = true) (hd : decode bs pc = .ok (.putfield idx, 3)) (pc' : Nat) (hp : pc + 3 = pc')
    (hr : ∀ T' h', Stand p l e R s m args below meth c T' (locs ++ [⟨a, Jvm.RoadKit.slotOf Z O n d⟩]) cells slots → T'.heap = h' → Wr h h' a (Jvm.RoadKit.slotOf Z O n d) v → OwnEnds p e below G (T'.setTop (mkF m pc' Ls st))) : OwnEnds p e below G (T.setTop (mkF m pc Ls (v :: .ref a :: st))) := by
  subst hp
  obtain ⟨T', h', X', e', W, stp⟩ := putF X C.1 C.2.1 C.2.2.1 w via eT F E (L.imp id fun q => ⟨q.1, q.2.1, C.2.2.2.2.2.2.2.trans q.2.2⟩) wi hty hn hf (g := mkF m pc Ls _) rfl rfl (hb C.2.2.2.1 hd)
  exact own_st stp (hr T' h' X' e' W)
theorem own_putfieldN (X : Stand p l e R s m args below meth c T locs cells slots) (C : OwnCx p s m meth c Z y bs maxL rt) {idx kk : Nat} {R0 O n d K : String} {ty : FieldType} {v v' old : Value} (w : (Jvm.Cond.fieldLink y.cls idx R0 n d).before a0 Z = true) (via : Via Z R0 O n d) (eT : T.heap = h) (F : Fld Z h a O n d old) (E : Exa Z h a K) (L : (Jvm.Cond.lays K O n d).before a0 Z = true ∨ ((Jvm.Cond.laysFinal K O n d).before a0 Z = true ∧ y.cls = O ∧ y.name = "<init>")) (wi : (Jvm.Cond.instantiable K kk).before a0 Z = true)
    (hty : parseFieldDescriptor d = some ty) (hn : narrow ty v = v') (hf : fits ty v' = true) (hd : decode bs pc = .ok (.putfield idx, 3)) (pc' : Nat) (hp : pc + 3 = pc')
    (hr : ∀ T' h', Stand p l e R s m args below meth c T' (locs ++ [⟨a, Jvm.RoadKit.slotOf Z O n d⟩]) cells slots → T'.heap = h' → Wr h h' a (Jvm.RoadKit.slotOf Z O n d) v' → OwnEnds p e below G (T'.setTop (mkF m pc' Ls st))) : OwnEnds p e below G (T.setTop (mkF m pc Ls (v :: .ref a :: st))) := by
  subst hp
  obtain ⟨T', h', X', e', W, stp⟩ := putFN X C.1 C.2.1 C.2.2.1 w via eT F E (L.imp id fun q => ⟨q.1, q.2.1, C.2.2.2.2.2.2.2.trans q.2.2⟩) wi hty hn hf (g := mkF m pc Ls _) rfl rfl (hb C.2.2.2.1 hd)
  exact own_st stp (hr T' h' X' e' W)
theorem own_callI (X : Stand p l e R s m args below meth c T locs cells slots) (C : OwnCx p s m meth c Z y bs maxL rt) {idx : Nat} {y' : MethodName} {bs' : ByteArray} {maxL' : Nat} {rt' : Option FieldType} {rm : Room} {as' : Array Value} {Q' : Option Value → Heap → List Loc → Prop} (hrt' : rt' = none)
    (w1 : (Jvm.Cond.methodLink y.cls idx y').before a0 Z = true) (w2 : (Jvm.Cond.instanceMethod y').before a0 Z = true) (w3 : (Jvm.Cond.initialized y'.cls).before a0 Z = true) (w4 : (Jvm.Cond.code y' bs' maxL' rt').before a0 Z = true) (hy1 : y'.name = "<init>") (hy : y'.cls ≠ "java/lang/invoke/MethodHandle" ∧ y'.cls ≠ "java/lang/invoke/VarHandle")
    (hM : OwnMet l Z y' bs' maxL' rt' [] rm as' h Q') (eT : T.heap = h) {ps : List FieldType} {r : Option FieldType} (hpd : parseMethodDescriptor y'.desc = some ⟨ps, r⟩) (argsL : List Value) (has : (Value.ref a :: argsL).toArray = as') (hlen : argsL.length = ps.length) (hst : st = argsL.reverse ++ .ref a :: rest) (hsz : Ls.size = maxL)
    (W : Nat) (hW : (rest.map fun v => v.category).sum = W) (hf : rm.frames + 1 ≤ R.frames) (hlo : W + (maxL' + 11) + rm.locals ≤ R.locals) (hce : cells + rm.cells ≤ R.cells) (hsl : slots + rm.slots ≤ R.slots) (hd : decode bs pc = .ok (.invokespecial idx, 3)) (pc' : Nat) (hp : pc + 3 = pc')
    (hr : ∀ T' L v, Stand p l e R s m args below meth c T' (locs ++ L) (cells + rm.cells) (slots + rm.slots) → Q' v T'.heap L → OwnEnds p e below G (T'.setTop (mkF m pc' Ls (v.toList ++ rest)))) : OwnEnds p e below G (T.setTop (mkF m pc Ls st)) := by
  subst hp has hW hrt'
  obtain ⟨v, _, ⟨T', L, k, n⟩, -, X', ⟨L', hQ, l1, l2, l3⟩, stp⟩ := X.specialBack C.1 hy1 C.2.2.1 (mvT C.2.1 w1) (mvT C.2.1 w2) (mvT C.2.1 w4) hy (backOf (len := 3) (W := (rest.map fun v => v.category).sum) hM C.2.1 w4 w3 hf hlo) (g := mkF m pc Ls st) rfl (by rw [C.2.2.2.2.1]; exact hsz) (Steps.refl _) (a := a) (argsL := argsL) (rest := rest) (lenOf hpd hlen) hst (by show 2 * 0 + _ ≤ _; omega) (hb C.2.2.2.1 hd) (fun _ _ => ⟨rfl, eT, hce, hsl⟩)
  dsimp only [Pt.U, Pt.locs, Pt.cells, Pt.slots] at X' l1 l2 l3 stp hQ
  subst l1 l2 l3
  exact own_tr stp (hr T' L' v X' hQ)
theorem own_callV (X : Stand p l e R s m args below meth c T locs cells slots) (C : OwnCx p s m meth c Z y bs maxL rt) {idx : Nat} {K : String} {y' : MethodName} {bs' : ByteArray} {maxL' : Nat} {rt' : Option FieldType} {rm : Room} {as' : Array Value} {Q' : Option Value → Heap → List Loc → Prop}
    (w1 : (Jvm.Cond.methodLink y.cls idx y').before a0 Z = true) (wd : (Jvm.Cond.declares y').before a0 Z = true) (ws : (Jvm.Cond.selects K y' y').before a0 Z = true) (w2 : (Jvm.Cond.instanceMethod y').before a0 Z = true) (w3 : (Jvm.Cond.initialized y'.cls).before a0 Z = true) (w4 : (Jvm.Cond.code y' bs' maxL' rt').before a0 Z = true) (hy : y'.cls ≠ "java/lang/invoke/MethodHandle" ∧ y'.cls ≠ "java/lang/invoke/VarHandle") (E : Exa Z h a K)
    (hM : OwnMet l Z y' bs' maxL' rt' [] rm as' h Q') (eT : T.heap = h) {ps : List FieldType} {r : Option FieldType} (hpd : parseMethodDescriptor y'.desc = some ⟨ps, r⟩) (argsL : List Value) (has : (Value.ref a :: argsL).toArray = as') (hlen : argsL.length = ps.length) (hst : st = argsL.reverse ++ .ref a :: rest) (hsz : Ls.size = maxL)
    (W : Nat) (hW : (rest.map fun v => v.category).sum = W) (hf : rm.frames + 1 ≤ R.frames) (hlo : W + (maxL' + 11) + rm.locals ≤ R.locals) (hce : cells + rm.cells ≤ R.cells) (hsl : slots + rm.slots ≤ R.slots) (hd : decode bs pc = .ok (.invokevirtual idx, 3)) (pc' : Nat) (hp : pc + 3 = pc')
    (hr : ∀ T' L v, Stand p l e R s m args below meth c T' (locs ++ L) (cells + rm.cells) (slots + rm.slots) → Q' v T'.heap L → OwnEnds p e below G (T'.setTop (mkF m pc' Ls (v.toList ++ rest)))) : OwnEnds p e below G (T.setTop (mkF m pc Ls st)) := by
  subst hp has hW
  obtain ⟨cq, kq, qa, qb, qc⟩ := isOf C.2.1 eT E
  obtain ⟨v, _, ⟨T', L, k, n⟩, -, X', ⟨L', hQ, l1, l2, l3⟩, stp⟩ := X.virtualBack C.1 (y := y') (z := y') C.2.2.1 (mvT C.2.1 w1) (mvT C.2.1 wd) (notFace_of_selects (args := #[]) (mvT C.2.1 ws)) (mvT C.2.1 ws) (mvT C.2.1 w2) hy (backOf (len := 3) (W := (rest.map fun v => v.category).sum) hM C.2.1 w4 w3 hf hlo) qa qc (g := mkF m pc Ls st) rfl (by rw [C.2.2.2.2.1]; exact hsz) (Steps.refl _) (argsL := argsL) (rest := rest) (lenOf hpd hlen) hst (by show 2 * 0 + _ ≤ _; omega) (hb C.2.2.2.1 hd) (fun _ _ => ⟨rfl, eT, hce, hsl⟩)
  dsimp only [Pt.U, Pt.locs, Pt.cells, Pt.slots] at X' l1 l2 l3 stp hQ
  subst l1 l2 l3
  exact own_tr stp (hr T' L' v X' hQ)
theorem own_instY (X : Stand p l e R s m args below meth c T locs cells slots) (C : OwnCx p s m meth c Z y bs maxL rt) {idx : Nat} {K : String} (w : (Jvm.Cond.classLink y.cls idx K).before a0 Z = true) (eT : T.heap = h) (F : Ins Z h a K true) (hd : decode bs pc = .ok (.instanceof idx, 3)) (pc' : Nat) (hp : pc + 3 = pc')
    (hr : ∀ T', Stand p l e R s m args below meth c T' locs cells slots → T'.heap = h → OwnEnds p e below G (T'.setTop (mkF m pc' Ls (.int 1 :: st)))) : OwnEnds p e below G (T.setTop (mkF m pc Ls (.ref a :: st))) := by
  subst hp
  obtain ⟨T', X', e', stp⟩ := instY X C.1 C.2.1 C.2.2.1 w eT F (g := mkF m pc Ls _) rfl rfl (hb C.2.2.2.1 hd)
  exact own_st stp (hr T' X' e')
theorem own_castY (X : Stand p l e R s m args below meth c T locs cells slots) (C : OwnCx p s m meth c Z y bs maxL rt) {idx : Nat} {K : String} (w : (Jvm.Cond.classLink y.cls idx K).before a0 Z = true) (eT : T.heap = h) (F : Ins Z h a K true) (hd : decode bs pc = .ok (.checkcast idx, 3)) (pc' : Nat) (hp : pc + 3 = pc')
    (hr : ∀ T', Stand p l e R s m args below meth c T' locs cells slots → T'.heap = h → OwnEnds p e below G (T'.setTop (mkF m pc' Ls (.ref a :: st)))) : OwnEnds p e below G (T.setTop (mkF m pc Ls (.ref a :: st))) := by
  subst hp
  obtain ⟨T', X', e', stp⟩ := castY X C.1 C.2.1 C.2.2.1 w eT F (g := mkF m pc Ls (.ref a :: st)) rfl (rest := st) rfl (hb C.2.2.2.1 hd)
  exact own_st stp (hr T' X' e')
end OwnHeap
theorem own_w {Z : State} {a0 : Array Value} (hw : ∀ d ∈ tables_1, d.before a0 Z = true) (k : Nat) {d : Jvm.Cond} (q : tables_1[k]? = some d) : d.before a0 Z = true := hw _ (List.mem_of_getElem? q)
theorem own_eqI {args : Array Value} {s : State} {t : Term} {k : Int32} (q : (Jvm.Cond.eq t (.int k)).value args s none s [] = some true) : t.eval args s none [] s = some (.int k) := by
  simp only [Cond.value, Term.int_eval] at q
  cases e : t.eval args s none [] s with
  | none => simp [e] at q
  | some v => cases v <;> simp [e] at q ⊢; exact q
theorem own_lenI {args : Array Value} {s : State} {t : Term} {a : Addr} {cl : Cell} {ty : FieldType} {k : Int32} (ev : t.eval args s none [] s = some (.ref a)) (A : Arr s s.heap a cl ty) (q : (Jvm.Cond.eq (.length t) (.int k)).value args s none s [] = some true) : (cl.slots.size : Int) = k.toInt := by
  have q1 := own_eqI q
  have q2 := A.fin (Vm.Alike.refl _)
  simp only [Term.eval, ev] at q1
  simp [q2] at q1
  obtain ⟨q3, q4⟩ := q1
  rw [← q4, len_toInt (by omega)]
theorem own_elI {args : Array Value} {s : State} {t : Term} {a : Addr} {cl : Cell} {ty : FieldType} {k j : Int32} (ev : t.eval args s none [] s = some (.ref a)) (A : Arr s s.heap a cl ty) (q : (Jvm.Cond.eq (.elem t (.int j)) (.int k)).value args s none s [] = some true) : cl.slots[j.toNatClampNeg]? = some (.int k) :=
  (elem_in (own_eqI q) ev (Term.int_eval j) A.1).2
def own_pick (aN aU aY : Addr) (i : Int32) : Addr := if i.toInt = 0 then aN else if i.toInt = 1 then aU else aY
def own_both (aN aU aY x y : Addr) : Addr := if x = aN ∨ y = aN then aN else if x = aU ∨ y = aU then aU else aY
def own_min (i j : Int32) : Int32 := if j.toInt < i.toInt then j else i
theorem own_fit (aN aU aY : Addr) (n1 : aN ≠ aU) (n2 : aN ≠ aY) (n3 : aU ≠ aY) (i j : Int32) (hi : 0 ≤ i.toInt ∧ i.toInt < 3) (hj : 0 ≤ j.toInt ∧ j.toInt < 3) :
    own_both aN aU aY (own_pick aN aU aY i) (own_pick aN aU aY j) = own_pick aN aU aY (own_min i j) := by
  have n1' := Ne.symm n1
  have n2' := Ne.symm n2
  have n3' := Ne.symm n3
  rcases (show i.toInt = 0 ∨ i.toInt = 1 ∨ i.toInt = 2 by omega) with a | a | a <;> rcases (show j.toInt = 0 ∨ j.toInt = 1 ∨ j.toInt = 2 by omega) with b | b | b <;>
    simp [own_both, own_pick, own_min, a, b, n1, n2, n3, n1', n2', n3']
theorem own_pickE {Z : State} {h : Heap} {aN aU aY : Addr} {K : String} (i : Int32) (EN : Exa Z h aN K) (EU : Exa Z h aU K) (EY : Exa Z h aY K) : Exa Z h (own_pick aN aU aY i) K := by
  unfold own_pick
  split
  · exact EN
  · split
    · exact EU
    · exact EY
theorem own_pn_FitAndPinLaw : plainName "com/example/paths_to_proofs/pathstoproofs/statechart/FitAndPinLaw" = true := by first | (simp [plainName, overriddenIn]; done) | decide +kernel
theorem own_pd_I_R_Lcom_example_paths_to_proofs_pathstoproofs_statechart_Term_Fit_ : parseMethodDescriptor "(I)Lcom/example/paths_to_proofs/pathstoproofs/statechart/Term$Fit;" = some ⟨[.int], some (.object "com/example/paths_to_proofs/pathstoproofs/statechart/Term$Fit")⟩ := by decide +kernel
theorem own_d_method_2_code_0 : decode method_2_code 0 = .ok (.iload_n 0, 1) := by decide +kernel
theorem own_d_method_2_code_1 : decode method_2_code 1 = .ok (.ifCond .ne 7, 3) := by decide +kernel
theorem own_d_method_2_code_4 : decode method_2_code 4 = .ok (.getstatic 7, 3) := by decide +kernel
theorem own_d_method_2_code_7 : decode method_2_code 7 = .ok (.areturn, 1) := by decide +kernel
theorem own_d_method_2_code_8 : decode method_2_code 8 = .ok (.iload_n 0, 1) := by decide +kernel
theorem own_d_method_2_code_9 : decode method_2_code 9 = .ok (.iconst 1, 1) := by decide +kernel
theorem own_d_method_2_code_10 : decode method_2_code 10 = .ok (.if_icmp .ne 7, 3) := by decide +kernel
theorem own_d_method_2_code_13 : decode method_2_code 13 = .ok (.getstatic 13, 3) := by decide +kernel
theorem own_d_method_2_code_16 : decode method_2_code 16 = .ok (.areturn, 1) := by decide +kernel
theorem own_d_method_2_code_17 : decode method_2_code 17 = .ok (.getstatic 16, 3) := by decide +kernel
theorem own_d_method_2_code_20 : decode method_2_code 20 = .ok (.areturn, 1) := by decide +kernel
set_option maxRecDepth 65536 in
set_option maxHeartbeats 4000000 in
theorem own_ef_own_rm_pick (m : MethodId) (ia0 : Int32) : entryFrame m #[(.int ia0)] 1 = (mkF m 0 #[.val (.int ia0)] []) := by first | (simp [entryFrame, mkF, argsToLocals, Value.category]; done) | rfl
set_option maxRecDepth 65536 in
set_option maxHeartbeats 4000000 in
theorem own_rm_pick (l : Launch) (Z : State) (a0 : Array Value) (hw : ∀ d ∈ tables_1, d.before a0 Z = true) (ia0 : Int32) (h : Heap) (aN aU aY : Addr) (S_NO : Sta Z h "com/example/paths_to_proofs/pathstoproofs/statechart/Term$Fit" "NO" "Lcom/example/paths_to_proofs/pathstoproofs/statechart/Term$Fit;" (.ref aN)) (S_UNKNOWN : Sta Z h "com/example/paths_to_proofs/pathstoproofs/statechart/Term$Fit" "UNKNOWN" "Lcom/example/paths_to_proofs/pathstoproofs/statechart/Term$Fit;" (.ref aU)) (S_YES : Sta Z h "com/example/paths_to_proofs/pathstoproofs/statechart/Term$Fit" "YES" "Lcom/example/paths_to_proofs/pathstoproofs/statechart/Term$Fit;" (.ref aY)) :
    OwnMet l Z (⟨"com/example/paths_to_proofs/pathstoproofs/statechart/FitAndPinLaw", "pick", "(I)Lcom/example/paths_to_proofs/pathstoproofs/statechart/Term$Fit;"⟩ : MethodName) method_2_code 1 (some (.object "com/example/paths_to_proofs/pathstoproofs/statechart/Term$Fit")) [] ({ frames := 0, cells := 0, slots := 0, locals := 0 } : Room) #[(.int ia0)] h (OwnPure (.ref (own_pick aN aU aY ia0)) h) := by
  refine own_enter (f0 := fun m => mkF m 0 #[.val (.int ia0)] []) (plainFor_of_name own_pn_FitAndPinLaw) (fun m => own_ef_own_rm_pick m ia0) ?_
  intro p e s m below meth c T0 X0 C e0
  refine own_iload_n X0 C own_d_method_2_code_0 1 rfl rfl ?_
  refine own_ifne X0 C own_d_method_2_code_1 4 8 rfl (by decide) (by decide) (i := ia0.toInt) rfl (fun b1 => ?_) (fun b1 => ?_)
  · refine own_iload_n X0 C own_d_method_2_code_8 9 rfl rfl ?_
    refine own_iconst X0 C own_d_method_2_code_9 10 rfl (1) rfl ?_
    refine own_icmpne X0 C own_d_method_2_code_10 13 17 rfl (by decide) (by decide) (i := ia0.toInt) rfl (j := 1) (by decide) (fun b2 => ?_) (fun b2 => ?_)
    · refine own_getstatic X0 C (host := "") (Or.inl (own_w hw 18 rfl)) Via.refl e0 S_YES own_d_method_2_code_17 20 rfl (fun T3 X3 e3 => ?_)
      refine own_areturn X3 C _ rfl rfl rfl rfl own_d_method_2_code_20 (by decide) (by decide) ?_
      exact ⟨by rw [show own_pick aN aU aY ia0 = aY from (if_neg (by omega)).trans (if_neg (by omega))], e3, rfl⟩
    · refine own_getstatic X0 C (host := "") (Or.inl (own_w hw 20 rfl)) Via.refl e0 S_UNKNOWN own_d_method_2_code_13 16 rfl (fun T4 X4 e4 => ?_)
      refine own_areturn X4 C _ rfl rfl rfl rfl own_d_method_2_code_16 (by decide) (by decide) ?_
      exact ⟨by rw [show own_pick aN aU aY ia0 = aU from (if_neg (by omega)).trans (if_pos (by omega))], e4, rfl⟩
  · refine own_getstatic X0 C (host := "") (Or.inl (own_w hw 5 rfl)) Via.refl e0 S_NO own_d_method_2_code_4 7 rfl (fun T5 X5 e5 => ?_)
    refine own_areturn X5 C _ rfl rfl rfl rfl own_d_method_2_code_7 (by decide) (by decide) ?_
    exact ⟨by rw [show own_pick aN aU aY ia0 = aN from if_pos (by omega)], e5, rfl⟩
theorem own_pn_Term_Fit : plainName "com/example/paths_to_proofs/pathstoproofs/statechart/Term$Fit" = true := by first | (simp [plainName, overriddenIn]; done) | decide +kernel
theorem own_pd_Lcom_example_paths_to_proofs_pathstoproofs_statechart_Term_Fit__R_Lcom_example_paths_to_proofs_pathstoproofs_statechart_Term_Fit_ : parseMethodDescriptor "(Lcom/example/paths_to_proofs/pathstoproofs/statechart/Term$Fit;)Lcom/example/paths_to_proofs/pathstoproofs/statechart/Term$Fit;" = some ⟨[(.object "com/example/paths_to_proofs/pathstoproofs/statechart/Term$Fit")], some (.object "com/example/paths_to_proofs/pathstoproofs/statechart/Term$Fit")⟩ := by decide +kernel
theorem own_d_prog_146_method_4_code_0 : decode prog_146_method_4_code 0 = .ok (.aload_n 0, 1) := by decide +kernel
theorem own_d_prog_146_method_4_code_1 : decode prog_146_method_4_code 1 = .ok (.getstatic 7, 3) := by decide +kernel
theorem own_d_prog_146_method_4_code_4 : decode prog_146_method_4_code 4 = .ok (.if_acmp .eq 10, 3) := by decide +kernel
theorem own_d_prog_146_method_4_code_7 : decode prog_146_method_4_code 7 = .ok (.aload_n 1, 1) := by decide +kernel
theorem own_d_prog_146_method_4_code_8 : decode prog_146_method_4_code 8 = .ok (.getstatic 7, 3) := by decide +kernel
theorem own_d_prog_146_method_4_code_11 : decode prog_146_method_4_code 11 = .ok (.if_acmp .ne 7, 3) := by decide +kernel
theorem own_d_prog_146_method_4_code_14 : decode prog_146_method_4_code 14 = .ok (.getstatic 7, 3) := by decide +kernel
theorem own_d_prog_146_method_4_code_17 : decode prog_146_method_4_code 17 = .ok (.areturn, 1) := by decide +kernel
theorem own_d_prog_146_method_4_code_18 : decode prog_146_method_4_code 18 = .ok (.aload_n 0, 1) := by decide +kernel
theorem own_d_prog_146_method_4_code_19 : decode prog_146_method_4_code 19 = .ok (.getstatic 10, 3) := by decide +kernel
theorem own_d_prog_146_method_4_code_22 : decode prog_146_method_4_code 22 = .ok (.if_acmp .eq 10, 3) := by decide +kernel
theorem own_d_prog_146_method_4_code_25 : decode prog_146_method_4_code 25 = .ok (.aload_n 1, 1) := by decide +kernel
theorem own_d_prog_146_method_4_code_26 : decode prog_146_method_4_code 26 = .ok (.getstatic 10, 3) := by decide +kernel
theorem own_d_prog_146_method_4_code_29 : decode prog_146_method_4_code 29 = .ok (.if_acmp .ne 9, 3) := by decide +kernel
theorem own_d_prog_146_method_4_code_32 : decode prog_146_method_4_code 32 = .ok (.getstatic 10, 3) := by decide +kernel
theorem own_d_prog_146_method_4_code_35 : decode prog_146_method_4_code 35 = .ok (.goto 6, 3) := by decide +kernel
theorem own_d_prog_146_method_4_code_38 : decode prog_146_method_4_code 38 = .ok (.getstatic 3, 3) := by decide +kernel
theorem own_d_prog_146_method_4_code_41 : decode prog_146_method_4_code 41 = .ok (.areturn, 1) := by decide +kernel
set_option maxRecDepth 65536 in
set_option maxHeartbeats 4000000 in
theorem own_ef_own_rm_both (m : MethodId) (oa0 : Nat) (oa1 : Nat) : entryFrame m #[(.ref oa0), (.ref oa1)] 2 = (mkF m 0 #[.val (.ref oa0), .val (.ref oa1)] []) := by first | (simp [entryFrame, mkF, argsToLocals, Value.category]; done) | rfl
set_option maxRecDepth 65536 in
set_option maxHeartbeats 4000000 in
theorem own_rm_both (l : Launch) (Z : State) (a0 : Array Value) (hw : ∀ d ∈ tables_1, d.before a0 Z = true) (oa0 : Nat) (oa1 : Nat) (h : Heap) (aN aU aY : Addr) (S_NO : Sta Z h "com/example/paths_to_proofs/pathstoproofs/statechart/Term$Fit" "NO" "Lcom/example/paths_to_proofs/pathstoproofs/statechart/Term$Fit;" (.ref aN)) (S_UNKNOWN : Sta Z h "com/example/paths_to_proofs/pathstoproofs/statechart/Term$Fit" "UNKNOWN" "Lcom/example/paths_to_proofs/pathstoproofs/statechart/Term$Fit;" (.ref aU)) (S_YES : Sta Z h "com/example/paths_to_proofs/pathstoproofs/statechart/Term$Fit" "YES" "Lcom/example/paths_to_proofs/pathstoproofs/statechart/Term$Fit;" (.ref aY)) :
    OwnMet l Z (⟨"com/example/paths_to_proofs/pathstoproofs/statechart/Term$Fit", "and", "(Lcom/example/paths_to_proofs/pathstoproofs/statechart/Term$Fit;)Lcom/example/paths_to_proofs/pathstoproofs/statechart/Term$Fit;"⟩ : MethodName) prog_146_method_4_code 2 (some (.object "com/example/paths_to_proofs/pathstoproofs/statechart/Term$Fit")) [] ({ frames := 0, cells := 0, slots := 0, locals := 0 } : Room) #[(.ref oa0), (.ref oa1)] h (OwnPure (.ref (own_both aN aU aY oa0 oa1)) h) := by
  refine own_enter (f0 := fun m => mkF m 0 #[.val (.ref oa0), .val (.ref oa1)] []) (plainFor_of_name own_pn_Term_Fit) (fun m => own_ef_own_rm_both m oa0 oa1) ?_
  intro p e s m below meth c T0 X0 C e0
  refine own_aload_n X0 C own_d_prog_146_method_4_code_0 1 rfl rfl rfl ?_
  refine own_getstatic X0 C (host := "") (Or.inl (own_w hw 13 rfl)) Via.refl e0 S_NO own_d_prog_146_method_4_code_1 4 rfl (fun T1 X1 e1 => ?_)
  refine own_acmpeq X1 C own_d_prog_146_method_4_code_4 7 14 rfl (by decide) (by decide) (fun b2 => ?_) (fun b2 => ?_)
  · refine own_getstatic X1 C (host := "") (Or.inl (own_w hw 13 rfl)) Via.refl e1 S_NO own_d_prog_146_method_4_code_14 17 rfl (fun T3 X3 e3 => ?_)
    refine own_areturn X3 C _ rfl rfl rfl rfl own_d_prog_146_method_4_code_17 (by decide) (by decide) ?_
    exact ⟨by simp_all [own_both], e3, rfl⟩
  · refine own_aload_n X1 C own_d_prog_146_method_4_code_7 8 rfl rfl rfl ?_
    refine own_getstatic X1 C (host := "") (Or.inl (own_w hw 13 rfl)) Via.refl e1 S_NO own_d_prog_146_method_4_code_8 11 rfl (fun T4 X4 e4 => ?_)
    refine own_acmpne X4 C own_d_prog_146_method_4_code_11 14 18 rfl (by decide) (by decide) (fun b5 => ?_) (fun b5 => ?_)
    · refine own_aload_n X4 C own_d_prog_146_method_4_code_18 19 rfl rfl rfl ?_
      refine own_getstatic X4 C (host := "") (Or.inl (own_w hw 22 rfl)) Via.refl e4 S_UNKNOWN own_d_prog_146_method_4_code_19 22 rfl (fun T6 X6 e6 => ?_)
      refine own_acmpeq X6 C own_d_prog_146_method_4_code_22 25 32 rfl (by decide) (by decide) (fun b7 => ?_) (fun b7 => ?_)
      · refine own_getstatic X6 C (host := "") (Or.inl (own_w hw 22 rfl)) Via.refl e6 S_UNKNOWN own_d_prog_146_method_4_code_32 35 rfl (fun T8 X8 e8 => ?_)
        refine own_goto X8 C own_d_prog_146_method_4_code_35 41 (by decide) (by decide) ?_
        refine own_areturn X8 C _ rfl rfl rfl rfl own_d_prog_146_method_4_code_41 (by decide) (by decide) ?_
        exact ⟨by simp_all [own_both], e8, rfl⟩
      · refine own_aload_n X6 C own_d_prog_146_method_4_code_25 26 rfl rfl rfl ?_
        refine own_getstatic X6 C (host := "") (Or.inl (own_w hw 22 rfl)) Via.refl e6 S_UNKNOWN own_d_prog_146_method_4_code_26 29 rfl (fun T9 X9 e9 => ?_)
        refine own_acmpne X9 C own_d_prog_146_method_4_code_29 32 38 rfl (by decide) (by decide) (fun b10 => ?_) (fun b10 => ?_)
        · refine own_getstatic X9 C (host := "") (Or.inl (own_w hw 23 rfl)) Via.refl e9 S_YES own_d_prog_146_method_4_code_38 41 rfl (fun T11 X11 e11 => ?_)
          refine own_areturn X11 C _ rfl rfl rfl rfl own_d_prog_146_method_4_code_41 (by decide) (by decide) ?_
          exact ⟨by simp_all [own_both], e11, rfl⟩
        · refine own_getstatic X9 C (host := "") (Or.inl (own_w hw 22 rfl)) Via.refl e9 S_UNKNOWN own_d_prog_146_method_4_code_32 35 rfl (fun T12 X12 e12 => ?_)
          refine own_goto X12 C own_d_prog_146_method_4_code_35 41 (by decide) (by decide) ?_
          refine own_areturn X12 C _ rfl rfl rfl rfl own_d_prog_146_method_4_code_41 (by decide) (by decide) ?_
          exact ⟨by simp_all [own_both], e12, rfl⟩
    · refine own_getstatic X4 C (host := "") (Or.inl (own_w hw 13 rfl)) Via.refl e4 S_NO own_d_prog_146_method_4_code_14 17 rfl (fun T13 X13 e13 => ?_)
      refine own_areturn X13 C _ rfl rfl rfl rfl own_d_prog_146_method_4_code_17 (by decide) (by decide) ?_
      exact ⟨by simp_all [own_both], e13, rfl⟩
theorem own_pf_min_II_I : plainFor (⟨"java/lang/Math", "min", "(II)I"⟩ : MethodName) = true := by decide +kernel
theorem own_pd_II_R_I : parseMethodDescriptor "(II)I" = some ⟨[.int, .int], some .int⟩ := by decide +kernel
theorem own_d_jdk_29_method_69_code_0 : decode jdk_29_method_69_code 0 = .ok (.iload_n 0, 1) := by decide +kernel
theorem own_d_jdk_29_method_69_code_1 : decode jdk_29_method_69_code 1 = .ok (.iload_n 1, 1) := by decide +kernel
theorem own_d_jdk_29_method_69_code_2 : decode jdk_29_method_69_code 2 = .ok (.if_icmp .gt 7, 3) := by decide +kernel
theorem own_d_jdk_29_method_69_code_5 : decode jdk_29_method_69_code 5 = .ok (.iload_n 0, 1) := by decide +kernel
theorem own_d_jdk_29_method_69_code_6 : decode jdk_29_method_69_code 6 = .ok (.goto 4, 3) := by decide +kernel
theorem own_d_jdk_29_method_69_code_9 : decode jdk_29_method_69_code 9 = .ok (.iload_n 1, 1) := by decide +kernel
theorem own_d_jdk_29_method_69_code_10 : decode jdk_29_method_69_code 10 = .ok (.ireturn, 1) := by decide +kernel
set_option maxRecDepth 65536 in
set_option maxHeartbeats 4000000 in
theorem own_ef_own_rm_min (m : MethodId) (ia0 : Int32) (ia1 : Int32) : entryFrame m #[(.int ia0), (.int ia1)] 2 = (mkF m 0 #[.val (.int ia0), .val (.int ia1)] []) := by first | (simp [entryFrame, mkF, argsToLocals, Value.category]; done) | rfl
set_option maxRecDepth 65536 in
set_option maxHeartbeats 4000000 in
theorem own_rm_min (l : Launch) (Z : State) (a0 : Array Value) (hw : ∀ d ∈ tables_1, d.before a0 Z = true) (ia0 : Int32) (ia1 : Int32) (h : Heap)  :
    OwnMet l Z (⟨"java/lang/Math", "min", "(II)I"⟩ : MethodName) jdk_29_method_69_code 2 (some .int) [] ({ frames := 0, cells := 0, slots := 0, locals := 0 } : Room) #[(.int ia0), (.int ia1)] h (OwnPure (.int (own_min ia0 ia1)) h) := by
  refine own_enter (f0 := fun m => mkF m 0 #[.val (.int ia0), .val (.int ia1)] []) own_pf_min_II_I (fun m => own_ef_own_rm_min m ia0 ia1) ?_
  intro p e s m below meth c T0 X0 C e0
  refine own_iload_n X0 C own_d_jdk_29_method_69_code_0 1 rfl rfl ?_
  refine own_iload_n X0 C own_d_jdk_29_method_69_code_1 2 rfl rfl ?_
  refine own_icmpgt X0 C own_d_jdk_29_method_69_code_2 5 9 rfl (by decide) (by decide) (i := ia0.toInt) rfl (j := ia1.toInt) rfl (fun b1 => ?_) (fun b1 => ?_)
  · refine own_iload_n X0 C own_d_jdk_29_method_69_code_9 10 rfl rfl ?_
    refine own_ireturn X0 C rfl own_d_jdk_29_method_69_code_10 (by decide) (by decide) ?_
    exact ⟨by rw [own_min, if_pos (by omega)], e0, rfl⟩
  · refine own_iload_n X0 C own_d_jdk_29_method_69_code_5 6 rfl rfl ?_
    refine own_goto X0 C own_d_jdk_29_method_69_code_6 10 (by decide) (by decide) ?_
    refine own_ireturn X0 C rfl own_d_jdk_29_method_69_code_10 (by decide) (by decide) ?_
    exact ⟨by rw [own_min, if_neg (by omega)], e0, rfl⟩
theorem own_pd_II_R_Z : parseMethodDescriptor "(II)Z" = some ⟨[.int, .int], some .boolean⟩ := by decide +kernel
set_option maxRecDepth 65536 in
set_option maxHeartbeats 4000000 in
theorem own_ef_own_rm_law (m : MethodId) (ia0 : Int32) (ia1 : Int32) : entryFrame m #[(.int ia0), (.int ia1)] maxLocals = (mkF m 0 #[.val (.int ia0), .val (.int ia1), .unset, .unset, .unset, .unset, .unset] []) := by first | (simp [entryFrame, mkF, argsToLocals, Value.category, maxLocals]; done) | rfl
set_option maxRecDepth 65536 in
set_option maxHeartbeats 4000000 in
theorem own_rm_law (l : Launch) (Z : State) (a0 : Array Value) (hw : ∀ d ∈ tables_1, d.before a0 Z = true) (ia0 : Int32) (ia1 : Int32) (h : Heap) (n0 : Nat) (aN aU aY : Addr) (S_NO : Sta Z h "com/example/paths_to_proofs/pathstoproofs/statechart/Term$Fit" "NO" "Lcom/example/paths_to_proofs/pathstoproofs/statechart/Term$Fit;" (.ref aN)) (S_UNKNOWN : Sta Z h "com/example/paths_to_proofs/pathstoproofs/statechart/Term$Fit" "UNKNOWN" "Lcom/example/paths_to_proofs/pathstoproofs/statechart/Term$Fit;" (.ref aU)) (S_YES : Sta Z h "com/example/paths_to_proofs/pathstoproofs/statechart/Term$Fit" "YES" "Lcom/example/paths_to_proofs/pathstoproofs/statechart/Term$Fit;" (.ref aY)) (EN : Exa Z h aN "com/example/paths_to_proofs/pathstoproofs/statechart/Term$Fit") (EU : Exa Z h aU "com/example/paths_to_proofs/pathstoproofs/statechart/Term$Fit") (EY : Exa Z h aY "com/example/paths_to_proofs/pathstoproofs/statechart/Term$Fit") (n1 : aN ≠ aU) (n2 : aN ≠ aY) (n3 : aU ≠ aY) :
    OwnMet l Z x code maxLocals ret tables_1 room_1 #[(.int ia0), (.int ia1)] h (fun v h' L => v = some (.int 1) ∧ Fr n0 L) := by
  refine own_enter (f0 := fun m => mkF m 0 #[.val (.int ia0), .val (.int ia1), .unset, .unset, .unset, .unset, .unset] []) (plainFor_of_name own_pn_FitAndPinLaw) (fun m => own_ef_own_rm_law m ia0 ia1) ?_
  intro p e s m below meth c T0 X0 C e0
  refine own_iload_n X0 C at_0 1 rfl rfl ?_
  refine own_ldc X0 C (own_w hw 0 rfl) at_1 3 rfl ?_
  refine own_iand X0 C at_3 4 rfl (fun v1 ev1 => ?_)
  refine own_iconst X0 C at_4 5 rfl (3) rfl ?_
  refine own_irem X0 C at_5 6 rfl (by decide) (fun v2 ev2 => ?_)
  have rv1 := c_and ia0 2147483647 (by decide)
  rw [← ev1] at rv1
  have rv2 := (c_irem v1 3 3 (by decide)).1 rv1.1
  rw [← ev2] at rv2
  have bv2 : 0 ≤ v2.toInt ∧ v2.toInt < 3 := by omega
  refine own_istore_n X0 C at_6 7 rfl #[.val (.int ia0), .val (.int ia1), .val (.int v2), .unset, .unset, .unset, .unset] rfl ?_
  refine own_iload_n X0 C at_7 8 rfl rfl ?_
  refine own_ldc X0 C (own_w hw 0 rfl) at_8 10 rfl ?_
  refine own_iand X0 C at_10 11 rfl (fun v3 ev3 => ?_)
  refine own_iconst X0 C at_11 12 rfl (3) rfl ?_
  refine own_irem X0 C at_12 13 rfl (by decide) (fun v4 ev4 => ?_)
  have rv3 := c_and ia1 2147483647 (by decide)
  rw [← ev3] at rv3
  have rv4 := (c_irem v3 3 3 (by decide)).1 rv3.1
  rw [← ev4] at rv4
  have bv4 : 0 ≤ v4.toInt ∧ v4.toInt < 3 := by omega
  refine own_istore_n X0 C at_13 14 rfl #[.val (.int ia0), .val (.int ia1), .val (.int v2), .val (.int v4), .unset, .unset, .unset] rfl ?_
  refine own_iload_n X0 C at_14 15 rfl rfl ?_
  refine own_callP X0 C (own_w hw 1 rfl) (own_w hw 2 rfl) (own_w hw 3 rfl) (own_w hw 4 rfl) (by decide) (own_rm_pick l Z a0 hw v2 h aN aU aY S_NO S_UNKNOWN S_YES) e0 own_pd_I_R_Lcom_example_paths_to_proofs_pathstoproofs_statechart_Term_Fit_ [(.int v2)] rfl rfl rfl rfl 0 rfl (by decide) (by decide) rfl rfl (by decide) (by decide) at_15 18 rfl (fun T1 X1 e1 => ?_)
  refine own_astore X1 C at_18 20 rfl rfl #[.val (.int ia0), .val (.int ia1), .val (.int v2), .val (.int v4), .val (.ref (own_pick aN aU aY v2)), .unset, .unset] rfl ?_
  refine own_iload_n X1 C at_20 21 rfl rfl ?_
  refine own_callP X1 C (own_w hw 1 rfl) (own_w hw 2 rfl) (own_w hw 3 rfl) (own_w hw 4 rfl) (by decide) (own_rm_pick l Z a0 hw v4 h aN aU aY S_NO S_UNKNOWN S_YES) e1 own_pd_I_R_Lcom_example_paths_to_proofs_pathstoproofs_statechart_Term_Fit_ [(.int v4)] rfl rfl rfl rfl 0 rfl (by decide) (by decide) rfl rfl (by decide) (by decide) at_21 24 rfl (fun T2 X2 e2 => ?_)
  refine own_astore X2 C at_24 26 rfl rfl #[.val (.int ia0), .val (.int ia1), .val (.int v2), .val (.int v4), .val (.ref (own_pick aN aU aY v2)), .val (.ref (own_pick aN aU aY v4)), .unset] rfl ?_
  refine own_aload X2 C at_26 28 rfl rfl rfl ?_
  refine own_aload X2 C at_28 30 rfl rfl rfl ?_
  refine own_callV X2 C (own_w hw 8 rfl) (own_w hw 9 rfl) (own_w hw 11 rfl) (own_w hw 10 rfl) (own_w hw 6 rfl) (own_w hw 12 rfl) (by decide) (own_pickE v2 EN EU EY) (own_rm_both l Z a0 hw (own_pick aN aU aY v2) (own_pick aN aU aY v4) h aN aU aY S_NO S_UNKNOWN S_YES) e2 own_pd_Lcom_example_paths_to_proofs_pathstoproofs_statechart_Term_Fit__R_Lcom_example_paths_to_proofs_pathstoproofs_statechart_Term_Fit_ [(.ref (own_pick aN aU aY v4))] rfl rfl rfl rfl 0 rfl (by decide) (by decide) (by decide) (by decide) at_30 33 rfl (fun T3 L3 v3 X3 q3 => ?_)
  obtain ⟨rfl, eh3, rfl⟩ := q3
  have N3 := Fr.app (Fr.nil n0) (Fr.nil n0)
  refine own_astore X3 C at_33 35 rfl rfl #[.val (.int ia0), .val (.int ia1), .val (.int v2), .val (.int v4), .val (.ref (own_pick aN aU aY v2)), .val (.ref (own_pick aN aU aY v4)), .val (.ref (own_both aN aU aY (own_pick aN aU aY v2) (own_pick aN aU aY v4)))] rfl ?_
  refine own_aload X3 C at_35 37 rfl rfl rfl ?_
  refine own_iload_n X3 C at_37 38 rfl rfl ?_
  refine own_iload_n X3 C at_38 39 rfl rfl ?_
  refine own_callP X3 C (own_w hw 14 rfl) (own_w hw 15 rfl) (own_w hw 16 rfl) (own_w hw 17 rfl) (by decide) (own_rm_min l Z a0 hw v2 v4 h) eh3 own_pd_II_R_I [(.int v2), (.int v4)] rfl rfl rfl rfl 1 rfl (by decide) (by decide) rfl rfl (by decide) (by decide) at_39 42 rfl (fun T4 X4 e4 => ?_)
  refine own_callP X4 C (own_w hw 1 rfl) (own_w hw 2 rfl) (own_w hw 3 rfl) (own_w hw 4 rfl) (by decide) (own_rm_pick l Z a0 hw (own_min v2 v4) h aN aU aY S_NO S_UNKNOWN S_YES) e4 own_pd_I_R_Lcom_example_paths_to_proofs_pathstoproofs_statechart_Term_Fit_ [(.int (own_min v2 v4))] rfl rfl rfl rfl 1 rfl (by decide) (by decide) rfl rfl (by decide) (by decide) at_42 45 rfl (fun T5 X5 e5 => ?_)
  refine own_acmpne X5 C at_45 48 52 rfl (by decide) (by decide) (fun b6 => ?_) (fun b6 => ?_)
  · exfalso
    exact b6 (own_fit aN aU aY n1 n2 n3 v2 v4 bv2 bv4)
  · refine own_iconst X5 C at_48 49 rfl (1) rfl ?_
    refine own_goto X5 C at_49 53 (by decide) (by decide) ?_
    refine own_iretN X5 C .boolean rfl (by simp) at_53 (by decide) (by decide) (1) (by decide) ?_
    exact ⟨rfl, Fr.nil _⟩
set_option maxRecDepth 65536 in
set_option maxHeartbeats 4000000 in
theorem own_comes_1 {Post : Tables → Env → Array Value → State → Outcome → State → Prop} (hpost : ∀ tb e args s v u, (limb_1_1.after args s (.returned v) u = true ∧ limb_1_2.after args s (.returned v) u = true ∧ True) → FrameEnd s (.returned v) u (Jvm.fieldLocs frame_1_writes args s ++ Jvm.arrayLocs frame_1_arrays args s ++ Jvm.staticLocs frame_1_statics s) 0 0 → Post tb e args s (.returned v) u) :
    ArmFor flags0 classFile x code maxLocals ret World_1 tables_1 room_1 Calls_1 rest_1 Pre_1 Post := by
  intro l hfl _ _ p e ha hc hk s m args below hf hA hF happ hP
  obtain ⟨hcalls, hrest, hpre⟩ := hP
  obtain ⟨-, -, -, hnamed, -, -, -, hat⟩ := (Spec.applies_iff hf).mp happ
  obtain ⟨hg, hn⟩ := and_e (Cond.before_iff.mp (show (Jvm.Cond.and given_1 narrow_1).before args s = true from hpre))
  obtain ⟨g0, g0r⟩ := and_e hg
  obtain ⟨g1, g1r⟩ := and_e g0r
  obtain ⟨w0, w1, rfl⟩ : ∃ w0 w1 : Value, args = #[w0, w1] := by
    have hs : args.size = 2 := by simpa [Cond.value, given_1] using g0
    obtain ⟨L⟩ := args
    match L, hs with
    | [w0, w1], _ => exact ⟨w0, w1, rfl⟩
  have hw := fun d (hd : d ∈ tables_1) => atoms_spec (ws := Jvm.Cond.code x code maxLocals ret :: tables_1) hat d (List.mem_cons_of_mem _ hd)
  have hfit : Fit s := fun {y c} hc i hi => by
    obtain ⟨ha, rfl⟩ := Array.getElem?_eq_some_iff.mp hc
    have q := List.all_eq_true.mp ((Array.all_eq_true_iff_forall_mem.mp hF) _ (Array.getElem_mem ha)) i (List.mem_range.mpr hi)
    simpa [Array.getElem?_eq_getElem hi] using q
  obtain ⟨i0, q0⟩ := is_v g1
  obtain rfl : w0 = (.int i0) := Option.some.inj q0
  obtain ⟨i1, q1⟩ := is_v g1r
  obtain rfl : w1 = (.int i1) := Option.some.inj q1
  obtain ⟨n0, n0r⟩ := and_e hn
  obtain ⟨n1, n1r⟩ := and_e n0r
  obtain ⟨n2, n2r⟩ := and_e n1r
  obtain ⟨n3, n3r⟩ := and_e n2r
  obtain ⟨n4, n4r⟩ := and_e n3r
  obtain ⟨a_NO, ev_NO⟩ := exa_v n0
  have S_NO : Sta s s.heap "com/example/paths_to_proofs/pathstoproofs/statechart/Term$Fit" "NO" "Lcom/example/paths_to_proofs/pathstoproofs/statechart/Term$Fit;" (.ref a_NO) := Sta.start ev_NO (Or.inr ⟨(own_w hw 6 rfl), (own_w hw 7 rfl)⟩)
  have E_NO : Exa s s.heap a_NO "com/example/paths_to_proofs/pathstoproofs/statechart/Term$Fit" := Exa.start ev_NO n0
  obtain ⟨a_YES, ev_YES⟩ := exa_v n1
  have S_YES : Sta s s.heap "com/example/paths_to_proofs/pathstoproofs/statechart/Term$Fit" "YES" "Lcom/example/paths_to_proofs/pathstoproofs/statechart/Term$Fit;" (.ref a_YES) := Sta.start ev_YES (Or.inr ⟨(own_w hw 6 rfl), (own_w hw 19 rfl)⟩)
  have E_YES : Exa s s.heap a_YES "com/example/paths_to_proofs/pathstoproofs/statechart/Term$Fit" := Exa.start ev_YES n1
  obtain ⟨a_UNKNOWN, ev_UNKNOWN⟩ := exa_v n2
  have S_UNKNOWN : Sta s s.heap "com/example/paths_to_proofs/pathstoproofs/statechart/Term$Fit" "UNKNOWN" "Lcom/example/paths_to_proofs/pathstoproofs/statechart/Term$Fit;" (.ref a_UNKNOWN) := Sta.start ev_UNKNOWN (Or.inr ⟨(own_w hw 6 rfl), (own_w hw 21 rfl)⟩)
  have E_UNKNOWN : Exa s s.heap a_UNKNOWN "com/example/paths_to_proofs/pathstoproofs/statechart/Term$Fit" := Exa.start ev_UNKNOWN n2
  have ev_YES_ordinal := own_eqI n3
  have F_YES_ordinal : Fld s s.heap a_YES "java/lang/Enum" "ordinal" "I" (.int (0 : Int32)) := Fld.start ((fld_at ev_YES).symm.trans ev_YES_ordinal)
  have ev_NO_ordinal := own_eqI n4
  have F_NO_ordinal : Fld s s.heap a_NO "java/lang/Enum" "ordinal" "I" (.int (1 : Int32)) := Fld.start ((fld_at ev_NO).symm.trans ev_NO_ordinal)
  have ev_UNKNOWN_ordinal := own_eqI n4r
  have F_UNKNOWN_ordinal : Fld s s.heap a_UNKNOWN "java/lang/Enum" "ordinal" "I" (.int (2 : Int32)) := Fld.start ((fld_at ev_UNKNOWN).symm.trans ev_UNKNOWN_ordinal)
  obtain ⟨n, o, h1, h2, h3, _, L, rfl, ⟨rfl, N⟩, hq⟩ := own_rm_law l s _ hw i0 i1 s.heap s.heap.size a_NO a_UNKNOWN a_YES S_NO S_UNKNOWN S_YES E_NO E_UNKNOWN E_YES (Fld.ne F_NO_ordinal F_UNKNOWN_ordinal (by decide)) (Fld.ne F_NO_ordinal F_YES_ordinal (by decide)) (Fld.ne F_UNKNOWN_ordinal F_YES_ordinal (by decide)) p e ha hc hk s m _ below hf ((Spec.applies_iff_loose hf).mp happ).1 ⟨rfl, State.Warmed39.refl s, rfl⟩ trivial
  refine ⟨n, _, h1, h2, h3, hpost _ _ _ _ _ _ ⟨Cond.after_iff.mpr rfl, Cond.after_iff.mpr (eq_i res_at (Term.int_eval (1)) rfl), trivial⟩ ⟨hq.1, hq.2.1, (hq.2.2.sift fun y hy => Or.inr (N y hy)).mono (by decide) (by decide)⟩⟩
theorem main_1_1 : Claimed_1_1 := own_comes_1 fun _ _ _ _ _ _ h hF => ⟨h.1, hF⟩
theorem main_1_2 : Claimed_1_2 := own_comes_1 fun _ _ _ _ _ _ h hF => ⟨h.2.1, hF⟩
end Jvm.Pilot.@@N@@
namespace Jvm.Pilot.@@N@@
open Jvm Jvm.ClassFile Sem Op Lib Jvm.Free Jvm.Stand Jvm.Pilot.@@N@@.Jvm.D
/-! MADE BY PROGRAM (witnessworld.py) out of the Statement's table words and the real class files: 13 classes; the members and pool entries that the words name. The judged class is class 1, her method 2. -/
namespace start1
open Jvm.ClassFile
def u (s : String) : CpInfo := .utf8 (stringToUtf16 s)
/-- a pool by its gaps: so many unusable entries, then the entry; so many at the end -/
def gap : Nat → List CpInfo → List CpInfo
  | 0, r => r
  | n + 1, r => .unusable :: gap n r
def poolList (es : List (Nat × CpInfo)) (last : Nat) : List CpInfo := es.foldr (fun e r => gap e.1 (e.2 :: r)) (gap last [])
def pool (es : List (Nat × CpInfo)) (last : Nat) : Array CpInfo := ⟨poolList es last⟩
def fileOf (pool : Array CpInfo) (this : Nat) (attrs : Array Attribute := #[]) (ms : Array MethodInfo := #[]) (fl : Nat := 33) (sup : Nat := 0) (ifs : Array Nat := #[]) (fds : Array FieldInfo := #[]) : ClassFile where
  minorVersion := 0
  majorVersion := 65
  constantPool := pool
  accessFlags := fl
  thisClass := this
  superClass := sup
  interfaces := ifs
  fields := fds
  methods := ms
  attributes := attrs
def plain (name : String) (sup : Option ClassId) : Class where
  name := name
  kind := .ordinary
  loader := none
  accessFlags := 33
  super := sup
  interfaces := #[]
  cf := none
  fields := #[]
  methods := #[]
  instanceTypes := #[]
  staticTypes := #[]
  resolved := #[]
  callSites := []
  init := .initialized
  statics := none
  mirror := none

def pool0 : Array CpInfo := pool [(5, u "<init>"), (0, u "()V"), (1, .class_ 10), (1, u "java/lang/Object")] 113

def k0m0 : Method := { name := "<init>", desc := "()V", sig := { parameters := [], returnType := none }, accessFlags := 1, code := none }
/-- java/lang/Object -/
def k0 : Class := { plain "java/lang/Object" none with
  accessFlags := 33
  interfaces := #[]
  cf := some (fileOf pool0 8 #[] #[{ accessFlags := 1, nameIndex := 5, descriptorIndex := 6, attributes := #[] }] 33 0 #[] #[])
  fields := #[]
  methods := #[k0m0]
  instanceTypes := #[]
  staticTypes := #[]
  resolved := Array.replicate 124 none
  statics := none }

def pool1 : Array CpInfo := pool [(2, .class_ 4), (1, u "java/lang/Object"), (0, u "<init>"), (0, u "()V"), (0, .fieldref 8 9), (0, .class_ 10), (0, .nameAndType 11 12), (0, u "com/example/paths_to_proofs/pathstoproofs/statechart/Term$Fit"), (0, u "NO"), (0, u "Lcom/example/paths_to_proofs/pathstoproofs/statechart/Term$Fit;"), (0, .fieldref 8 14), (0, .nameAndType 15 12), (0, u "UNKNOWN"), (0, .fieldref 8 17), (0, .nameAndType 18 12), (0, u "YES"), (0, .integer 2147483647), (0, .methodref 21 22), (0, .class_ 23), (0, .nameAndType 24 25), (0, u "com/example/paths_to_proofs/pathstoproofs/statechart/FitAndPinLaw"), (0, u "pick"), (0, u "(I)Lcom/example/paths_to_proofs/pathstoproofs/statechart/Term$Fit;"), (0, .methodref 8 27), (0, .nameAndType 28 29), (0, u "and"), (0, u "(Lcom/example/paths_to_proofs/pathstoproofs/statechart/Term$Fit;)Lcom/example/paths_to_proofs/pathstoproofs/statechart/Term$Fit;"), (0, .methodref 31 32), (0, .class_ 33), (0, .nameAndType 34 35), (0, u "java/lang/Math"), (0, u "min"), (0, u "(II)I"), (3, u "law"), (0, u "(II)Z")] 6

def k1m0 : Method := { name := "<init>", desc := "()V", sig := { parameters := [], returnType := none }, accessFlags := 2, code := none }
def k1c1 : Code := { maxStack := 2, maxLocals := 1, code := method_2_code, exceptionTable := #[], attributes := #[] }
def k1m1 : Method := { name := "pick", desc := "(I)Lcom/example/paths_to_proofs/pathstoproofs/statechart/Term$Fit;", sig := { parameters := [.int], returnType := some (.object "com/example/paths_to_proofs/pathstoproofs/statechart/Term$Fit") }, accessFlags := 10, code := some k1c1 }
def k1c2 : Code := { maxStack := 3, maxLocals := 7, code := code, exceptionTable := #[], attributes := #[] }
def k1m2 : Method := { name := "law", desc := "(II)Z", sig := { parameters := [.int, .int], returnType := some .boolean }, accessFlags := 9, code := some k1c2 }
/-- com/example/paths_to_proofs/pathstoproofs/statechart/FitAndPinLaw -/
def k1 : Class := { plain "com/example/paths_to_proofs/pathstoproofs/statechart/FitAndPinLaw" (some 0) with
  accessFlags := 49
  interfaces := #[]
  cf := some (fileOf pool1 21 #[] #[{ accessFlags := 2, nameIndex := 5, descriptorIndex := 6, attributes := #[] }, { accessFlags := 10, nameIndex := 24, descriptorIndex := 25, attributes := #[] }, { accessFlags := 9, nameIndex := 39, descriptorIndex := 40, attributes := #[] }] 49 2 #[] #[])
  fields := #[]
  methods := #[k1m0, k1m1, k1m2]
  instanceTypes := #[]
  staticTypes := #[]
  resolved := Array.replicate 47 none
  statics := none }

def pool2 : Array CpInfo := pool [(1, .class_ 2), (0, u "java/lang/constant/Constable"), (0, .class_ 4), (0, u "java/lang/Object")] 6

/-- java/lang/constant/Constable -/
def k2 : Class := { plain "java/lang/constant/Constable" (some 0) with
  accessFlags := 1537
  interfaces := #[]
  cf := some (fileOf pool2 1 #[] #[] 1537 3 #[] #[])
  fields := #[]
  methods := #[]
  instanceTypes := #[]
  staticTypes := #[]
  resolved := Array.replicate 11 none
  statics := none }

def pool3 : Array CpInfo := pool [(1, .class_ 2), (0, u "java/lang/Comparable"), (0, .class_ 4), (0, u "java/lang/Object")] 7

/-- java/lang/Comparable -/
def k3 : Class := { plain "java/lang/Comparable" (some 0) with
  accessFlags := 1537
  interfaces := #[]
  cf := some (fileOf pool3 1 #[] #[] 1537 3 #[] #[])
  fields := #[]
  methods := #[]
  instanceTypes := #[]
  staticTypes := #[]
  resolved := Array.replicate 12 none
  statics := none }

def pool4 : Array CpInfo := pool [(1, .class_ 2), (0, u "java/io/Serializable"), (0, .class_ 4), (0, u "java/lang/Object")] 2

/-- java/io/Serializable -/
def k4 : Class := { plain "java/io/Serializable" (some 0) with
  accessFlags := 1537
  interfaces := #[]
  cf := some (fileOf pool4 1 #[] #[] 1537 3 #[] #[])
  fields := #[]
  methods := #[]
  instanceTypes := #[]
  staticTypes := #[]
  resolved := Array.replicate 7 none
  statics := none }

def pool5 : Array CpInfo := pool [(2, .class_ 4), (1, u "java/lang/Enum"), (0, u "name"), (0, u "Ljava/lang/String;"), (2, u "ordinal"), (0, u "I"), (1, .class_ 14), (1, u "java/lang/Object"), (4, u "hash"), (86, .class_ 108), (1, u "java/lang/Enum$EnumDesc"), (2, .class_ 112), (0, u "java/lang/constant/Constable"), (0, .class_ 114), (0, u "java/lang/Comparable"), (0, .class_ 116), (0, u "java/io/Serializable")] 87

/-- java/lang/Enum -/
def k5 : Class := { plain "java/lang/Enum" (some 0) with
  accessFlags := 1057
  interfaces := #[2, 3, 4]
  cf := some (fileOf pool5 2 #[.nestMembers #[106]] #[] 1057 12 #[111, 113, 115] #[{ accessFlags := 18, nameIndex := 5, descriptorIndex := 6, attributes := #[] }, { accessFlags := 18, nameIndex := 9, descriptorIndex := 10, attributes := #[] }, { accessFlags := 2, nameIndex := 19, descriptorIndex := 10, attributes := #[] }])
  fields := #[{ name := "name", type := (.object "java/lang/String"), accessFlags := 18, slot := 0, constantValue := 0 }, { name := "ordinal", type := .int, accessFlags := 18, slot := 1, constantValue := 0 }, { name := "hash", type := .int, accessFlags := 2, slot := 2, constantValue := 0 }]
  methods := #[]
  instanceTypes := #[(.object "java/lang/String"), .int, .int]
  staticTypes := #[]
  resolved := Array.replicate 204 none
  statics := none }

def pool6 : Array CpInfo := pool [(1, .class_ 2), (0, u "com/example/paths_to_proofs/pathstoproofs/statechart/Term$Fit"), (0, .fieldref 1 4), (0, .nameAndType 5 6), (0, u "YES"), (0, u "Lcom/example/paths_to_proofs/pathstoproofs/statechart/Term$Fit;"), (0, .fieldref 1 8), (0, .nameAndType 9 6), (0, u "NO"), (0, .fieldref 1 11), (0, .nameAndType 12 6), (0, u "UNKNOWN"), (2, u "$VALUES"), (0, u "[Lcom/example/paths_to_proofs/pathstoproofs/statechart/Term$Fit;"), (6, .class_ 25), (1, u "java/lang/Enum"), (21, u "and"), (0, u "(Lcom/example/paths_to_proofs/pathstoproofs/statechart/Term$Fit;)Lcom/example/paths_to_proofs/pathstoproofs/statechart/Term$Fit;"), (6, .class_ 56), (0, u "com/example/paths_to_proofs/pathstoproofs/statechart/Term")] 2

def k6c0 : Code := { maxStack := 2, maxLocals := 2, code := prog_146_method_4_code, exceptionTable := #[], attributes := #[] }
def k6m0 : Method := { name := "and", desc := "(Lcom/example/paths_to_proofs/pathstoproofs/statechart/Term$Fit;)Lcom/example/paths_to_proofs/pathstoproofs/statechart/Term$Fit;", sig := { parameters := [(.object "com/example/paths_to_proofs/pathstoproofs/statechart/Term$Fit")], returnType := some (.object "com/example/paths_to_proofs/pathstoproofs/statechart/Term$Fit") }, accessFlags := 0, code := some k6c0 }
/-- com/example/paths_to_proofs/pathstoproofs/statechart/Term$Fit -/
def k6 : Class := { plain "com/example/paths_to_proofs/pathstoproofs/statechart/Term$Fit" (some 5) with
  accessFlags := 16433
  interfaces := #[]
  cf := some (fileOf pool6 1 #[.nestHost 55] #[{ accessFlags := 0, nameIndex := 47, descriptorIndex := 48, attributes := #[] }] 16433 23 #[] #[{ accessFlags := 16409, nameIndex := 5, descriptorIndex := 6, attributes := #[] }, { accessFlags := 16409, nameIndex := 9, descriptorIndex := 6, attributes := #[] }, { accessFlags := 16409, nameIndex := 12, descriptorIndex := 6, attributes := #[] }, { accessFlags := 4122, nameIndex := 15, descriptorIndex := 16, attributes := #[] }])
  fields := #[{ name := "YES", type := (.object "com/example/paths_to_proofs/pathstoproofs/statechart/Term$Fit"), accessFlags := 16409, slot := 0, constantValue := 0 }, { name := "NO", type := (.object "com/example/paths_to_proofs/pathstoproofs/statechart/Term$Fit"), accessFlags := 16409, slot := 1, constantValue := 0 }, { name := "UNKNOWN", type := (.object "com/example/paths_to_proofs/pathstoproofs/statechart/Term$Fit"), accessFlags := 16409, slot := 2, constantValue := 0 }, { name := "$VALUES", type := (.array (.object "com/example/paths_to_proofs/pathstoproofs/statechart/Term$Fit")), accessFlags := 4122, slot := 3, constantValue := 0 }]
  methods := #[k6m0]
  instanceTypes := #[(.object "java/lang/String"), .int, .int]
  staticTypes := #[(.object "com/example/paths_to_proofs/pathstoproofs/statechart/Term$Fit"), (.object "com/example/paths_to_proofs/pathstoproofs/statechart/Term$Fit"), (.object "com/example/paths_to_proofs/pathstoproofs/statechart/Term$Fit"), (.array (.object "com/example/paths_to_proofs/pathstoproofs/statechart/Term$Fit"))]
  resolved := Array.replicate 59 none
  statics := some 0 }

def pool7 : Array CpInfo := pool [(1, .class_ 2), (0, u "java/lang/Math"), (1, .class_ 6), (1, u "java/lang/Object"), (0, u "<init>"), (0, u "()V"), (89, .class_ 100), (1, u "java/lang/Math$RandomNumberGeneratorHolder"), (71, u "negativeZeroFloatBits"), (0, u "J"), (2, u "negativeZeroDoubleBits"), (24, u "min"), (43, u "$assertionsDisabled"), (0, u "Z"), (88, u "(II)I"), (2, u "twoToTheDoubleScaleDown"), (0, u "D"), (4, u "twoToTheDoubleScaleUp"), (9, u "E"), (3, u "PI"), (2, u "TAU"), (2, u "DEGREES_TO_RADIANS"), (0, u "RADIANS_TO_DEGREES")] 94

def k7m0 : Method := { name := "<init>", desc := "()V", sig := { parameters := [], returnType := none }, accessFlags := 2, code := none }
def k7c1 : Code := { maxStack := 2, maxLocals := 2, code := jdk_29_method_69_code, exceptionTable := #[], attributes := #[] }
def k7m1 : Method := { name := "min", desc := "(II)I", sig := { parameters := [.int, .int], returnType := some .int }, accessFlags := 9, code := some k7c1 }
/-- java/lang/Math -/
def k7 : Class := { plain "java/lang/Math" (some 0) with
  accessFlags := 49
  interfaces := #[]
  cf := some (fileOf pool7 1 #[.nestMembers #[98]] #[{ accessFlags := 2, nameIndex := 7, descriptorIndex := 8, attributes := #[] }, { accessFlags := 9, nameIndex := 201, descriptorIndex := 335, attributes := #[] }] 49 4 #[] #[{ accessFlags := 25, nameIndex := 354, descriptorIndex := 339, attributes := #[] }, { accessFlags := 25, nameIndex := 358, descriptorIndex := 339, attributes := #[] }, { accessFlags := 25, nameIndex := 361, descriptorIndex := 339, attributes := #[] }, { accessFlags := 26, nameIndex := 364, descriptorIndex := 339, attributes := #[] }, { accessFlags := 26, nameIndex := 365, descriptorIndex := 339, attributes := #[] }, { accessFlags := 26, nameIndex := 172, descriptorIndex := 173, attributes := #[] }, { accessFlags := 26, nameIndex := 176, descriptorIndex := 173, attributes := #[] }, { accessFlags := 8, nameIndex := 344, descriptorIndex := 339, attributes := #[] }, { accessFlags := 8, nameIndex := 338, descriptorIndex := 339, attributes := #[] }, { accessFlags := 4120, nameIndex := 245, descriptorIndex := 246, attributes := #[] }])
  fields := #[{ name := "E", type := .double, accessFlags := 25, slot := 0, constantValue := 0 }, { name := "PI", type := .double, accessFlags := 25, slot := 1, constantValue := 0 }, { name := "TAU", type := .double, accessFlags := 25, slot := 2, constantValue := 0 }, { name := "DEGREES_TO_RADIANS", type := .double, accessFlags := 26, slot := 3, constantValue := 0 }, { name := "RADIANS_TO_DEGREES", type := .double, accessFlags := 26, slot := 4, constantValue := 0 }, { name := "negativeZeroFloatBits", type := .long, accessFlags := 26, slot := 5, constantValue := 0 }, { name := "negativeZeroDoubleBits", type := .long, accessFlags := 26, slot := 6, constantValue := 0 }, { name := "twoToTheDoubleScaleUp", type := .double, accessFlags := 8, slot := 7, constantValue := 0 }, { name := "twoToTheDoubleScaleDown", type := .double, accessFlags := 8, slot := 8, constantValue := 0 }, { name := "$assertionsDisabled", type := .boolean, accessFlags := 4120, slot := 9, constantValue := 0 }]
  methods := #[k7m0, k7m1]
  instanceTypes := #[]
  staticTypes := #[.double, .double, .double, .double, .double, .long, .long, .double, .double, .boolean]
  resolved := Array.replicate 460 none
  statics := none }

def pool8 : Array CpInfo := pool [(1, u "java/lang/Cloneable"), (0, .class_ 1), (0, u "java/lang/Object"), (0, .class_ 3)] 3

/-- java/lang/Cloneable -/
def k8 : Class := { plain "java/lang/Cloneable" (some 0) with
  accessFlags := 1537
  interfaces := #[]
  cf := some (fileOf pool8 2 #[] #[] 1537 4 #[] #[])
  fields := #[]
  methods := #[]
  instanceTypes := #[]
  staticTypes := #[]
  resolved := Array.replicate 8 none
  statics := none }

/-- the primitive byte -/
def k9 : Class := { plain "byte" none with kind := .primitive 'B', accessFlags := 0x411 }
/-- [B -/
def k10 : Class := { plain "[B" (some 0) with kind := .array 9 .byte, interfaces := #[8, 4], accessFlags := 1041 }

/-- the primitive int -/
def k11 : Class := { plain "int" none with kind := .primitive 'I', accessFlags := 0x411 }
/-- [I -/
def k12 : Class := { plain "[I" (some 0) with kind := .array 11 .int, interfaces := #[8, 4], accessFlags := 1041 }

def heap : Heap := #[{ cls := 6, slots := #[.ref 1, .ref 2, .ref 3, .null], vm := .statics 6 },
  { cls := 6, slots := #[.null, .int 0, .int 0], vm := .none },
  { cls := 6, slots := #[.null, .int 1, .int 0], vm := .none },
  { cls := 6, slots := #[.null, .int 2, .int 0], vm := .none }]
def classes : Array Class := #[k0, k1, k2, k3, k4, k5, k6, k7, k8, k9, k10, k11, k12]
def interned : List (Array UInt16 × Addr) := []
def slotsUsed : Nat := 13
def theMethod : MethodId := ⟨1, 2⟩
def args0 : Array Value := #[.int 5, .int 3]
def aboutOver (below : List Frame) : State where
  vm := { classes := classes, interned := interned.toArray }
  heap := heap
  slotsUsed := slotsUsed
  threads := #[{ frames := .invoking theMethod args0 :: below }]
def below0 : List Frame := [.native { method := ⟨0, 0⟩, args := #[] }]
def about1 : State := aboutOver below0
def p0 : Program := .bare "" "" ""
def e0 : Env := launch0.env 0 0 0
theorem w_frames : about1.frames = Frame.invoking theMethod args0 :: below0 := rfl
set_option maxRecDepth 65536 in
theorem w_args : argsFit about1.vm theMethod args0 = true := by decide +kernel
set_option maxRecDepth 65536 in
theorem w_heap : heapFits about1 = true := by decide +kernel
set_option maxRecDepth 65536 in
theorem w_runnable : about1.curStatus? = some .runnable := by decide +kernel
set_option maxRecDepth 65536 in
theorem w_alone : about1.alone = true := by decide +kernel
set_option maxRecDepth 65536 in
theorem w_named : about1.methodNamed? x = some theMethod := by decide +kernel
set_option maxRecDepth 65536 in
theorem w_hears : about1.hears theMethod below0 = true := by decide +kernel
set_option maxRecDepth 65536 in
theorem w_ripe : about1.ripe theMethod args0 below0 = true := by decide +kernel
theorem w_running : about1.status = .running := rfl
set_option maxRecDepth 65536 in
theorem w_room : about1.hasRoom e0.platform room_1 = true :=
  launch0.hasRoom_least _ room_1 (by decide +kernel) (by decide +kernel) (by decide +kernel) (by decide +kernel) (by decide +kernel) (by decide +kernel)
theorem allAtoms_all (ts : List Jvm.Cond) (a : Array Jvm.Value) (st : Jvm.State) : (allAtoms ts).before a st = ts.all (fun c => c.before a st) := by
  induction ts with
  | nil => rfl
  | cons c t ih =>
    show (Jvm.Cond.and c (allAtoms t)).before a st = _
    rw [Jvm.Cond.before_and, ih, List.all_cons]
def words1 : List Jvm.Cond := Jvm.Cond.code x code maxLocals ret :: tables_1
/-- a 'code' word, met by the world's own term for the bytes: nothing is compared byte by byte -/
theorem code_word {y : MethodName} {bytes : ByteArray} {mx : Nat} {rt : Option FieldType} {a : Array Value} {s : State} {m : MethodId} {meth : Method} {c : Code} (h1 : s.methodNamed? y = some m) (h2 : s.vm.method? m = some meth) (h3 : meth.code = some c) (h4 : c.code = bytes)
    (h5 : (c.maxLocals == mx && c.exceptionTable.isEmpty && decide (c.maxStack ≤ mostOperands) && decide (meth.sig.returnType = rt) && !meth.locks && decide (parseMethodDescriptor y.desc = some meth.sig)) = true) : (Jvm.Cond.code y bytes mx rt).before a s = true := by
  simp only [Bool.and_eq_true, beq_iff_eq, Bool.not_eq_true', decide_eq_true_eq] at h5
  obtain ⟨⟨⟨⟨⟨g1, g2⟩, g3⟩, g4⟩, g5⟩, g6⟩ := h5
  simp [Cond.before, Cond.holds, Cond.value, h1, h2, h3, h4, g1, g2, g3, g4, g5, g6]
def isCode : Jvm.Cond → Bool
  | .code _ _ _ _ => true
  | _ => false
theorem all_split {L : List Jvm.Cond} {P : Jvm.Cond → Bool} (h1 : L.all (fun c => isCode c || P c) = true) (h2 : ∀ c ∈ L.filter isCode, P c = true) : L.all P = true := by
  refine List.all_eq_true.mpr fun c hc => ?_
  have h := List.all_eq_true.mp h1 c hc
  rcases Bool.eq_false_or_eq_true (isCode c) with hi | hi
  · exact h2 c (List.mem_filter.mpr ⟨hc, hi⟩)
  · simpa [hi] using h
set_option maxRecDepth 65536 in
theorem w_c0 : (Jvm.Cond.code x code maxLocals ret).before args0 about1 = true := code_word (m := ⟨1, 2⟩) (meth := k1m2) (c := k1c2) (by decide +kernel) rfl rfl rfl (by decide +kernel)
set_option maxRecDepth 65536 in
theorem w_c1 : (Jvm.Cond.code ({ cls := "com/example/paths_to_proofs/pathstoproofs/statechart/FitAndPinLaw", name := "pick", desc := "(I)Lcom/example/paths_to_proofs/pathstoproofs/statechart/Term$Fit;" } : Jvm.MethodName) method_2_code (1 : Nat) (Option.some (Jvm.ClassFile.FieldType.object "com/example/paths_to_proofs/pathstoproofs/statechart/Term$Fit"))).before args0 about1 = true := code_word (m := ⟨1, 1⟩) (meth := k1m1) (c := k1c1) (by decide +kernel) rfl rfl rfl (by decide +kernel)
set_option maxRecDepth 65536 in
theorem w_c2 : (Jvm.Cond.code ({ cls := "com/example/paths_to_proofs/pathstoproofs/statechart/Term$Fit", name := "and", desc := "(Lcom/example/paths_to_proofs/pathstoproofs/statechart/Term$Fit;)Lcom/example/paths_to_proofs/pathstoproofs/statechart/Term$Fit;" } : Jvm.MethodName) prog_146_method_4_code (2 : Nat) (Option.some (Jvm.ClassFile.FieldType.object "com/example/paths_to_proofs/pathstoproofs/statechart/Term$Fit"))).before args0 about1 = true := code_word (m := ⟨6, 0⟩) (meth := k6m0) (c := k6c0) (by decide +kernel) rfl rfl rfl (by decide +kernel)
set_option maxRecDepth 65536 in
theorem w_c3 : (Jvm.Cond.code ({ cls := "java/lang/Math", name := "min", desc := "(II)I" } : Jvm.MethodName) jdk_29_method_69_code (2 : Nat) (Option.some Jvm.ClassFile.FieldType.int)).before args0 about1 = true := code_word (m := ⟨7, 1⟩) (meth := k7m1) (c := k7c1) (by decide +kernel) rfl rfl rfl (by decide +kernel)
def codes1 : List Jvm.Cond := [Jvm.Cond.code x code maxLocals ret, Jvm.Cond.code ({ cls := "com/example/paths_to_proofs/pathstoproofs/statechart/FitAndPinLaw", name := "pick", desc := "(I)Lcom/example/paths_to_proofs/pathstoproofs/statechart/Term$Fit;" } : Jvm.MethodName) method_2_code (1 : Nat) (Option.some (Jvm.ClassFile.FieldType.object "com/example/paths_to_proofs/pathstoproofs/statechart/Term$Fit")), Jvm.Cond.code ({ cls := "com/example/paths_to_proofs/pathstoproofs/statechart/Term$Fit", name := "and", desc := "(Lcom/example/paths_to_proofs/pathstoproofs/statechart/Term$Fit;)Lcom/example/paths_to_proofs/pathstoproofs/statechart/Term$Fit;" } : Jvm.MethodName) prog_146_method_4_code (2 : Nat) (Option.some (Jvm.ClassFile.FieldType.object "com/example/paths_to_proofs/pathstoproofs/statechart/Term$Fit")), Jvm.Cond.code ({ cls := "java/lang/Math", name := "min", desc := "(II)I" } : Jvm.MethodName) jdk_29_method_69_code (2 : Nat) (Option.some Jvm.ClassFile.FieldType.int)]
set_option maxRecDepth 65536 in
theorem codes_eq : words1.filter isCode = codes1 := rfl
theorem w_codes : ∀ c ∈ words1.filter isCode, c.before args0 about1 = true := by
  rw [codes_eq]
  intro c hc
  simp only [codes1, List.mem_cons, List.not_mem_nil, or_false] at hc
  rcases hc with rfl | rfl | rfl | rfl
  · exact w_c0
  · exact w_c1
  · exact w_c2
  · exact w_c3
set_option maxRecDepth 65536 in
theorem w_t1 : (words1.take 24).all (fun c => isCode c || c.before args0 about1) = true := by decide +kernel
set_option maxRecDepth 65536 in
theorem w_t2 : (words1.drop 24).all (fun c => isCode c || c.before args0 about1) = true := by decide +kernel
theorem w_tables : (allAtoms (Jvm.Cond.code x code maxLocals ret :: tables_1)).before args0 about1 = true := by
  rw [allAtoms_all]
  show words1.all (fun c => c.before args0 about1) = true
  refine all_split ?_ w_codes
  rw [← List.take_append_drop 24 words1, List.all_append, w_t1, w_t2]
  rfl
set_option maxRecDepth 65536 in
theorem w_case : (Jvm.Cond.and given_1 narrow_1).before args0 about1 = true := by decide +kernel
theorem w_applies : (headSpec (Jvm.Cond.code x code maxLocals ret :: tables_1) room_1).applies x e0.platform about1 = true :=
  (Spec.applies_iff w_frames).mpr ⟨w_running, w_runnable, w_alone, w_named, w_hears, w_ripe, w_room, w_tables⟩
theorem atStart : AtStart classFile x code maxLocals ret World_1 tables_1 room_1 Calls_1 rest_1 Pre_1 launch0 p0 e0 about1 theMethod args0 below0 :=
  ⟨lists_1, trivial, launch0.admits_env _ _ _, launch0.least_env, fairChoices_fair.cas, fairChoices_fair.clock, w_frames, w_args, w_heap, w_applies, trivial, trivial, w_case⟩
end start1
theorem witness_1 : WitnessClaimed_1 := ⟨start1.p0, start1.e0, start1.about1, start1.theMethod, start1.args0, start1.below0, start1.atStart⟩
end Jvm.Pilot.@@N@@
