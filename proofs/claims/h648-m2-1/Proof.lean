import JvmDerived
import JvmDerived.Pilot.@@N@@Statement
import JvmDerived.Pilot.@@N@@Code
set_option linter.unusedVariables false
set_option linter.unusedSimpArgs false
namespace Jvm.Pilot.@@N@@
open Jvm Jvm.ClassFile Sem Op Lib Jvm.Free Jvm.Stand Jvm.LawKit Jvm.RoadKit Bundle Jvm.Pilot.@@N@@.Jvm.D
section OwnLayer
variable {p : Program} {l : Launch} {e : Env} {R : Room} {s : State} {m : MethodId} {args : Array Value} {below : List Frame} {meth : Method} {c : Code} {T : State} {locs : List Loc} {cells slots : Nat} {Z : State} {y : MethodName} {bs : ByteArray} {maxL : Nat} {rt : Option FieldType} {ce sl : Nat} {Q : Option Value → Heap → List Loc → Prop} {G : Outcome → State → Prop} {pc : Nat} {Ls : Array Slot} {st rest : List Value} {h : Heap} {a0 : Array Value}
/-- from S the body runs on, returns, and Q says what it leaves -/
def OwnEnds (p : Program) (e : Env) (below : List Frame) (G : Outcome → State → Prop) (S : State) : Prop :=
  ∃ s₂ o, Steps p.tables e below S s₂ ∧ s₂.status = .running ∧ Ended s₂ below o ∧ G o s₂
def OwnG (s : State) (ce sl : Nat) (Q : Option Value → Heap → List Loc → Prop) : Outcome → State → Prop := fun o s₂ => ∃ v L, o = .returned v ∧ Q v s₂.heap L ∧ FrameEnd s o s₂ L ce sl
/-- what stands throughout a body's walk -/
def OwnCx (p : Program) (s : State) (m : MethodId) (meth : Method) (c : Code) (Z : State) (y : MethodName) (bs : ByteArray) (maxL : Nat) (rt : Option FieldType) : Prop :=
  p.tables.exec = Jvm.exec ∧ Z.Warmed39 s.vm ∧ s.vm.findClass y.cls = some m.cls ∧ c.code = bs ∧ c.maxLocals = maxL ∧ meth.sig.returnType = rt ∧ meth.locks = false ∧ meth.name = y.name
/-- a body's contract over the heap h at these arguments -/
def OwnMet (l : Launch) (Z : State) (y : MethodName) (bs : ByteArray) (maxL : Nat) (rt : Option FieldType) (ws : List Jvm.Cond) (rm : Room) (as' : Array Value) (h : Heap) (Q : Option Value → Heap → List Loc → Prop) : Prop :=
  MetFree l y (head1 (Jvm.Cond.code y bs maxL rt :: ws) rm) (fun a U => a = as' ∧ Z.Warmed39 U.vm ∧ U.heap = h) (fun _ _ _ _ _ => True) (fun _ U o U' => ∃ v L, o = .returned v ∧ Q v U'.heap L ∧ FrameEnd U o U' L rm.cells rm.slots)
theorem own_nz32 {d : Int32} (q : d.toInt ≠ 0) : d ≠ 0 := fun r => q (by rw [r]; rfl)
theorem own_nz64 {d : Int64} (q : d.toInt ≠ 0) : d ≠ 0 := fun r => q (by rw [r]; rfl)
theorem own_st {S S' : State} (k : ∀ t, Steps p.tables e below S' t → Steps p.tables e below S t) (r : OwnEnds p e below G S') : OwnEnds p e below G S := by
  obtain ⟨s₂, o, h1, r⟩ := r
  exact ⟨s₂, o, k _ h1, r⟩
theorem own_tr {S S' : State} (k : Steps p.tables e below S S') (r : OwnEnds p e below G S') : OwnEnds p e below G S := own_st (fun _ q => k.trans q) r
theorem own_enter {ws : List Jvm.Cond} {rm : Room} {as' : Array Value} {f0 : MethodId → JFrame} (hp : plainFor y = true) (hf : ∀ m, entryFrame m as' maxL = f0 m)
    (H : ∀ p e s m below meth c T, Stand p l e rm s m as' below meth c T [] 0 0 → OwnCx p s m meth c Z y bs maxL rt → T.heap = h → OwnEnds p e below (OwnG s rm.cells rm.slots Q) (T.setTop (f0 m))) : OwnMet l Z y bs maxL rt ws rm as' h Q := by
  refine MetFree.of_bodySF hp hisR ?_
  intro p e s m args below meth c s₁ Bd hml0 hP hK
  obtain ⟨rfl, hZ, hh⟩ := hP
  have k := H p e s m below meth c s₁ (Stand.of_body Bd) ⟨Bd.exec, hZ, findClass_of_methodNamed Bd.named, Bd.bytes, hml0, Bd.returns, Bd.notSynchronized, (name_of_methodNamed Bd.named Bd.method).1⟩ (by rw [← hh, Bd.state]; rfl)
  rw [← hf m] at k
  exact k
theorem own_mono {ws : List Jvm.Cond} {rm : Room} {as' : Array Value} {Q' : Option Value → Heap → List Loc → Prop} (H : OwnMet l Z y bs maxL rt ws rm as' h Q) (q : ∀ v h' L, Q v h' L → Q' v h' L) : OwnMet l Z y bs maxL rt ws rm as' h Q' := by
  intro p e ha hc hk s m args below hf happ hP hK
  obtain ⟨n, o, h1, h2, h3, v, L, h4, h5, h6⟩ := H p e ha hc hk s m args below hf happ hP hK
  exact ⟨n, o, h1, h2, h3, v, L, h4, q _ _ _ h5, h6⟩
theorem own_iload (X : Stand p l e R s m args below meth c T locs cells slots) (C : OwnCx p s m meth c Z y bs maxL rt) {k : Nat} {v : Int32} (hd : decode bs pc = .ok (.iload k, 2)) (pc' : Nat) (hp : pc + 2 = pc') (hl : Ls[k]? = some (.val (.int v)))
    (hr : OwnEnds p e below G (T.setTop (mkF m pc' Ls (.int v :: st)))) : OwnEnds p e below G (T.setTop (mkF m pc Ls st)) := by
  subst hp; exact own_st (fun _ q => XS.iload X.here C.1 rfl (hb C.2.2.2.1 hd) hl q) hr
theorem own_lload (X : Stand p l e R s m args below meth c T locs cells slots) (C : OwnCx p s m meth c Z y bs maxL rt) {k : Nat} {v : Int64} (hd : decode bs pc = .ok (.lload k, 2)) (pc' : Nat) (hp : pc + 2 = pc') (hl : Ls[k]? = some (.val (.long v)))
    (hr : OwnEnds p e below G (T.setTop (mkF m pc' Ls (.long v :: st)))) : OwnEnds p e below G (T.setTop (mkF m pc Ls st)) := by
  subst hp; exact own_st (fun _ q => XS.lload X.here C.1 rfl (hb C.2.2.2.1 hd) hl q) hr
theorem own_iload_n (X : Stand p l e R s m args below meth c T locs cells slots) (C : OwnCx p s m meth c Z y bs maxL rt) {k : Fin 4} {v : Int32} (hd : decode bs pc = .ok (.iload_n k, 1)) (pc' : Nat) (hp : pc + 1 = pc') (hl : Ls[k.val]? = some (.val (.int v)))
    (hr : OwnEnds p e below G (T.setTop (mkF m pc' Ls (.int v :: st)))) : OwnEnds p e below G (T.setTop (mkF m pc Ls st)) := by
  subst hp; exact own_st (fun _ q => XS.iloadN X.here C.1 rfl (hb C.2.2.2.1 hd) hl q) hr
theorem own_lload_n (X : Stand p l e R s m args below meth c T locs cells slots) (C : OwnCx p s m meth c Z y bs maxL rt) {k : Fin 4} {v : Int64} (hd : decode bs pc = .ok (.lload_n k, 1)) (pc' : Nat) (hp : pc + 1 = pc') (hl : Ls[k.val]? = some (.val (.long v)))
    (hr : OwnEnds p e below G (T.setTop (mkF m pc' Ls (.long v :: st)))) : OwnEnds p e below G (T.setTop (mkF m pc Ls st)) := by
  subst hp; exact own_st (fun _ q => XS.lloadN X.here C.1 rfl (hb C.2.2.2.1 hd) hl q) hr
theorem own_aload (X : Stand p l e R s m args below meth c T locs cells slots) (C : OwnCx p s m meth c Z y bs maxL rt) {k : Nat} {v : Value} (hd : decode bs pc = .ok (.aload k, 2)) (pc' : Nat) (hp : pc + 2 = pc') (hl : Ls[k]? = some (.val v)) (hv : v.isRef = true)
    (hr : OwnEnds p e below G (T.setTop (mkF m pc' Ls (v :: st)))) : OwnEnds p e below G (T.setTop (mkF m pc Ls st)) := by
  subst hp; exact own_st (fun _ q => XS.aload X.here C.1 rfl (hb C.2.2.2.1 hd) hl hv q) hr
theorem own_aload_n (X : Stand p l e R s m args below meth c T locs cells slots) (C : OwnCx p s m meth c Z y bs maxL rt) {k : Fin 4} {v : Value} (hd : decode bs pc = .ok (.aload_n k, 1)) (pc' : Nat) (hp : pc + 1 = pc') (hl : Ls[k.val]? = some (.val v)) (hv : v.isRef = true)
    (hr : OwnEnds p e below G (T.setTop (mkF m pc' Ls (v :: st)))) : OwnEnds p e below G (T.setTop (mkF m pc Ls st)) := by
  subst hp; exact own_st (fun _ q => XS.aloadN X.here C.1 rfl (hb C.2.2.2.1 hd) hl hv q) hr
theorem own_istore (X : Stand p l e R s m args below meth c T locs cells slots) (C : OwnCx p s m meth c Z y bs maxL rt) {k : Nat} {v : Int32} (hd : decode bs pc = .ok (.istore k, 2)) (pc' : Nat) (hp : pc + 2 = pc') (L' : Array Slot) (hl : storeLocals Ls k (.int v) = some L')
    (hr : OwnEnds p e below G (T.setTop (mkF m pc' L' st))) : OwnEnds p e below G (T.setTop (mkF m pc Ls (.int v :: st))) := by
  subst hp; exact own_st (fun _ q => XS.istore X.here C.1 rfl (hb C.2.2.2.1 hd) rfl hl q) hr
theorem own_lstore (X : Stand p l e R s m args below meth c T locs cells slots) (C : OwnCx p s m meth c Z y bs maxL rt) {k : Nat} {v : Int64} (hd : decode bs pc = .ok (.lstore k, 2)) (pc' : Nat) (hp : pc + 2 = pc') (L' : Array Slot) (hl : storeLocals Ls k (.long v) = some L')
    (hr : OwnEnds p e below G (T.setTop (mkF m pc' L' st))) : OwnEnds p e below G (T.setTop (mkF m pc Ls (.long v :: st))) := by
  subst hp; exact own_st (fun _ q => XS.lstore X.here C.1 rfl (hb C.2.2.2.1 hd) rfl hl q) hr
theorem own_istore_n (X : Stand p l e R s m args below meth c T locs cells slots) (C : OwnCx p s m meth c Z y bs maxL rt) {k : Fin 4} {v : Int32} (hd : decode bs pc = .ok (.istore_n k, 1)) (pc' : Nat) (hp : pc + 1 = pc') (L' : Array Slot) (hl : storeLocals Ls k.val (.int v) = some L')
    (hr : OwnEnds p e below G (T.setTop (mkF m pc' L' st))) : OwnEnds p e below G (T.setTop (mkF m pc Ls (.int v :: st))) := by
  subst hp; exact own_st (fun _ q => XS.istoreN X.here C.1 rfl (hb C.2.2.2.1 hd) rfl hl q) hr
theorem own_lstore_n (X : Stand p l e R s m args below meth c T locs cells slots) (C : OwnCx p s m meth c Z y bs maxL rt) {k : Fin 4} {v : Int64} (hd : decode bs pc = .ok (.lstore_n k, 1)) (pc' : Nat) (hp : pc + 1 = pc') (L' : Array Slot) (hl : storeLocals Ls k.val (.long v) = some L')
    (hr : OwnEnds p e below G (T.setTop (mkF m pc' L' st))) : OwnEnds p e below G (T.setTop (mkF m pc Ls (.long v :: st))) := by
  subst hp; exact own_st (fun _ q => XS.lstoreN X.here C.1 rfl (hb C.2.2.2.1 hd) rfl hl q) hr
theorem own_astore (X : Stand p l e R s m args below meth c T locs cells slots) (C : OwnCx p s m meth c Z y bs maxL rt) {k : Nat} {v : Value} (hd : decode bs pc = .ok (.astore k, 2)) (pc' : Nat) (hp : pc + 2 = pc') (hv : v.isRef = true) (L' : Array Slot) (hl : storeLocals Ls k v = some L')
    (hr : OwnEnds p e below G (T.setTop (mkF m pc' L' st))) : OwnEnds p e below G (T.setTop (mkF m pc Ls (v :: st))) := by
  subst hp; exact own_st (fun _ q => XS.astore X.here C.1 rfl (hb C.2.2.2.1 hd) rfl hv hl q) hr
theorem own_astore_n (X : Stand p l e R s m args below meth c T locs cells slots) (C : OwnCx p s m meth c Z y bs maxL rt) {k : Fin 4} {v : Value} (hd : decode bs pc = .ok (.astore_n k, 1)) (pc' : Nat) (hp : pc + 1 = pc') (hv : v.isRef = true) (L' : Array Slot) (hl : storeLocals Ls k.val v = some L')
    (hr : OwnEnds p e below G (T.setTop (mkF m pc' L' st))) : OwnEnds p e below G (T.setTop (mkF m pc Ls (v :: st))) := by
  subst hp; exact own_st (fun _ q => XS.astoreN X.here C.1 rfl (hb C.2.2.2.1 hd) rfl hv hl q) hr
theorem own_iinc (X : Stand p l e R s m args below meth c T locs cells slots) (C : OwnCx p s m meth c Z y bs maxL rt) {k : Nat} {cst : Int} {v : Int32} (hd : decode bs pc = .ok (.iinc k cst, 3)) (pc' : Nat) (hp : pc + 3 = pc') (hl : Ls[k]? = some (.val (.int v))) (w : Int32) (hw : Int32.ofInt cst = w) (F : Int32 → Array Slot) (hl' : ∀ z, storeLocals Ls k (.int z) = some (F z))
    (hr : ∀ z, z = v + w → OwnEnds p e below G (T.setTop (mkF m pc' (F z) st))) : OwnEnds p e below G (T.setTop (mkF m pc Ls st)) := by
  subst hp hw; exact own_st (fun _ q => XS.iinc X.here C.1 rfl (hb C.2.2.2.1 hd) hl (hl' _) q) (hr _ rfl)
theorem own_iconst (X : Stand p l e R s m args below meth c T locs cells slots) (C : OwnCx p s m meth c Z y bs maxL rt) {i : Int} (hd : decode bs pc = .ok (.iconst i, 1)) (pc' : Nat) (hp : pc + 1 = pc') (k : Int32) (hk : Int32.ofInt i = k)
    (hr : OwnEnds p e below G (T.setTop (mkF m pc' Ls (.int k :: st)))) : OwnEnds p e below G (T.setTop (mkF m pc Ls st)) := by
  subst hp hk; exact own_st (fun _ q => XS.iconst X.here C.1 rfl (hb C.2.2.2.1 hd) q) hr
theorem own_bipush (X : Stand p l e R s m args below meth c T locs cells slots) (C : OwnCx p s m meth c Z y bs maxL rt) {i : Int} (hd : decode bs pc = .ok (.bipush i, 2)) (pc' : Nat) (hp : pc + 2 = pc') (k : Int32) (hk : (Int8.ofInt i).toInt32 = k)
    (hr : OwnEnds p e below G (T.setTop (mkF m pc' Ls (.int k :: st)))) : OwnEnds p e below G (T.setTop (mkF m pc Ls st)) := by
  subst hp hk; exact own_st (fun _ q => XS.bipush X.here C.1 rfl (hb C.2.2.2.1 hd) q) hr
theorem own_sipush (X : Stand p l e R s m args below meth c T locs cells slots) (C : OwnCx p s m meth c Z y bs maxL rt) {i : Int} (hd : decode bs pc = .ok (.sipush i, 3)) (pc' : Nat) (hp : pc + 3 = pc') (k : Int32) (hk : (Int16.ofInt i).toInt32 = k)
    (hr : OwnEnds p e below G (T.setTop (mkF m pc' Ls (.int k :: st)))) : OwnEnds p e below G (T.setTop (mkF m pc Ls st)) := by
  subst hp hk; exact own_st (fun _ q => XS.sipush X.here C.1 rfl (hb C.2.2.2.1 hd) q) hr
theorem own_lconst (X : Stand p l e R s m args below meth c T locs cells slots) (C : OwnCx p s m meth c Z y bs maxL rt) {i : Fin 2} (hd : decode bs pc = .ok (.lconst i, 1)) (pc' : Nat) (hp : pc + 1 = pc') (k : Int64) (hk : Int64.ofNat i = k)
    (hr : OwnEnds p e below G (T.setTop (mkF m pc' Ls (.long k :: st)))) : OwnEnds p e below G (T.setTop (mkF m pc Ls st)) := by
  subst hp hk; exact own_st (fun _ q => XS.lconst X.here C.1 rfl (hb C.2.2.2.1 hd) q) hr
theorem own_aconst_null (X : Stand p l e R s m args below meth c T locs cells slots) (C : OwnCx p s m meth c Z y bs maxL rt) (hd : decode bs pc = .ok (.aconst_null, 1)) (pc' : Nat) (hp : pc + 1 = pc')
    (hr : OwnEnds p e below G (T.setTop (mkF m pc' Ls (.null :: st)))) : OwnEnds p e below G (T.setTop (mkF m pc Ls st)) := by
  subst hp; exact own_st (fun _ q => XS.aconstNull X.here C.1 rfl (hb C.2.2.2.1 hd) q) hr
theorem own_ldc (X : Stand p l e R s m args below meth c T locs cells slots) (C : OwnCx p s m meth c Z y bs maxL rt) {i : Nat} {v : Int32} (w : (Jvm.Cond.constant y.cls i v).before a0 Z = true) (hd : decode bs pc = .ok (.ldc i, 2)) (pc' : Nat) (hp : pc + 2 = pc')
    (hr : OwnEnds p e below G (T.setTop (mkF m pc' Ls (.int v :: st)))) : OwnEnds p e below G (T.setTop (mkF m pc Ls st)) := by
  subst hp; exact own_st (X.ldcInt C.1 C.2.2.1 (mvT C.2.1 w) (g := mkF m pc Ls st) rfl (hb C.2.2.2.1 hd)) hr
theorem own_ldcw (X : Stand p l e R s m args below meth c T locs cells slots) (C : OwnCx p s m meth c Z y bs maxL rt) {i : Nat} {v : Int32} (w : (Jvm.Cond.constant y.cls i v).before a0 Z = true) (hd : decode bs pc = .ok (.ldc_w i, 3)) (pc' : Nat) (hp : pc + 3 = pc')
    (hr : OwnEnds p e below G (T.setTop (mkF m pc' Ls (.int v :: st)))) : OwnEnds p e below G (T.setTop (mkF m pc Ls st)) := by
  subst hp; exact own_st (X.ldcwInt C.1 C.2.2.1 (mvT C.2.1 w) (g := mkF m pc Ls st) rfl (hb C.2.2.2.1 hd)) hr
theorem own_ldc2 (X : Stand p l e R s m args below meth c T locs cells slots) (C : OwnCx p s m meth c Z y bs maxL rt) {i : Nat} {v : Int64} (w : (Jvm.Cond.constantLong y.cls i v).before a0 Z = true) (hd : decode bs pc = .ok (.ldc2_w i, 3)) (pc' : Nat) (hp : pc + 3 = pc')
    (hr : OwnEnds p e below G (T.setTop (mkF m pc' Ls (.long v :: st)))) : OwnEnds p e below G (T.setTop (mkF m pc Ls st)) := by
  subst hp; exact own_st (X.ldc2Long C.1 C.2.2.1 (mvT C.2.1 w) (g := mkF m pc Ls st) rfl (hb C.2.2.2.1 hd)) hr
theorem own_iadd (X : Stand p l e R s m args below meth c T locs cells slots) (C : OwnCx p s m meth c Z y bs maxL rt) {a b : Int32} (hd : decode bs pc = .ok (.iadd, 1)) (pc' : Nat) (hp : pc + 1 = pc')
    (hr : ∀ z, z = a + b → OwnEnds p e below G (T.setTop (mkF m pc' Ls (.int z :: st)))) : OwnEnds p e below G (T.setTop (mkF m pc Ls (.int b :: .int a :: st))) := by
  subst hp; exact own_st (fun _ q => XS.iadd X.here C.1 rfl (hb C.2.2.2.1 hd) rfl q) (hr _ rfl)
theorem own_isub (X : Stand p l e R s m args below meth c T locs cells slots) (C : OwnCx p s m meth c Z y bs maxL rt) {a b : Int32} (hd : decode bs pc = .ok (.isub, 1)) (pc' : Nat) (hp : pc + 1 = pc')
    (hr : ∀ z, z = a - b → OwnEnds p e below G (T.setTop (mkF m pc' Ls (.int z :: st)))) : OwnEnds p e below G (T.setTop (mkF m pc Ls (.int b :: .int a :: st))) := by
  subst hp; exact own_st (fun _ q => XS.isub X.here C.1 rfl (hb C.2.2.2.1 hd) rfl q) (hr _ rfl)
theorem own_imul (X : Stand p l e R s m args below meth c T locs cells slots) (C : OwnCx p s m meth c Z y bs maxL rt) {a b : Int32} (hd : decode bs pc = .ok (.imul, 1)) (pc' : Nat) (hp : pc + 1 = pc')
    (hr : ∀ z, z = a * b → OwnEnds p e below G (T.setTop (mkF m pc' Ls (.int z :: st)))) : OwnEnds p e below G (T.setTop (mkF m pc Ls (.int b :: .int a :: st))) := by
  subst hp; exact own_st (fun _ q => XS.imul X.here C.1 rfl (hb C.2.2.2.1 hd) rfl q) (hr _ rfl)
theorem own_iand (X : Stand p l e R s m args below meth c T locs cells slots) (C : OwnCx p s m meth c Z y bs maxL rt) {a b : Int32} (hd : decode bs pc = .ok (.iand, 1)) (pc' : Nat) (hp : pc + 1 = pc')
    (hr : ∀ z, z = a &&& b → OwnEnds p e below G (T.setTop (mkF m pc' Ls (.int z :: st)))) : OwnEnds p e below G (T.setTop (mkF m pc Ls (.int b :: .int a :: st))) := by
  subst hp; exact own_st (fun _ q => XS.iand X.here C.1 rfl (hb C.2.2.2.1 hd) rfl q) (hr _ rfl)
theorem own_ior (X : Stand p l e R s m args below meth c T locs cells slots) (C : OwnCx p s m meth c Z y bs maxL rt) {a b : Int32} (hd : decode bs pc = .ok (.ior, 1)) (pc' : Nat) (hp : pc + 1 = pc')
    (hr : ∀ z, z = a ||| b → OwnEnds p e below G (T.setTop (mkF m pc' Ls (.int z :: st)))) : OwnEnds p e below G (T.setTop (mkF m pc Ls (.int b :: .int a :: st))) := by
  subst hp; exact own_st (fun _ q => XS.ior X.here C.1 rfl (hb C.2.2.2.1 hd) rfl q) (hr _ rfl)
theorem own_ixor (X : Stand p l e R s m args below meth c T locs cells slots) (C : OwnCx p s m meth c Z y bs maxL rt) {a b : Int32} (hd : decode bs pc = .ok (.ixor, 1)) (pc' : Nat) (hp : pc + 1 = pc')
    (hr : ∀ z, z = a ^^^ b → OwnEnds p e below G (T.setTop (mkF m pc' Ls (.int z :: st)))) : OwnEnds p e below G (T.setTop (mkF m pc Ls (.int b :: .int a :: st))) := by
  subst hp; exact own_st (fun _ q => XS.ixor X.here C.1 rfl (hb C.2.2.2.1 hd) rfl q) (hr _ rfl)
theorem own_idiv (X : Stand p l e R s m args below meth c T locs cells slots) (C : OwnCx p s m meth c Z y bs maxL rt) {a b : Int32} (hd : decode bs pc = .ok (.idiv, 1)) (pc' : Nat) (hp : pc + 1 = pc') (hz : b ≠ 0)
    (hr : ∀ z, z = a / b → OwnEnds p e below G (T.setTop (mkF m pc' Ls (.int z :: st)))) : OwnEnds p e below G (T.setTop (mkF m pc Ls (.int b :: .int a :: st))) := by
  subst hp; exact own_st (fun _ q => XS.idiv X.here C.1 rfl (hb C.2.2.2.1 hd) rfl hz q) (hr _ rfl)
theorem own_ladd (X : Stand p l e R s m args below meth c T locs cells slots) (C : OwnCx p s m meth c Z y bs maxL rt) {a b : Int64} (hd : decode bs pc = .ok (.ladd, 1)) (pc' : Nat) (hp : pc + 1 = pc')
    (hr : ∀ z, z = a + b → OwnEnds p e below G (T.setTop (mkF m pc' Ls (.long z :: st)))) : OwnEnds p e below G (T.setTop (mkF m pc Ls (.long b :: .long a :: st))) := by
  subst hp; exact own_st (fun _ q => XS.ladd X.here C.1 rfl (hb C.2.2.2.1 hd) rfl q) (hr _ rfl)
theorem own_lsub (X : Stand p l e R s m args below meth c T locs cells slots) (C : OwnCx p s m meth c Z y bs maxL rt) {a b : Int64} (hd : decode bs pc = .ok (.lsub, 1)) (pc' : Nat) (hp : pc + 1 = pc')
    (hr : ∀ z, z = a - b → OwnEnds p e below G (T.setTop (mkF m pc' Ls (.long z :: st)))) : OwnEnds p e below G (T.setTop (mkF m pc Ls (.long b :: .long a :: st))) := by
  subst hp; exact own_st (fun _ q => XS.lsub X.here C.1 rfl (hb C.2.2.2.1 hd) rfl q) (hr _ rfl)
theorem own_lmul (X : Stand p l e R s m args below meth c T locs cells slots) (C : OwnCx p s m meth c Z y bs maxL rt) {a b : Int64} (hd : decode bs pc = .ok (.lmul, 1)) (pc' : Nat) (hp : pc + 1 = pc')
    (hr : ∀ z, z = a * b → OwnEnds p e below G (T.setTop (mkF m pc' Ls (.long z :: st)))) : OwnEnds p e below G (T.setTop (mkF m pc Ls (.long b :: .long a :: st))) := by
  subst hp; exact own_st (fun _ q => XS.lmul X.here C.1 rfl (hb C.2.2.2.1 hd) rfl q) (hr _ rfl)
theorem own_land (X : Stand p l e R s m args below meth c T locs cells slots) (C : OwnCx p s m meth c Z y bs maxL rt) {a b : Int64} (hd : decode bs pc = .ok (.land, 1)) (pc' : Nat) (hp : pc + 1 = pc')
    (hr : ∀ z, z = a &&& b → OwnEnds p e below G (T.setTop (mkF m pc' Ls (.long z :: st)))) : OwnEnds p e below G (T.setTop (mkF m pc Ls (.long b :: .long a :: st))) := by
  subst hp; exact own_st (fun _ q => XS.land X.here C.1 rfl (hb C.2.2.2.1 hd) rfl q) (hr _ rfl)
theorem own_lor (X : Stand p l e R s m args below meth c T locs cells slots) (C : OwnCx p s m meth c Z y bs maxL rt) {a b : Int64} (hd : decode bs pc = .ok (.lor, 1)) (pc' : Nat) (hp : pc + 1 = pc')
    (hr : ∀ z, z = a ||| b → OwnEnds p e below G (T.setTop (mkF m pc' Ls (.long z :: st)))) : OwnEnds p e below G (T.setTop (mkF m pc Ls (.long b :: .long a :: st))) := by
  subst hp; exact own_st (fun _ q => XS.lor X.here C.1 rfl (hb C.2.2.2.1 hd) rfl q) (hr _ rfl)
theorem own_lxor (X : Stand p l e R s m args below meth c T locs cells slots) (C : OwnCx p s m meth c Z y bs maxL rt) {a b : Int64} (hd : decode bs pc = .ok (.lxor, 1)) (pc' : Nat) (hp : pc + 1 = pc')
    (hr : ∀ z, z = a ^^^ b → OwnEnds p e below G (T.setTop (mkF m pc' Ls (.long z :: st)))) : OwnEnds p e below G (T.setTop (mkF m pc Ls (.long b :: .long a :: st))) := by
  subst hp; exact own_st (fun _ q => XS.lxor X.here C.1 rfl (hb C.2.2.2.1 hd) rfl q) (hr _ rfl)
theorem own_ldiv (X : Stand p l e R s m args below meth c T locs cells slots) (C : OwnCx p s m meth c Z y bs maxL rt) {a b : Int64} (hd : decode bs pc = .ok (.ldiv, 1)) (pc' : Nat) (hp : pc + 1 = pc') (hz : b ≠ 0)
    (hr : ∀ z, z = a / b → OwnEnds p e below G (T.setTop (mkF m pc' Ls (.long z :: st)))) : OwnEnds p e below G (T.setTop (mkF m pc Ls (.long b :: .long a :: st))) := by
  subst hp; exact own_st (fun _ q => XS.ldiv X.here C.1 rfl (hb C.2.2.2.1 hd) rfl hz q) (hr _ rfl)
theorem own_irem (X : Stand p l e R s m args below meth c T locs cells slots) (C : OwnCx p s m meth c Z y bs maxL rt) {a b : Int32} (hd : decode bs pc = .ok (.irem, 1)) (pc' : Nat) (hp : pc + 1 = pc') (hz : b ≠ 0)
    (hr : ∀ z, z = a % b → OwnEnds p e below G (T.setTop (mkF m pc' Ls (.int z :: st)))) : OwnEnds p e below G (T.setTop (mkF m pc Ls (.int b :: .int a :: st))) := by
  subst hp; exact own_st (fun _ q => iremM X C.1 rfl (hb C.2.2.2.1 hd) rfl hz q) (hr _ rfl)
theorem own_lrem (X : Stand p l e R s m args below meth c T locs cells slots) (C : OwnCx p s m meth c Z y bs maxL rt) {a b : Int64} (hd : decode bs pc = .ok (.lrem, 1)) (pc' : Nat) (hp : pc + 1 = pc') (hz : b ≠ 0)
    (hr : ∀ z, z = a % b → OwnEnds p e below G (T.setTop (mkF m pc' Ls (.long z :: st)))) : OwnEnds p e below G (T.setTop (mkF m pc Ls (.long b :: .long a :: st))) := by
  subst hp; exact own_st (fun _ q => XS.lrem X.here C.1 rfl (hb C.2.2.2.1 hd) rfl hz q) (hr _ (lrem_mod a b))
theorem own_ishl (X : Stand p l e R s m args below meth c T locs cells slots) (C : OwnCx p s m meth c Z y bs maxL rt) {a : Int32} {b : Int32} (hd : decode bs pc = .ok (.ishl, 1)) (pc' : Nat) (hp : pc + 1 = pc')
    (hr : ∀ z, z = (a <<< (b &&& 31)) → OwnEnds p e below G (T.setTop (mkF m pc' Ls (.int z :: st)))) : OwnEnds p e below G (T.setTop (mkF m pc Ls (.int b :: .int a :: st))) := by
  subst hp; exact own_st (fun _ q => XS.ishl X.here C.1 rfl (hb C.2.2.2.1 hd) rfl q) (hr _ rfl)
theorem own_ishr (X : Stand p l e R s m args below meth c T locs cells slots) (C : OwnCx p s m meth c Z y bs maxL rt) {a : Int32} {b : Int32} (hd : decode bs pc = .ok (.ishr, 1)) (pc' : Nat) (hp : pc + 1 = pc')
    (hr : ∀ z, z = (a >>> (b &&& 31)) → OwnEnds p e below G (T.setTop (mkF m pc' Ls (.int z :: st)))) : OwnEnds p e below G (T.setTop (mkF m pc Ls (.int b :: .int a :: st))) := by
  subst hp; exact own_st (fun _ q => XS.ishr X.here C.1 rfl (hb C.2.2.2.1 hd) rfl q) (hr _ rfl)
theorem own_iushr (X : Stand p l e R s m args below meth c T locs cells slots) (C : OwnCx p s m meth c Z y bs maxL rt) {a : Int32} {b : Int32} (hd : decode bs pc = .ok (.iushr, 1)) (pc' : Nat) (hp : pc + 1 = pc')
    (hr : ∀ z, z = ((a.toUInt32 >>> (b &&& 31).toUInt32).toInt32) → OwnEnds p e below G (T.setTop (mkF m pc' Ls (.int z :: st)))) : OwnEnds p e below G (T.setTop (mkF m pc Ls (.int b :: .int a :: st))) := by
  subst hp; exact own_st (fun _ q => XS.iushr X.here C.1 rfl (hb C.2.2.2.1 hd) rfl q) (hr _ rfl)
theorem own_lshl (X : Stand p l e R s m args below meth c T locs cells slots) (C : OwnCx p s m meth c Z y bs maxL rt) {a : Int64} {b : Int32} (hd : decode bs pc = .ok (.lshl, 1)) (pc' : Nat) (hp : pc + 1 = pc')
    (hr : ∀ z, z = (a <<< (b &&& 0x3f).toInt64) → OwnEnds p e below G (T.setTop (mkF m pc' Ls (.long z :: st)))) : OwnEnds p e below G (T.setTop (mkF m pc Ls (.int b :: .long a :: st))) := by
  subst hp; exact own_st (fun _ q => XS.lshl X.here C.1 rfl (hb C.2.2.2.1 hd) rfl q) (hr _ rfl)
theorem own_lshr (X : Stand p l e R s m args below meth c T locs cells slots) (C : OwnCx p s m meth c Z y bs maxL rt) {a : Int64} {b : Int32} (hd : decode bs pc = .ok (.lshr, 1)) (pc' : Nat) (hp : pc + 1 = pc')
    (hr : ∀ z, z = (a >>> (b &&& 0x3f).toInt64) → OwnEnds p e below G (T.setTop (mkF m pc' Ls (.long z :: st)))) : OwnEnds p e below G (T.setTop (mkF m pc Ls (.int b :: .long a :: st))) := by
  subst hp; exact own_st (fun _ q => XS.lshr X.here C.1 rfl (hb C.2.2.2.1 hd) rfl q) (hr _ rfl)
theorem own_lushr (X : Stand p l e R s m args below meth c T locs cells slots) (C : OwnCx p s m meth c Z y bs maxL rt) {a : Int64} {b : Int32} (hd : decode bs pc = .ok (.lushr, 1)) (pc' : Nat) (hp : pc + 1 = pc')
    (hr : ∀ z, z = ((a.toUInt64 >>> (b &&& 0x3f).toInt64.toUInt64).toInt64) → OwnEnds p e below G (T.setTop (mkF m pc' Ls (.long z :: st)))) : OwnEnds p e below G (T.setTop (mkF m pc Ls (.int b :: .long a :: st))) := by
  subst hp; exact own_st (fun _ q => XS.lushr X.here C.1 rfl (hb C.2.2.2.1 hd) rfl q) (hr _ rfl)
theorem own_ineg (X : Stand p l e R s m args below meth c T locs cells slots) (C : OwnCx p s m meth c Z y bs maxL rt) {a : Int32} (hd : decode bs pc = .ok (.ineg, 1)) (pc' : Nat) (hp : pc + 1 = pc')
    (hr : ∀ z, z = -a → OwnEnds p e below G (T.setTop (mkF m pc' Ls (.int z :: st)))) : OwnEnds p e below G (T.setTop (mkF m pc Ls (.int a :: st))) := by
  subst hp; exact own_st (fun _ q => XS.ineg X.here C.1 rfl (hb C.2.2.2.1 hd) rfl q) (hr _ rfl)
theorem own_lneg (X : Stand p l e R s m args below meth c T locs cells slots) (C : OwnCx p s m meth c Z y bs maxL rt) {a : Int64} (hd : decode bs pc = .ok (.lneg, 1)) (pc' : Nat) (hp : pc + 1 = pc')
    (hr : ∀ z, z = -a → OwnEnds p e below G (T.setTop (mkF m pc' Ls (.long z :: st)))) : OwnEnds p e below G (T.setTop (mkF m pc Ls (.long a :: st))) := by
  subst hp; exact own_st (fun _ q => XS.lneg X.here C.1 rfl (hb C.2.2.2.1 hd) rfl q) (hr _ rfl)
theorem own_i2l (X : Stand p l e R s m args below meth c T locs cells slots) (C : OwnCx p s m meth c Z y bs maxL rt) {a : Int32} (hd : decode bs pc = .ok (.i2l, 1)) (pc' : Nat) (hp : pc + 1 = pc')
    (hr : ∀ z, z = a.toInt64 → OwnEnds p e below G (T.setTop (mkF m pc' Ls (.long z :: st)))) : OwnEnds p e below G (T.setTop (mkF m pc Ls (.int a :: st))) := by
  subst hp; exact own_st (fun _ q => XS.i2l X.here C.1 rfl (hb C.2.2.2.1 hd) rfl q) (hr _ rfl)
theorem own_l2i (X : Stand p l e R s m args below meth c T locs cells slots) (C : OwnCx p s m meth c Z y bs maxL rt) {a : Int64} (hd : decode bs pc = .ok (.l2i, 1)) (pc' : Nat) (hp : pc + 1 = pc')
    (hr : ∀ z, z = a.toInt32 → OwnEnds p e below G (T.setTop (mkF m pc' Ls (.int z :: st)))) : OwnEnds p e below G (T.setTop (mkF m pc Ls (.long a :: st))) := by
  subst hp; exact own_st (fun _ q => XS.l2i X.here C.1 rfl (hb C.2.2.2.1 hd) rfl q) (hr _ rfl)
theorem own_i2b (X : Stand p l e R s m args below meth c T locs cells slots) (C : OwnCx p s m meth c Z y bs maxL rt) {a : Int32} (hd : decode bs pc = .ok (.i2b, 1)) (pc' : Nat) (hp : pc + 1 = pc')
    (hr : ∀ z, z = a.toInt8.toInt32 → OwnEnds p e below G (T.setTop (mkF m pc' Ls (.int z :: st)))) : OwnEnds p e below G (T.setTop (mkF m pc Ls (.int a :: st))) := by
  subst hp; exact own_st (fun _ q => XS.i2b X.here C.1 rfl (hb C.2.2.2.1 hd) rfl q) (hr _ rfl)
theorem own_i2s (X : Stand p l e R s m args below meth c T locs cells slots) (C : OwnCx p s m meth c Z y bs maxL rt) {a : Int32} (hd : decode bs pc = .ok (.i2s, 1)) (pc' : Nat) (hp : pc + 1 = pc')
    (hr : ∀ z, z = a.toInt16.toInt32 → OwnEnds p e below G (T.setTop (mkF m pc' Ls (.int z :: st)))) : OwnEnds p e below G (T.setTop (mkF m pc Ls (.int a :: st))) := by
  subst hp; exact own_st (fun _ q => XS.i2s X.here C.1 rfl (hb C.2.2.2.1 hd) rfl q) (hr _ rfl)
theorem own_i2c (X : Stand p l e R s m args below meth c T locs cells slots) (C : OwnCx p s m meth c Z y bs maxL rt) {a : Int32} (hd : decode bs pc = .ok (.i2c, 1)) (pc' : Nat) (hp : pc + 1 = pc')
    (hr : ∀ z, z = a.toUInt32.toUInt16.toUInt32.toInt32 → OwnEnds p e below G (T.setTop (mkF m pc' Ls (.int z :: st)))) : OwnEnds p e below G (T.setTop (mkF m pc Ls (.int a :: st))) := by
  subst hp; exact own_st (fun _ q => XS.i2c X.here C.1 rfl (hb C.2.2.2.1 hd) rfl q) (hr _ rfl)
theorem own_lcmp (X : Stand p l e R s m args below meth c T locs cells slots) (C : OwnCx p s m meth c Z y bs maxL rt) {a b : Int64} (hd : decode bs pc = .ok (.lcmp, 1)) (pc' : Nat) (hp : pc + 1 = pc')
    (hr : ∀ z : Int32, (a.toInt < b.toInt → z.toInt = -1) → (a.toInt = b.toInt → z.toInt = 0) → (b.toInt < a.toInt → z.toInt = 1) → OwnEnds p e below G (T.setTop (mkF m pc' Ls (.int z :: st)))) : OwnEnds p e below G (T.setTop (mkF m pc Ls (.long b :: .long a :: st))) := by
  subst hp; exact own_st (fun _ q => XS.lcmp X.here C.1 rfl (hb C.2.2.2.1 hd) rfl q) (hr _ (c_lcmp a b).1 (c_lcmp a b).2.1 (c_lcmp a b).2.2)
theorem own_dup (X : Stand p l e R s m args below meth c T locs cells slots) (C : OwnCx p s m meth c Z y bs maxL rt) {v : Value} (hd : decode bs pc = .ok (.dup, 1)) (pc' : Nat) (hp : pc + 1 = pc') (hc : v.category = 1)
    (hr : OwnEnds p e below G (T.setTop (mkF m pc' Ls (v :: v :: st)))) : OwnEnds p e below G (T.setTop (mkF m pc Ls (v :: st))) := by
  subst hp; exact own_st (fun _ q => XS.dup X.here C.1 rfl (hb C.2.2.2.1 hd) rfl hc q) hr
theorem own_dup_x1 (X : Stand p l e R s m args below meth c T locs cells slots) (C : OwnCx p s m meth c Z y bs maxL rt) {v w : Value} (hd : decode bs pc = .ok (.dup_x1, 1)) (pc' : Nat) (hp : pc + 1 = pc') (hc : v.category = 1) (hc' : w.category = 1)
    (hr : OwnEnds p e below G (T.setTop (mkF m pc' Ls (v :: w :: v :: st)))) : OwnEnds p e below G (T.setTop (mkF m pc Ls (v :: w :: st))) := by
  subst hp; exact own_st (fun _ q => XS.dupX1 X.here C.1 rfl (hb C.2.2.2.1 hd) rfl hc hc' q) hr
theorem own_pop (X : Stand p l e R s m args below meth c T locs cells slots) (C : OwnCx p s m meth c Z y bs maxL rt) {v : Value} (hd : decode bs pc = .ok (.pop, 1)) (pc' : Nat) (hp : pc + 1 = pc') (hc : v.category = 1)
    (hr : OwnEnds p e below G (T.setTop (mkF m pc' Ls st))) : OwnEnds p e below G (T.setTop (mkF m pc Ls (v :: st))) := by
  subst hp; exact own_st (fun _ q => XS.pop X.here C.1 rfl (hb C.2.2.2.1 hd) rfl hc q) hr
theorem own_dup2 (X : Stand p l e R s m args below meth c T locs cells slots) (C : OwnCx p s m meth c Z y bs maxL rt) {v w : Value} (hd : decode bs pc = .ok (.dup2, 1)) (pc' : Nat) (hp : pc + 1 = pc') (hc : v.category = 1) (hc' : w.category = 1)
    (hr : OwnEnds p e below G (T.setTop (mkF m pc' Ls (v :: w :: v :: w :: st)))) : OwnEnds p e below G (T.setTop (mkF m pc Ls (v :: w :: st))) := by
  subst hp; exact own_st (fun _ q => XT.dup2 X.here C.1 rfl (hb C.2.2.2.1 hd) rfl hc hc' q) hr
theorem own_goto (X : Stand p l e R s m args below meth c T locs cells slots) (C : OwnCx p s m meth c Z y bs maxL rt) {o : Int} (hd : decode bs pc = .ok (.goto o, 3)) (pc' : Nat) (ho : 0 ≤ (pc : Int) + o) (hp : ((pc : Int) + o).toNat = pc')
    (hr : OwnEnds p e below G (T.setTop (mkF m pc' Ls st))) : OwnEnds p e below G (T.setTop (mkF m pc Ls st)) :=
  own_st (fun _ q => XS.goto X.here C.1 rfl rfl (hb C.2.2.2.1 hd) ho hp q) hr
theorem own_icmplt (X : Stand p l e R s m args below meth c T locs cells slots) (C : OwnCx p s m meth c Z y bs maxL rt) {x' y' : Int32} {o : Int} (hd : decode bs pc = .ok (.if_icmp .lt o, 3)) (pn pc' : Nat) (hpn : pc + 3 = pn) (ho : 0 ≤ (pc : Int) + o) (hp : ((pc : Int) + o).toNat = pc') {i : Int} (hi : x'.toInt = i) {j : Int} (hj : y'.toInt = j) 
    (hy : i < j → OwnEnds p e below G (T.setTop (mkF m pc' Ls st))) (hn : j ≤ i → OwnEnds p e below G (T.setTop (mkF m pn Ls st))) : OwnEnds p e below G (T.setTop (mkF m pc Ls (.int y' :: .int x' :: st))) := by
  subst hpn
  by_cases k : x' < y'
  · exact own_st (fun _ q => XS.icmpYes X.here C.1 rfl rfl (hb C.2.2.2.1 hd) rfl (((tlt k).1)) ho hp q) (hy (by rw [Int32.lt_iff_toInt_lt] at k; have q : y'.toInt = j := hj; omega))
  · exact own_st (fun _ q => XS.icmpNo X.here C.1 rfl (hb C.2.2.2.1 hd) rfl (((flt k).1)) q) (hn (by rw [Int32.lt_iff_toInt_lt] at k; have q : y'.toInt = j := hj; omega))
theorem own_icmpge (X : Stand p l e R s m args below meth c T locs cells slots) (C : OwnCx p s m meth c Z y bs maxL rt) {x' y' : Int32} {o : Int} (hd : decode bs pc = .ok (.if_icmp .ge o, 3)) (pn pc' : Nat) (hpn : pc + 3 = pn) (ho : 0 ≤ (pc : Int) + o) (hp : ((pc : Int) + o).toNat = pc') {i : Int} (hi : x'.toInt = i) {j : Int} (hj : y'.toInt = j) 
    (hy : j ≤ i → OwnEnds p e below G (T.setTop (mkF m pc' Ls st))) (hn : i < j → OwnEnds p e below G (T.setTop (mkF m pn Ls st))) : OwnEnds p e below G (T.setTop (mkF m pc Ls (.int y' :: .int x' :: st))) := by
  subst hpn
  by_cases k : x' < y'
  · exact own_st (fun _ q => XS.icmpNo X.here C.1 rfl (hb C.2.2.2.1 hd) rfl (((tlt k).2.1)) q) (hn (by rw [Int32.lt_iff_toInt_lt] at k; have q : y'.toInt = j := hj; omega))
  · exact own_st (fun _ q => XS.icmpYes X.here C.1 rfl rfl (hb C.2.2.2.1 hd) rfl (((flt k).2.1)) ho hp q) (hy (by rw [Int32.lt_iff_toInt_lt] at k; have q : y'.toInt = j := hj; omega))
theorem own_icmpgt (X : Stand p l e R s m args below meth c T locs cells slots) (C : OwnCx p s m meth c Z y bs maxL rt) {x' y' : Int32} {o : Int} (hd : decode bs pc = .ok (.if_icmp .gt o, 3)) (pn pc' : Nat) (hpn : pc + 3 = pn) (ho : 0 ≤ (pc : Int) + o) (hp : ((pc : Int) + o).toNat = pc') {i : Int} (hi : x'.toInt = i) {j : Int} (hj : y'.toInt = j) 
    (hy : j < i → OwnEnds p e below G (T.setTop (mkF m pc' Ls st))) (hn : i ≤ j → OwnEnds p e below G (T.setTop (mkF m pn Ls st))) : OwnEnds p e below G (T.setTop (mkF m pc Ls (.int y' :: .int x' :: st))) := by
  subst hpn
  by_cases k : y' < x'
  · exact own_st (fun _ q => XS.icmpYes X.here C.1 rfl rfl (hb C.2.2.2.1 hd) rfl (((tlt k).2.2.1)) ho hp q) (hy (by rw [Int32.lt_iff_toInt_lt] at k; have q : y'.toInt = j := hj; omega))
  · exact own_st (fun _ q => XS.icmpNo X.here C.1 rfl (hb C.2.2.2.1 hd) rfl (((flt k).2.2.1)) q) (hn (by rw [Int32.lt_iff_toInt_lt] at k; have q : y'.toInt = j := hj; omega))
theorem own_icmple (X : Stand p l e R s m args below meth c T locs cells slots) (C : OwnCx p s m meth c Z y bs maxL rt) {x' y' : Int32} {o : Int} (hd : decode bs pc = .ok (.if_icmp .le o, 3)) (pn pc' : Nat) (hpn : pc + 3 = pn) (ho : 0 ≤ (pc : Int) + o) (hp : ((pc : Int) + o).toNat = pc') {i : Int} (hi : x'.toInt = i) {j : Int} (hj : y'.toInt = j) 
    (hy : i ≤ j → OwnEnds p e below G (T.setTop (mkF m pc' Ls st))) (hn : j < i → OwnEnds p e below G (T.setTop (mkF m pn Ls st))) : OwnEnds p e below G (T.setTop (mkF m pc Ls (.int y' :: .int x' :: st))) := by
  subst hpn
  by_cases k : y' < x'
  · exact own_st (fun _ q => XS.icmpNo X.here C.1 rfl (hb C.2.2.2.1 hd) rfl (((tlt k).2.2.2)) q) (hn (by rw [Int32.lt_iff_toInt_lt] at k; have q : y'.toInt = j := hj; omega))
  · exact own_st (fun _ q => XS.icmpYes X.here C.1 rfl rfl (hb C.2.2.2.1 hd) rfl (((flt k).2.2.2)) ho hp q) (hy (by rw [Int32.lt_iff_toInt_lt] at k; have q : y'.toInt = j := hj; omega))
theorem own_icmpeq (X : Stand p l e R s m args below meth c T locs cells slots) (C : OwnCx p s m meth c Z y bs maxL rt) {x' y' : Int32} {o : Int} (hd : decode bs pc = .ok (.if_icmp .eq o, 3)) (pn pc' : Nat) (hpn : pc + 3 = pn) (ho : 0 ≤ (pc : Int) + o) (hp : ((pc : Int) + o).toNat = pc') {i : Int} (hi : x'.toInt = i) {j : Int} (hj : y'.toInt = j) 
    (hy : i = j → OwnEnds p e below G (T.setTop (mkF m pc' Ls st))) (hn : i ≠ j → OwnEnds p e below G (T.setTop (mkF m pn Ls st))) : OwnEnds p e below G (T.setTop (mkF m pc Ls (.int y' :: .int x' :: st))) := by
  subst hpn
  by_cases k : x' = y'
  · exact own_st (fun _ q => XS.icmpYes X.here C.1 rfl rfl (hb C.2.2.2.1 hd) rfl (((teq k).1)) ho hp q) (hy (by subst k; exact hi.symm.trans hj))
  · exact own_st (fun _ q => XS.icmpNo X.here C.1 rfl (hb C.2.2.2.1 hd) rfl (((feq k).1)) q) (hn (fun q => k (Int32.toInt_inj.mp (hi.trans (q.trans hj.symm)))))
theorem own_icmpne (X : Stand p l e R s m args below meth c T locs cells slots) (C : OwnCx p s m meth c Z y bs maxL rt) {x' y' : Int32} {o : Int} (hd : decode bs pc = .ok (.if_icmp .ne o, 3)) (pn pc' : Nat) (hpn : pc + 3 = pn) (ho : 0 ≤ (pc : Int) + o) (hp : ((pc : Int) + o).toNat = pc') {i : Int} (hi : x'.toInt = i) {j : Int} (hj : y'.toInt = j) 
    (hy : i ≠ j → OwnEnds p e below G (T.setTop (mkF m pc' Ls st))) (hn : i = j → OwnEnds p e below G (T.setTop (mkF m pn Ls st))) : OwnEnds p e below G (T.setTop (mkF m pc Ls (.int y' :: .int x' :: st))) := by
  subst hpn
  by_cases k : x' = y'
  · exact own_st (fun _ q => XS.icmpNo X.here C.1 rfl (hb C.2.2.2.1 hd) rfl (((teq k).2)) q) (hn (by subst k; exact hi.symm.trans hj))
  · exact own_st (fun _ q => XS.icmpYes X.here C.1 rfl rfl (hb C.2.2.2.1 hd) rfl (((feq k).2)) ho hp q) (hy (fun q => k (Int32.toInt_inj.mp (hi.trans (q.trans hj.symm)))))
theorem own_iflt (X : Stand p l e R s m args below meth c T locs cells slots) (C : OwnCx p s m meth c Z y bs maxL rt) {x' : Int32} {o : Int} (hd : decode bs pc = .ok (.ifCond .lt o, 3)) (pn pc' : Nat) (hpn : pc + 3 = pn) (ho : 0 ≤ (pc : Int) + o) (hp : ((pc : Int) + o).toNat = pc') {i : Int} (hi : x'.toInt = i) 
    (hy : i < 0 → OwnEnds p e below G (T.setTop (mkF m pc' Ls st))) (hn : 0 ≤ i → OwnEnds p e below G (T.setTop (mkF m pn Ls st))) : OwnEnds p e below G (T.setTop (mkF m pc Ls (.int x' :: st))) := by
  subst hpn
  by_cases k : x' < (0 : Int32)
  · exact own_st (fun _ q => XS.ifYes X.here C.1 rfl rfl (hb C.2.2.2.1 hd) rfl ((if0 _ _).trans ((tlt k).1)) ho hp q) (hy (by rw [Int32.lt_iff_toInt_lt] at k; have q : (0 : Int32).toInt = 0 := (rfl : (0 : Int32).toInt = 0); omega))
  · exact own_st (fun _ q => XS.ifNo X.here C.1 rfl (hb C.2.2.2.1 hd) rfl ((if0 _ _).trans ((flt k).1)) q) (hn (by rw [Int32.lt_iff_toInt_lt] at k; have q : (0 : Int32).toInt = 0 := (rfl : (0 : Int32).toInt = 0); omega))
theorem own_ifge (X : Stand p l e R s m args below meth c T locs cells slots) (C : OwnCx p s m meth c Z y bs maxL rt) {x' : Int32} {o : Int} (hd : decode bs pc = .ok (.ifCond .ge o, 3)) (pn pc' : Nat) (hpn : pc + 3 = pn) (ho : 0 ≤ (pc : Int) + o) (hp : ((pc : Int) + o).toNat = pc') {i : Int} (hi : x'.toInt = i) 
    (hy : 0 ≤ i → OwnEnds p e below G (T.setTop (mkF m pc' Ls st))) (hn : i < 0 → OwnEnds p e below G (T.setTop (mkF m pn Ls st))) : OwnEnds p e below G (T.setTop (mkF m pc Ls (.int x' :: st))) := by
  subst hpn
  by_cases k : x' < (0 : Int32)
  · exact own_st (fun _ q => XS.ifNo X.here C.1 rfl (hb C.2.2.2.1 hd) rfl ((if0 _ _).trans ((tlt k).2.1)) q) (hn (by rw [Int32.lt_iff_toInt_lt] at k; have q : (0 : Int32).toInt = 0 := (rfl : (0 : Int32).toInt = 0); omega))
  · exact own_st (fun _ q => XS.ifYes X.here C.1 rfl rfl (hb C.2.2.2.1 hd) rfl ((if0 _ _).trans ((flt k).2.1)) ho hp q) (hy (by rw [Int32.lt_iff_toInt_lt] at k; have q : (0 : Int32).toInt = 0 := (rfl : (0 : Int32).toInt = 0); omega))
theorem own_ifgt (X : Stand p l e R s m args below meth c T locs cells slots) (C : OwnCx p s m meth c Z y bs maxL rt) {x' : Int32} {o : Int} (hd : decode bs pc = .ok (.ifCond .gt o, 3)) (pn pc' : Nat) (hpn : pc + 3 = pn) (ho : 0 ≤ (pc : Int) + o) (hp : ((pc : Int) + o).toNat = pc') {i : Int} (hi : x'.toInt = i) 
    (hy : 0 < i → OwnEnds p e below G (T.setTop (mkF m pc' Ls st))) (hn : i ≤ 0 → OwnEnds p e below G (T.setTop (mkF m pn Ls st))) : OwnEnds p e below G (T.setTop (mkF m pc Ls (.int x' :: st))) := by
  subst hpn
  by_cases k : (0 : Int32) < x'
  · exact own_st (fun _ q => XS.ifYes X.here C.1 rfl rfl (hb C.2.2.2.1 hd) rfl ((if0 _ _).trans ((tlt k).2.2.1)) ho hp q) (hy (by rw [Int32.lt_iff_toInt_lt] at k; have q : (0 : Int32).toInt = 0 := (rfl : (0 : Int32).toInt = 0); omega))
  · exact own_st (fun _ q => XS.ifNo X.here C.1 rfl (hb C.2.2.2.1 hd) rfl ((if0 _ _).trans ((flt k).2.2.1)) q) (hn (by rw [Int32.lt_iff_toInt_lt] at k; have q : (0 : Int32).toInt = 0 := (rfl : (0 : Int32).toInt = 0); omega))
theorem own_ifle (X : Stand p l e R s m args below meth c T locs cells slots) (C : OwnCx p s m meth c Z y bs maxL rt) {x' : Int32} {o : Int} (hd : decode bs pc = .ok (.ifCond .le o, 3)) (pn pc' : Nat) (hpn : pc + 3 = pn) (ho : 0 ≤ (pc : Int) + o) (hp : ((pc : Int) + o).toNat = pc') {i : Int} (hi : x'.toInt = i) 
    (hy : i ≤ 0 → OwnEnds p e below G (T.setTop (mkF m pc' Ls st))) (hn : 0 < i → OwnEnds p e below G (T.setTop (mkF m pn Ls st))) : OwnEnds p e below G (T.setTop (mkF m pc Ls (.int x' :: st))) := by
  subst hpn
  by_cases k : (0 : Int32) < x'
  · exact own_st (fun _ q => XS.ifNo X.here C.1 rfl (hb C.2.2.2.1 hd) rfl ((if0 _ _).trans ((tlt k).2.2.2)) q) (hn (by rw [Int32.lt_iff_toInt_lt] at k; have q : (0 : Int32).toInt = 0 := (rfl : (0 : Int32).toInt = 0); omega))
  · exact own_st (fun _ q => XS.ifYes X.here C.1 rfl rfl (hb C.2.2.2.1 hd) rfl ((if0 _ _).trans ((flt k).2.2.2)) ho hp q) (hy (by rw [Int32.lt_iff_toInt_lt] at k; have q : (0 : Int32).toInt = 0 := (rfl : (0 : Int32).toInt = 0); omega))
theorem own_ifeq (X : Stand p l e R s m args below meth c T locs cells slots) (C : OwnCx p s m meth c Z y bs maxL rt) {x' : Int32} {o : Int} (hd : decode bs pc = .ok (.ifCond .eq o, 3)) (pn pc' : Nat) (hpn : pc + 3 = pn) (ho : 0 ≤ (pc : Int) + o) (hp : ((pc : Int) + o).toNat = pc') {i : Int} (hi : x'.toInt = i) 
    (hy : i = 0 → OwnEnds p e below G (T.setTop (mkF m pc' Ls st))) (hn : i ≠ 0 → OwnEnds p e below G (T.setTop (mkF m pn Ls st))) : OwnEnds p e below G (T.setTop (mkF m pc Ls (.int x' :: st))) := by
  subst hpn
  by_cases k : x' = (0 : Int32)
  · exact own_st (fun _ q => XS.ifYes X.here C.1 rfl rfl (hb C.2.2.2.1 hd) rfl ((if0 _ _).trans ((teq k).1)) ho hp q) (hy (by subst k; exact hi.symm.trans (rfl : (0 : Int32).toInt = 0)))
  · exact own_st (fun _ q => XS.ifNo X.here C.1 rfl (hb C.2.2.2.1 hd) rfl ((if0 _ _).trans ((feq k).1)) q) (hn (fun q => k (Int32.toInt_inj.mp (hi.trans (q.trans (rfl : (0 : Int32).toInt = 0).symm)))))
theorem own_ifne (X : Stand p l e R s m args below meth c T locs cells slots) (C : OwnCx p s m meth c Z y bs maxL rt) {x' : Int32} {o : Int} (hd : decode bs pc = .ok (.ifCond .ne o, 3)) (pn pc' : Nat) (hpn : pc + 3 = pn) (ho : 0 ≤ (pc : Int) + o) (hp : ((pc : Int) + o).toNat = pc') {i : Int} (hi : x'.toInt = i) 
    (hy : i ≠ 0 → OwnEnds p e below G (T.setTop (mkF m pc' Ls st))) (hn : i = 0 → OwnEnds p e below G (T.setTop (mkF m pn Ls st))) : OwnEnds p e below G (T.setTop (mkF m pc Ls (.int x' :: st))) := by
  subst hpn
  by_cases k : x' = (0 : Int32)
  · exact own_st (fun _ q => XS.ifNo X.here C.1 rfl (hb C.2.2.2.1 hd) rfl ((if0 _ _).trans ((teq k).2)) q) (hn (by subst k; exact hi.symm.trans (rfl : (0 : Int32).toInt = 0)))
  · exact own_st (fun _ q => XS.ifYes X.here C.1 rfl rfl (hb C.2.2.2.1 hd) rfl ((if0 _ _).trans ((feq k).2)) ho hp q) (hy (fun q => k (Int32.toInt_inj.mp (hi.trans (q.trans (rfl : (0 : Int32).toInt = 0).symm)))))
theorem own_ifnonnull_y (X : Stand p l e R s m args below meth c T locs cells slots) (C : OwnCx p s m meth c Z y bs maxL rt) {b : Addr} {o : Int} (hd : decode bs pc = .ok (.ifnonnull o, 3)) (pc' : Nat) (ho : 0 ≤ (pc : Int) + o) (hp : ((pc : Int) + o).toNat = pc')
    (hr : OwnEnds p e below G (T.setTop (mkF m pc' Ls st))) : OwnEnds p e below G (T.setTop (mkF m pc Ls (.ref b :: st))) :=
  own_st (fun _ q => XS.ifnonnullYes X.here C.1 rfl rfl (hb C.2.2.2.1 hd) rfl ho hp q) hr
theorem own_ifnull_n (X : Stand p l e R s m args below meth c T locs cells slots) (C : OwnCx p s m meth c Z y bs maxL rt) {b : Addr} {o : Int} (hd : decode bs pc = .ok (.ifnull o, 3)) (pn : Nat) (hp : pc + 3 = pn)
    (hr : OwnEnds p e below G (T.setTop (mkF m pn Ls st))) : OwnEnds p e below G (T.setTop (mkF m pc Ls (.ref b :: st))) := by
  subst hp; exact own_st (fun _ q => XS.ifnullNo X.here C.1 rfl (hb C.2.2.2.1 hd) rfl q) hr
theorem own_ifnull_y (X : Stand p l e R s m args below meth c T locs cells slots) (C : OwnCx p s m meth c Z y bs maxL rt) {o : Int} (hd : decode bs pc = .ok (.ifnull o, 3)) (pc' : Nat) (ho : 0 ≤ (pc : Int) + o) (hp : ((pc : Int) + o).toNat = pc')
    (hr : OwnEnds p e below G (T.setTop (mkF m pc' Ls st))) : OwnEnds p e below G (T.setTop (mkF m pc Ls (.null :: st))) :=
  own_st (fun _ q => XS.ifnullYes X.here C.1 rfl rfl (hb C.2.2.2.1 hd) rfl ho hp q) hr
theorem own_ifnonnull_n (X : Stand p l e R s m args below meth c T locs cells slots) (C : OwnCx p s m meth c Z y bs maxL rt) {o : Int} (hd : decode bs pc = .ok (.ifnonnull o, 3)) (pn : Nat) (hp : pc + 3 = pn)
    (hr : OwnEnds p e below G (T.setTop (mkF m pn Ls st))) : OwnEnds p e below G (T.setTop (mkF m pc Ls (.null :: st))) := by
  subst hp; exact own_st (fun _ q => XS.ifnonnullNo X.here C.1 rfl (hb C.2.2.2.1 hd) rfl q) hr
theorem own_acmpeq (X : Stand p l e R s m args below meth c T locs cells slots) (C : OwnCx p s m meth c Z y bs maxL rt) {a b : Addr} {o : Int} (hd : decode bs pc = .ok (.if_acmp .eq o, 3)) (pn pc' : Nat) (hpn : pc + 3 = pn) (ho : 0 ≤ (pc : Int) + o) (hp : ((pc : Int) + o).toNat = pc')
    (hy : a = b → OwnEnds p e below G (T.setTop (mkF m pc' Ls st))) (hn : a ≠ b → OwnEnds p e below G (T.setTop (mkF m pn Ls st))) : OwnEnds p e below G (T.setTop (mkF m pc Ls (.ref b :: .ref a :: st))) := by
  subst hpn
  by_cases k : a = b
  · exact own_st (fun _ q => XS.acmpYes X.here C.1 rfl rfl (hb C.2.2.2.1 hd) rfl (by simp [if_acmp.holds, k]) ho hp q) (hy k)
  · exact own_st (fun _ q => XS.acmpNo X.here C.1 rfl (hb C.2.2.2.1 hd) rfl (by simp [if_acmp.holds, k]) q) (hn k)
theorem own_acmpne (X : Stand p l e R s m args below meth c T locs cells slots) (C : OwnCx p s m meth c Z y bs maxL rt) {a b : Addr} {o : Int} (hd : decode bs pc = .ok (.if_acmp .ne o, 3)) (pn pc' : Nat) (hpn : pc + 3 = pn) (ho : 0 ≤ (pc : Int) + o) (hp : ((pc : Int) + o).toNat = pc')
    (hy : a ≠ b → OwnEnds p e below G (T.setTop (mkF m pc' Ls st))) (hn : a = b → OwnEnds p e below G (T.setTop (mkF m pn Ls st))) : OwnEnds p e below G (T.setTop (mkF m pc Ls (.ref b :: .ref a :: st))) := by
  subst hpn
  by_cases k : a = b
  · exact own_st (fun _ q => XS.acmpNo X.here C.1 rfl (hb C.2.2.2.1 hd) rfl (by simp [if_acmp.holds, k]) q) (hn k)
  · exact own_st (fun _ q => XS.acmpYes X.here C.1 rfl rfl (hb C.2.2.2.1 hd) rfl (by simp [if_acmp.holds, k]) ho hp q) (hy k)
theorem own_leave (X : Stand p l e R s m args below meth c T locs cells slots) (C : OwnCx p s m meth c Z y bs maxL rt) (v : Option Value) (hv : meth.sig.returnType = none → v = none) (hce : cells ≤ ce) (hsl : slots ≤ sl) (hQ : Q v T.heap locs) {S : State}
    (k : ∀ fs, (∀ (f : JFrame) (acts : List Action), f.method = m → f.locked = none → f.entered = [] → (doReturn e (T.setTop f) acts v).1 = T.setFrames fs) → Steps p.tables e below S (T.setFrames fs)) : OwnEnds p e below (OwnG s ce sl Q) S := by
  obtain ⟨fs, hr, hrun, hended, hW, hsame⟩ := X.leave (v := v) hv C.2.2.2.2.2.2.1
  exact ⟨_, _, k fs hr, hrun, hended, _, _, rfl, hQ, ⟨_, rfl⟩, hW, hsame.mono hce hsl⟩
theorem own_return (X : Stand p l e R s m args below meth c T locs cells slots) (C : OwnCx p s m meth c Z y bs maxL rt) (hrt : rt = none) (hd : decode bs pc = .ok (.return_, 1)) (hce : cells ≤ ce) (hsl : slots ≤ sl) (hQ : Q none T.heap locs) : OwnEnds p e below (OwnG s ce sl Q) (T.setTop (mkF m pc Ls [])) := by
  subst hrt
  exact own_leave X C none (fun _ => rfl) hce hsl hQ fun fs hr => X.returnOut C.1 C.2.2.2.2.2.1 (hb C.2.2.2.1 hd) hr
theorem own_iretN (X : Stand p l e R s m args below meth c T locs cells slots) (C : OwnCx p s m meth c Z y bs maxL rt) {z : Int32} (t : FieldType) (hrt : rt = some t) (ht : t = .boolean ∨ t = .byte ∨ t = .char ∨ t = .short) (hd : decode bs pc = .ok (.ireturn, 1)) (hce : cells ≤ ce) (hsl : slots ≤ sl) (w : Int32) (hw : nar t z = w) (hQ : Q (some (.int w)) T.heap locs) : OwnEnds p e below (OwnG s ce sl Q) (T.setTop (mkF m pc Ls (.int z :: st))) := by
  subst hrt hw
  exact own_leave X C (some (.int (nar t z))) (fun q => by rw [C.2.2.2.2.2.1] at q; cases q) hce hsl hQ fun fs hr => retN X C.1 C.2.2.2.2.2.1 ht (hb C.2.2.2.1 hd) hr
theorem own_ireturn (X : Stand p l e R s m args below meth c T locs cells slots) (C : OwnCx p s m meth c Z y bs maxL rt) {z : Int32} (hrt : rt = some .int) (hd : decode bs pc = .ok (.ireturn, 1)) (hce : cells ≤ ce) (hsl : slots ≤ sl) (hQ : Q (some (.int z)) T.heap locs) : OwnEnds p e below (OwnG s ce sl Q) (T.setTop (mkF m pc Ls (.int z :: st))) := by
  subst hrt
  exact own_leave X C (some (.int z)) (fun q => by rw [C.2.2.2.2.2.1] at q; cases q) hce hsl hQ fun fs hr => retOut X C.1 C.2.2.2.2.2.1 rfl (Or.inl ⟨rfl, Or.inl rfl, z, rfl⟩) (hb C.2.2.2.1 hd) hr
theorem own_lreturn (X : Stand p l e R s m args below meth c T locs cells slots) (C : OwnCx p s m meth c Z y bs maxL rt) {z : Int64} (hrt : rt = some .long) (hd : decode bs pc = .ok (.lreturn, 1)) (hce : cells ≤ ce) (hsl : slots ≤ sl) (hQ : Q (some (.long z)) T.heap locs) : OwnEnds p e below (OwnG s ce sl Q) (T.setTop (mkF m pc Ls (.long z :: st))) := by
  subst hrt
  exact own_leave X C (some (.long z)) (fun q => by rw [C.2.2.2.2.2.1] at q; cases q) hce hsl hQ fun fs hr => retOut X C.1 C.2.2.2.2.2.1 rfl (Or.inr (Or.inl ⟨rfl, rfl, z, rfl⟩)) (hb C.2.2.2.1 hd) hr
theorem own_areturn (X : Stand p l e R s m args below meth c T locs cells slots) (C : OwnCx p s m meth c Z y bs maxL rt) {z : Value} (t : FieldType) (hrt : rt = some t) (ht : t.isReference = true) (hz : z.isRef = true) (hn : narrow t z = z) (hd : decode bs pc = .ok (.areturn, 1)) (hce : cells ≤ ce) (hsl : slots ≤ sl) (hQ : Q (some z) T.heap locs) : OwnEnds p e below (OwnG s ce sl Q) (T.setTop (mkF m pc Ls (z :: st))) := by
  subst hrt
  exact own_leave X C (some z) (fun q => by rw [C.2.2.2.2.2.1] at q; cases q) hce hsl hQ fun fs hr => retOut X C.1 C.2.2.2.2.2.1 hn (Or.inr (Or.inr (Or.inr (Or.inr ⟨rfl, ht, hz⟩)))) (hb C.2.2.2.1 hd) hr
theorem own_callS (X : Stand p l e R s m args below meth c T locs cells slots) (C : OwnCx p s m meth c Z y bs maxL rt) {idx : Nat} {y' : MethodName} {bs' : ByteArray} {maxL' : Nat} {rt' : Option FieldType} {rm : Room} {as' : Array Value} {Q' : Option Value → Heap → List Loc → Prop}
    (w1 : (Jvm.Cond.methodLink y.cls idx y').before a0 Z = true) (w2 : (Jvm.Cond.static y').before a0 Z = true) (w3 : (Jvm.Cond.initialized y'.cls).before a0 Z = true) (w4 : (Jvm.Cond.code y' bs' maxL' rt').before a0 Z = true) (hy : y'.cls ≠ "java/lang/invoke/MethodHandle" ∧ y'.cls ≠ "java/lang/invoke/VarHandle")
    (hM : OwnMet l Z y' bs' maxL' rt' [] rm as' h Q') (eT : T.heap = h) {ps : List FieldType} {r : Option FieldType} (hpd : parseMethodDescriptor y'.desc = some ⟨ps, r⟩) (argsL : List Value) (has : argsL.toArray = as') (hlen : argsL.length = ps.length) (hst : st = argsL.reverse ++ rest) (hsz : Ls.size = maxL)
    (W : Nat) (hW : (rest.map fun v => v.category).sum = W) (hf : rm.frames + 1 ≤ R.frames) (hlo : W + (maxL' + 11) + rm.locals ≤ R.locals) (hce : cells + rm.cells ≤ R.cells) (hsl : slots + rm.slots ≤ R.slots) (hd : decode bs pc = .ok (.invokestatic idx, 3)) (pc' : Nat) (hp : pc + 3 = pc')
    (hr : ∀ T' L v, Stand p l e R s m args below meth c T' (locs ++ L) (cells + rm.cells) (slots + rm.slots) → Q' v T'.heap L → OwnEnds p e below G (T'.setTop (mkF m pc' Ls (v.toList ++ rest)))) : OwnEnds p e below G (T.setTop (mkF m pc Ls st)) := by
  subst hp has hW
  obtain ⟨v, _, ⟨T', L, k, n⟩, -, X', ⟨L', hQ, l1, l2, l3⟩, stp⟩ := Jvm.LawKit.callS X C.1 C.2.2.1 (mvT C.2.1 w1) (mvT C.2.1 w2) (mvT C.2.1 w3) (mvT C.2.1 w4) hy (backOf (len := 3) (W := (rest.map fun v => v.category).sum) hM C.2.1 w4 w3 hf hlo) (g := mkF m pc Ls st) rfl (by rw [C.2.2.2.2.1]; exact hsz) (argsL := argsL) (rest := rest) (lenOf hpd hlen) hst (by show 2 * 0 + _ ≤ _; omega) (hb C.2.2.2.1 hd) (fun _ _ => ⟨rfl, eT, hce, hsl⟩)
  dsimp only [Pt.U, Pt.locs, Pt.cells, Pt.slots] at X' l1 l2 l3 stp hQ
  subst l1 l2 l3
  exact own_st stp (hr T' L' v X' hQ)
/-- a callee that returns w and leaves the heap alone -/
def OwnPure (w : Value) (h : Heap) : Option Value → Heap → List Loc → Prop := fun v h' L => v = some w ∧ h' = h ∧ L = []
theorem own_conv {ws : List Jvm.Cond} {rm : Room} {as' : Array Value} {w w' : Value} (H : OwnMet l Z y bs maxL rt ws rm as' h (OwnPure w h)) (q : w = w') : OwnMet l Z y bs maxL rt ws rm as' h (OwnPure w' h) := q ▸ H
theorem own_callP (X : Stand p l e R s m args below meth c T locs cells slots) (C : OwnCx p s m meth c Z y bs maxL rt) {idx : Nat} {y' : MethodName} {bs' : ByteArray} {maxL' : Nat} {rt' : Option FieldType} {rm : Room} {as' : Array Value} {w : Value}
    (w1 : (Jvm.Cond.methodLink y.cls idx y').before a0 Z = true) (w2 : (Jvm.Cond.static y').before a0 Z = true) (w3 : (Jvm.Cond.initialized y'.cls).before a0 Z = true) (w4 : (Jvm.Cond.code y' bs' maxL' rt').before a0 Z = true) (hy : y'.cls ≠ "java/lang/invoke/MethodHandle" ∧ y'.cls ≠ "java/lang/invoke/VarHandle")
    (hM : OwnMet l Z y' bs' maxL' rt' [] rm as' h (OwnPure w h)) (eT : T.heap = h) {ps : List FieldType} {r : Option FieldType} (hpd : parseMethodDescriptor y'.desc = some ⟨ps, r⟩) (argsL : List Value) (has : argsL.toArray = as') (hlen : argsL.length = ps.length) (hst : st = argsL.reverse ++ rest) (hsz : Ls.size = maxL)
    (W : Nat) (hW : (rest.map fun v => v.category).sum = W) (hf : rm.frames + 1 ≤ R.frames) (hlo : W + (maxL' + 11) + rm.locals ≤ R.locals) (hce : rm.cells = 0) (hsl : rm.slots = 0) (hc0 : cells ≤ R.cells) (hs0 : slots ≤ R.slots) (hd : decode bs pc = .ok (.invokestatic idx, 3)) (pc' : Nat) (hp : pc + 3 = pc')
    (hr : ∀ T', Stand p l e R s m args below meth c T' locs cells slots → T'.heap = h → OwnEnds p e below G (T'.setTop (mkF m pc' Ls (w :: rest)))) : OwnEnds p e below G (T.setTop (mkF m pc Ls st)) := by
  refine own_callS X C w1 w2 w3 w4 hy hM eT hpd argsL has hlen hst hsz W hW hf hlo (by omega) (by omega) hd pc' hp ?_
  rintro T' L v X' ⟨rfl, e, rfl⟩
  rw [List.append_nil, hce, hsl] at X'
  exact hr T' X' e
/-- a callee that leaves the heap alone and returns a value of which Pw says something -/
def OwnSome (Pw : Value → Prop) (h : Heap) : Option Value → Heap → List Loc → Prop := fun v h' L => (∃ w, v = some w ∧ Pw w) ∧ h' = h ∧ L = []
theorem own_callE (X : Stand p l e R s m args below meth c T locs cells slots) (C : OwnCx p s m meth c Z y bs maxL rt) {idx : Nat} {y' : MethodName} {bs' : ByteArray} {maxL' : Nat} {rt' : Option FieldType} {rm : Room} {as' : Array Value} {Pw : Value → Prop}
    (w1 : (Jvm.Cond.methodLink y.cls idx y').before a0 Z = true) (w2 : (Jvm.Cond.static y').before a0 Z = true) (w3 : (Jvm.Cond.initialized y'.cls).before a0 Z = true) (w4 : (Jvm.Cond.code y' bs' maxL' rt').before a0 Z = true) (hy : y'.cls ≠ "java/lang/invoke/MethodHandle" ∧ y'.cls ≠ "java/lang/invoke/VarHandle")
    (hM : OwnMet l Z y' bs' maxL' rt' [] rm as' h (OwnSome Pw h)) (eT : T.heap = h) {ps : List FieldType} {r : Option FieldType} (hpd : parseMethodDescriptor y'.desc = some ⟨ps, r⟩) (argsL : List Value) (has : argsL.toArray = as') (hlen : argsL.length = ps.length) (hst : st = argsL.reverse ++ rest) (hsz : Ls.size = maxL)
    (W : Nat) (hW : (rest.map fun v => v.category).sum = W) (hf : rm.frames + 1 ≤ R.frames) (hlo : W + (maxL' + 11) + rm.locals ≤ R.locals) (hce : rm.cells = 0) (hsl : rm.slots = 0) (hc0 : cells ≤ R.cells) (hs0 : slots ≤ R.slots) (hd : decode bs pc = .ok (.invokestatic idx, 3)) (pc' : Nat) (hp : pc + 3 = pc')
    (hr : ∀ T' w, Pw w → Stand p l e R s m args below meth c T' locs cells slots → T'.heap = h → OwnEnds p e below G (T'.setTop (mkF m pc' Ls (w :: rest)))) : OwnEnds p e below G (T.setTop (mkF m pc Ls st)) := by
  refine own_callS X C w1 w2 w3 w4 hy hM eT hpd argsL has hlen hst hsz W hW hf hlo (by omega) (by omega) hd pc' hp ?_
  rintro T' L v X' ⟨⟨w, rfl, hw⟩, e, rfl⟩
  rw [List.append_nil, hce, hsl] at X'
  exact hr T' w hw X' e
end OwnLayer
section OwnHeap
variable {p : Program} {l : Launch} {e : Env} {R : Room} {s : State} {m : MethodId} {args : Array Value} {below : List Frame} {meth : Method} {c : Code} {T : State} {locs : List Loc} {cells slots : Nat} {Z : State} {y : MethodName} {bs : ByteArray} {maxL : Nat} {rt : Option FieldType} {ce sl : Nat} {Q : Option Value → Heap → List Loc → Prop} {G : Outcome → State → Prop} {pc : Nat} {Ls : Array Slot} {st rest : List Value} {h h' : Heap} {a0 : Array Value} {a : Addr}
/-- an array: its length and what lies at each place -/
def OwnAr (Z : State) (h : Heap) (a : Addr) (ty : FieldType) (n : Nat) (f : Nat → Value) : Prop := ∃ cl : Cell, Arr Z h a cl ty ∧ cl.slots.size = n ∧ ∀ i, i < n → cl.slots[i]? = some (f i)
theorem OwnAr.lt {ty : FieldType} {n : Nat} {f : Nat → Value} (F : OwnAr Z h a ty n f) : a < h.size := by obtain ⟨cl, A, -⟩ := F; exact A.lt
theorem OwnAr.ext {ty : FieldType} {n : Nat} {f : Nat → Value} (F : OwnAr Z h a ty n f) (E : Ext h h') : OwnAr Z h' a ty n f := by obtain ⟨cl, A, r⟩ := F; exact ⟨cl, A.ext E, r⟩
theorem OwnAr.other {ty : FieldType} {n : Nat} {f : Nat → Value} {b : Addr} {sl : Nat} {v : Value} (F : OwnAr Z h a ty n f) (W : Wr h h' b sl v) (q : a ≠ b) : OwnAr Z h' a ty n f := by obtain ⟨cl, A, r⟩ := F; exact ⟨cl, A.other W q, r⟩
theorem OwnAr.keep {ty : FieldType} {n : Nat} {f : Nat → Value} {ws : List Addr} (F : OwnAr Z h a ty n f) (K : Keep h h' ws) (q : a ∉ ws) : OwnAr Z h' a ty n f := by obtain ⟨cl, A, r⟩ := F; exact ⟨cl, ⟨K.2.1 a cl A.1 q, A.2⟩, r⟩
theorem OwnAr.eqv {ty : FieldType} {n : Nat} {f g : Nat → Value} (F : OwnAr Z h a ty n f) (q : ∀ i, i < n → f i = g i) : OwnAr Z h a ty n g := by obtain ⟨cl, A, S, r⟩ := F; exact ⟨cl, A, S, fun i hi => by rw [r i hi, q i hi]⟩
theorem OwnAr.set {ty : FieldType} {n : Nat} {f : Nat → Value} {k : Nat} {v : Value} (F : OwnAr Z h a ty n f) (W : Wr h h' a k v) : OwnAr Z h' a ty n (fun i => if i = k then v else f i) := by
  obtain ⟨cl, A, S, r⟩ := F
  obtain ⟨cl', w1, w2, w3, w4⟩ := id W
  cases A.1.symm.trans w1
  refine ⟨cl.setSlot k v, A.same W, by rw [sz_set]; exact S, fun i hi => ?_⟩
  by_cases q : i = k
  · subst q; simp [Cell.setSlot, w3]
  · simp [Cell.setSlot, q, Array.getElem?_setIfInBounds_ne (Ne.symm q), r i hi]
theorem OwnAr.new {ty : FieldType} {n : Int32} {cA : ClassId} (A : Arr Z h a (newA cA ty n) ty) : OwnAr Z h a ty n.toNatClampNeg (fun _ => defaultValue ty) := ⟨_, A, sz_new _ _ _, fun i hi => by simp [newA, hi]⟩
theorem own_fr1 {k : Nat} {L : List Loc} {a : Addr} {sl : Nat} (N : Fr k L) (q : k ≤ a) : Fr k (L ++ [⟨a, sl⟩]) := N.app fun y hy => by cases List.mem_singleton.mp hy; exact q
theorem own_stak {C n d : String} {v : Value} (F : Sta Z h C n d v) (K : Keep h h' []) : Sta Z h' C n d v := by
  obtain ⟨cf, i, k, f, st, cell, h1, h2, h3, h4, h5, r⟩ := F
  exact ⟨cf, i, k, f, st, cell, h1, h2, h3, h4, K.2.1 _ _ h5 nin0, r⟩
theorem own_arl {a : Nat} {ty : FieldType} {n : Nat} {f : Nat → Value} (F : OwnAr Z h a ty n f) : a < h.size := F.lt
theorem own_exl {a : Nat} {K : String} (F : Exa Z h a K) : a < h.size := F.lt
theorem own_iteI {q : Prop} [Decidable q] {a b : Int32} : (if q then Value.int a else Value.int b) = Value.int (if q then a else b) := by split <;> rfl
theorem own_iteL {q : Prop} [Decidable q] {a b : Int64} : (if q then Value.long a else Value.long b) = Value.long (if q then a else b) := by split <;> rfl
theorem own_ne {x y : Nat} (q : x ≠ y) : @Ne Addr x y := q
theorem own_in {j : Int32} {n : Nat} (h0 : 0 ≤ j.toInt) (h1 : j.toInt < n) : ¬ (j < 0 ∨ n ≤ j.toNatClampNeg) := by
  rintro (q | q)
  · rw [Int32.lt_iff_toInt_lt] at q; have : (0 : Int32).toInt = 0 := rfl; omega
  · have e : j.toNatClampNeg = j.toInt.toNat := rfl
    omega
theorem own_len {n : Nat} (h : n < 2147483648) : (n.toInt32).toInt = n := by
  show (Int32.ofNat n).toInt = _
  rw [Int32.toInt_ofNat_of_lt (by omega)]
theorem own_iastore (X : Stand p l e R s m args below meth c T locs cells slots) (C : OwnCx p s m meth c Z y bs maxL rt) {v : Int32} {j : Int32} {n : Nat} {f : Nat → Value} (eT : T.heap = h) (F : OwnAr Z h a .int n f) (h0 : 0 ≤ j.toInt) (h1 : j.toInt < n) (hd : decode bs pc = .ok (.iastore, 1)) (pc' : Nat) (hp : pc + 1 = pc')
    (hr : ∀ T' h', Stand p l e R s m args below meth c T' (locs ++ [⟨a, j.toInt.toNat⟩]) cells slots → T'.heap = h' → Wr h h' a j.toInt.toNat (.int v) → OwnEnds p e below G (T'.setTop (mkF m pc' Ls st))) : OwnEnds p e below G (T.setTop (mkF m pc Ls ((.int v) :: .int j :: .ref a :: st))) := by
  subst hp
  obtain ⟨cl, A, S, r⟩ := F
  obtain ⟨T', h', X', e', W, stp⟩ := stI X C.1 C.2.1 eT A (j := j) (x := v) (by rw [S]; exact own_in h0 h1) (g := mkF m pc Ls _) rfl rfl (hb C.2.2.2.1 hd)
  exact own_st stp (hr T' h' X' e' W)
theorem own_lastore (X : Stand p l e R s m args below meth c T locs cells slots) (C : OwnCx p s m meth c Z y bs maxL rt) {v : Int64} {j : Int32} {n : Nat} {f : Nat → Value} (eT : T.heap = h) (F : OwnAr Z h a .long n f) (h0 : 0 ≤ j.toInt) (h1 : j.toInt < n) (hd : decode bs pc = .ok (.lastore, 1)) (pc' : Nat) (hp : pc + 1 = pc')
    (hr : ∀ T' h', Stand p l e R s m args below meth c T' (locs ++ [⟨a, j.toInt.toNat⟩]) cells slots → T'.heap = h' → Wr h h' a j.toInt.toNat (.long v) → OwnEnds p e below G (T'.setTop (mkF m pc' Ls st))) : OwnEnds p e below G (T.setTop (mkF m pc Ls ((.long v) :: .int j :: .ref a :: st))) := by
  subst hp
  obtain ⟨cl, A, S, r⟩ := F
  obtain ⟨T', h', X', e', W, stp⟩ := stJ X C.1 C.2.1 eT A (j := j) (x := v) (by rw [S]; exact own_in h0 h1) (g := mkF m pc Ls _) rfl rfl (hb C.2.2.2.1 hd)
  exact own_st stp (hr T' h' X' e' W)
theorem own_bastoreB (X : Stand p l e R s m args below meth c T locs cells slots) (C : OwnCx p s m meth c Z y bs maxL rt) {v : Int32} {j : Int32} {n : Nat} {f : Nat → Value} (eT : T.heap = h) (F : OwnAr Z h a .byte n f) (h0 : 0 ≤ j.toInt) (h1 : j.toInt < n) (hd : decode bs pc = .ok (.bastore, 1)) (pc' : Nat) (hp : pc + 1 = pc') (w : Int32) (hw : v.toInt8.toInt32 = w)
    (hr : ∀ T' h', Stand p l e R s m args below meth c T' (locs ++ [⟨a, j.toInt.toNat⟩]) cells slots → T'.heap = h' → Wr h h' a j.toInt.toNat (.int w) → OwnEnds p e below G (T'.setTop (mkF m pc' Ls st))) : OwnEnds p e below G (T.setTop (mkF m pc Ls (.int v :: .int j :: .ref a :: st))) := by
  subst hp hw
  obtain ⟨cl, A, S, r⟩ := F
  obtain ⟨T', h', X', e', W, stp⟩ := stB X C.1 C.2.1 eT A (j := j) (x := v) (by rw [S]; exact own_in h0 h1) (g := mkF m pc Ls _) rfl rfl (hb C.2.2.2.1 hd)
  exact own_st stp (hr T' h' X' e' W)
theorem own_castore (X : Stand p l e R s m args below meth c T locs cells slots) (C : OwnCx p s m meth c Z y bs maxL rt) {v : Int32} {j : Int32} {n : Nat} {f : Nat → Value} (eT : T.heap = h) (F : OwnAr Z h a .char n f) (h0 : 0 ≤ j.toInt) (h1 : j.toInt < n) (hd : decode bs pc = .ok (.castore, 1)) (pc' : Nat) (hp : pc + 1 = pc') (w : Int32) (hw : nar .char v = w)
    (hr : ∀ T' h', Stand p l e R s m args below meth c T' (locs ++ [⟨a, j.toInt.toNat⟩]) cells slots → T'.heap = h' → Wr h h' a j.toInt.toNat (.int w) → OwnEnds p e below G (T'.setTop (mkF m pc' Ls st))) : OwnEnds p e below G (T.setTop (mkF m pc Ls (.int v :: .int j :: .ref a :: st))) := by
  subst hp hw
  obtain ⟨cl, A, S, r⟩ := F
  obtain ⟨T', h', X', e', W, stp⟩ := stC X C.1 C.2.1 eT A (j := j) (x := v) (by rw [S]; exact own_in h0 h1) (g := mkF m pc Ls _) rfl rfl (hb C.2.2.2.1 hd)
  exact own_st stp (hr T' h' X' e' W)
theorem own_bastoreZ (X : Stand p l e R s m args below meth c T locs cells slots) (C : OwnCx p s m meth c Z y bs maxL rt) {v : Int32} {j : Int32} {n : Nat} {f : Nat → Value} (eT : T.heap = h) (F : OwnAr Z h a .boolean n f) (h0 : 0 ≤ j.toInt) (h1 : j.toInt < n) (hd : decode bs pc = .ok (.bastore, 1)) (pc' : Nat) (hp : pc + 1 = pc') (w : Int32) (hw : nar .boolean v = w)
    (hr : ∀ T' h', Stand p l e R s m args below meth c T' (locs ++ [⟨a, j.toInt.toNat⟩]) cells slots → T'.heap = h' → Wr h h' a j.toInt.toNat (.int w) → OwnEnds p e below G (T'.setTop (mkF m pc' Ls st))) : OwnEnds p e below G (T.setTop (mkF m pc Ls (.int v :: .int j :: .ref a :: st))) := by
  subst hp hw
  obtain ⟨cl, A, S, r⟩ := F
  obtain ⟨T', h', X', e', W, stp⟩ := stZ X C.1 C.2.1 eT A (j := j) (x := v) (by rw [S]; exact own_in h0 h1) (g := mkF m pc Ls _) rfl rfl (hb C.2.2.2.1 hd)
  exact own_st stp (hr T' h' X' e' W)
theorem own_iaload (X : Stand p l e R s m args below meth c T locs cells slots) (C : OwnCx p s m meth c Z y bs maxL rt) {j : Int32} {n : Nat} {f : Nat → Value} (eT : T.heap = h) (F : OwnAr Z h a .int n f) (h0 : 0 ≤ j.toInt) (h1 : j.toInt < n) (hd : decode bs pc = .ok (.iaload, 1)) (pc' : Nat) (hp : pc + 1 = pc') (v : Value) (hv : f j.toInt.toNat = v)
    (hr : OwnEnds p e below G (T.setTop (mkF m pc' Ls (v :: st)))) : OwnEnds p e below G (T.setTop (mkF m pc Ls (.int j :: .ref a :: st))) := by
  subst hp hv
  obtain ⟨cl, A, S, r⟩ := F
  exact own_st (fun _ q => X.iaload C.1 (j := j) (v := f j.toInt.toNat) (by rw [eT]; exact A.1) (State.isArrayOf_alike C.2.1.alike A.2.1) A.2.2 (by rw [S]; exact own_in h0 h1) (show cl.slots[j.toNatClampNeg]? = _ from r j.toInt.toNat (by omega)) (g := mkF m pc Ls _) rfl rfl (hb C.2.2.2.1 hd) _ q) hr
theorem own_laload (X : Stand p l e R s m args below meth c T locs cells slots) (C : OwnCx p s m meth c Z y bs maxL rt) {j : Int32} {n : Nat} {f : Nat → Value} (eT : T.heap = h) (F : OwnAr Z h a .long n f) (h0 : 0 ≤ j.toInt) (h1 : j.toInt < n) (hd : decode bs pc = .ok (.laload, 1)) (pc' : Nat) (hp : pc + 1 = pc') (v : Value) (hv : f j.toInt.toNat = v)
    (hr : OwnEnds p e below G (T.setTop (mkF m pc' Ls (v :: st)))) : OwnEnds p e below G (T.setTop (mkF m pc Ls (.int j :: .ref a :: st))) := by
  subst hp hv
  obtain ⟨cl, A, S, r⟩ := F
  exact own_st (fun _ q => X.laload C.1 (j := j) (v := f j.toInt.toNat) (by rw [eT]; exact A.1) (State.isArrayOf_alike C.2.1.alike A.2.1) A.2.2 (by rw [S]; exact own_in h0 h1) (show cl.slots[j.toNatClampNeg]? = _ from r j.toInt.toNat (by omega)) (g := mkF m pc Ls _) rfl rfl (hb C.2.2.2.1 hd) _ q) hr
theorem own_caload (X : Stand p l e R s m args below meth c T locs cells slots) (C : OwnCx p s m meth c Z y bs maxL rt) {j : Int32} {n : Nat} {f : Nat → Value} (eT : T.heap = h) (F : OwnAr Z h a .char n f) (h0 : 0 ≤ j.toInt) (h1 : j.toInt < n) (hd : decode bs pc = .ok (.caload, 1)) (pc' : Nat) (hp : pc + 1 = pc') (v : Value) (hv : f j.toInt.toNat = v)
    (hr : OwnEnds p e below G (T.setTop (mkF m pc' Ls (v :: st)))) : OwnEnds p e below G (T.setTop (mkF m pc Ls (.int j :: .ref a :: st))) := by
  subst hp hv
  obtain ⟨cl, A, S, r⟩ := F
  exact own_st (fun _ q => X.caload C.1 (j := j) (v := f j.toInt.toNat) (by rw [eT]; exact A.1) (State.isArrayOf_alike C.2.1.alike A.2.1) A.2.2 (by rw [S]; exact own_in h0 h1) (show cl.slots[j.toNatClampNeg]? = _ from r j.toInt.toNat (by omega)) (g := mkF m pc Ls _) rfl rfl (hb C.2.2.2.1 hd) _ q) hr
theorem own_baloadB (X : Stand p l e R s m args below meth c T locs cells slots) (C : OwnCx p s m meth c Z y bs maxL rt) {j : Int32} {n : Nat} {f : Nat → Value} (eT : T.heap = h) (F : OwnAr Z h a .byte n f) (h0 : 0 ≤ j.toInt) (h1 : j.toInt < n) (hd : decode bs pc = .ok (.baload, 1)) (pc' : Nat) (hp : pc + 1 = pc') (v : Value) (hv : f j.toInt.toNat = v)
    (hr : OwnEnds p e below G (T.setTop (mkF m pc' Ls (v :: st)))) : OwnEnds p e below G (T.setTop (mkF m pc Ls (.int j :: .ref a :: st))) := by
  subst hp hv
  obtain ⟨cl, A, S, r⟩ := F
  exact own_st (fun _ q => X.baloadBytes C.1 (j := j) (v := f j.toInt.toNat) (by rw [eT]; exact A.1) (State.isArrayOf_alike C.2.1.alike A.2.1) A.2.2 (by rw [S]; exact own_in h0 h1) (show cl.slots[j.toNatClampNeg]? = _ from r j.toInt.toNat (by omega)) (g := mkF m pc Ls _) rfl rfl (hb C.2.2.2.1 hd) _ q) hr
theorem own_baloadZ (X : Stand p l e R s m args below meth c T locs cells slots) (C : OwnCx p s m meth c Z y bs maxL rt) {j : Int32} {n : Nat} {f : Nat → Value} (eT : T.heap = h) (F : OwnAr Z h a .boolean n f) (h0 : 0 ≤ j.toInt) (h1 : j.toInt < n) (hd : decode bs pc = .ok (.baload, 1)) (pc' : Nat) (hp : pc + 1 = pc') (v : Value) (hv : f j.toInt.toNat = v)
    (hr : OwnEnds p e below G (T.setTop (mkF m pc' Ls (v :: st)))) : OwnEnds p e below G (T.setTop (mkF m pc Ls (.int j :: .ref a :: st))) := by
  subst hp hv
  obtain ⟨cl, A, S, r⟩ := F
  exact own_st (fun _ q => X.baloadBooleans C.1 (j := j) (v := f j.toInt.toNat) (by rw [eT]; exact A.1) (State.isArrayOf_alike C.2.1.alike A.2.1) A.2.2 (by rw [S]; exact own_in h0 h1) (show cl.slots[j.toNatClampNeg]? = _ from r j.toInt.toNat (by omega)) (g := mkF m pc Ls _) rfl rfl (hb C.2.2.2.1 hd) _ q) hr
theorem own_arraylength (X : Stand p l e R s m args below meth c T locs cells slots) (C : OwnCx p s m meth c Z y bs maxL rt) {ty : FieldType} {n : Nat} {f : Nat → Value} (eT : T.heap = h) (F : OwnAr Z h a ty n f) (hd : decode bs pc = .ok (.arraylength, 1)) (pc' : Nat) (hp : pc + 1 = pc') (hn : n < 2147483648)
    (hr : ∀ z : Int32, z.toInt = n → z = n.toInt32 → OwnEnds p e below G (T.setTop (mkF m pc' Ls (.int z :: st)))) : OwnEnds p e below G (T.setTop (mkF m pc Ls (.ref a :: st))) := by
  subst hp
  obtain ⟨cl, A, S, r⟩ := F
  have k := hr n.toInt32 (own_len hn) rfl
  rw [← S] at k
  exact own_st (fun _ q => X.arraylength C.1 (by rw [eT]; exact A.1) (State.isArrayOf_alike C.2.1.alike A.2.1) (g := mkF m pc Ls _) rfl rfl (hb C.2.2.2.1 hd) _ q) k
theorem own_newarray (X : Stand p l e R s m args below meth c T locs cells slots) (C : OwnCx p s m meth c Z y bs maxL rt) {aty : ArrayType} {n : Int32} (w : (Jvm.Cond.arrayClass (newarray.typeOf aty)).before a0 Z = true) (eT : T.heap = h) (hd : decode bs pc = .ok (.newarray aty, 2)) (pc' : Nat) (hp : pc + 2 = pc') (h0 : 0 ≤ n.toInt) (cap : Nat) (hcap : n.toInt ≤ cap) (hbig : cap * 8 ≤ 536870912) (hc : cells + 1 ≤ R.cells) (hl : slots + cap ≤ R.slots)
    (hr : ∀ T' h' b, b = h.size → Stand p l e R s m args below meth c T' locs (cells + 1) (slots + cap) → T'.heap = h' → Ext h h' → OwnAr Z h' b (newarray.typeOf aty) n.toInt.toNat (fun _ => defaultValue (newarray.typeOf aty)) → OwnEnds p e below G (T'.setTop (mkF m pc' Ls (.ref b :: st)))) : OwnEnds p e below G (T.setTop (mkF m pc Ls (.int n :: st))) := by
  subst hp
  have hn0 : ¬ n < 0 := fun q => by rw [Int32.lt_iff_toInt_lt] at q; have : (0 : Int32).toInt = 0 := rfl; omega
  obtain ⟨T', h', cA, X', e', E', A, stp⟩ := newP X C.1 C.2.1 w eT (g := mkF m pc Ls (.int n :: st)) rfl (hb C.2.2.2.1 hd) rfl hn0 (cap := cap) (by show n.toInt.toNat ≤ cap; omega) hbig hc hl
  exact own_st stp (hr T' h' _ rfl X' e' E' (OwnAr.new A))
theorem own_new (X : Stand p l e R s m args below meth c T locs cells slots) (C : OwnCx p s m meth c Z y bs maxL rt) {idx n : Nat} {K : String} (w : (Jvm.Cond.classLink y.cls idx K).before a0 Z = true) (wi : (Jvm.Cond.instantiable K n).before a0 Z = true) (wz : (Jvm.Cond.initialized K).before a0 Z = true) (eT : T.heap = h) (hd : decode bs pc = .ok (.new idx, 3)) (pc' : Nat) (hp : pc + 3 = pc') (hc : cells + 1 ≤ R.cells) (hl : slots + n ≤ R.slots)
    (hr : ∀ T' h' b, b = h.size → Stand p l e R s m args below meth c T' locs (cells + 1) (slots + n) → T'.heap = h' → Ext h h' → Exa Z h' b K → (∀ {O nm d : String} {ty : FieldType}, Laid Z a0 K O nm d → parseFieldDescriptor d = some ty → Fld Z h' b O nm d (defaultValue ty)) → OwnEnds p e below G (T'.setTop (mkF m pc' Ls (.ref b :: st)))) : OwnEnds p e below G (T.setTop (mkF m pc Ls st)) := by
  subst hp
  obtain ⟨T', h', X', e', E', A, D, -, stp⟩ := newO X C.1 C.2.1 C.2.2.1 w wi wz eT (g := mkF m pc Ls st) rfl (hb C.2.2.2.1 hd) hc hl
  exact own_st stp (hr T' h' _ rfl X' e' E' A D)
theorem own_getfield (X : Stand p l e R s m args below meth c T locs cells slots) (C : OwnCx p s m meth c Z y bs maxL rt) {idx : Nat} {R0 O n d host : String} {v : Value} (w : (Jvm.Cond.fieldLink y.cls idx R0 n d).before a0 Z = true ∨ (Jvm.Cond.fieldLinkNest y.cls idx R0 n d host).before a0 Z = true) (via : Via Z R0 O n d) (eT : T.heap = h) (F : Fld Z h a O n d v) (hd : decode bs pc = .ok (.getfield idx, 3)) (pc' : Nat) (hp : pc + 3 = pc')
    (hr : ∀ T', Stand p l e R s m args below meth c T' locs cells slots → T'.heap = h → OwnEnds p e below G (T'.setTop (mkF m pc' Ls (v :: st)))) : OwnEnds p e below G (T.setTop (mkF m pc Ls (.ref a :: st))) := by
  subst hp
  obtain ⟨T', X', e', stp⟩ := getF X C.1 C.2.1 C.2.2.1 w via eT F (g := mkF m pc Ls _) rfl rfl (hb C.2.2.2.1 hd)
  exact own_st stp (hr T' X' e')
theorem own_getstatic (X : Stand p l e R s m args below meth c T locs cells slots) (C : OwnCx p s m meth c Z y bs maxL rt) {idx : Nat} {R0 O n d host : String} {v : Value} (w : (Jvm.Cond.fieldLink y.cls idx R0 n d).before a0 Z = true ∨ (Jvm.Cond.fieldLinkNest y.cls idx R0 n d host).before a0 Z = true) (via : Via Z R0 O n d) (eT : T.heap = h) (F : Sta Z h O n d v) (hd : decode bs pc = .ok (.getstatic idx, 3)) (pc' : Nat) (hp : pc + 3 = pc')
    (hr : ∀ T', Stand p l e R s m args below meth c T' locs cells slots → T'.heap = h → OwnEnds p e below G (T'.setTop (mkF m pc' Ls (v :: st)))) : OwnEnds p e below G (T.setTop (mkF m pc Ls st)) := by
  subst hp
  obtain ⟨T', X', e', stp⟩ := getS2 X C.1 C.2.1 C.2.2.1 w via eT F (g := mkF m pc Ls st) rfl (hb C.2.2.2.1 hd)
  exact own_st stp (hr T' X' e')
theorem own_putfield (X : Stand p l e R s m args below meth c T locs cells slots) (C : OwnCx p s m meth c Z y bs maxL rt) {idx kk : Nat} {R0 O n d host K : String} {ty : FieldType} {v old : Value} (w : (Jvm.Cond.fieldLink y.cls idx R0 n d).before a0 Z = true ∨ (Jvm.Cond.fieldLinkNest y.cls idx R0 n d host).before a0 Z = true) (via : Via Z R0 O n d) (eT : T.heap = h) (F : Fld Z h a O n d old) (E : Exa Z h a K) (L : (Jvm.Cond.lays K O n d).before a0 Z = true ∨ ((Jvm.Cond.laysFinal K O n d).before a0 Z = true ∧ y.cls = O ∧ y.name = "<init>")) (wi : (Jvm.Cond.instantiable K kk).before a0 Z = true)
    (hty : parseFieldDescriptor d = some ty) (hn : narrow ty v = v) (hf : fits ty v = true) (hd : decode bs pc = .ok (.putfield idx, 3)) (pc' : Nat) (hp : pc + 3 = pc')
    (hr : ∀ T' h', Stand p l e R s m args below meth c T' (locs ++ [⟨a, Jvm.RoadKit.slotOf Z O n d⟩]) cells slots → T'.heap = h' → Wr h h' a (Jvm.RoadKit.slotOf Z O n d) v → OwnEnds p e below G (T'.setTop (mkF m pc' Ls st))) : OwnEnds p e below G (T.setTop (mkF m pc Ls (v :: .ref a :: st))) := by
  subst hp
  obtain ⟨T', h', X', e', W, stp⟩ := putF X C.1 C.2.1 C.2.2.1 w via eT F E (L.imp id fun q => ⟨q.1, q.2.1, C.2.2.2.2.2.2.2.trans q.2.2⟩) wi hty hn hf (g := mkF m pc Ls _) rfl rfl (hb C.2.2.2.1 hd)
  exact own_st stp (hr T' h' X' e' W)
theorem own_putfieldN (X : Stand p l e R s m args below meth c T locs cells slots) (C : OwnCx p s m meth c Z y bs maxL rt) {idx kk : Nat} {R0 O n d K : String} {ty : FieldType} {v v' old : Value} (w : (Jvm.Cond.fieldLink y.cls idx R0 n d).before a0 Z = true) (via : Via Z R0 O n d) (eT : T.heap = h) (F : Fld Z h a O n d old) (E : Exa Z h a K) (L : (Jvm.Cond.lays K O n d).before a0 Z = true ∨ ((Jvm.Cond.laysFinal K O n d).before a0 Z = true ∧ y.cls = O ∧ y.name = "<init>")) (wi : (Jvm.Cond.instantiable K kk).before a0 Z = true)
    (hty : parseFieldDescriptor d = some ty) (hn : narrow ty v = v') (hf : fits ty v' = true) (hd : decode bs pc = .ok (.putfield idx, 3)) (pc' : Nat) (hp : pc + 3 = pc')
    (hr : ∀ T' h', Stand p l e R s m args below meth c T' (locs ++ [⟨a, Jvm.RoadKit.slotOf Z O n d⟩]) cells slots → T'.heap = h' → Wr h h' a (Jvm.RoadKit.slotOf Z O n d) v' → OwnEnds p e below G (T'.setTop (mkF m pc' Ls st))) : OwnEnds p e below G (T.setTop (mkF m pc Ls (v :: .ref a :: st))) := by
  subst hp
  obtain ⟨T', h', X', e', W, stp⟩ := putFN X C.1 C.2.1 C.2.2.1 w via eT F E (L.imp id fun q => ⟨q.1, q.2.1, C.2.2.2.2.2.2.2.trans q.2.2⟩) wi hty hn hf (g := mkF m pc Ls _) rfl rfl (hb C.2.2.2.1 hd)
  exact own_st stp (hr T' h' X' e' W)
theorem own_initO (X : Stand p l e R s m args below meth c T locs cells slots) (C : OwnCx p s m meth c Z y bs maxL rt) {idx : Nat} (w1 : (Jvm.Cond.methodLink y.cls idx Lib.objectInit).before a0 Z = true) (w2 : (Jvm.Cond.instanceMethod Lib.objectInit).before a0 Z = true) (w3 : (Jvm.Cond.code Lib.objectInit object_method_1_code 1 none).before a0 Z = true) (eT : T.heap = h) (hsz : Ls.size = maxL) (hd : decode bs pc = .ok (.invokespecial idx, 3)) (pc' : Nat) (hp : pc + 3 = pc') (hf : 1 ≤ R.frames) (W : Nat) (hW : (st.map fun v => v.category).sum = W) (hl : W + 12 ≤ R.locals)
    (hr : ∀ T', Stand p l e R s m args below meth c T' locs cells slots → T'.heap = h → OwnEnds p e below G (T'.setTop (mkF m pc' Ls st))) : OwnEnds p e below G (T.setTop (mkF m pc Ls (.ref a :: st))) := by
  subst hp
  obtain ⟨T', X', e', stp⟩ := initO X C.1 C.2.1 C.2.2.1 w1 w2 w3 eT (g := mkF m pc Ls (.ref a :: st)) rfl (by rw [C.2.2.2.2.1]; exact hsz) (a := a) (rest := st) rfl (hb C.2.2.2.1 hd) hf (W := W) (by show 2 * 0 + _ ≤ _; omega) hl
  exact own_st stp (hr T' X' e')
theorem own_callI (X : Stand p l e R s m args below meth c T locs cells slots) (C : OwnCx p s m meth c Z y bs maxL rt) {idx : Nat} {y' : MethodName} {bs' : ByteArray} {maxL' : Nat} {rt' : Option FieldType} {rm : Room} {as' : Array Value} {Q' : Option Value → Heap → List Loc → Prop} (hrt' : rt' = none)
    (w1 : (Jvm.Cond.methodLink y.cls idx y').before a0 Z = true) (w2 : (Jvm.Cond.instanceMethod y').before a0 Z = true) (w3 : (Jvm.Cond.initialized y'.cls).before a0 Z = true) (w4 : (Jvm.Cond.code y' bs' maxL' rt').before a0 Z = true) (hy1 : y'.name = "<init>") (hy : y'.cls ≠ "java/lang/invoke/MethodHandle" ∧ y'.cls ≠ "java/lang/invoke/VarHandle")
    (hM : OwnMet l Z y' bs' maxL' rt' [] rm as' h Q') (eT : T.heap = h) {ps : List FieldType} {r : Option FieldType} (hpd : parseMethodDescriptor y'.desc = some ⟨ps, r⟩) (argsL : List Value) (has : (Value.ref a :: argsL).toArray = as') (hlen : argsL.length = ps.length) (hst : st = argsL.reverse ++ .ref a :: rest) (hsz : Ls.size = maxL)
    (W : Nat) (hW : (rest.map fun v => v.category).sum = W) (hf : rm.frames + 1 ≤ R.frames) (hlo : W + (maxL' + 11) + rm.locals ≤ R.locals) (hce : cells + rm.cells ≤ R.cells) (hsl : slots + rm.slots ≤ R.slots) (hd : decode bs pc = .ok (.invokespecial idx, 3)) (pc' : Nat) (hp : pc + 3 = pc')
    (hr : ∀ T' L v, Stand p l e R s m args below meth c T' (locs ++ L) (cells + rm.cells) (slots + rm.slots) → Q' v T'.heap L → OwnEnds p e below G (T'.setTop (mkF m pc' Ls (v.toList ++ rest)))) : OwnEnds p e below G (T.setTop (mkF m pc Ls st)) := by
  subst hp has hW hrt'
  obtain ⟨v, _, ⟨T', L, k, n⟩, -, X', ⟨L', hQ, l1, l2, l3⟩, stp⟩ := X.specialBack C.1 hy1 C.2.2.1 (mvT C.2.1 w1) (mvT C.2.1 w2) (mvT C.2.1 w4) hy (backOf (len := 3) (W := (rest.map fun v => v.category).sum) hM C.2.1 w4 w3 hf hlo) (g := mkF m pc Ls st) rfl (by rw [C.2.2.2.2.1]; exact hsz) (Steps.refl _) (a := a) (argsL := argsL) (rest := rest) (lenOf hpd hlen) hst (by show 2 * 0 + _ ≤ _; omega) (hb C.2.2.2.1 hd) (fun _ _ => ⟨rfl, eT, hce, hsl⟩)
  dsimp only [Pt.U, Pt.locs, Pt.cells, Pt.slots] at X' l1 l2 l3 stp hQ
  subst l1 l2 l3
  exact own_tr stp (hr T' L' v X' hQ)
theorem own_callV (X : Stand p l e R s m args below meth c T locs cells slots) (C : OwnCx p s m meth c Z y bs maxL rt) {idx : Nat} {K : String} {y' : MethodName} {bs' : ByteArray} {maxL' : Nat} {rt' : Option FieldType} {rm : Room} {as' : Array Value} {Q' : Option Value → Heap → List Loc → Prop}
    (w1 : (Jvm.Cond.methodLink y.cls idx y').before a0 Z = true) (wd : (Jvm.Cond.declares y').before a0 Z = true) (ws : (Jvm.Cond.selects K y' y').before a0 Z = true) (w2 : (Jvm.Cond.instanceMethod y').before a0 Z = true) (w3 : (Jvm.Cond.initialized y'.cls).before a0 Z = true) (w4 : (Jvm.Cond.code y' bs' maxL' rt').before a0 Z = true) (hy : y'.cls ≠ "java/lang/invoke/MethodHandle" ∧ y'.cls ≠ "java/lang/invoke/VarHandle") (E : Exa Z h a K)
    (hM : OwnMet l Z y' bs' maxL' rt' [] rm as' h Q') (eT : T.heap = h) {ps : List FieldType} {r : Option FieldType} (hpd : parseMethodDescriptor y'.desc = some ⟨ps, r⟩) (argsL : List Value) (has : (Value.ref a :: argsL).toArray = as') (hlen : argsL.length = ps.length) (hst : st = argsL.reverse ++ .ref a :: rest) (hsz : Ls.size = maxL)
    (W : Nat) (hW : (rest.map fun v => v.category).sum = W) (hf : rm.frames + 1 ≤ R.frames) (hlo : W + (maxL' + 11) + rm.locals ≤ R.locals) (hce : cells + rm.cells ≤ R.cells) (hsl : slots + rm.slots ≤ R.slots) (hd : decode bs pc = .ok (.invokevirtual idx, 3)) (pc' : Nat) (hp : pc + 3 = pc')
    (hr : ∀ T' L v, Stand p l e R s m args below meth c T' (locs ++ L) (cells + rm.cells) (slots + rm.slots) → Q' v T'.heap L → OwnEnds p e below G (T'.setTop (mkF m pc' Ls (v.toList ++ rest)))) : OwnEnds p e below G (T.setTop (mkF m pc Ls st)) := by
  subst hp has hW
  obtain ⟨cq, kq, qa, qb, qc⟩ := isOf C.2.1 eT E
  obtain ⟨v, _, ⟨T', L, k, n⟩, -, X', ⟨L', hQ, l1, l2, l3⟩, stp⟩ := X.virtualBack C.1 (y := y') (z := y') C.2.2.1 (mvT C.2.1 w1) (mvT C.2.1 wd) (notFace_of_selects (args := #[]) (mvT C.2.1 ws)) (mvT C.2.1 ws) (mvT C.2.1 w2) hy (backOf (len := 3) (W := (rest.map fun v => v.category).sum) hM C.2.1 w4 w3 hf hlo) qa qc (g := mkF m pc Ls st) rfl (by rw [C.2.2.2.2.1]; exact hsz) (Steps.refl _) (argsL := argsL) (rest := rest) (lenOf hpd hlen) hst (by show 2 * 0 + _ ≤ _; omega) (hb C.2.2.2.1 hd) (fun _ _ => ⟨rfl, eT, hce, hsl⟩)
  dsimp only [Pt.U, Pt.locs, Pt.cells, Pt.slots] at X' l1 l2 l3 stp hQ
  subst l1 l2 l3
  exact own_tr stp (hr T' L' v X' hQ)
theorem own_instY (X : Stand p l e R s m args below meth c T locs cells slots) (C : OwnCx p s m meth c Z y bs maxL rt) {idx : Nat} {K : String} (w : (Jvm.Cond.classLink y.cls idx K).before a0 Z = true) (eT : T.heap = h) (F : Ins Z h a K true) (hd : decode bs pc = .ok (.instanceof idx, 3)) (pc' : Nat) (hp : pc + 3 = pc')
    (hr : ∀ T', Stand p l e R s m args below meth c T' locs cells slots → T'.heap = h → OwnEnds p e below G (T'.setTop (mkF m pc' Ls (.int 1 :: st)))) : OwnEnds p e below G (T.setTop (mkF m pc Ls (.ref a :: st))) := by
  subst hp
  obtain ⟨T', X', e', stp⟩ := instY X C.1 C.2.1 C.2.2.1 w eT F (g := mkF m pc Ls _) rfl rfl (hb C.2.2.2.1 hd)
  exact own_st stp (hr T' X' e')
theorem own_castY (X : Stand p l e R s m args below meth c T locs cells slots) (C : OwnCx p s m meth c Z y bs maxL rt) {idx : Nat} {K : String} (w : (Jvm.Cond.classLink y.cls idx K).before a0 Z = true) (eT : T.heap = h) (F : Ins Z h a K true) (hd : decode bs pc = .ok (.checkcast idx, 3)) (pc' : Nat) (hp : pc + 3 = pc')
    (hr : ∀ T', Stand p l e R s m args below meth c T' locs cells slots → T'.heap = h → OwnEnds p e below G (T'.setTop (mkF m pc' Ls (.ref a :: st)))) : OwnEnds p e below G (T.setTop (mkF m pc Ls (.ref a :: st))) := by
  subst hp
  obtain ⟨T', X', e', stp⟩ := castY X C.1 C.2.1 C.2.2.1 w eT F (g := mkF m pc Ls (.ref a :: st)) rfl (rest := st) rfl (hb C.2.2.2.1 hd)
  exact own_st stp (hr T' X' e')
end OwnHeap
theorem own_w {Z : State} {a0 : Array Value} (hw : ∀ d ∈ tables_1, d.before a0 Z = true) (k : Nat) {d : Jvm.Cond} (q : tables_1[k]? = some d) : d.before a0 Z = true := hw _ (List.mem_of_getElem? q)
theorem own_eqI {args : Array Value} {s : State} {t : Term} {k : Int32} (q : (Jvm.Cond.eq t (.int k)).value args s none s [] = some true) : t.eval args s none [] s = some (.int k) := by
  simp only [Cond.value, Term.int_eval] at q
  cases e : t.eval args s none [] s with
  | none => simp [e] at q
  | some v => cases v <;> simp [e] at q ⊢; exact q
theorem own_lenI {args : Array Value} {s : State} {t : Term} {a : Addr} {cl : Cell} {ty : FieldType} {k : Int32} (ev : t.eval args s none [] s = some (.ref a)) (A : Arr s s.heap a cl ty) (q : (Jvm.Cond.eq (.length t) (.int k)).value args s none s [] = some true) : (cl.slots.size : Int) = k.toInt := by
  have q1 := own_eqI q
  have q2 := A.fin (Vm.Alike.refl _)
  simp only [Term.eval, ev] at q1
  simp [q2] at q1
  obtain ⟨q3, q4⟩ := q1
  rw [← q4, len_toInt (by omega)]
theorem own_elI {args : Array Value} {s : State} {t : Term} {a : Addr} {cl : Cell} {ty : FieldType} {k j : Int32} (ev : t.eval args s none [] s = some (.ref a)) (A : Arr s s.heap a cl ty) (q : (Jvm.Cond.eq (.elem t (.int j)) (.int k)).value args s none s [] = some true) : cl.slots[j.toNatClampNeg]? = some (.int k) :=
  (elem_in (own_eqI q) ev (Term.int_eval j) A.1).2
theorem own_pn_Record : plainName "java/lang/Record" = true := by first | (simp [plainName, overriddenIn]; done) | decide +kernel
theorem own_pd__R_V : parseMethodDescriptor "()V" = some ⟨[], none⟩ := by decide +kernel
theorem own_d_jdk_30_method_1_code_0 : decode jdk_30_method_1_code 0 = .ok (.aload_n 0, 1) := by decide +kernel
theorem own_d_jdk_30_method_1_code_1 : decode jdk_30_method_1_code 1 = .ok (.invokespecial 1, 3) := by decide +kernel
theorem own_d_jdk_30_method_1_code_4 : decode jdk_30_method_1_code 4 = .ok (.return_, 1) := by decide +kernel
set_option maxRecDepth 65536 in
set_option maxHeartbeats 4000000 in
theorem own_ef_own_rm_record (m : MethodId) (oa0 : Nat) : entryFrame m #[(.ref oa0)] 1 = (mkF m 0 #[.val (.ref oa0)] []) := by first | (simp [entryFrame, mkF, argsToLocals, Value.category]; done) | rfl
set_option maxRecDepth 65536 in
set_option maxHeartbeats 4000000 in
theorem own_rm_record (l : Launch) (Z : State) (a0 : Array Value) (hw : ∀ d ∈ tables_1, d.before a0 Z = true) (oa0 : Nat) (h : Heap)  :
    OwnMet l Z (⟨"java/lang/Record", "<init>", "()V"⟩ : MethodName) jdk_30_method_1_code 1 none [] ({ frames := 1, cells := 0, slots := 0, locals := 12 } : Room) #[(.ref oa0)] h (fun v h' L => v = none ∧ h' = h ∧ L = []) := by
  refine own_enter (f0 := fun m => mkF m 0 #[.val (.ref oa0)] []) (plainFor_of_name own_pn_Record) (fun m => own_ef_own_rm_record m oa0) ?_
  intro p e s m below meth c T0 X0 C e0
  refine own_aload_n X0 C own_d_jdk_30_method_1_code_0 1 rfl rfl rfl ?_
  refine own_initO X0 C (own_w hw 57 rfl) (own_w hw 9 rfl) (own_w hw 10 rfl) e0 rfl own_d_jdk_30_method_1_code_1 4 rfl (by decide) 0 rfl (by decide) (fun T1 X1 e1 => ?_)
  refine own_return X1 C rfl own_d_jdk_30_method_1_code_4 (by decide) (by decide) ?_
  exact ⟨rfl, e1, rfl⟩
theorem own_pn_AbstractCollection : plainName "java/util/AbstractCollection" = true := by first | (simp [plainName, overriddenIn]; done) | decide +kernel
theorem own_d_jdk_22_method_1_code_0 : decode jdk_22_method_1_code 0 = .ok (.aload_n 0, 1) := by decide +kernel
theorem own_d_jdk_22_method_1_code_1 : decode jdk_22_method_1_code 1 = .ok (.invokespecial 1, 3) := by decide +kernel
theorem own_d_jdk_22_method_1_code_4 : decode jdk_22_method_1_code 4 = .ok (.return_, 1) := by decide +kernel
set_option maxRecDepth 65536 in
set_option maxHeartbeats 4000000 in
theorem own_ef_own_rm_abc (m : MethodId) (oa0 : Nat) : entryFrame m #[(.ref oa0)] 1 = (mkF m 0 #[.val (.ref oa0)] []) := by first | (simp [entryFrame, mkF, argsToLocals, Value.category]; done) | rfl
set_option maxRecDepth 65536 in
set_option maxHeartbeats 4000000 in
theorem own_rm_abc (l : Launch) (Z : State) (a0 : Array Value) (hw : ∀ d ∈ tables_1, d.before a0 Z = true) (oa0 : Nat) (h : Heap)  :
    OwnMet l Z (⟨"java/util/AbstractCollection", "<init>", "()V"⟩ : MethodName) jdk_22_method_1_code 1 none [] ({ frames := 1, cells := 0, slots := 0, locals := 12 } : Room) #[(.ref oa0)] h (fun v h' L => v = none ∧ h' = h ∧ L = []) := by
  refine own_enter (f0 := fun m => mkF m 0 #[.val (.ref oa0)] []) (plainFor_of_name own_pn_AbstractCollection) (fun m => own_ef_own_rm_abc m oa0) ?_
  intro p e s m below meth c T0 X0 C e0
  refine own_aload_n X0 C own_d_jdk_22_method_1_code_0 1 rfl rfl rfl ?_
  refine own_initO X0 C (own_w hw 29 rfl) (own_w hw 9 rfl) (own_w hw 10 rfl) e0 rfl own_d_jdk_22_method_1_code_1 4 rfl (by decide) 0 rfl (by decide) (fun T1 X1 e1 => ?_)
  refine own_return X1 C rfl own_d_jdk_22_method_1_code_4 (by decide) (by decide) ?_
  exact ⟨rfl, e1, rfl⟩
theorem own_pn_AbstractList : plainName "java/util/AbstractList" = true := by first | (simp [plainName, overriddenIn]; done) | decide +kernel
theorem own_d_jdk_39_method_1_code_0 : decode jdk_39_method_1_code 0 = .ok (.aload_n 0, 1) := by decide +kernel
theorem own_d_jdk_39_method_1_code_1 : decode jdk_39_method_1_code 1 = .ok (.invokespecial 1, 3) := by decide +kernel
theorem own_d_jdk_39_method_1_code_4 : decode jdk_39_method_1_code 4 = .ok (.aload_n 0, 1) := by decide +kernel
theorem own_d_jdk_39_method_1_code_5 : decode jdk_39_method_1_code 5 = .ok (.iconst 0, 1) := by decide +kernel
theorem own_d_jdk_39_method_1_code_6 : decode jdk_39_method_1_code 6 = .ok (.putfield 7, 3) := by decide +kernel
theorem own_d_jdk_39_method_1_code_9 : decode jdk_39_method_1_code 9 = .ok (.return_, 1) := by decide +kernel
set_option maxRecDepth 65536 in
set_option maxHeartbeats 4000000 in
theorem own_ef_own_rm_abl (m : MethodId) (oa0 : Nat) : entryFrame m #[(.ref oa0)] 1 = (mkF m 0 #[.val (.ref oa0)] []) := by first | (simp [entryFrame, mkF, argsToLocals, Value.category]; done) | rfl
set_option maxRecDepth 65536 in
set_option maxHeartbeats 4000000 in
theorem own_rm_abl (l : Launch) (Z : State) (a0 : Array Value) (hw : ∀ d ∈ tables_1, d.before a0 Z = true) (oa0 : Nat) (h : Heap) (n0 : Nat) (go : n0 ≤ oa0) (Eo : Exa Z h oa0 "java/util/ArrayList") (Fm : Fld Z h oa0 "java/util/AbstractList" "modCount" "I" (.int (0 : Int32))) :
    OwnMet l Z (⟨"java/util/AbstractList", "<init>", "()V"⟩ : MethodName) jdk_39_method_1_code 1 none [] ({ frames := 2, cells := 0, slots := 0, locals := 40 } : Room) #[(.ref oa0)] h (fun v h' L => v = none ∧ Fr n0 L ∧ Keep h h' [oa0]) := by
  refine own_enter (f0 := fun m => mkF m 0 #[.val (.ref oa0)] []) (plainFor_of_name own_pn_AbstractList) (fun m => own_ef_own_rm_abl m oa0) ?_
  intro p e s m below meth c T0 X0 C e0
  refine own_aload_n X0 C own_d_jdk_39_method_1_code_0 1 rfl rfl rfl ?_
  refine own_callI X0 C rfl (own_w hw 23 rfl) (own_w hw 24 rfl) (own_w hw 27 rfl) (own_w hw 28 rfl) rfl (by decide) (own_rm_abc l Z a0 hw oa0 h) e0 own_pd__R_V [] rfl rfl rfl rfl 0 rfl (by decide) (by decide) (by decide) (by decide) own_d_jdk_39_method_1_code_1 4 rfl (fun T1 L1 v1 X1 q1 => ?_)
  obtain ⟨rfl, eh1, rfl⟩ := q1
  have N1 := Fr.app (Fr.nil n0) (Fr.nil n0)
  refine own_aload_n X1 C own_d_jdk_39_method_1_code_4 5 rfl rfl rfl ?_
  refine own_iconst X1 C own_d_jdk_39_method_1_code_5 6 rfl (0) rfl ?_
  refine own_putfield X1 C (host := "") (Or.inl (own_w hw 30 rfl)) Via.refl eh1 Fm Eo (Or.inl (own_w hw 31 rfl)) (own_w hw 12 rfl) (ty := .int) (by decide) rfl rfl own_d_jdk_39_method_1_code_6 9 rfl (fun T2 h2 X2 e2 W2 => ?_)
  have N2 := own_fr1 (sl := Jvm.RoadKit.slotOf Z "java/util/AbstractList" "modCount" "I") N1 go
  refine own_return X2 C rfl own_d_jdk_39_method_1_code_9 (by decide) (by decide) ?_
  rw [e2]; exact ⟨rfl, N2, Keep.of_wr W2⟩
theorem own_fld {Z : State} {h h' : Heap} {a : Addr} {O n d : String} {v : Value} {ws : List Addr} (F : Fld Z h a O n d v) (K : Keep h h' ws) : ∃ w, Fld Z h' a O n d w := by
  obtain ⟨cell, cf, k, i, f, h1, h2, h3, h4, h5, h6, h7⟩ := F
  obtain ⟨c', e1, e2, e3, e4⟩ := K.2.2 _ _ h1
  have q := (Array.getElem?_eq_some_iff.mp h7).1
  exact ⟨c'.slots[f.slot]'(by omega), c', cf, k, i, f, e1, h2, h3, by rw [e3]; exact h4, by rw [e3]; exact h5, by rw [e2]; exact h6, by simp⟩
theorem own_pn_ArrayList : plainName "java/util/ArrayList" = true := by first | (simp [plainName, overriddenIn]; done) | decide +kernel
theorem own_d_jdk_38_method_2_code_0 : decode jdk_38_method_2_code 0 = .ok (.aload_n 0, 1) := by decide +kernel
theorem own_d_jdk_38_method_2_code_1 : decode jdk_38_method_2_code 1 = .ok (.invokespecial 1, 3) := by decide +kernel
theorem own_d_jdk_38_method_2_code_4 : decode jdk_38_method_2_code 4 = .ok (.aload_n 0, 1) := by decide +kernel
theorem own_d_jdk_38_method_2_code_5 : decode jdk_38_method_2_code 5 = .ok (.getstatic 39, 3) := by decide +kernel
theorem own_d_jdk_38_method_2_code_8 : decode jdk_38_method_2_code 8 = .ok (.putfield 9, 3) := by decide +kernel
theorem own_d_jdk_38_method_2_code_11 : decode jdk_38_method_2_code 11 = .ok (.return_, 1) := by decide +kernel
set_option maxRecDepth 65536 in
set_option maxHeartbeats 4000000 in
theorem own_ef_own_rm_al (m : MethodId) (oa0 : Nat) : entryFrame m #[(.ref oa0)] 1 = (mkF m 0 #[.val (.ref oa0)] []) := by first | (simp [entryFrame, mkF, argsToLocals, Value.category]; done) | rfl
set_option maxRecDepth 65536 in
set_option maxHeartbeats 4000000 in
theorem own_rm_al (l : Launch) (Z : State) (a0 : Array Value) (hw : ∀ d ∈ tables_1, d.before a0 Z = true) (oa0 : Nat) (h : Heap) (n0 : Nat) (go : n0 ≤ oa0) (Eo : Exa Z h oa0 "java/util/ArrayList") (Fm : Fld Z h oa0 "java/util/AbstractList" "modCount" "I" (.int (0 : Int32))) (Fe : Fld Z h oa0 "java/util/ArrayList" "elementData" "[Ljava/lang/Object;" .null) (OL : Old Z n0 h) (aD : Nat) (SD : Sta Z Z.heap "java/util/ArrayList" "DEFAULTCAPACITY_EMPTY_ELEMENTDATA" "[Ljava/lang/Object;" (.ref aD)) :
    OwnMet l Z (⟨"java/util/ArrayList", "<init>", "()V"⟩ : MethodName) jdk_38_method_2_code 1 none [] ({ frames := 3, cells := 0, slots := 0, locals := 70 } : Room) #[(.ref oa0)] h (fun v h' L => v = none ∧ Fr n0 L ∧ Keep h h' [oa0]) := by
  refine own_enter (f0 := fun m => mkF m 0 #[.val (.ref oa0)] []) (plainFor_of_name own_pn_ArrayList) (fun m => own_ef_own_rm_al m oa0) ?_
  intro p e s m below meth c T0 X0 C e0
  refine own_aload_n X0 C own_d_jdk_38_method_2_code_0 1 rfl rfl rfl ?_
  refine own_callI X0 C rfl (own_w hw 17 rfl) (own_w hw 18 rfl) (own_w hw 21 rfl) (own_w hw 22 rfl) rfl (by decide) (own_rm_abl l Z a0 hw oa0 h n0 go Eo Fm) e0 own_pd__R_V [] rfl rfl rfl rfl 0 rfl (by decide) (by decide) (by decide) (by decide) own_d_jdk_38_method_2_code_1 4 rfl (fun T1 L1 v1 X1 q1 => ?_)
  obtain ⟨rfl, NL1, K1⟩ := q1
  have N1 := Fr.app (Fr.nil n0) NL1
  replace Eo := Eo.keep K1
  obtain ⟨ue, Fe⟩ := own_fld Fe K1
  replace OL := OL.keep K1 (allS go all0)
  refine own_aload_n X1 C own_d_jdk_38_method_2_code_4 5 rfl rfl rfl ?_
  refine own_getstatic X1 C (host := "") (Or.inl (own_w hw 32 rfl)) Via.refl rfl (SD.ext OL.2) own_d_jdk_38_method_2_code_5 8 rfl (fun T2 X2 e2 => ?_)
  refine own_putfield X2 C (host := "") (Or.inl (own_w hw 33 rfl)) Via.refl e2 Fe Eo (Or.inl (own_w hw 34 rfl)) (own_w hw 12 rfl) (ty := (.array (.object "java/lang/Object"))) (by decide) rfl rfl own_d_jdk_38_method_2_code_8 11 rfl (fun T3 h3 X3 e3 W3 => ?_)
  have N3 := own_fr1 (sl := Jvm.RoadKit.slotOf Z "java/util/ArrayList" "elementData" "[Ljava/lang/Object;") N1 go
  refine own_return X3 C rfl own_d_jdk_38_method_2_code_11 (by decide) (by decide) ?_
  rw [e3]; exact ⟨rfl, N3, K1.trans (Keep.of_wr W3) (allS (Or.inl (by simp)) all0)⟩
theorem own_pn_Frame : plainName "com/example/paths_to_proofs/pathstoproofs/statechart/Frame" = true := by first | (simp [plainName, overriddenIn]; done) | decide +kernel
theorem own_pd_ILcom_example_paths_to_proofs_pathstoproofs_statechart_Vectors_Z_R_V : parseMethodDescriptor "(ILcom/example/paths_to_proofs/pathstoproofs/statechart/Vectors;Z)V" = some ⟨[.int, (.object "com/example/paths_to_proofs/pathstoproofs/statechart/Vectors"), .boolean], none⟩ := by decide +kernel
theorem own_d_prog_97_method_1_code_0 : decode prog_97_method_1_code 0 = .ok (.aload_n 0, 1) := by decide +kernel
theorem own_d_prog_97_method_1_code_1 : decode prog_97_method_1_code 1 = .ok (.invokespecial 1, 3) := by decide +kernel
theorem own_d_prog_97_method_1_code_4 : decode prog_97_method_1_code 4 = .ok (.aload_n 0, 1) := by decide +kernel
theorem own_d_prog_97_method_1_code_5 : decode prog_97_method_1_code 5 = .ok (.new 7, 3) := by decide +kernel
theorem own_d_prog_97_method_1_code_8 : decode prog_97_method_1_code 8 = .ok (.dup, 1) := by decide +kernel
theorem own_d_prog_97_method_1_code_9 : decode prog_97_method_1_code 9 = .ok (.invokespecial 9, 3) := by decide +kernel
theorem own_d_prog_97_method_1_code_12 : decode prog_97_method_1_code 12 = .ok (.putfield 10, 3) := by decide +kernel
theorem own_d_prog_97_method_1_code_15 : decode prog_97_method_1_code 15 = .ok (.aload_n 0, 1) := by decide +kernel
theorem own_d_prog_97_method_1_code_16 : decode prog_97_method_1_code 16 = .ok (.new 7, 3) := by decide +kernel
theorem own_d_prog_97_method_1_code_19 : decode prog_97_method_1_code 19 = .ok (.dup, 1) := by decide +kernel
theorem own_d_prog_97_method_1_code_20 : decode prog_97_method_1_code 20 = .ok (.invokespecial 9, 3) := by decide +kernel
theorem own_d_prog_97_method_1_code_23 : decode prog_97_method_1_code 23 = .ok (.putfield 16, 3) := by decide +kernel
theorem own_d_prog_97_method_1_code_26 : decode prog_97_method_1_code 26 = .ok (.aload_n 0, 1) := by decide +kernel
theorem own_d_prog_97_method_1_code_27 : decode prog_97_method_1_code 27 = .ok (.iload_n 1, 1) := by decide +kernel
theorem own_d_prog_97_method_1_code_28 : decode prog_97_method_1_code 28 = .ok (.newarray .int, 2) := by decide +kernel
theorem own_d_prog_97_method_1_code_30 : decode prog_97_method_1_code 30 = .ok (.putfield 19, 3) := by decide +kernel
theorem own_d_prog_97_method_1_code_33 : decode prog_97_method_1_code 33 = .ok (.aload_n 0, 1) := by decide +kernel
theorem own_d_prog_97_method_1_code_34 : decode prog_97_method_1_code 34 = .ok (.aload_n 2, 1) := by decide +kernel
theorem own_d_prog_97_method_1_code_35 : decode prog_97_method_1_code 35 = .ok (.putfield 23, 3) := by decide +kernel
theorem own_d_prog_97_method_1_code_38 : decode prog_97_method_1_code 38 = .ok (.aload_n 0, 1) := by decide +kernel
theorem own_d_prog_97_method_1_code_39 : decode prog_97_method_1_code 39 = .ok (.iload_n 3, 1) := by decide +kernel
theorem own_d_prog_97_method_1_code_40 : decode prog_97_method_1_code 40 = .ok (.putfield 27, 3) := by decide +kernel
theorem own_d_prog_97_method_1_code_43 : decode prog_97_method_1_code 43 = .ok (.return_, 1) := by decide +kernel
set_option maxRecDepth 65536 in
set_option maxHeartbeats 4000000 in
theorem own_ef_own_rm_frame (m : MethodId) (oa0 : Nat) : entryFrame m #[(.ref oa0), (.int (3 : Int32)), .null, (.int (0 : Int32))] 4 = (mkF m 0 #[.val (.ref oa0), .val (.int (3 : Int32)), .val .null, .val (.int (0 : Int32))] []) := by first | (simp [entryFrame, mkF, argsToLocals, Value.category]; done) | rfl
set_option maxRecDepth 65536 in
set_option maxHeartbeats 4000000 in
theorem own_rm_frame (l : Launch) (Z : State) (a0 : Array Value) (hw : ∀ d ∈ tables_1, d.before a0 Z = true) (oa0 : Nat) (h : Heap) (n0 : Nat) (Z0 : n0 ≤ h.size) (go : n0 ≤ oa0) (Eo : Exa Z h oa0 "com/example/paths_to_proofs/pathstoproofs/statechart/Frame") (F_assigned : Fld Z h oa0 "com/example/paths_to_proofs/pathstoproofs/statechart/Frame" "assigned" "Ljava/util/List;" .null) (F_sent : Fld Z h oa0 "com/example/paths_to_proofs/pathstoproofs/statechart/Frame" "sent" "Ljava/util/List;" .null) (F_locals : Fld Z h oa0 "com/example/paths_to_proofs/pathstoproofs/statechart/Frame" "locals" "[I" .null) (F_vectors : Fld Z h oa0 "com/example/paths_to_proofs/pathstoproofs/statechart/Frame" "vectors" "Lcom/example/paths_to_proofs/pathstoproofs/statechart/Vectors;" .null) (F_observingAssignments : Fld Z h oa0 "com/example/paths_to_proofs/pathstoproofs/statechart/Frame" "observingAssignments" "Z" (.int (0 : Int32))) (OL : Old Z n0 h) (aD : Nat) (SD : Sta Z Z.heap "java/util/ArrayList" "DEFAULTCAPACITY_EMPTY_ELEMENTDATA" "[Ljava/lang/Object;" (.ref aD)) :
    OwnMet l Z (⟨"com/example/paths_to_proofs/pathstoproofs/statechart/Frame", "<init>", "(ILcom/example/paths_to_proofs/pathstoproofs/statechart/Vectors;Z)V"⟩ : MethodName) prog_97_method_1_code 4 none [] ({ frames := 5, cells := 4, slots := 40, locals := 120 } : Room) #[(.ref oa0), (.int (3 : Int32)), .null, (.int (0 : Int32))] h (fun v h' L => v = none ∧ Fr n0 L ∧ Keep h h' [oa0] ∧ ∃ b : Nat, h.size ≤ b ∧ Exa Z h' oa0 "com/example/paths_to_proofs/pathstoproofs/statechart/Frame" ∧ Fld Z h' oa0 "com/example/paths_to_proofs/pathstoproofs/statechart/Frame" "locals" "[I" (.ref b) ∧ OwnAr Z h' b .int 3 (fun _ => .int 0)) := by
  refine own_enter (f0 := fun m => mkF m 0 #[.val (.ref oa0), .val (.int (3 : Int32)), .val .null, .val (.int (0 : Int32))] []) (plainFor_of_name own_pn_Frame) (fun m => own_ef_own_rm_frame m oa0) ?_
  intro p e s m below meth c T0 X0 C e0
  have Lo := own_exl Eo
  have Kp := Keep.refl h [oa0]
  refine own_aload_n X0 C own_d_prog_97_method_1_code_0 1 rfl rfl rfl ?_
  refine own_initO X0 C (own_w hw 8 rfl) (own_w hw 9 rfl) (own_w hw 10 rfl) e0 rfl own_d_prog_97_method_1_code_1 4 rfl (by decide) 0 rfl (by decide) (fun T1 X1 e1 => ?_)
  refine own_aload_n X1 C own_d_prog_97_method_1_code_4 5 rfl rfl rfl ?_
  refine own_new X1 C (own_w hw 11 rfl) (own_w hw 12 rfl) (own_w hw 13 rfl) e1 own_d_prog_97_method_1_code_5 8 rfl (by decide) (by decide) (fun T2 h2 b2 g2 X2 e2 E2 A2 D2 => ?_)
  have Fm2 : Fld Z h2 b2 "java/util/AbstractList" "modCount" "I" (.int (0 : Int32)) := D2 (Or.inl (own_w hw 31 rfl)) (ty := .int) (by decide)
  have Fe2 : Fld Z h2 b2 "java/util/ArrayList" "elementData" "[Ljava/lang/Object;" .null := D2 (Or.inl (own_w hw 34 rfl)) (ty := (.array (.object "java/lang/Object"))) (by decide)
  have gh2 := E2.1
  have gn2 : h.size ≤ b2 := by have q := Kp.1; omega
  replace Kp := Kp.ext E2
  replace Eo := Eo.ext E2
  replace OL := OL.ext E2
  replace F_assigned := F_assigned.ext E2
  replace F_sent := F_sent.ext E2
  replace F_locals := F_locals.ext E2
  replace F_vectors := F_vectors.ext E2
  replace F_observingAssignments := F_observingAssignments.ext E2
  refine own_dup X2 C own_d_prog_97_method_1_code_8 9 rfl rfl ?_
  refine own_callI X2 C rfl (own_w hw 14 rfl) (own_w hw 15 rfl) (own_w hw 13 rfl) (own_w hw 16 rfl) rfl (by decide) (own_rm_al l Z a0 hw b2 h2 n0 (Nat.le_trans Z0 gn2) A2 Fm2 Fe2 OL aD SD) e2 own_pd__R_V [] rfl rfl rfl rfl 2 rfl (by decide) (by decide) (by decide) (by decide) own_d_prog_97_method_1_code_9 12 rfl (fun T3 L3 v3 X3 q3 => ?_)
  obtain ⟨rfl, NL3, K3⟩ := q3
  have N3 := Fr.app (Fr.nil n0) NL3
  have nb3 : oa0 ≠ b2 := by have q := Lo; omega
  replace Kp := Kp.trans K3 (allS (Or.inr gn2) all0)
  replace Eo := Eo.keep K3
  replace OL := OL.keep K3 (allS (Nat.le_trans Z0 gn2) all0)
  replace F_assigned := F_assigned.keep K3 (ninS nb3 nin0)
  replace F_sent := F_sent.keep K3 (ninS nb3 nin0)
  replace F_locals := F_locals.keep K3 (ninS nb3 nin0)
  replace F_vectors := F_vectors.keep K3 (ninS nb3 nin0)
  replace F_observingAssignments := F_observingAssignments.keep K3 (ninS nb3 nin0)
  refine own_putfield X3 C (host := "") (Or.inl (own_w hw 35 rfl)) Via.refl rfl F_assigned Eo (Or.inr ⟨(own_w hw 36 rfl), rfl, rfl⟩) (own_w hw 3 rfl) (ty := (.object "java/util/List")) (by decide) rfl rfl own_d_prog_97_method_1_code_12 15 rfl (fun T4 h4 X4 e4 W4 => ?_)
  have N4 := own_fr1 (sl := Jvm.RoadKit.slotOf Z "com/example/paths_to_proofs/pathstoproofs/statechart/Frame" "assigned" "Ljava/util/List;") N3 go
  replace Eo := Eo.wr W4
  replace F_assigned := F_assigned.same W4
  replace Kp := Kp.wr W4 (Or.inl (List.mem_singleton.mpr rfl))
  replace OL := OL.wr W4 go
  replace F_sent := F_sent.other W4 (Or.inr (slot_ne (Or.inr (own_w hw 38 rfl)) (Or.inr (own_w hw 36 rfl)) (by decide) (t := (.object "java/util/List")) (t' := (.object "java/util/List")) (by decide) (by decide)))
  replace F_locals := F_locals.other W4 (Or.inr (slot_ne (Or.inr (own_w hw 40 rfl)) (Or.inr (own_w hw 36 rfl)) (by decide) (t := (.array .int)) (t' := (.object "java/util/List")) (by decide) (by decide)))
  replace F_vectors := F_vectors.other W4 (Or.inr (slot_ne (Or.inr (own_w hw 42 rfl)) (Or.inr (own_w hw 36 rfl)) (by decide) (t := (.object "com/example/paths_to_proofs/pathstoproofs/statechart/Vectors")) (t' := (.object "java/util/List")) (by decide) (by decide)))
  replace F_observingAssignments := F_observingAssignments.other W4 (Or.inr (slot_ne (Or.inr (own_w hw 44 rfl)) (Or.inr (own_w hw 36 rfl)) (by decide) (t := .boolean) (t' := (.object "java/util/List")) (by decide) (by decide)))
  refine own_aload_n X4 C own_d_prog_97_method_1_code_15 16 rfl rfl rfl ?_
  refine own_new X4 C (own_w hw 11 rfl) (own_w hw 12 rfl) (own_w hw 13 rfl) e4 own_d_prog_97_method_1_code_16 19 rfl (by decide) (by decide) (fun T5 h5 b5 g5 X5 e5 E5 A5 D5 => ?_)
  have Fm5 : Fld Z h5 b5 "java/util/AbstractList" "modCount" "I" (.int (0 : Int32)) := D5 (Or.inl (own_w hw 31 rfl)) (ty := .int) (by decide)
  have Fe5 : Fld Z h5 b5 "java/util/ArrayList" "elementData" "[Ljava/lang/Object;" .null := D5 (Or.inl (own_w hw 34 rfl)) (ty := (.array (.object "java/lang/Object"))) (by decide)
  have gh5 := E5.1
  have gn5 : h.size ≤ b5 := by have q := Kp.1; omega
  replace Kp := Kp.ext E5
  replace Eo := Eo.ext E5
  replace OL := OL.ext E5
  replace F_assigned := F_assigned.ext E5
  replace F_sent := F_sent.ext E5
  replace F_locals := F_locals.ext E5
  replace F_vectors := F_vectors.ext E5
  replace F_observingAssignments := F_observingAssignments.ext E5
  refine own_dup X5 C own_d_prog_97_method_1_code_19 20 rfl rfl ?_
  refine own_callI X5 C rfl (own_w hw 14 rfl) (own_w hw 15 rfl) (own_w hw 13 rfl) (own_w hw 16 rfl) rfl (by decide) (own_rm_al l Z a0 hw b5 h5 n0 (Nat.le_trans Z0 gn5) A5 Fm5 Fe5 OL aD SD) e5 own_pd__R_V [] rfl rfl rfl rfl 2 rfl (by decide) (by decide) (by decide) (by decide) own_d_prog_97_method_1_code_20 23 rfl (fun T6 L6 v6 X6 q6 => ?_)
  obtain ⟨rfl, NL6, K6⟩ := q6
  have N6 := Fr.app N4 NL6
  have nb6 : oa0 ≠ b5 := by have q := Lo; omega
  replace Kp := Kp.trans K6 (allS (Or.inr gn5) all0)
  replace Eo := Eo.keep K6
  replace OL := OL.keep K6 (allS (Nat.le_trans Z0 gn5) all0)
  replace F_assigned := F_assigned.keep K6 (ninS nb6 nin0)
  replace F_sent := F_sent.keep K6 (ninS nb6 nin0)
  replace F_locals := F_locals.keep K6 (ninS nb6 nin0)
  replace F_vectors := F_vectors.keep K6 (ninS nb6 nin0)
  replace F_observingAssignments := F_observingAssignments.keep K6 (ninS nb6 nin0)
  refine own_putfield X6 C (host := "") (Or.inl (own_w hw 37 rfl)) Via.refl rfl F_sent Eo (Or.inr ⟨(own_w hw 38 rfl), rfl, rfl⟩) (own_w hw 3 rfl) (ty := (.object "java/util/List")) (by decide) rfl rfl own_d_prog_97_method_1_code_23 26 rfl (fun T7 h7 X7 e7 W7 => ?_)
  have N7 := own_fr1 (sl := Jvm.RoadKit.slotOf Z "com/example/paths_to_proofs/pathstoproofs/statechart/Frame" "sent" "Ljava/util/List;") N6 go
  replace Eo := Eo.wr W7
  replace F_sent := F_sent.same W7
  replace Kp := Kp.wr W7 (Or.inl (List.mem_singleton.mpr rfl))
  replace OL := OL.wr W7 go
  replace F_assigned := F_assigned.other W7 (Or.inr (slot_ne (Or.inr (own_w hw 36 rfl)) (Or.inr (own_w hw 38 rfl)) (by decide) (t := (.object "java/util/List")) (t' := (.object "java/util/List")) (by decide) (by decide)))
  replace F_locals := F_locals.other W7 (Or.inr (slot_ne (Or.inr (own_w hw 40 rfl)) (Or.inr (own_w hw 38 rfl)) (by decide) (t := (.array .int)) (t' := (.object "java/util/List")) (by decide) (by decide)))
  replace F_vectors := F_vectors.other W7 (Or.inr (slot_ne (Or.inr (own_w hw 42 rfl)) (Or.inr (own_w hw 38 rfl)) (by decide) (t := (.object "com/example/paths_to_proofs/pathstoproofs/statechart/Vectors")) (t' := (.object "java/util/List")) (by decide) (by decide)))
  replace F_observingAssignments := F_observingAssignments.other W7 (Or.inr (slot_ne (Or.inr (own_w hw 44 rfl)) (Or.inr (own_w hw 38 rfl)) (by decide) (t := .boolean) (t' := (.object "java/util/List")) (by decide) (by decide)))
  refine own_aload_n X7 C own_d_prog_97_method_1_code_26 27 rfl rfl rfl ?_
  refine own_iload_n X7 C own_d_prog_97_method_1_code_27 28 rfl rfl ?_
  refine own_newarray X7 C (own_w hw 1 rfl) e7 own_d_prog_97_method_1_code_28 30 rfl (by decide) 3 (by decide) (by decide) (by decide) (by decide) (fun T8 h8 b8 g8 X8 e8 E8 A8 => ?_)
  have gn8 : h.size ≤ b8 := by have q := Kp.1; omega
  replace Kp := Kp.ext E8
  replace Eo := Eo.ext E8
  replace OL := OL.ext E8
  have nb : b8 ≠ oa0 := by have q := Lo; omega
  have A : OwnAr Z h8 b8 .int 3 (fun _ => .int 0) := A8
  replace F_assigned := F_assigned.ext E8
  replace F_sent := F_sent.ext E8
  replace F_locals := F_locals.ext E8
  replace F_vectors := F_vectors.ext E8
  replace F_observingAssignments := F_observingAssignments.ext E8
  refine own_putfield X8 C (host := "") (Or.inl (own_w hw 39 rfl)) Via.refl e8 F_locals Eo (Or.inr ⟨(own_w hw 40 rfl), rfl, rfl⟩) (own_w hw 3 rfl) (ty := (.array .int)) (by decide) rfl rfl own_d_prog_97_method_1_code_30 33 rfl (fun T9 h9 X9 e9 W9 => ?_)
  have N9 := own_fr1 (sl := Jvm.RoadKit.slotOf Z "com/example/paths_to_proofs/pathstoproofs/statechart/Frame" "locals" "[I") N7 go
  replace Eo := Eo.wr W9
  replace F_locals := F_locals.same W9
  replace Kp := Kp.wr W9 (Or.inl (List.mem_singleton.mpr rfl))
  replace OL := OL.wr W9 go
  replace F_assigned := F_assigned.other W9 (Or.inr (slot_ne (Or.inr (own_w hw 36 rfl)) (Or.inr (own_w hw 40 rfl)) (by decide) (t := (.object "java/util/List")) (t' := (.array .int)) (by decide) (by decide)))
  replace F_sent := F_sent.other W9 (Or.inr (slot_ne (Or.inr (own_w hw 38 rfl)) (Or.inr (own_w hw 40 rfl)) (by decide) (t := (.object "java/util/List")) (t' := (.array .int)) (by decide) (by decide)))
  replace F_vectors := F_vectors.other W9 (Or.inr (slot_ne (Or.inr (own_w hw 42 rfl)) (Or.inr (own_w hw 40 rfl)) (by decide) (t := (.object "com/example/paths_to_proofs/pathstoproofs/statechart/Vectors")) (t' := (.array .int)) (by decide) (by decide)))
  replace F_observingAssignments := F_observingAssignments.other W9 (Or.inr (slot_ne (Or.inr (own_w hw 44 rfl)) (Or.inr (own_w hw 40 rfl)) (by decide) (t := .boolean) (t' := (.array .int)) (by decide) (by decide)))
  replace A := A.other W9 nb
  refine own_aload_n X9 C own_d_prog_97_method_1_code_33 34 rfl rfl rfl ?_
  refine own_aload_n X9 C own_d_prog_97_method_1_code_34 35 rfl rfl rfl ?_
  refine own_putfield X9 C (host := "") (Or.inl (own_w hw 41 rfl)) Via.refl e9 F_vectors Eo (Or.inr ⟨(own_w hw 42 rfl), rfl, rfl⟩) (own_w hw 3 rfl) (ty := (.object "com/example/paths_to_proofs/pathstoproofs/statechart/Vectors")) (by decide) rfl rfl own_d_prog_97_method_1_code_35 38 rfl (fun T10 h10 X10 e10 W10 => ?_)
  have N10 := own_fr1 (sl := Jvm.RoadKit.slotOf Z "com/example/paths_to_proofs/pathstoproofs/statechart/Frame" "vectors" "Lcom/example/paths_to_proofs/pathstoproofs/statechart/Vectors;") N9 go
  replace Eo := Eo.wr W10
  replace F_vectors := F_vectors.same W10
  replace Kp := Kp.wr W10 (Or.inl (List.mem_singleton.mpr rfl))
  replace OL := OL.wr W10 go
  replace F_assigned := F_assigned.other W10 (Or.inr (slot_ne (Or.inr (own_w hw 36 rfl)) (Or.inr (own_w hw 42 rfl)) (by decide) (t := (.object "java/util/List")) (t' := (.object "com/example/paths_to_proofs/pathstoproofs/statechart/Vectors")) (by decide) (by decide)))
  replace F_sent := F_sent.other W10 (Or.inr (slot_ne (Or.inr (own_w hw 38 rfl)) (Or.inr (own_w hw 42 rfl)) (by decide) (t := (.object "java/util/List")) (t' := (.object "com/example/paths_to_proofs/pathstoproofs/statechart/Vectors")) (by decide) (by decide)))
  replace F_locals := F_locals.other W10 (Or.inr (slot_ne (Or.inr (own_w hw 40 rfl)) (Or.inr (own_w hw 42 rfl)) (by decide) (t := (.array .int)) (t' := (.object "com/example/paths_to_proofs/pathstoproofs/statechart/Vectors")) (by decide) (by decide)))
  replace F_observingAssignments := F_observingAssignments.other W10 (Or.inr (slot_ne (Or.inr (own_w hw 44 rfl)) (Or.inr (own_w hw 42 rfl)) (by decide) (t := .boolean) (t' := (.object "com/example/paths_to_proofs/pathstoproofs/statechart/Vectors")) (by decide) (by decide)))
  replace A := A.other W10 nb
  refine own_aload_n X10 C own_d_prog_97_method_1_code_38 39 rfl rfl rfl ?_
  refine own_iload_n X10 C own_d_prog_97_method_1_code_39 40 rfl rfl ?_
  refine own_putfield X10 C (host := "") (Or.inl (own_w hw 43 rfl)) Via.refl e10 F_observingAssignments Eo (Or.inr ⟨(own_w hw 44 rfl), rfl, rfl⟩) (own_w hw 3 rfl) (ty := .boolean) (by decide) rfl rfl own_d_prog_97_method_1_code_40 43 rfl (fun T11 h11 X11 e11 W11 => ?_)
  have N11 := own_fr1 (sl := Jvm.RoadKit.slotOf Z "com/example/paths_to_proofs/pathstoproofs/statechart/Frame" "observingAssignments" "Z") N10 go
  replace Eo := Eo.wr W11
  replace F_observingAssignments := F_observingAssignments.same W11
  replace Kp := Kp.wr W11 (Or.inl (List.mem_singleton.mpr rfl))
  replace OL := OL.wr W11 go
  replace F_assigned := F_assigned.other W11 (Or.inr (slot_ne (Or.inr (own_w hw 36 rfl)) (Or.inr (own_w hw 44 rfl)) (by decide) (t := (.object "java/util/List")) (t' := .boolean) (by decide) (by decide)))
  replace F_sent := F_sent.other W11 (Or.inr (slot_ne (Or.inr (own_w hw 38 rfl)) (Or.inr (own_w hw 44 rfl)) (by decide) (t := (.object "java/util/List")) (t' := .boolean) (by decide) (by decide)))
  replace F_locals := F_locals.other W11 (Or.inr (slot_ne (Or.inr (own_w hw 40 rfl)) (Or.inr (own_w hw 44 rfl)) (by decide) (t := (.array .int)) (t' := .boolean) (by decide) (by decide)))
  replace F_vectors := F_vectors.other W11 (Or.inr (slot_ne (Or.inr (own_w hw 42 rfl)) (Or.inr (own_w hw 44 rfl)) (by decide) (t := (.object "com/example/paths_to_proofs/pathstoproofs/statechart/Vectors")) (t' := .boolean) (by decide) (by decide)))
  replace A := A.other W11 nb
  refine own_return X11 C rfl own_d_prog_97_method_1_code_43 (by decide) (by decide) ?_
  rw [e11]; exact ⟨rfl, N11, Kp, b8, gn8, Eo, F_locals, A⟩
theorem own_pn_Action_Loop : plainName "com/example/paths_to_proofs/pathstoproofs/statechart/Action$Loop" = true := by first | (simp [plainName, overriddenIn]; done) | decide +kernel
theorem own_pd_III_R_V : parseMethodDescriptor "(III)V" = some ⟨[.int, .int, .int], none⟩ := by decide +kernel
theorem own_d_prog_53_method_1_code_0 : decode prog_53_method_1_code 0 = .ok (.aload_n 0, 1) := by decide +kernel
theorem own_d_prog_53_method_1_code_1 : decode prog_53_method_1_code 1 = .ok (.invokespecial 1, 3) := by decide +kernel
theorem own_d_prog_53_method_1_code_4 : decode prog_53_method_1_code 4 = .ok (.aload_n 0, 1) := by decide +kernel
theorem own_d_prog_53_method_1_code_5 : decode prog_53_method_1_code 5 = .ok (.iload_n 1, 1) := by decide +kernel
theorem own_d_prog_53_method_1_code_6 : decode prog_53_method_1_code 6 = .ok (.putfield 7, 3) := by decide +kernel
theorem own_d_prog_53_method_1_code_9 : decode prog_53_method_1_code 9 = .ok (.aload_n 0, 1) := by decide +kernel
theorem own_d_prog_53_method_1_code_10 : decode prog_53_method_1_code 10 = .ok (.iload_n 2, 1) := by decide +kernel
theorem own_d_prog_53_method_1_code_11 : decode prog_53_method_1_code 11 = .ok (.putfield 13, 3) := by decide +kernel
theorem own_d_prog_53_method_1_code_14 : decode prog_53_method_1_code 14 = .ok (.aload_n 0, 1) := by decide +kernel
theorem own_d_prog_53_method_1_code_15 : decode prog_53_method_1_code 15 = .ok (.iload_n 3, 1) := by decide +kernel
theorem own_d_prog_53_method_1_code_16 : decode prog_53_method_1_code 16 = .ok (.putfield 16, 3) := by decide +kernel
theorem own_d_prog_53_method_1_code_19 : decode prog_53_method_1_code 19 = .ok (.return_, 1) := by decide +kernel
set_option maxRecDepth 65536 in
set_option maxHeartbeats 4000000 in
theorem own_ef_own_rm_loop (m : MethodId) (oa0 : Nat) (ia1 : Int32) (ia2 : Int32) (ia3 : Int32) : entryFrame m #[(.ref oa0), (.int ia1), (.int ia2), (.int ia3)] 4 = (mkF m 0 #[.val (.ref oa0), .val (.int ia1), .val (.int ia2), .val (.int ia3)] []) := by first | (simp [entryFrame, mkF, argsToLocals, Value.category]; done) | rfl
set_option maxRecDepth 65536 in
set_option maxHeartbeats 4000000 in
theorem own_rm_loop (l : Launch) (Z : State) (a0 : Array Value) (hw : ∀ d ∈ tables_1, d.before a0 Z = true) (oa0 : Nat) (ia1 : Int32) (ia2 : Int32) (ia3 : Int32) (h : Heap) (n0 : Nat) (go : n0 ≤ oa0) (Eo : Exa Z h oa0 "com/example/paths_to_proofs/pathstoproofs/statechart/Action$Loop") (F_counter : Fld Z h oa0 "com/example/paths_to_proofs/pathstoproofs/statechart/Action$Loop" "counter" "I" (.int (0 : Int32))) (F_bound : Fld Z h oa0 "com/example/paths_to_proofs/pathstoproofs/statechart/Action$Loop" "bound" "I" (.int (0 : Int32))) (F_body : Fld Z h oa0 "com/example/paths_to_proofs/pathstoproofs/statechart/Action$Loop" "body" "I" (.int (0 : Int32))) :
    OwnMet l Z (⟨"com/example/paths_to_proofs/pathstoproofs/statechart/Action$Loop", "<init>", "(III)V"⟩ : MethodName) prog_53_method_1_code 4 none [] ({ frames := 2, cells := 0, slots := 0, locals := 40 } : Room) #[(.ref oa0), (.int ia1), (.int ia2), (.int ia3)] h (fun v h' L => v = none ∧ Fr n0 L ∧ Keep h h' [oa0] ∧ Exa Z h' oa0 "com/example/paths_to_proofs/pathstoproofs/statechart/Action$Loop" ∧ Fld Z h' oa0 "com/example/paths_to_proofs/pathstoproofs/statechart/Action$Loop" "counter" "I" (.int ia1) ∧ Fld Z h' oa0 "com/example/paths_to_proofs/pathstoproofs/statechart/Action$Loop" "bound" "I" (.int ia2) ∧ Fld Z h' oa0 "com/example/paths_to_proofs/pathstoproofs/statechart/Action$Loop" "body" "I" (.int ia3)) := by
  refine own_enter (f0 := fun m => mkF m 0 #[.val (.ref oa0), .val (.int ia1), .val (.int ia2), .val (.int ia3)] []) (plainFor_of_name own_pn_Action_Loop) (fun m => own_ef_own_rm_loop m oa0 ia1 ia2 ia3) ?_
  intro p e s m below meth c T0 X0 C e0
  have Kp := Keep.refl h [oa0]
  refine own_aload_n X0 C own_d_prog_53_method_1_code_0 1 rfl rfl rfl ?_
  refine own_callI X0 C rfl (own_w hw 52 rfl) (own_w hw 53 rfl) (own_w hw 55 rfl) (own_w hw 56 rfl) rfl (by decide) (own_rm_record l Z a0 hw oa0 h) e0 own_pd__R_V [] rfl rfl rfl rfl 0 rfl (by decide) (by decide) (by decide) (by decide) own_d_prog_53_method_1_code_1 4 rfl (fun T1 L1 v1 X1 q1 => ?_)
  obtain ⟨rfl, eh1, rfl⟩ := q1
  have N1 := Fr.app (Fr.nil n0) (Fr.nil n0)
  refine own_aload_n X1 C own_d_prog_53_method_1_code_4 5 rfl rfl rfl ?_
  refine own_iload_n X1 C own_d_prog_53_method_1_code_5 6 rfl rfl ?_
  refine own_putfield X1 C (host := "") (Or.inl (own_w hw 58 rfl)) Via.refl eh1 F_counter Eo (Or.inr ⟨(own_w hw 59 rfl), rfl, rfl⟩) (own_w hw 47 rfl) (ty := .int) (by decide) rfl rfl own_d_prog_53_method_1_code_6 9 rfl (fun T2 h2 X2 e2 W2 => ?_)
  have N2 := own_fr1 (sl := Jvm.RoadKit.slotOf Z "com/example/paths_to_proofs/pathstoproofs/statechart/Action$Loop" "counter" "I") N1 go
  replace Eo := Eo.wr W2
  replace F_counter := F_counter.same W2
  replace Kp := Kp.wr W2 (Or.inl (List.mem_singleton.mpr rfl))
  replace F_bound := F_bound.other W2 (Or.inr (slot_ne (Or.inr (own_w hw 61 rfl)) (Or.inr (own_w hw 59 rfl)) (by decide) (t := .int) (t' := .int) (by decide) (by decide)))
  replace F_body := F_body.other W2 (Or.inr (slot_ne (Or.inr (own_w hw 63 rfl)) (Or.inr (own_w hw 59 rfl)) (by decide) (t := .int) (t' := .int) (by decide) (by decide)))
  refine own_aload_n X2 C own_d_prog_53_method_1_code_9 10 rfl rfl rfl ?_
  refine own_iload_n X2 C own_d_prog_53_method_1_code_10 11 rfl rfl ?_
  refine own_putfield X2 C (host := "") (Or.inl (own_w hw 60 rfl)) Via.refl e2 F_bound Eo (Or.inr ⟨(own_w hw 61 rfl), rfl, rfl⟩) (own_w hw 47 rfl) (ty := .int) (by decide) rfl rfl own_d_prog_53_method_1_code_11 14 rfl (fun T3 h3 X3 e3 W3 => ?_)
  have N3 := own_fr1 (sl := Jvm.RoadKit.slotOf Z "com/example/paths_to_proofs/pathstoproofs/statechart/Action$Loop" "bound" "I") N2 go
  replace Eo := Eo.wr W3
  replace F_bound := F_bound.same W3
  replace Kp := Kp.wr W3 (Or.inl (List.mem_singleton.mpr rfl))
  replace F_counter := F_counter.other W3 (Or.inr (slot_ne (Or.inr (own_w hw 59 rfl)) (Or.inr (own_w hw 61 rfl)) (by decide) (t := .int) (t' := .int) (by decide) (by decide)))
  replace F_body := F_body.other W3 (Or.inr (slot_ne (Or.inr (own_w hw 63 rfl)) (Or.inr (own_w hw 61 rfl)) (by decide) (t := .int) (t' := .int) (by decide) (by decide)))
  refine own_aload_n X3 C own_d_prog_53_method_1_code_14 15 rfl rfl rfl ?_
  refine own_iload_n X3 C own_d_prog_53_method_1_code_15 16 rfl rfl ?_
  refine own_putfield X3 C (host := "") (Or.inl (own_w hw 62 rfl)) Via.refl e3 F_body Eo (Or.inr ⟨(own_w hw 63 rfl), rfl, rfl⟩) (own_w hw 47 rfl) (ty := .int) (by decide) rfl rfl own_d_prog_53_method_1_code_16 19 rfl (fun T4 h4 X4 e4 W4 => ?_)
  have N4 := own_fr1 (sl := Jvm.RoadKit.slotOf Z "com/example/paths_to_proofs/pathstoproofs/statechart/Action$Loop" "body" "I") N3 go
  replace Eo := Eo.wr W4
  replace F_body := F_body.same W4
  replace Kp := Kp.wr W4 (Or.inl (List.mem_singleton.mpr rfl))
  replace F_counter := F_counter.other W4 (Or.inr (slot_ne (Or.inr (own_w hw 59 rfl)) (Or.inr (own_w hw 63 rfl)) (by decide) (t := .int) (t' := .int) (by decide) (by decide)))
  replace F_bound := F_bound.other W4 (Or.inr (slot_ne (Or.inr (own_w hw 61 rfl)) (Or.inr (own_w hw 63 rfl)) (by decide) (t := .int) (t' := .int) (by decide) (by decide)))
  refine own_return X4 C rfl own_d_prog_53_method_1_code_19 (by decide) (by decide) ?_
  rw [e4]; exact ⟨rfl, N4, Kp, Eo, F_counter, F_bound, F_body⟩
theorem own_pd_Lcom_example_paths_to_proofs_pathstoproofs_statechart_Frame_I_R_I : parseMethodDescriptor "(Lcom/example/paths_to_proofs/pathstoproofs/statechart/Frame;I)I" = some ⟨[(.object "com/example/paths_to_proofs/pathstoproofs/statechart/Frame"), .int], some .int⟩ := by decide +kernel
theorem own_d_prog_53_method_2_code_0 : decode prog_53_method_2_code 0 = .ok (.aload_n 1, 1) := by decide +kernel
theorem own_d_prog_53_method_2_code_1 : decode prog_53_method_2_code 1 = .ok (.getfield 19, 3) := by decide +kernel
theorem own_d_prog_53_method_2_code_4 : decode prog_53_method_2_code 4 = .ok (.aload_n 0, 1) := by decide +kernel
theorem own_d_prog_53_method_2_code_5 : decode prog_53_method_2_code 5 = .ok (.getfield 7, 3) := by decide +kernel
theorem own_d_prog_53_method_2_code_8 : decode prog_53_method_2_code 8 = .ok (.iaload, 1) := by decide +kernel
theorem own_d_prog_53_method_2_code_9 : decode prog_53_method_2_code 9 = .ok (.aload_n 1, 1) := by decide +kernel
theorem own_d_prog_53_method_2_code_10 : decode prog_53_method_2_code 10 = .ok (.getfield 19, 3) := by decide +kernel
theorem own_d_prog_53_method_2_code_13 : decode prog_53_method_2_code 13 = .ok (.aload_n 0, 1) := by decide +kernel
theorem own_d_prog_53_method_2_code_14 : decode prog_53_method_2_code 14 = .ok (.getfield 13, 3) := by decide +kernel
theorem own_d_prog_53_method_2_code_17 : decode prog_53_method_2_code 17 = .ok (.iaload, 1) := by decide +kernel
theorem own_d_prog_53_method_2_code_18 : decode prog_53_method_2_code 18 = .ok (.if_icmp .lt 5, 3) := by decide +kernel
theorem own_d_prog_53_method_2_code_21 : decode prog_53_method_2_code 21 = .ok (.iload_n 2, 1) := by decide +kernel
theorem own_d_prog_53_method_2_code_22 : decode prog_53_method_2_code 22 = .ok (.ireturn, 1) := by decide +kernel
theorem own_d_prog_53_method_2_code_23 : decode prog_53_method_2_code 23 = .ok (.aload_n 1, 1) := by decide +kernel
theorem own_d_prog_53_method_2_code_24 : decode prog_53_method_2_code 24 = .ok (.getfield 19, 3) := by decide +kernel
theorem own_d_prog_53_method_2_code_27 : decode prog_53_method_2_code 27 = .ok (.aload_n 0, 1) := by decide +kernel
theorem own_d_prog_53_method_2_code_28 : decode prog_53_method_2_code 28 = .ok (.getfield 7, 3) := by decide +kernel
theorem own_d_prog_53_method_2_code_31 : decode prog_53_method_2_code 31 = .ok (.dup2, 1) := by decide +kernel
theorem own_d_prog_53_method_2_code_32 : decode prog_53_method_2_code 32 = .ok (.iaload, 1) := by decide +kernel
theorem own_d_prog_53_method_2_code_33 : decode prog_53_method_2_code 33 = .ok (.iconst 1, 1) := by decide +kernel
theorem own_d_prog_53_method_2_code_34 : decode prog_53_method_2_code 34 = .ok (.iadd, 1) := by decide +kernel
theorem own_d_prog_53_method_2_code_35 : decode prog_53_method_2_code 35 = .ok (.iastore, 1) := by decide +kernel
theorem own_d_prog_53_method_2_code_36 : decode prog_53_method_2_code 36 = .ok (.aload_n 0, 1) := by decide +kernel
theorem own_d_prog_53_method_2_code_37 : decode prog_53_method_2_code 37 = .ok (.getfield 16, 3) := by decide +kernel
theorem own_d_prog_53_method_2_code_40 : decode prog_53_method_2_code 40 = .ok (.ireturn, 1) := by decide +kernel
set_option maxRecDepth 65536 in
set_option maxHeartbeats 4000000 in
theorem own_ef_own_rm_run (m : MethodId) (oa0 : Nat) (oa1 : Nat) (ia2 : Int32) : entryFrame m #[(.ref oa0), (.ref oa1), (.int ia2)] 3 = (mkF m 0 #[.val (.ref oa0), .val (.ref oa1), .val (.int ia2)] []) := by first | (simp [entryFrame, mkF, argsToLocals, Value.category]; done) | rfl
set_option maxRecDepth 65536 in
set_option maxHeartbeats 4000000 in
theorem own_rm_run (l : Launch) (Z : State) (a0 : Array Value) (hw : ∀ d ∈ tables_1, d.before a0 Z = true) (oa0 : Nat) (oa1 : Nat) (ia2 : Int32) (h : Heap) (n0 : Nat) (b : Nat) (gb : n0 ≤ b) (nbo : oa0 ≠ b) (zc zb zy : Int32) (F_counter : Fld Z h oa0 "com/example/paths_to_proofs/pathstoproofs/statechart/Action$Loop" "counter" "I" (.int zc)) (F_bound : Fld Z h oa0 "com/example/paths_to_proofs/pathstoproofs/statechart/Action$Loop" "bound" "I" (.int zb)) (F_body : Fld Z h oa0 "com/example/paths_to_proofs/pathstoproofs/statechart/Action$Loop" "body" "I" (.int zy)) (Fl : Fld Z h oa1 "com/example/paths_to_proofs/pathstoproofs/statechart/Frame" "locals" "[I" (.ref b)) (G : Nat → Int32) (A : OwnAr Z h b .int 3 (fun i => .int (G i))) (kc kb : Nat) (hkc : zc.toInt = kc) (hkb : zb.toInt = kb) (h3 : kc < 3) (h4 : kb < 3) :
    OwnMet l Z (⟨"com/example/paths_to_proofs/pathstoproofs/statechart/Action$Loop", "run", "(Lcom/example/paths_to_proofs/pathstoproofs/statechart/Frame;I)I"⟩ : MethodName) prog_53_method_2_code 3 (some .int) [] ({ frames := 0, cells := 0, slots := 0, locals := 0 } : Room) #[(.ref oa0), (.ref oa1), (.int ia2)] h (fun v h' L => (∃ z : Int32, v = some (.int z) ∧ ((G kb).toInt ≤ (G kc).toInt → z = ia2 ∧ OwnAr Z h' b .int 3 (fun i => .int (G i))) ∧ ((G kc).toInt < (G kb).toInt → z = zy ∧ OwnAr Z h' b .int 3 (fun i => .int (if i = kc then G kc + 1 else G i)))) ∧ Fr n0 L ∧ Keep h h' [b]) := by
  refine own_enter (f0 := fun m => mkF m 0 #[.val (.ref oa0), .val (.ref oa1), .val (.int ia2)] []) (plainFor_of_name own_pn_Action_Loop) (fun m => own_ef_own_rm_run m oa0 oa1 ia2) ?_
  intro p e s m below meth c T0 X0 C e0
  refine own_aload_n X0 C own_d_prog_53_method_2_code_0 1 rfl rfl rfl ?_
  refine own_getfield X0 C (host := "") (Or.inl (own_w hw 69 rfl)) Via.refl e0 Fl own_d_prog_53_method_2_code_1 4 rfl (fun T1 X1 e1 => ?_)
  refine own_aload_n X1 C own_d_prog_53_method_2_code_4 5 rfl rfl rfl ?_
  refine own_getfield X1 C (host := "") (Or.inl (own_w hw 58 rfl)) Via.refl e1 F_counter own_d_prog_53_method_2_code_5 8 rfl (fun T2 X2 e2 => ?_)
  refine own_iaload X2 C e2 A (by omega) (by omega) own_d_prog_53_method_2_code_8 9 rfl (.int (G kc)) (by show Value.int (G _) = _; rw [show zc.toInt.toNat = kc by omega]) ?_
  refine own_aload_n X2 C own_d_prog_53_method_2_code_9 10 rfl rfl rfl ?_
  refine own_getfield X2 C (host := "") (Or.inl (own_w hw 69 rfl)) Via.refl e2 Fl own_d_prog_53_method_2_code_10 13 rfl (fun T3 X3 e3 => ?_)
  refine own_aload_n X3 C own_d_prog_53_method_2_code_13 14 rfl rfl rfl ?_
  refine own_getfield X3 C (host := "") (Or.inl (own_w hw 60 rfl)) Via.refl e3 F_bound own_d_prog_53_method_2_code_14 17 rfl (fun T4 X4 e4 => ?_)
  refine own_iaload X4 C e4 A (by omega) (by omega) own_d_prog_53_method_2_code_17 18 rfl (.int (G kb)) (by show Value.int (G _) = _; rw [show zb.toInt.toNat = kb by omega]) ?_
  refine own_icmplt X4 C own_d_prog_53_method_2_code_18 21 23 rfl (by decide) (by decide) (i := (G kc).toInt) rfl (j := (G kb).toInt) rfl (fun b5 => ?_) (fun b5 => ?_)
  · refine own_aload_n X4 C own_d_prog_53_method_2_code_23 24 rfl rfl rfl ?_
    refine own_getfield X4 C (host := "") (Or.inl (own_w hw 69 rfl)) Via.refl e4 Fl own_d_prog_53_method_2_code_24 27 rfl (fun T6 X6 e6 => ?_)
    refine own_aload_n X6 C own_d_prog_53_method_2_code_27 28 rfl rfl rfl ?_
    refine own_getfield X6 C (host := "") (Or.inl (own_w hw 58 rfl)) Via.refl e6 F_counter own_d_prog_53_method_2_code_28 31 rfl (fun T7 X7 e7 => ?_)
    refine own_dup2 X7 C own_d_prog_53_method_2_code_31 32 rfl rfl rfl ?_
    refine own_iaload X7 C e7 A (by omega) (by omega) own_d_prog_53_method_2_code_32 33 rfl (.int (G kc)) (by show Value.int (G _) = _; rw [show zc.toInt.toNat = kc by omega]) ?_
    refine own_iconst X7 C own_d_prog_53_method_2_code_33 34 rfl (1) rfl ?_
    refine own_iadd X7 C own_d_prog_53_method_2_code_34 35 rfl (fun v1 ev1 => ?_)
    refine own_iastore X7 C e7 A (by omega) (by omega) own_d_prog_53_method_2_code_35 36 rfl (fun T8 h8 X8 e8 W8 => ?_)
    have N8 := own_fr1 (sl := (zc).toInt.toNat) (Fr.nil n0) gb
    have hj : zc.toInt.toNat = kc := by omega
    rw [hj, ev1] at W8
    replace A : OwnAr Z h8 b .int 3 (fun i => .int (if i = kc then G kc + 1 else G i)) := (A.set W8).eqv fun i _ => own_iteI
    replace F_body := F_body.other W8 (Or.inl nbo)
    refine own_aload_n X8 C own_d_prog_53_method_2_code_36 37 rfl rfl rfl ?_
    refine own_getfield X8 C (host := "") (Or.inl (own_w hw 62 rfl)) Via.refl e8 F_body own_d_prog_53_method_2_code_37 40 rfl (fun T9 X9 e9 => ?_)
    refine own_ireturn X9 C rfl own_d_prog_53_method_2_code_40 (by decide) (by decide) ?_
    rw [e9]; exact ⟨⟨_, rfl, fun q => by omega, fun _ => ⟨rfl, A⟩⟩, N8, Keep.of_wr W8⟩
  · refine own_iload_n X4 C own_d_prog_53_method_2_code_21 22 rfl rfl ?_
    refine own_ireturn X4 C rfl own_d_prog_53_method_2_code_22 (by decide) (by decide) ?_
    exact ⟨⟨_, rfl, fun _ => ⟨rfl, by rw [e4]; exact A⟩, fun q => by omega⟩, Fr.nil _, by rw [e4]; exact Keep.refl _ _⟩
theorem own_pn_LoopRunPinLaw : plainName "com/example/paths_to_proofs/pathstoproofs/statechart/LoopRunPinLaw" = true := by first | (simp [plainName, overriddenIn]; done) | decide +kernel
theorem own_pd_AIAI_R_Z : parseMethodDescriptor "([I[I)Z" = some ⟨[(.array .int), (.array .int)], some .boolean⟩ := by decide +kernel
theorem own_d_method_3_code_0 : decode method_3_code 0 = .ok (.aload_n 0, 1) := by decide +kernel
theorem own_d_method_3_code_1 : decode method_3_code 1 = .ok (.iconst 0, 1) := by decide +kernel
theorem own_d_method_3_code_2 : decode method_3_code 2 = .ok (.iaload, 1) := by decide +kernel
theorem own_d_method_3_code_3 : decode method_3_code 3 = .ok (.aload_n 1, 1) := by decide +kernel
theorem own_d_method_3_code_4 : decode method_3_code 4 = .ok (.iconst 0, 1) := by decide +kernel
theorem own_d_method_3_code_5 : decode method_3_code 5 = .ok (.iaload, 1) := by decide +kernel
theorem own_d_method_3_code_6 : decode method_3_code 6 = .ok (.if_icmp .ne 25, 3) := by decide +kernel
theorem own_d_method_3_code_9 : decode method_3_code 9 = .ok (.aload_n 0, 1) := by decide +kernel
theorem own_d_method_3_code_10 : decode method_3_code 10 = .ok (.iconst 1, 1) := by decide +kernel
theorem own_d_method_3_code_11 : decode method_3_code 11 = .ok (.iaload, 1) := by decide +kernel
theorem own_d_method_3_code_12 : decode method_3_code 12 = .ok (.aload_n 1, 1) := by decide +kernel
theorem own_d_method_3_code_13 : decode method_3_code 13 = .ok (.iconst 1, 1) := by decide +kernel
theorem own_d_method_3_code_14 : decode method_3_code 14 = .ok (.iaload, 1) := by decide +kernel
theorem own_d_method_3_code_15 : decode method_3_code 15 = .ok (.if_icmp .ne 16, 3) := by decide +kernel
theorem own_d_method_3_code_18 : decode method_3_code 18 = .ok (.aload_n 0, 1) := by decide +kernel
theorem own_d_method_3_code_19 : decode method_3_code 19 = .ok (.iconst 2, 1) := by decide +kernel
theorem own_d_method_3_code_20 : decode method_3_code 20 = .ok (.iaload, 1) := by decide +kernel
theorem own_d_method_3_code_21 : decode method_3_code 21 = .ok (.aload_n 1, 1) := by decide +kernel
theorem own_d_method_3_code_22 : decode method_3_code 22 = .ok (.iconst 2, 1) := by decide +kernel
theorem own_d_method_3_code_23 : decode method_3_code 23 = .ok (.iaload, 1) := by decide +kernel
theorem own_d_method_3_code_24 : decode method_3_code 24 = .ok (.if_icmp .ne 7, 3) := by decide +kernel
theorem own_d_method_3_code_27 : decode method_3_code 27 = .ok (.iconst 1, 1) := by decide +kernel
theorem own_d_method_3_code_28 : decode method_3_code 28 = .ok (.goto 4, 3) := by decide +kernel
theorem own_d_method_3_code_32 : decode method_3_code 32 = .ok (.ireturn, 1) := by decide +kernel
set_option maxRecDepth 65536 in
set_option maxHeartbeats 4000000 in
theorem own_ef_own_rm_same (m : MethodId) (oa0 : Nat) (oa1 : Nat) : entryFrame m #[(.ref oa0), (.ref oa1)] 2 = (mkF m 0 #[.val (.ref oa0), .val (.ref oa1)] []) := by first | (simp [entryFrame, mkF, argsToLocals, Value.category]; done) | rfl
set_option maxRecDepth 65536 in
set_option maxHeartbeats 4000000 in
theorem own_rm_same (l : Launch) (Z : State) (a0 : Array Value) (hw : ∀ d ∈ tables_1, d.before a0 Z = true) (oa0 : Nat) (oa1 : Nat) (h : Heap) (G : Nat → Int32) (A : OwnAr Z h oa0 .int 3 (fun i => .int (G i))) (B : OwnAr Z h oa1 .int 3 (fun i => .int (G i))) :
    OwnMet l Z (⟨"com/example/paths_to_proofs/pathstoproofs/statechart/LoopRunPinLaw", "same", "([I[I)Z"⟩ : MethodName) method_3_code 2 (some .boolean) [] ({ frames := 0, cells := 0, slots := 0, locals := 0 } : Room) #[(.ref oa0), (.ref oa1)] h (OwnPure (.int 1) h) := by
  refine own_enter (f0 := fun m => mkF m 0 #[.val (.ref oa0), .val (.ref oa1)] []) (plainFor_of_name own_pn_LoopRunPinLaw) (fun m => own_ef_own_rm_same m oa0 oa1) ?_
  intro p e s m below meth c T0 X0 C e0
  refine own_aload_n X0 C own_d_method_3_code_0 1 rfl rfl rfl ?_
  refine own_iconst X0 C own_d_method_3_code_1 2 rfl (0) rfl ?_
  refine own_iaload X0 C e0 A (by decide) (by decide) own_d_method_3_code_2 3 rfl (.int (G 0)) rfl ?_
  refine own_aload_n X0 C own_d_method_3_code_3 4 rfl rfl rfl ?_
  refine own_iconst X0 C own_d_method_3_code_4 5 rfl (0) rfl ?_
  refine own_iaload X0 C e0 B (by decide) (by decide) own_d_method_3_code_5 6 rfl (.int (G 0)) rfl ?_
  refine own_icmpne X0 C own_d_method_3_code_6 9 31 rfl (by decide) (by decide) (i := (G 0).toInt) rfl (j := (G 0).toInt) rfl (fun b1 => ?_) (fun b1 => ?_)
  · exfalso
    exact b1 rfl
  · refine own_aload_n X0 C own_d_method_3_code_9 10 rfl rfl rfl ?_
    refine own_iconst X0 C own_d_method_3_code_10 11 rfl (1) rfl ?_
    refine own_iaload X0 C e0 A (by decide) (by decide) own_d_method_3_code_11 12 rfl (.int (G 1)) rfl ?_
    refine own_aload_n X0 C own_d_method_3_code_12 13 rfl rfl rfl ?_
    refine own_iconst X0 C own_d_method_3_code_13 14 rfl (1) rfl ?_
    refine own_iaload X0 C e0 B (by decide) (by decide) own_d_method_3_code_14 15 rfl (.int (G 1)) rfl ?_
    refine own_icmpne X0 C own_d_method_3_code_15 18 31 rfl (by decide) (by decide) (i := (G 1).toInt) rfl (j := (G 1).toInt) rfl (fun b2 => ?_) (fun b2 => ?_)
    · exfalso
      exact b2 rfl
    · refine own_aload_n X0 C own_d_method_3_code_18 19 rfl rfl rfl ?_
      refine own_iconst X0 C own_d_method_3_code_19 20 rfl (2) rfl ?_
      refine own_iaload X0 C e0 A (by decide) (by decide) own_d_method_3_code_20 21 rfl (.int (G 2)) rfl ?_
      refine own_aload_n X0 C own_d_method_3_code_21 22 rfl rfl rfl ?_
      refine own_iconst X0 C own_d_method_3_code_22 23 rfl (2) rfl ?_
      refine own_iaload X0 C e0 B (by decide) (by decide) own_d_method_3_code_23 24 rfl (.int (G 2)) rfl ?_
      refine own_icmpne X0 C own_d_method_3_code_24 27 31 rfl (by decide) (by decide) (i := (G 2).toInt) rfl (j := (G 2).toInt) rfl (fun b3 => ?_) (fun b3 => ?_)
      · exfalso
        exact b3 rfl
      · refine own_iconst X0 C own_d_method_3_code_27 28 rfl (1) rfl ?_
        refine own_goto X0 C own_d_method_3_code_28 32 (by decide) (by decide) ?_
        refine own_iretN X0 C .boolean rfl (by simp) own_d_method_3_code_32 (by decide) (by decide) (1) (by decide) ?_
        exact ⟨rfl, e0, rfl⟩
theorem own_pd_IIIIII_R_Z : parseMethodDescriptor "(IIIIII)Z" = some ⟨[.int, .int, .int, .int, .int, .int], some .boolean⟩ := by decide +kernel
set_option maxRecDepth 65536 in
set_option maxHeartbeats 4000000 in
theorem own_ef_own_rm_law (m : MethodId) (ia0 : Int32) (ia1 : Int32) (ia2 : Int32) (ia3 : Int32) (ia4 : Int32) (ia5 : Int32) : entryFrame m #[(.int ia0), (.int ia1), (.int ia2), (.int ia3), (.int ia4), (.int ia5)] maxLocals = (mkF m 0 #[.val (.int ia0), .val (.int ia1), .val (.int ia2), .val (.int ia3), .val (.int ia4), .val (.int ia5), .unset, .unset, .unset, .unset, .unset, .unset, .unset, .unset, .unset, .unset] []) := by first | (simp [entryFrame, mkF, argsToLocals, Value.category, maxLocals]; done) | rfl
set_option maxRecDepth 65536 in
set_option maxHeartbeats 4000000 in
theorem own_rm_law (l : Launch) (Z : State) (a0 : Array Value) (hw : ∀ d ∈ tables_1, d.before a0 Z = true) (ia0 : Int32) (ia1 : Int32) (ia2 : Int32) (ia3 : Int32) (ia4 : Int32) (ia5 : Int32) (h : Heap) (OL0 : Old Z h.size h) (aD : Nat) (SD : Sta Z Z.heap "java/util/ArrayList" "DEFAULTCAPACITY_EMPTY_ELEMENTDATA" "[Ljava/lang/Object;" (.ref aD)) :
    OwnMet l Z x code maxLocals ret tables_1 room_1 #[(.int ia0), (.int ia1), (.int ia2), (.int ia3), (.int ia4), (.int ia5)] h (fun v h' L => v = some (.int 1) ∧ Fr h.size L) := by
  refine own_enter (f0 := fun m => mkF m 0 #[.val (.int ia0), .val (.int ia1), .val (.int ia2), .val (.int ia3), .val (.int ia4), .val (.int ia5), .unset, .unset, .unset, .unset, .unset, .unset, .unset, .unset, .unset, .unset] []) (plainFor_of_name own_pn_LoopRunPinLaw) (fun m => own_ef_own_rm_law m ia0 ia1 ia2 ia3 ia4 ia5) ?_
  intro p e s m below meth c T0 X0 C e0
  have Kp := Keep.refl h []
  have OL := OL0
  refine own_iload X0 C at_0 2 rfl rfl ?_
  refine own_ldc X0 C (own_w hw 0 rfl) at_2 4 rfl ?_
  refine own_iand X0 C at_4 5 rfl (fun v1 ev1 => ?_)
  refine own_iconst X0 C at_5 6 rfl (3) rfl ?_
  refine own_irem X0 C at_6 7 rfl (by decide) (fun v2 ev2 => ?_)
  have r1 := c_and ia4 2147483647 (by decide)
  rw [← ev1] at r1
  have r2 := (c_irem v1 3 3 (by decide)).1 r1.1
  rw [← ev2] at r2
  obtain ⟨kc, hkc⟩ : ∃ n : Nat, v2.toInt = n := ⟨v2.toInt.toNat, by omega⟩
  refine own_istore X0 C at_7 9 rfl #[.val (.int ia0), .val (.int ia1), .val (.int ia2), .val (.int ia3), .val (.int ia4), .val (.int ia5), .val (.int v2), .unset, .unset, .unset, .unset, .unset, .unset, .unset, .unset, .unset] rfl ?_
  refine own_iload X0 C at_9 11 rfl rfl ?_
  refine own_bipush X0 C at_11 13 rfl (8) rfl ?_
  refine own_iushr X0 C at_13 14 rfl (fun v3 ev3 => ?_)
  refine own_ldc X0 C (own_w hw 0 rfl) at_14 16 rfl ?_
  refine own_iand X0 C at_16 17 rfl (fun v4 ev4 => ?_)
  refine own_iconst X0 C at_17 18 rfl (3) rfl ?_
  refine own_irem X0 C at_18 19 rfl (by decide) (fun v5 ev5 => ?_)
  have r3 := c_and v3 2147483647 (by decide)
  rw [← ev4] at r3
  have r4 := (c_irem v4 3 3 (by decide)).1 r3.1
  rw [← ev5] at r4
  obtain ⟨kb, hkb⟩ : ∃ n : Nat, v5.toInt = n := ⟨v5.toInt.toNat, by omega⟩
  refine own_istore X0 C at_19 21 rfl #[.val (.int ia0), .val (.int ia1), .val (.int ia2), .val (.int ia3), .val (.int ia4), .val (.int ia5), .val (.int v2), .val (.int v5), .unset, .unset, .unset, .unset, .unset, .unset, .unset, .unset] rfl ?_
  refine own_iconst X0 C at_21 22 rfl (3) rfl ?_
  refine own_newarray X0 C (own_w hw 1 rfl) e0 at_22 24 rfl (by decide) 3 (by decide) (by decide) (by decide) (by decide) (fun T1 h1 b1 g1 X1 e1 E1 A1 => ?_)
  have ge : h.size ≤ b1 := Nat.le_of_eq g1.symm
  replace OL := OL.ext E1
  obtain ⟨G, A⟩ : ∃ G : Nat → Int32, OwnAr Z h1 b1 .int 3 (fun i => .int (G i)) := ⟨fun _ => 0, A1⟩
  refine own_astore X1 C at_24 26 rfl rfl #[.val (.int ia0), .val (.int ia1), .val (.int ia2), .val (.int ia3), .val (.int ia4), .val (.int ia5), .val (.int v2), .val (.int v5), .val (.ref b1), .unset, .unset, .unset, .unset, .unset, .unset, .unset] rfl ?_
  refine own_aload X1 C at_26 28 rfl rfl rfl ?_
  refine own_iconst X1 C at_28 29 rfl (0) rfl ?_
  refine own_iload X1 C at_29 31 rfl rfl ?_
  refine own_iastore X1 C e1 A (by decide) (by decide) at_31 32 rfl (fun T2 h2 X2 e2 W2 => ?_)
  have N2 := own_fr1 (sl := ((0 : Int32)).toInt.toNat) (Fr.nil h.size) ge
  replace A : ∃ G : Nat → Int32, OwnAr Z h2 b1 .int 3 (fun i => .int (G i)) := ⟨fun i => if i = ((0 : Int32)).toInt.toNat then ia5 else G i, (A.set W2).eqv fun i _ => own_iteI⟩
  obtain ⟨G, A⟩ := A
  replace OL := OL.wr W2 ge
  refine own_aload X2 C at_32 34 rfl rfl rfl ?_
  refine own_iconst X2 C at_34 35 rfl (1) rfl ?_
  refine own_iload X2 C at_35 37 rfl rfl ?_
  refine own_iastore X2 C e2 A (by decide) (by decide) at_37 38 rfl (fun T3 h3 X3 e3 W3 => ?_)
  have N3 := own_fr1 (sl := ((1 : Int32)).toInt.toNat) N2 ge
  replace A : ∃ G : Nat → Int32, OwnAr Z h3 b1 .int 3 (fun i => .int (G i)) := ⟨fun i => if i = ((1 : Int32)).toInt.toNat then ia5 else G i, (A.set W3).eqv fun i _ => own_iteI⟩
  obtain ⟨G, A⟩ := A
  replace OL := OL.wr W3 ge
  refine own_aload X3 C at_38 40 rfl rfl rfl ?_
  refine own_iconst X3 C at_40 41 rfl (2) rfl ?_
  refine own_iload X3 C at_41 43 rfl rfl ?_
  refine own_iastore X3 C e3 A (by decide) (by decide) at_43 44 rfl (fun T4 h4 X4 e4 W4 => ?_)
  have N4 := own_fr1 (sl := ((2 : Int32)).toInt.toNat) N3 ge
  replace A : ∃ G : Nat → Int32, OwnAr Z h4 b1 .int 3 (fun i => .int (G i)) := ⟨fun i => if i = ((2 : Int32)).toInt.toNat then ia5 else G i, (A.set W4).eqv fun i _ => own_iteI⟩
  obtain ⟨G, A⟩ := A
  replace OL := OL.wr W4 ge
  refine own_aload X4 C at_44 46 rfl rfl rfl ?_
  refine own_iload X4 C at_46 48 rfl rfl ?_
  refine own_iload_n X4 C at_48 49 rfl rfl ?_
  refine own_iastore X4 C e4 A (by omega) (by omega) at_49 50 rfl (fun T5 h5 X5 e5 W5 => ?_)
  have N5 := own_fr1 (sl := (v5).toInt.toNat) N4 ge
  replace A : ∃ G : Nat → Int32, OwnAr Z h5 b1 .int 3 (fun i => .int (G i)) := ⟨fun i => if i = (v5).toInt.toNat then ia1 else G i, (A.set W5).eqv fun i _ => own_iteI⟩
  obtain ⟨G, A⟩ := A
  replace OL := OL.wr W5 ge
  refine own_aload X5 C at_50 52 rfl rfl rfl ?_
  refine own_iload X5 C at_52 54 rfl rfl ?_
  refine own_iload_n X5 C at_54 55 rfl rfl ?_
  refine own_iastore X5 C e5 A (by omega) (by omega) at_55 56 rfl (fun T6 h6 X6 e6 W6 => ?_)
  have N6 := own_fr1 (sl := (v2).toInt.toNat) N5 ge
  replace A : ∃ G : Nat → Int32, OwnAr Z h6 b1 .int 3 (fun i => .int (G i)) := ⟨fun i => if i = (v2).toInt.toNat then ia0 else G i, (A.set W6).eqv fun i _ => own_iteI⟩
  obtain ⟨G, A⟩ := A
  replace OL := OL.wr W6 ge
  refine own_new X6 C (own_w hw 2 rfl) (own_w hw 3 rfl) (own_w hw 4 rfl) e6 at_56 59 rfl (by decide) (by decide) (fun T7 h7 b7 g7 X7 e7 E7 A7 D7 => ?_)
  have F0_assigned : Fld Z h7 b7 "com/example/paths_to_proofs/pathstoproofs/statechart/Frame" "assigned" "Ljava/util/List;" .null := D7 (Or.inr (own_w hw 36 rfl)) (ty := (.object "java/util/List")) (by decide)
  have F0_sent : Fld Z h7 b7 "com/example/paths_to_proofs/pathstoproofs/statechart/Frame" "sent" "Ljava/util/List;" .null := D7 (Or.inr (own_w hw 38 rfl)) (ty := (.object "java/util/List")) (by decide)
  have F0_locals : Fld Z h7 b7 "com/example/paths_to_proofs/pathstoproofs/statechart/Frame" "locals" "[I" .null := D7 (Or.inr (own_w hw 40 rfl)) (ty := (.array .int)) (by decide)
  have F0_vectors : Fld Z h7 b7 "com/example/paths_to_proofs/pathstoproofs/statechart/Frame" "vectors" "Lcom/example/paths_to_proofs/pathstoproofs/statechart/Vectors;" .null := D7 (Or.inr (own_w hw 42 rfl)) (ty := (.object "com/example/paths_to_proofs/pathstoproofs/statechart/Vectors")) (by decide)
  have F0_observingAssignments : Fld Z h7 b7 "com/example/paths_to_proofs/pathstoproofs/statechart/Frame" "observingAssignments" "Z" (.int (0 : Int32)) := D7 (Or.inr (own_w hw 44 rfl)) (ty := .boolean) (by decide)
  have le := own_arl A
  have neo : b7 ≠ b1 := by omega
  have gfo : h.size ≤ b7 := by omega
  replace OL := OL.ext E7
  replace A := A.ext E7
  refine own_dup X7 C at_59 60 rfl rfl ?_
  refine own_iconst X7 C at_60 61 rfl (3) rfl ?_
  refine own_aconst_null X7 C at_61 62 rfl ?_
  refine own_iconst X7 C at_62 63 rfl (0) rfl ?_
  refine own_callI X7 C rfl (own_w hw 5 rfl) (own_w hw 6 rfl) (own_w hw 4 rfl) (own_w hw 7 rfl) rfl (by decide) (own_rm_frame l Z a0 hw b7 h7 h.size (Nat.le_trans gfo (Nat.le_of_lt A7.lt)) gfo A7 F0_assigned F0_sent F0_locals F0_vectors F0_observingAssignments OL aD SD) e7 own_pd_ILcom_example_paths_to_proofs_pathstoproofs_statechart_Vectors_Z_R_V [(.int (3 : Int32)), .null, (.int (0 : Int32))] rfl rfl rfl rfl 1 rfl (by decide) (by decide) (by decide) (by decide) at_63 66 rfl (fun T8 L8 v8 X8 q8 => ?_)
  obtain ⟨rfl, NL8, K8, fb, hfb, Ef, Fl, B0⟩ := q8
  have N8 := Fr.app N6 NL8
  have lA0 := own_arl A
  have ne : b1 ≠ fb := by omega
  have gf : h.size ≤ fb := by omega
  have nof : b7 ≠ fb := by have q := own_exl A7; omega
  replace A := A.keep K8 (ninS (Ne.symm neo) nin0)
  have B : OwnAr Z T8.heap fb .int 3 (fun i => .int (if i < 0 then G i else 0)) := B0.eqv fun i _ => by rw [if_neg (by omega)]
  refine own_astore X8 C at_66 68 rfl rfl #[.val (.int ia0), .val (.int ia1), .val (.int ia2), .val (.int ia3), .val (.int ia4), .val (.int ia5), .val (.int v2), .val (.int v5), .val (.ref b1), .val (.ref b7), .unset, .unset, .unset, .unset, .unset, .unset] rfl ?_
  refine own_aload X8 C at_68 70 rfl rfl rfl ?_
  refine own_getfield X8 C (host := "") (Or.inl (own_w hw 45 rfl)) Via.refl rfl Fl at_70 73 rfl (fun T9 X9 e9 => ?_)
  refine own_iconst X9 C at_73 74 rfl (0) rfl ?_
  refine own_aload X9 C at_74 76 rfl rfl rfl ?_
  refine own_iconst X9 C at_76 77 rfl (0) rfl ?_
  refine own_iaload X9 C e9 A (by decide) (by decide) at_77 78 rfl (.int (G 0)) rfl ?_
  refine own_iastore X9 C e9 B (by decide) (by decide) at_78 79 rfl (fun T10 h10 X10 e10 W10 => ?_)
  have N10 := own_fr1 (sl := ((0 : Int32)).toInt.toNat) N8 gf
  rw [show ((0 : Int32).toInt.toNat) = 0 from rfl] at W10
  replace B : OwnAr Z h10 fb .int 3 (fun i => .int (if i < 1 then G i else 0)) := (B.set W10).eqv fun i _ => by
    by_cases q : i = 0
    · subst q; rfl
    · rw [if_neg q]; by_cases q2 : i < 0
      · rw [if_pos q2, if_pos (by omega)]
      · rw [if_neg q2, if_neg (by omega)]
  replace A := A.other W10 ne
  replace Fl := Fl.other W10 (Or.inl nof)
  replace Ef := Ef.wr W10
  refine own_aload X10 C at_79 81 rfl rfl rfl ?_
  refine own_getfield X10 C (host := "") (Or.inl (own_w hw 45 rfl)) Via.refl e10 Fl at_81 84 rfl (fun T11 X11 e11 => ?_)
  refine own_iconst X11 C at_84 85 rfl (1) rfl ?_
  refine own_aload X11 C at_85 87 rfl rfl rfl ?_
  refine own_iconst X11 C at_87 88 rfl (1) rfl ?_
  refine own_iaload X11 C e11 A (by decide) (by decide) at_88 89 rfl (.int (G 1)) rfl ?_
  refine own_iastore X11 C e11 B (by decide) (by decide) at_89 90 rfl (fun T12 h12 X12 e12 W12 => ?_)
  have N12 := own_fr1 (sl := ((1 : Int32)).toInt.toNat) N10 gf
  rw [show ((1 : Int32).toInt.toNat) = 1 from rfl] at W12
  replace B : OwnAr Z h12 fb .int 3 (fun i => .int (if i < 2 then G i else 0)) := (B.set W12).eqv fun i _ => by
    by_cases q : i = 1
    · subst q; rfl
    · rw [if_neg q]; by_cases q2 : i < 1
      · rw [if_pos q2, if_pos (by omega)]
      · rw [if_neg q2, if_neg (by omega)]
  replace A := A.other W12 ne
  replace Fl := Fl.other W12 (Or.inl nof)
  replace Ef := Ef.wr W12
  refine own_aload X12 C at_90 92 rfl rfl rfl ?_
  refine own_getfield X12 C (host := "") (Or.inl (own_w hw 45 rfl)) Via.refl e12 Fl at_92 95 rfl (fun T13 X13 e13 => ?_)
  refine own_iconst X13 C at_95 96 rfl (2) rfl ?_
  refine own_aload X13 C at_96 98 rfl rfl rfl ?_
  refine own_iconst X13 C at_98 99 rfl (2) rfl ?_
  refine own_iaload X13 C e13 A (by decide) (by decide) at_99 100 rfl (.int (G 2)) rfl ?_
  refine own_iastore X13 C e13 B (by decide) (by decide) at_100 101 rfl (fun T14 h14 X14 e14 W14 => ?_)
  have N14 := own_fr1 (sl := ((2 : Int32)).toInt.toNat) N12 gf
  rw [show ((2 : Int32).toInt.toNat) = 2 from rfl] at W14
  replace B : OwnAr Z h14 fb .int 3 (fun i => .int (if i < 3 then G i else 0)) := (B.set W14).eqv fun i _ => by
    by_cases q : i = 2
    · subst q; rfl
    · rw [if_neg q]; by_cases q2 : i < 2
      · rw [if_pos q2, if_pos (by omega)]
      · rw [if_neg q2, if_neg (by omega)]
  replace A := A.other W14 ne
  replace Fl := Fl.other W14 (Or.inl nof)
  replace Ef := Ef.wr W14
  replace B : OwnAr Z h14 fb .int 3 (fun i => .int (G i)) := B.eqv fun i hi => by rw [if_pos hi]
  refine own_new X14 C (own_w hw 46 rfl) (own_w hw 47 rfl) (own_w hw 48 rfl) e14 at_101 104 rfl (by decide) (by decide) (fun T15 h15 b15 g15 X15 e15 E15 A15 D15 => ?_)
  have L0_counter : Fld Z h15 b15 "com/example/paths_to_proofs/pathstoproofs/statechart/Action$Loop" "counter" "I" (.int (0 : Int32)) := D15 (Or.inr (own_w hw 59 rfl)) (ty := .int) (by decide)
  have L0_bound : Fld Z h15 b15 "com/example/paths_to_proofs/pathstoproofs/statechart/Action$Loop" "bound" "I" (.int (0 : Int32)) := D15 (Or.inr (own_w hw 61 rfl)) (ty := .int) (by decide)
  have L0_body : Fld Z h15 b15 "com/example/paths_to_proofs/pathstoproofs/statechart/Action$Loop" "body" "I" (.int (0 : Int32)) := D15 (Or.inr (own_w hw 63 rfl)) (ty := .int) (by decide)
  have lA := own_arl A
  have lB := own_arl B
  have lF := own_exl Ef
  have n1 : b1 ≠ b15 := by omega
  have n2 : fb ≠ b15 := by omega
  have n3 : b7 ≠ b15 := by omega
  have glo : h.size ≤ b15 := by omega
  replace A := A.ext E15
  replace B := B.ext E15
  replace Fl := Fl.ext E15
  refine own_dup X15 C at_104 105 rfl rfl ?_
  refine own_iload X15 C at_105 107 rfl rfl ?_
  refine own_iload X15 C at_107 109 rfl rfl ?_
  refine own_iload_n X15 C at_109 110 rfl rfl ?_
  refine own_callI X15 C rfl (own_w hw 49 rfl) (own_w hw 50 rfl) (own_w hw 48 rfl) (own_w hw 51 rfl) rfl (by decide) (own_rm_loop l Z a0 hw b15 v2 v5 ia3 h15 h.size glo A15 L0_counter L0_bound L0_body) e15 own_pd_III_R_V [(.int v2), (.int v5), (.int ia3)] rfl rfl rfl rfl 1 rfl (by decide) (by decide) (by decide) (by decide) at_110 113 rfl (fun T16 L16 v16 X16 q16 => ?_)
  obtain ⟨rfl, NL16, K16, El, L_counter, L_bound, L_body⟩ := q16
  have N16 := Fr.app N14 NL16
  replace A := A.keep K16 (ninS n1 nin0)
  replace B := B.keep K16 (ninS n2 nin0)
  replace Fl := Fl.keep K16 (ninS n3 nin0)
  refine own_astore X16 C at_113 115 rfl rfl #[.val (.int ia0), .val (.int ia1), .val (.int ia2), .val (.int ia3), .val (.int ia4), .val (.int ia5), .val (.int v2), .val (.int v5), .val (.ref b1), .val (.ref b7), .val (.ref b15), .unset, .unset, .unset, .unset, .unset] rfl ?_
  refine own_aload X16 C at_115 117 rfl rfl rfl ?_
  refine own_aload X16 C at_117 119 rfl rfl rfl ?_
  refine own_iload_n X16 C at_119 120 rfl rfl ?_
  refine own_callV X16 C (own_w hw 64 rfl) (own_w hw 65 rfl) (own_w hw 67 rfl) (own_w hw 66 rfl) (own_w hw 48 rfl) (own_w hw 68 rfl) (by decide) El (own_rm_run l Z a0 hw b15 b7 ia2 T16.heap h.size fb gf (Ne.symm n2) v2 v5 ia3 L_counter L_bound L_body Fl G B kc kb hkc hkb (by omega) (by omega)) rfl own_pd_Lcom_example_paths_to_proofs_pathstoproofs_statechart_Frame_I_R_I [(.ref b7), (.int ia2)] rfl rfl rfl rfl 0 rfl (by decide) (by decide) (by decide) (by decide) at_120 123 rfl (fun T17 L17 v17 X17 q17 => ?_)
  obtain ⟨⟨z17, rfl, hle, hlt⟩, NL17, K17⟩ := q17
  have N17 := Fr.app N16 NL17
  replace A := A.keep K17 (ninS ne nin0)
  replace Fl := Fl.keep K17 (ninS nof nin0)
  refine own_istore X17 C at_123 125 rfl #[.val (.int ia0), .val (.int ia1), .val (.int ia2), .val (.int ia3), .val (.int ia4), .val (.int ia5), .val (.int v2), .val (.int v5), .val (.ref b1), .val (.ref b7), .val (.ref b15), .val (.int z17), .unset, .unset, .unset, .unset] rfl ?_
  refine own_aload X17 C at_125 127 rfl rfl rfl ?_
  refine own_iload X17 C at_127 129 rfl rfl ?_
  refine own_iaload X17 C rfl A (by omega) (by omega) at_129 130 rfl (.int (G kc)) (by show Value.int (G _) = _; rw [show v2.toInt.toNat = kc by omega]) ?_
  refine own_i2l X17 C at_130 131 rfl (fun v6 ev6 => ?_)
  refine own_lstore X17 C at_131 133 rfl #[.val (.int ia0), .val (.int ia1), .val (.int ia2), .val (.int ia3), .val (.int ia4), .val (.int ia5), .val (.int v2), .val (.int v5), .val (.ref b1), .val (.ref b7), .val (.ref b15), .val (.int z17), .val (.long v6), .second, .unset, .unset] rfl ?_
  refine own_aload X17 C at_133 135 rfl rfl rfl ?_
  refine own_iload X17 C at_135 137 rfl rfl ?_
  refine own_iaload X17 C rfl A (by omega) (by omega) at_137 138 rfl (.int (G kb)) (by show Value.int (G _) = _; rw [show v5.toInt.toNat = kb by omega]) ?_
  refine own_i2l X17 C at_138 139 rfl (fun v7 ev7 => ?_)
  refine own_lstore X17 C at_139 141 rfl #[.val (.int ia0), .val (.int ia1), .val (.int ia2), .val (.int ia3), .val (.int ia4), .val (.int ia5), .val (.int v2), .val (.int v5), .val (.ref b1), .val (.ref b7), .val (.ref b15), .val (.int z17), .val (.long v6), .second, .val (.long v7), .second] rfl ?_
  refine own_lload X17 C at_141 143 rfl rfl ?_
  refine own_lload X17 C at_143 145 rfl rfl ?_
  refine own_lcmp X17 C at_145 146 rfl (fun v8 ev8a ev8b ev8c => ?_)
  refine own_iflt X17 C at_146 149 174 rfl (by decide) (by decide) (i := v8.toInt) rfl (fun b18 => ?_) (fun b18 => ?_)
  · have c1 := c_i2l (G kc)
    rw [← ev6] at c1
    have c2 := c_i2l (G kb)
    rw [← ev7] at c2
    obtain ⟨hzz, B⟩ := hlt (by omega)
    rw [hzz]
    refine own_aload X17 C at_174 176 rfl rfl rfl ?_
    refine own_iload X17 C at_176 178 rfl rfl ?_
    refine own_aload X17 C at_178 180 rfl rfl rfl ?_
    refine own_iload X17 C at_180 182 rfl rfl ?_
    refine own_iaload X17 C rfl A (by omega) (by omega) at_182 183 rfl (.int (G kc)) (by show Value.int (G _) = _; rw [show v2.toInt.toNat = kc by omega]) ?_
    refine own_iconst X17 C at_183 184 rfl (1) rfl ?_
    refine own_iadd X17 C at_184 185 rfl (fun v9 ev9 => ?_)
    refine own_iastore X17 C rfl A (by omega) (by omega) at_185 186 rfl (fun T19 h19 X19 e19 W19 => ?_)
    have N19 := own_fr1 (sl := (v2).toInt.toNat) N17 ge
    have hj : v2.toInt.toNat = kc := by omega
    rw [hj, ev9] at W19
    replace A : OwnAr Z h19 b1 .int 3 (fun i => .int (if i = kc then G kc + 1 else G i)) := (A.set W19).eqv fun i _ => own_iteI
    replace B := B.other W19 (Ne.symm ne)
    replace Fl := Fl.other W19 (Or.inl neo)
    refine own_iload X19 C at_186 188 rfl rfl ?_
    refine own_iload_n X19 C at_188 189 rfl rfl ?_
    refine own_icmpne X19 C at_189 192 209 rfl (by decide) (by decide) (i := ia3.toInt) rfl (j := ia3.toInt) rfl (fun b20 => ?_) (fun b20 => ?_)
    · exfalso
      exact b20 rfl
    · refine own_aload X19 C at_192 194 rfl rfl rfl ?_
      refine own_getfield X19 C (host := "") (Or.inl (own_w hw 45 rfl)) Via.refl e19 Fl at_194 197 rfl (fun T21 X21 e21 => ?_)
      refine own_aload X21 C at_197 199 rfl rfl rfl ?_
      refine own_callP X21 C (own_w hw 70 rfl) (own_w hw 71 rfl) (own_w hw 72 rfl) (own_w hw 73 rfl) (by decide) (own_rm_same l Z a0 hw fb b1 h19 (fun i => if i = kc then G kc + 1 else G i) B A) e21 own_pd_AIAI_R_Z [(.ref fb), (.ref b1)] rfl rfl rfl rfl 0 rfl (by decide) (by decide) rfl rfl (by decide) (by decide) at_199 202 rfl (fun T22 X22 e22 => ?_)
      refine own_ifeq X22 C at_202 205 209 rfl (by decide) (by decide) (i := 1) (by decide) (fun b23 => ?_) (fun b23 => ?_)
      · exfalso
        omega
      · refine own_iconst X22 C at_205 206 rfl (1) rfl ?_
        refine own_goto X22 C at_206 210 (by decide) (by decide) ?_
        refine own_iretN X22 C .boolean rfl (by simp) at_210 (by decide) (by decide) (1) (by decide) ?_
        exact ⟨rfl, N19⟩
  · have c1 := c_i2l (G kc)
    rw [← ev6] at c1
    have c2 := c_i2l (G kb)
    rw [← ev7] at c2
    obtain ⟨hzz, B⟩ := hle (by omega)
    rw [hzz]
    refine own_iload X17 C at_149 151 rfl rfl ?_
    refine own_iload_n X17 C at_151 152 rfl rfl ?_
    refine own_icmpne X17 C at_152 155 172 rfl (by decide) (by decide) (i := ia2.toInt) rfl (j := ia2.toInt) rfl (fun b24 => ?_) (fun b24 => ?_)
    · exfalso
      exact b24 rfl
    · refine own_aload X17 C at_155 157 rfl rfl rfl ?_
      refine own_getfield X17 C (host := "") (Or.inl (own_w hw 45 rfl)) Via.refl rfl Fl at_157 160 rfl (fun T25 X25 e25 => ?_)
      refine own_aload X25 C at_160 162 rfl rfl rfl ?_
      refine own_callP X25 C (own_w hw 70 rfl) (own_w hw 71 rfl) (own_w hw 72 rfl) (own_w hw 73 rfl) (by decide) (own_rm_same l Z a0 hw fb b1 T17.heap G B A) e25 own_pd_AIAI_R_Z [(.ref fb), (.ref b1)] rfl rfl rfl rfl 0 rfl (by decide) (by decide) rfl rfl (by decide) (by decide) at_162 165 rfl (fun T26 X26 e26 => ?_)
      refine own_ifeq X26 C at_165 168 172 rfl (by decide) (by decide) (i := 1) (by decide) (fun b27 => ?_) (fun b27 => ?_)
      · exfalso
        omega
      · refine own_iconst X26 C at_168 169 rfl (1) rfl ?_
        refine own_goto X26 C at_169 173 (by decide) (by decide) ?_
        refine own_iretN X26 C .boolean rfl (by simp) at_173 (by decide) (by decide) (1) (by decide) ?_
        exact ⟨rfl, N17⟩
set_option maxRecDepth 65536 in
set_option maxHeartbeats 4000000 in
theorem own_comes_1 {Post : Tables → Env → Array Value → State → Outcome → State → Prop} (hpost : ∀ tb e args s v u, (limb_1_1.after args s (.returned v) u = true ∧ limb_1_2.after args s (.returned v) u = true ∧ True) → FrameEnd s (.returned v) u (Jvm.fieldLocs frame_1_writes args s ++ Jvm.arrayLocs frame_1_arrays args s ++ Jvm.staticLocs frame_1_statics s) 24 128 → Post tb e args s (.returned v) u) :
    ArmFor flags0 classFile x code maxLocals ret World_1 tables_1 room_1 Calls_1 rest_1 Pre_1 Post := by
  intro l hfl _ _ p e ha hc hk s m args below hf hA hF happ hP
  obtain ⟨hcalls, hrest, hpre⟩ := hP
  obtain ⟨-, -, -, hnamed, -, -, -, hat⟩ := (Spec.applies_iff hf).mp happ
  obtain ⟨hg, hn⟩ := and_e (Cond.before_iff.mp (show (Jvm.Cond.and given_1 narrow_1).before args s = true from hpre))
  obtain ⟨g0, g0r⟩ := and_e hg
  obtain ⟨g1, g1r⟩ := and_e g0r
  obtain ⟨g2, g2r⟩ := and_e g1r
  obtain ⟨g3, g3r⟩ := and_e g2r
  obtain ⟨g4, g4r⟩ := and_e g3r
  obtain ⟨g5, g5r⟩ := and_e g4r
  obtain ⟨w0, w1, w2, w3, w4, w5, rfl⟩ : ∃ w0 w1 w2 w3 w4 w5 : Value, args = #[w0, w1, w2, w3, w4, w5] := by
    have hs : args.size = 6 := by simpa [Cond.value, given_1] using g0
    obtain ⟨L⟩ := args
    match L, hs with
    | [w0, w1, w2, w3, w4, w5], _ => exact ⟨w0, w1, w2, w3, w4, w5, rfl⟩
  have hw := fun d (hd : d ∈ tables_1) => atoms_spec (ws := Jvm.Cond.code x code maxLocals ret :: tables_1) hat d (List.mem_cons_of_mem _ hd)
  have hfit : Fit s := fun {y c} hc i hi => by
    obtain ⟨ha, rfl⟩ := Array.getElem?_eq_some_iff.mp hc
    have q := List.all_eq_true.mp ((Array.all_eq_true_iff_forall_mem.mp hF) _ (Array.getElem_mem ha)) i (List.mem_range.mpr hi)
    simpa [Array.getElem?_eq_getElem hi] using q
  obtain ⟨i0, q0⟩ := is_v g1
  obtain rfl : w0 = (.int i0) := Option.some.inj q0
  obtain ⟨i1, q1⟩ := is_v g2
  obtain rfl : w1 = (.int i1) := Option.some.inj q1
  obtain ⟨i2, q2⟩ := is_v g3
  obtain rfl : w2 = (.int i2) := Option.some.inj q2
  obtain ⟨i3, q3⟩ := is_v g4
  obtain rfl : w3 = (.int i3) := Option.some.inj q3
  obtain ⟨i4, q4⟩ := is_v g5
  obtain rfl : w4 = (.int i4) := Option.some.inj q4
  obtain ⟨i5, q5⟩ := is_v g5r
  obtain rfl : w5 = (.int i5) := Option.some.inj q5
  obtain ⟨hsets, hown0⟩ := atoms_of _ (rest_1_c_eq ▸ (show rest_1_c.before _ s = true from hrest))
  obtain ⟨aD, ev⟩ := arr_v (Cond.before_iff.mp (hsets _ (List.mem_of_getElem? (i := 6) rfl)))
  have SD : Sta s s.heap "java/util/ArrayList" "DEFAULTCAPACITY_EMPTY_ELEMENTDATA" "[Ljava/lang/Object;" (.ref aD) := Sta.start ev (Or.inr ⟨(own_w hw 13 rfl), hsets _ (List.mem_of_getElem? (i := 2) rfl)⟩)
  obtain ⟨n, o, h1, h2, h3, _, L, rfl, ⟨rfl, N⟩, hq⟩ := own_rm_law l s _ hw i0 i1 i2 i3 i4 i5 s.heap (Old.start s) aD SD p e ha hc hk s m _ below hf ((Spec.applies_iff_loose hf).mp happ).1 ⟨rfl, State.Warmed39.refl s, rfl⟩ trivial
  refine ⟨n, _, h1, h2, h3, hpost _ _ _ _ _ _ ⟨Cond.after_iff.mpr rfl, Cond.after_iff.mpr (eq_i res_at (Term.int_eval (1)) rfl), trivial⟩ ⟨hq.1, hq.2.1, (hq.2.2.sift fun y hy => Or.inr (N y hy)).mono (by decide) (by decide)⟩⟩
theorem main_1_1 : Claimed_1_1 := own_comes_1 fun _ _ _ _ _ _ h hF => ⟨h.1, hF⟩
theorem main_1_2 : Claimed_1_2 := own_comes_1 fun _ _ _ _ _ _ h hF => ⟨h.2.1, hF⟩
end Jvm.Pilot.@@N@@
namespace Jvm.Pilot.@@N@@
open Jvm Jvm.ClassFile Sem Op Lib Jvm.Free Jvm.Stand Jvm.Pilot.@@N@@.Jvm.D
/-! MADE BY PROGRAM (witnessworld.py) out of the Statement's table words and the real class files: 21 classes; the members and pool entries that the words name. The judged class is class 1, her method 1. -/
namespace start1
open Jvm.ClassFile
def u (s : String) : CpInfo := .utf8 (stringToUtf16 s)
/-- a pool by its gaps: so many unusable entries, then the entry; so many at the end -/
def gap : Nat → List CpInfo → List CpInfo
  | 0, r => r
  | n + 1, r => .unusable :: gap n r
def poolList (es : List (Nat × CpInfo)) (last : Nat) : List CpInfo := es.foldr (fun e r => gap e.1 (e.2 :: r)) (gap last [])
def pool (es : List (Nat × CpInfo)) (last : Nat) : Array CpInfo := ⟨poolList es last⟩
def fileOf (pool : Array CpInfo) (this : Nat) (attrs : Array Attribute := #[]) (ms : Array MethodInfo := #[]) (fl : Nat := 33) (sup : Nat := 0) (ifs : Array Nat := #[]) (fds : Array FieldInfo := #[]) : ClassFile where
  minorVersion := 0
  majorVersion := 65
  constantPool := pool
  accessFlags := fl
  thisClass := this
  superClass := sup
  interfaces := ifs
  fields := fds
  methods := ms
  attributes := attrs
def plain (name : String) (sup : Option ClassId) : Class where
  name := name
  kind := .ordinary
  loader := none
  accessFlags := 33
  super := sup
  interfaces := #[]
  cf := none
  fields := #[]
  methods := #[]
  instanceTypes := #[]
  staticTypes := #[]
  resolved := #[]
  callSites := []
  init := .initialized
  statics := none
  mirror := none

def pool0 : Array CpInfo := pool [(5, u "<init>"), (0, u "()V"), (1, .class_ 10), (1, u "java/lang/Object")] 113

def k0c0 : Code := { maxStack := 0, maxLocals := 1, code := object_method_1_code, exceptionTable := #[], attributes := #[] }
def k0m0 : Method := { name := "<init>", desc := "()V", sig := { parameters := [], returnType := none }, accessFlags := 1, code := some k0c0 }
/-- java/lang/Object -/
def k0 : Class := { plain "java/lang/Object" none with
  accessFlags := 33
  interfaces := #[]
  cf := some (fileOf pool0 8 #[] #[{ accessFlags := 1, nameIndex := 5, descriptorIndex := 6, attributes := #[] }] 33 0 #[] #[])
  fields := #[]
  methods := #[k0m0]
  instanceTypes := #[]
  staticTypes := #[]
  resolved := Array.replicate 124 none
  statics := none }

def pool1 : Array CpInfo := pool [(2, .class_ 4), (1, u "java/lang/Object"), (0, u "<init>"), (0, u "()V"), (0, .integer 2147483647), (0, .class_ 9), (0, u "com/example/paths_to_proofs/pathstoproofs/statechart/Frame"), (0, .methodref 8 11), (0, .nameAndType 5 12), (0, u "(ILcom/example/paths_to_proofs/pathstoproofs/statechart/Vectors;Z)V"), (0, .fieldref 8 14), (0, .nameAndType 15 16), (0, u "locals"), (0, u "[I"), (0, .class_ 18), (0, u "com/example/paths_to_proofs/pathstoproofs/statechart/Action$Loop"), (0, .methodref 17 20), (0, .nameAndType 5 21), (0, u "(III)V"), (0, .methodref 17 23), (0, .nameAndType 24 25), (0, u "run"), (0, u "(Lcom/example/paths_to_proofs/pathstoproofs/statechart/Frame;I)I"), (0, .methodref 27 28), (0, .class_ 29), (0, .nameAndType 30 31), (0, u "com/example/paths_to_proofs/pathstoproofs/statechart/LoopRunPinLaw"), (0, u "same"), (0, u "([I[I)Z"), (2, u "law"), (0, u "(IIIIII)Z")] 8

def k1m0 : Method := { name := "<init>", desc := "()V", sig := { parameters := [], returnType := none }, accessFlags := 1, code := none }
def k1c1 : Code := { maxStack := 5, maxLocals := 16, code := code, exceptionTable := #[], attributes := #[] }
def k1m1 : Method := { name := "law", desc := "(IIIIII)Z", sig := { parameters := [.int, .int, .int, .int, .int, .int], returnType := some .boolean }, accessFlags := 9, code := some k1c1 }
def k1c2 : Code := { maxStack := 3, maxLocals := 2, code := method_3_code, exceptionTable := #[], attributes := #[] }
def k1m2 : Method := { name := "same", desc := "([I[I)Z", sig := { parameters := [(.array .int), (.array .int)], returnType := some .boolean }, accessFlags := 10, code := some k1c2 }
/-- com/example/paths_to_proofs/pathstoproofs/statechart/LoopRunPinLaw -/
def k1 : Class := { plain "com/example/paths_to_proofs/pathstoproofs/statechart/LoopRunPinLaw" (some 0) with
  accessFlags := 49
  interfaces := #[]
  cf := some (fileOf pool1 27 #[] #[{ accessFlags := 1, nameIndex := 5, descriptorIndex := 6, attributes := #[] }, { accessFlags := 9, nameIndex := 34, descriptorIndex := 35, attributes := #[] }, { accessFlags := 10, nameIndex := 30, descriptorIndex := 31, attributes := #[] }] 49 2 #[] #[])
  fields := #[]
  methods := #[k1m0, k1m1, k1m2]
  instanceTypes := #[]
  staticTypes := #[]
  resolved := Array.replicate 44 none
  statics := none }

def pool2 : Array CpInfo := pool [(1, .methodref 2 3), (0, .class_ 4), (0, .nameAndType 5 6), (0, u "java/lang/Object"), (0, u "<init>"), (0, u "()V"), (0, .class_ 8), (0, u "java/util/ArrayList"), (0, .methodref 7 3), (0, .fieldref 11 12), (0, .class_ 13), (0, .nameAndType 14 15), (0, u "com/example/paths_to_proofs/pathstoproofs/statechart/Frame"), (0, u "assigned"), (0, u "Ljava/util/List;"), (0, .fieldref 11 17), (0, .nameAndType 18 15), (0, u "sent"), (0, .fieldref 11 20), (0, .nameAndType 21 22), (0, u "locals"), (0, u "[I"), (0, .fieldref 11 24), (0, .nameAndType 25 26), (0, u "vectors"), (0, u "Lcom/example/paths_to_proofs/pathstoproofs/statechart/Vectors;"), (0, .fieldref 11 28), (0, .nameAndType 29 30), (0, u "observingAssignments"), (0, u "Z"), (2, u "values"), (2, u "variables"), (0, u "I"), (2, u "event"), (2, u "arguments"), (2, u "labelling"), (2, .class_ 50), (0, u "com/example/paths_to_proofs/pathstoproofs/statechart/Frame$Assigned"), (13, u "OUT"), (2, u "ERR"), (1, u "OUTSIDE"), (0, u "self"), (0, u "queued"), (3, u "returned"), (0, u "result"), (0, u "(ILcom/example/paths_to_proofs/pathstoproofs/statechart/Vectors;Z)V"), (10, .class_ 89), (0, u "com/example/paths_to_proofs/pathstoproofs/statechart/Frame$Sent")] 14

def k2c0 : Code := { maxStack := 3, maxLocals := 4, code := prog_97_method_1_code, exceptionTable := #[], attributes := #[] }
def k2m0 : Method := { name := "<init>", desc := "(ILcom/example/paths_to_proofs/pathstoproofs/statechart/Vectors;Z)V", sig := { parameters := [.int, (.object "com/example/paths_to_proofs/pathstoproofs/statechart/Vectors"), .boolean], returnType := none }, accessFlags := 0, code := some k2c0 }
/-- com/example/paths_to_proofs/pathstoproofs/statechart/Frame -/
def k2 : Class := { plain "com/example/paths_to_proofs/pathstoproofs/statechart/Frame" (some 0) with
  accessFlags := 32
  interfaces := #[]
  cf := some (fileOf pool2 11 #[.nestMembers #[49, 88]] #[{ accessFlags := 0, nameIndex := 5, descriptorIndex := 77, attributes := #[] }] 32 2 #[] #[{ accessFlags := 24, nameIndex := 64, descriptorIndex := 37, attributes := #[] }, { accessFlags := 24, nameIndex := 67, descriptorIndex := 37, attributes := #[] }, { accessFlags := 24, nameIndex := 69, descriptorIndex := 37, attributes := #[] }, { accessFlags := 0, nameIndex := 33, descriptorIndex := 22, attributes := #[] }, { accessFlags := 0, nameIndex := 36, descriptorIndex := 37, attributes := #[] }, { accessFlags := 0, nameIndex := 70, descriptorIndex := 37, attributes := #[] }, { accessFlags := 0, nameIndex := 40, descriptorIndex := 22, attributes := #[] }, { accessFlags := 0, nameIndex := 43, descriptorIndex := 37, attributes := #[] }, { accessFlags := 0, nameIndex := 71, descriptorIndex := 37, attributes := #[] }, { accessFlags := 0, nameIndex := 46, descriptorIndex := 30, attributes := #[] }, { accessFlags := 16, nameIndex := 29, descriptorIndex := 30, attributes := #[] }, { accessFlags := 16, nameIndex := 14, descriptorIndex := 15, attributes := #[] }, { accessFlags := 16, nameIndex := 18, descriptorIndex := 15, attributes := #[] }, { accessFlags := 0, nameIndex := 75, descriptorIndex := 30, attributes := #[] }, { accessFlags := 0, nameIndex := 76, descriptorIndex := 37, attributes := #[] }, { accessFlags := 16, nameIndex := 21, descriptorIndex := 22, attributes := #[] }, { accessFlags := 16, nameIndex := 25, descriptorIndex := 26, attributes := #[] }])
  fields := #[{ name := "OUT", type := .int, accessFlags := 24, slot := 0, constantValue := 0 }, { name := "ERR", type := .int, accessFlags := 24, slot := 1, constantValue := 0 }, { name := "OUTSIDE", type := .int, accessFlags := 24, slot := 2, constantValue := 0 }, { name := "values", type := (.array .int), accessFlags := 0, slot := 0, constantValue := 0 }, { name := "variables", type := .int, accessFlags := 0, slot := 1, constantValue := 0 }, { name := "self", type := .int, accessFlags := 0, slot := 2, constantValue := 0 }, { name := "event", type := (.array .int), accessFlags := 0, slot := 3, constantValue := 0 }, { name := "arguments", type := .int, accessFlags := 0, slot := 4, constantValue := 0 }, { name := "queued", type := .int, accessFlags := 0, slot := 5, constantValue := 0 }, { name := "labelling", type := .boolean, accessFlags := 0, slot := 6, constantValue := 0 }, { name := "observingAssignments", type := .boolean, accessFlags := 16, slot := 7, constantValue := 0 }, { name := "assigned", type := (.object "java/util/List"), accessFlags := 16, slot := 8, constantValue := 0 }, { name := "sent", type := (.object "java/util/List"), accessFlags := 16, slot := 9, constantValue := 0 }, { name := "returned", type := .boolean, accessFlags := 0, slot := 10, constantValue := 0 }, { name := "result", type := .int, accessFlags := 0, slot := 11, constantValue := 0 }, { name := "locals", type := (.array .int), accessFlags := 16, slot := 12, constantValue := 0 }, { name := "vectors", type := (.object "com/example/paths_to_proofs/pathstoproofs/statechart/Vectors"), accessFlags := 16, slot := 13, constantValue := 0 }]
  methods := #[k2m0]
  instanceTypes := #[(.array .int), .int, .int, (.array .int), .int, .int, .boolean, .boolean, (.object "java/util/List"), (.object "java/util/List"), .boolean, .int, (.array .int), (.object "com/example/paths_to_proofs/pathstoproofs/statechart/Vectors")]
  staticTypes := #[.int, .int, .int]
  resolved := Array.replicate 104 none
  statics := none }

def pool3 : Array CpInfo := pool [(8, .class_ 10), (1, u "java/lang/Iterable"), (24, .class_ 36), (0, u "java/lang/Object")] 25

/-- java/lang/Iterable -/
def k3 : Class := { plain "java/lang/Iterable" (some 0) with
  accessFlags := 1537
  interfaces := #[]
  cf := some (fileOf pool3 8 #[] #[] 1537 35 #[] #[])
  fields := #[]
  methods := #[]
  instanceTypes := #[]
  staticTypes := #[]
  resolved := Array.replicate 62 none
  statics := none }

def pool4 : Array CpInfo := pool [(10, .class_ 12), (1, u "java/util/Collection"), (47, .class_ 61), (0, u "java/lang/Object"), (0, .class_ 63), (0, u "java/lang/Iterable")] 51

/-- java/util/Collection -/
def k4 : Class := { plain "java/util/Collection" (some 0) with
  accessFlags := 1537
  interfaces := #[3]
  cf := some (fileOf pool4 10 #[] #[] 1537 60 #[62] #[])
  fields := #[]
  methods := #[]
  instanceTypes := #[]
  staticTypes := #[]
  resolved := Array.replicate 115 none
  statics := none }

def pool5 : Array CpInfo := pool [(1, .methodref 2 3), (0, .class_ 4), (0, .nameAndType 5 6), (0, u "java/lang/Object"), (0, u "<init>"), (0, u "()V"), (1, .class_ 10), (1, u "java/util/AbstractCollection"), (66, .class_ 78), (0, u "java/util/Collection")] 81

def k5c0 : Code := { maxStack := 1, maxLocals := 1, code := jdk_22_method_1_code, exceptionTable := #[], attributes := #[] }
def k5m0 : Method := { name := "<init>", desc := "()V", sig := { parameters := [], returnType := none }, accessFlags := 4, code := some k5c0 }
/-- java/util/AbstractCollection -/
def k5 : Class := { plain "java/util/AbstractCollection" (some 0) with
  accessFlags := 1057
  interfaces := #[4]
  cf := some (fileOf pool5 8 #[] #[{ accessFlags := 4, nameIndex := 5, descriptorIndex := 6, attributes := #[] }] 1057 2 #[77] #[])
  fields := #[]
  methods := #[k5m0]
  instanceTypes := #[]
  staticTypes := #[]
  resolved := Array.replicate 160 none
  statics := none }

def pool6 : Array CpInfo := pool [(8, .class_ 10), (1, u "java/util/SequencedCollection"), (15, .class_ 27), (0, u "java/lang/Object"), (0, .class_ 29), (0, u "java/util/Collection")] 27

/-- java/util/SequencedCollection -/
def k6 : Class := { plain "java/util/SequencedCollection" (some 0) with
  accessFlags := 1537
  interfaces := #[4]
  cf := some (fileOf pool6 8 #[] #[] 1537 26 #[28] #[])
  fields := #[]
  methods := #[]
  instanceTypes := #[]
  staticTypes := #[]
  resolved := Array.replicate 57 none
  statics := none }

def pool7 : Array CpInfo := pool [(8, .class_ 10), (1, u "java/util/List"), (92, .class_ 104), (0, u "java/lang/Object"), (15, .class_ 121), (0, u "java/util/SequencedCollection")] 129

/-- java/util/List -/
def k7 : Class := { plain "java/util/List" (some 0) with
  accessFlags := 1537
  interfaces := #[6]
  cf := some (fileOf pool7 8 #[] #[] 1537 103 #[120] #[])
  fields := #[]
  methods := #[]
  instanceTypes := #[]
  staticTypes := #[]
  resolved := Array.replicate 251 none
  statics := none }

def pool8 : Array CpInfo := pool [(1, .methodref 2 3), (0, .class_ 4), (0, .nameAndType 5 6), (0, u "java/util/AbstractCollection"), (0, u "<init>"), (0, u "()V"), (0, .fieldref 8 9), (0, .class_ 10), (0, .nameAndType 11 12), (0, u "java/util/AbstractList"), (0, u "modCount"), (0, u "I"), (64, .class_ 78), (0, u "java/util/AbstractList$Itr"), (3, .class_ 83), (0, u "java/util/AbstractList$ListItr"), (9, .class_ 94), (0, u "java/util/AbstractList$RandomAccessSubList"), (3, .class_ 99), (0, u "java/util/AbstractList$SubList"), (33, .class_ 134), (0, u "java/util/List"), (73, .class_ 209), (0, u "java/util/AbstractList$SubList$1"), (0, .class_ 211), (0, u "java/util/AbstractList$RandomAccessSpliterator")] 6

def k8c0 : Code := { maxStack := 2, maxLocals := 1, code := jdk_39_method_1_code, exceptionTable := #[], attributes := #[] }
def k8m0 : Method := { name := "<init>", desc := "()V", sig := { parameters := [], returnType := none }, accessFlags := 4, code := some k8c0 }
/-- java/util/AbstractList -/
def k8 : Class := { plain "java/util/AbstractList" (some 5) with
  accessFlags := 1057
  interfaces := #[7]
  cf := some (fileOf pool8 8 #[.nestMembers #[93, 98, 208, 210, 82, 77]] #[{ accessFlags := 4, nameIndex := 5, descriptorIndex := 6, attributes := #[] }] 1057 2 #[133] #[{ accessFlags := 132, nameIndex := 11, descriptorIndex := 12, attributes := #[] }])
  fields := #[{ name := "modCount", type := .int, accessFlags := 132, slot := 0, constantValue := 0 }]
  methods := #[k8m0]
  instanceTypes := #[.int]
  staticTypes := #[]
  resolved := Array.replicate 218 none
  statics := none }

def pool9 : Array CpInfo := pool [(1, .class_ 2), (0, u "java/util/RandomAccess"), (0, .class_ 4), (0, u "java/lang/Object")] 2

/-- java/util/RandomAccess -/
def k9 : Class := { plain "java/util/RandomAccess" (some 0) with
  accessFlags := 1537
  interfaces := #[]
  cf := some (fileOf pool9 1 #[] #[] 1537 3 #[] #[])
  fields := #[]
  methods := #[]
  instanceTypes := #[]
  staticTypes := #[]
  resolved := Array.replicate 7 none
  statics := none }

def pool10 : Array CpInfo := pool [(1, .class_ 2), (0, u "java/lang/Cloneable"), (0, .class_ 4), (0, u "java/lang/Object")] 2

/-- java/lang/Cloneable -/
def k10 : Class := { plain "java/lang/Cloneable" (some 0) with
  accessFlags := 1537
  interfaces := #[]
  cf := some (fileOf pool10 1 #[] #[] 1537 3 #[] #[])
  fields := #[]
  methods := #[]
  instanceTypes := #[]
  staticTypes := #[]
  resolved := Array.replicate 7 none
  statics := none }

def pool11 : Array CpInfo := pool [(1, .class_ 2), (0, u "java/io/Serializable"), (0, .class_ 4), (0, u "java/lang/Object")] 2

/-- java/io/Serializable -/
def k11 : Class := { plain "java/io/Serializable" (some 0) with
  accessFlags := 1537
  interfaces := #[]
  cf := some (fileOf pool11 1 #[] #[] 1537 3 #[] #[])
  fields := #[]
  methods := #[]
  instanceTypes := #[]
  staticTypes := #[]
  resolved := Array.replicate 7 none
  statics := none }

def pool12 : Array CpInfo := pool [(1, .methodref 2 3), (0, .class_ 4), (0, .nameAndType 5 6), (0, u "java/util/AbstractList"), (0, u "<init>"), (0, u "()V"), (2, .fieldref 10 11), (0, .class_ 12), (0, .nameAndType 13 14), (0, u "java/util/ArrayList"), (0, u "elementData"), (0, u "[Ljava/lang/Object;"), (2, u "EMPTY_ELEMENTDATA"), (21, .fieldref 10 40), (0, .nameAndType 41 14), (0, u "DEFAULTCAPACITY_EMPTY_ELEMENTDATA"), (8, u "size"), (0, u "I"), (96, .class_ 149), (0, u "java/util/List"), (112, .class_ 263), (0, u "java/util/ArrayList$ListItr"), (3, .class_ 268), (0, u "java/util/ArrayList$Itr"), (7, .class_ 277), (0, u "java/util/ArrayList$SubList"), (12, .class_ 291), (0, u "java/util/ArrayList$ArrayListSpliterator"), (37, .class_ 330), (0, u "java/util/RandomAccess"), (0, .class_ 332), (0, u "java/lang/Cloneable"), (0, .class_ 334), (0, u "java/io/Serializable"), (0, u "serialVersionUID"), (0, u "J"), (3, u "DEFAULT_CAPACITY"), (159, .class_ 501), (0, u "java/util/ArrayList$SubList$2"), (0, .class_ 503), (0, u "java/util/ArrayList$SubList$1")] 5

def k12c0 : Code := { maxStack := 2, maxLocals := 1, code := jdk_38_method_2_code, exceptionTable := #[], attributes := #[] }
def k12m0 : Method := { name := "<init>", desc := "()V", sig := { parameters := [], returnType := none }, accessFlags := 1, code := some k12c0 }
/-- java/util/ArrayList -/
def k12 : Class := { plain "java/util/ArrayList" (some 8) with
  accessFlags := 33
  interfaces := #[7, 9, 10, 11]
  cf := some (fileOf pool12 10 #[.nestMembers #[290, 276, 500, 502, 262, 267]] #[{ accessFlags := 1, nameIndex := 5, descriptorIndex := 6, attributes := #[] }] 33 2 #[148, 329, 331, 333] #[{ accessFlags := 26, nameIndex := 335, descriptorIndex := 336, attributes := #[] }, { accessFlags := 26, nameIndex := 340, descriptorIndex := 51, attributes := #[] }, { accessFlags := 26, nameIndex := 17, descriptorIndex := 14, attributes := #[] }, { accessFlags := 26, nameIndex := 41, descriptorIndex := 14, attributes := #[] }, { accessFlags := 128, nameIndex := 13, descriptorIndex := 14, attributes := #[] }, { accessFlags := 2, nameIndex := 50, descriptorIndex := 51, attributes := #[] }])
  fields := #[{ name := "serialVersionUID", type := .long, accessFlags := 26, slot := 0, constantValue := 0 }, { name := "DEFAULT_CAPACITY", type := .int, accessFlags := 26, slot := 1, constantValue := 0 }, { name := "EMPTY_ELEMENTDATA", type := (.array (.object "java/lang/Object")), accessFlags := 26, slot := 2, constantValue := 0 }, { name := "DEFAULTCAPACITY_EMPTY_ELEMENTDATA", type := (.array (.object "java/lang/Object")), accessFlags := 26, slot := 3, constantValue := 0 }, { name := "elementData", type := (.array (.object "java/lang/Object")), accessFlags := 128, slot := 1, constantValue := 0 }, { name := "size", type := .int, accessFlags := 2, slot := 2, constantValue := 0 }]
  methods := #[k12m0]
  instanceTypes := #[.int, (.array (.object "java/lang/Object")), .int]
  staticTypes := #[.long, .int, (.array (.object "java/lang/Object")), (.array (.object "java/lang/Object"))]
  resolved := Array.replicate 509 none
  statics := some 0 }

def pool13 : Array CpInfo := pool [(1, .methodref 2 3), (0, .class_ 4), (0, .nameAndType 5 6), (0, u "java/lang/Object"), (0, u "<init>"), (0, u "()V"), (0, .class_ 8), (0, u "java/lang/Record")] 13

def k13c0 : Code := { maxStack := 1, maxLocals := 1, code := jdk_30_method_1_code, exceptionTable := #[], attributes := #[] }
def k13m0 : Method := { name := "<init>", desc := "()V", sig := { parameters := [], returnType := none }, accessFlags := 4, code := some k13c0 }
/-- java/lang/Record -/
def k13 : Class := { plain "java/lang/Record" (some 0) with
  accessFlags := 1057
  interfaces := #[]
  cf := some (fileOf pool13 7 #[] #[{ accessFlags := 4, nameIndex := 5, descriptorIndex := 6, attributes := #[] }] 1057 2 #[] #[])
  fields := #[]
  methods := #[k13m0]
  instanceTypes := #[]
  staticTypes := #[]
  resolved := Array.replicate 22 none
  statics := none }

def pool14 : Array CpInfo := pool [(1, .class_ 2), (0, u "com/example/paths_to_proofs/pathstoproofs/statechart/Action$FunctionCall"), (4, .class_ 8), (0, u "com/example/paths_to_proofs/pathstoproofs/statechart/Action$Send"), (7, .class_ 18), (1, u "com/example/paths_to_proofs/pathstoproofs/statechart/Action"), (0, u "NO_ARGUMENTS"), (0, u "[I"), (14, .class_ 36), (0, u "java/lang/Object"), (17, .class_ 55), (0, u "com/example/paths_to_proofs/pathstoproofs/statechart/Action$Loop"), (0, .class_ 57), (0, u "com/example/paths_to_proofs/pathstoproofs/statechart/Action$Jump"), (0, .class_ 59), (0, u "com/example/paths_to_proofs/pathstoproofs/statechart/Action$Branch"), (0, .class_ 61), (0, u "com/example/paths_to_proofs/pathstoproofs/statechart/Action$Return"), (0, .class_ 63), (0, u "com/example/paths_to_proofs/pathstoproofs/statechart/Action$Output"), (0, .class_ 65), (0, u "com/example/paths_to_proofs/pathstoproofs/statechart/Action$ElementAssignment"), (0, .class_ 67), (0, u "com/example/paths_to_proofs/pathstoproofs/statechart/Action$Assignment")] 11

/-- com/example/paths_to_proofs/pathstoproofs/statechart/Action -/
def k14 : Class := { plain "com/example/paths_to_proofs/pathstoproofs/statechart/Action" (some 0) with
  accessFlags := 1536
  interfaces := #[]
  cf := some (fileOf pool14 16 #[.nestMembers #[54, 56, 58, 60, 1, 7, 62, 64, 66]] #[] 1536 35 #[] #[{ accessFlags := 25, nameIndex := 19, descriptorIndex := 20, attributes := #[] }])
  fields := #[{ name := "NO_ARGUMENTS", type := (.array .int), accessFlags := 25, slot := 0, constantValue := 0 }]
  methods := #[]
  instanceTypes := #[]
  staticTypes := #[(.array .int)]
  resolved := Array.replicate 79 none
  statics := none }

def pool15 : Array CpInfo := pool [(1, .methodref 2 3), (0, .class_ 4), (0, .nameAndType 5 6), (0, u "java/lang/Record"), (0, u "<init>"), (0, u "()V"), (0, .fieldref 8 9), (0, .class_ 10), (0, .nameAndType 11 12), (0, u "com/example/paths_to_proofs/pathstoproofs/statechart/Action$Loop"), (0, u "counter"), (0, u "I"), (0, .fieldref 8 14), (0, .nameAndType 15 12), (0, u "bound"), (0, .fieldref 8 17), (0, .nameAndType 18 12), (0, u "body"), (0, .fieldref 20 21), (0, .class_ 22), (0, .nameAndType 23 24), (0, u "com/example/paths_to_proofs/pathstoproofs/statechart/Frame"), (0, u "locals"), (0, u "[I"), (12, .class_ 38), (0, u "com/example/paths_to_proofs/pathstoproofs/statechart/Action"), (0, u "(III)V"), (3, u "run"), (0, u "(Lcom/example/paths_to_proofs/pathstoproofs/statechart/Frame;I)I")] 30

def k15c0 : Code := { maxStack := 2, maxLocals := 4, code := prog_53_method_1_code, exceptionTable := #[], attributes := #[] }
def k15m0 : Method := { name := "<init>", desc := "(III)V", sig := { parameters := [.int, .int, .int], returnType := none }, accessFlags := 1, code := some k15c0 }
def k15c1 : Code := { maxStack := 4, maxLocals := 3, code := prog_53_method_2_code, exceptionTable := #[], attributes := #[] }
def k15m1 : Method := { name := "run", desc := "(Lcom/example/paths_to_proofs/pathstoproofs/statechart/Frame;I)I", sig := { parameters := [(.object "com/example/paths_to_proofs/pathstoproofs/statechart/Frame"), .int], returnType := some .int }, accessFlags := 1, code := some k15c1 }
/-- com/example/paths_to_proofs/pathstoproofs/statechart/Action$Loop -/
def k15 : Class := { plain "com/example/paths_to_proofs/pathstoproofs/statechart/Action$Loop" (some 13) with
  accessFlags := 49
  interfaces := #[14]
  cf := some (fileOf pool15 8 #[.nestHost 37] #[{ accessFlags := 1, nameIndex := 5, descriptorIndex := 39, attributes := #[] }, { accessFlags := 1, nameIndex := 43, descriptorIndex := 44, attributes := #[] }] 49 2 #[37] #[{ accessFlags := 18, nameIndex := 11, descriptorIndex := 12, attributes := #[] }, { accessFlags := 18, nameIndex := 15, descriptorIndex := 12, attributes := #[] }, { accessFlags := 18, nameIndex := 18, descriptorIndex := 12, attributes := #[] }])
  fields := #[{ name := "counter", type := .int, accessFlags := 18, slot := 0, constantValue := 0 }, { name := "bound", type := .int, accessFlags := 18, slot := 1, constantValue := 0 }, { name := "body", type := .int, accessFlags := 18, slot := 2, constantValue := 0 }]
  methods := #[k15m0, k15m1]
  instanceTypes := #[.int, .int, .int]
  staticTypes := #[]
  resolved := Array.replicate 75 none
  statics := none }

/-- the primitive byte -/
def k16 : Class := { plain "byte" none with kind := .primitive 'B', accessFlags := 0x411 }
/-- [B -/
def k17 : Class := { plain "[B" (some 0) with kind := .array 16 .byte, interfaces := #[10, 11], accessFlags := 1041 }

/-- the primitive int -/
def k18 : Class := { plain "int" none with kind := .primitive 'I', accessFlags := 0x411 }
/-- [I -/
def k19 : Class := { plain "[I" (some 0) with kind := .array 18 .int, interfaces := #[10, 11], accessFlags := 1041 }

/-- [Ljava/lang/Object; -/
def k20 : Class := { plain "[Ljava/lang/Object;" (some 0) with kind := .array 0 (.object "java/lang/Object"), interfaces := #[10, 11], accessFlags := 1041 }

def heap : Heap := #[{ cls := 12, slots := #[.long 0, .int 0, .ref 1, .ref 2], vm := .statics 12 },
  { cls := 20, slots := #[], vm := .none },
  { cls := 20, slots := #[], vm := .none }]
def classes : Array Class := #[k0, k1, k2, k3, k4, k5, k6, k7, k8, k9, k10, k11, k12, k13, k14, k15, k16, k17, k18, k19, k20]
def interned : List (Array UInt16 × Addr) := []
def slotsUsed : Nat := 4
def theMethod : MethodId := ⟨1, 1⟩
def args0 : Array Value := #[.int 1, .int 2, .int 3, .int 4, .int 5, .int 6]
def aboutOver (below : List Frame) : State where
  vm := { classes := classes, interned := interned.toArray }
  heap := heap
  slotsUsed := slotsUsed
  threads := #[{ frames := .invoking theMethod args0 :: below }]
def below0 : List Frame := [.native { method := ⟨0, 0⟩, args := #[] }]
def about1 : State := aboutOver below0
def p0 : Program := .bare "" "" ""
def e0 : Env := launch0.env 0 0 0
theorem w_frames : about1.frames = Frame.invoking theMethod args0 :: below0 := rfl
set_option maxRecDepth 65536 in
theorem w_args : argsFit about1.vm theMethod args0 = true := by decide +kernel
set_option maxRecDepth 65536 in
theorem w_heap : heapFits about1 = true := by decide +kernel
set_option maxRecDepth 65536 in
theorem w_runnable : about1.curStatus? = some .runnable := by decide +kernel
set_option maxRecDepth 65536 in
theorem w_alone : about1.alone = true := by decide +kernel
set_option maxRecDepth 65536 in
theorem w_named : about1.methodNamed? x = some theMethod := by decide +kernel
set_option maxRecDepth 65536 in
theorem w_hears : about1.hears theMethod below0 = true := by decide +kernel
set_option maxRecDepth 65536 in
theorem w_ripe : about1.ripe theMethod args0 below0 = true := by decide +kernel
theorem w_running : about1.status = .running := rfl
set_option maxRecDepth 65536 in
theorem w_room : about1.hasRoom e0.platform room_1 = true :=
  launch0.hasRoom_least _ room_1 (by decide +kernel) (by decide +kernel) (by decide +kernel) (by decide +kernel) (by decide +kernel) (by decide +kernel)
theorem allAtoms_all (ts : List Jvm.Cond) (a : Array Jvm.Value) (st : Jvm.State) : (allAtoms ts).before a st = ts.all (fun c => c.before a st) := by
  induction ts with
  | nil => rfl
  | cons c t ih =>
    show (Jvm.Cond.and c (allAtoms t)).before a st = _
    rw [Jvm.Cond.before_and, ih, List.all_cons]
def words1 : List Jvm.Cond := Jvm.Cond.code x code maxLocals ret :: tables_1
/-- a 'code' word, met by the world's own term for the bytes: nothing is compared byte by byte -/
theorem code_word {y : MethodName} {bytes : ByteArray} {mx : Nat} {rt : Option FieldType} {a : Array Value} {s : State} {m : MethodId} {meth : Method} {c : Code} (h1 : s.methodNamed? y = some m) (h2 : s.vm.method? m = some meth) (h3 : meth.code = some c) (h4 : c.code = bytes)
    (h5 : (c.maxLocals == mx && c.exceptionTable.isEmpty && decide (c.maxStack ≤ mostOperands) && decide (meth.sig.returnType = rt) && !meth.locks && decide (parseMethodDescriptor y.desc = some meth.sig)) = true) : (Jvm.Cond.code y bytes mx rt).before a s = true := by
  simp only [Bool.and_eq_true, beq_iff_eq, Bool.not_eq_true', decide_eq_true_eq] at h5
  obtain ⟨⟨⟨⟨⟨g1, g2⟩, g3⟩, g4⟩, g5⟩, g6⟩ := h5
  simp [Cond.before, Cond.holds, Cond.value, h1, h2, h3, h4, g1, g2, g3, g4, g5, g6]
def isCode : Jvm.Cond → Bool
  | .code _ _ _ _ => true
  | _ => false
theorem all_split {L : List Jvm.Cond} {P : Jvm.Cond → Bool} (h1 : L.all (fun c => isCode c || P c) = true) (h2 : ∀ c ∈ L.filter isCode, P c = true) : L.all P = true := by
  refine List.all_eq_true.mpr fun c hc => ?_
  have h := List.all_eq_true.mp h1 c hc
  rcases Bool.eq_false_or_eq_true (isCode c) with hi | hi
  · exact h2 c (List.mem_filter.mpr ⟨hc, hi⟩)
  · simpa [hi] using h
set_option maxRecDepth 65536 in
theorem w_c0 : (Jvm.Cond.code x code maxLocals ret).before args0 about1 = true := code_word (m := ⟨1, 1⟩) (meth := k1m1) (c := k1c1) (by decide +kernel) rfl rfl rfl (by decide +kernel)
set_option maxRecDepth 65536 in
theorem w_c1 : (Jvm.Cond.code ({ cls := "com/example/paths_to_proofs/pathstoproofs/statechart/Frame", name := "<init>", desc := "(ILcom/example/paths_to_proofs/pathstoproofs/statechart/Vectors;Z)V" } : Jvm.MethodName) prog_97_method_1_code (4 : Nat) (Option.none : Option Jvm.ClassFile.FieldType)).before args0 about1 = true := code_word (m := ⟨2, 0⟩) (meth := k2m0) (c := k2c0) (by decide +kernel) rfl rfl rfl (by decide +kernel)
set_option maxRecDepth 65536 in
theorem w_c2 : (Jvm.Cond.code ({ cls := "java/lang/Object", name := "<init>", desc := "()V" } : Jvm.MethodName) object_method_1_code (1 : Nat) (Option.none : Option Jvm.ClassFile.FieldType)).before args0 about1 = true := code_word (m := ⟨0, 0⟩) (meth := k0m0) (c := k0c0) (by decide +kernel) rfl rfl rfl (by decide +kernel)
set_option maxRecDepth 65536 in
theorem w_c3 : (Jvm.Cond.code ({ cls := "java/util/ArrayList", name := "<init>", desc := "()V" } : Jvm.MethodName) jdk_38_method_2_code (1 : Nat) (Option.none : Option Jvm.ClassFile.FieldType)).before args0 about1 = true := code_word (m := ⟨12, 0⟩) (meth := k12m0) (c := k12c0) (by decide +kernel) rfl rfl rfl (by decide +kernel)
set_option maxRecDepth 65536 in
theorem w_c4 : (Jvm.Cond.code ({ cls := "java/util/AbstractList", name := "<init>", desc := "()V" } : Jvm.MethodName) jdk_39_method_1_code (1 : Nat) (Option.none : Option Jvm.ClassFile.FieldType)).before args0 about1 = true := code_word (m := ⟨8, 0⟩) (meth := k8m0) (c := k8c0) (by decide +kernel) rfl rfl rfl (by decide +kernel)
set_option maxRecDepth 65536 in
theorem w_c5 : (Jvm.Cond.code ({ cls := "java/util/AbstractCollection", name := "<init>", desc := "()V" } : Jvm.MethodName) jdk_22_method_1_code (1 : Nat) (Option.none : Option Jvm.ClassFile.FieldType)).before args0 about1 = true := code_word (m := ⟨5, 0⟩) (meth := k5m0) (c := k5c0) (by decide +kernel) rfl rfl rfl (by decide +kernel)
set_option maxRecDepth 65536 in
theorem w_c6 : (Jvm.Cond.code ({ cls := "com/example/paths_to_proofs/pathstoproofs/statechart/Action$Loop", name := "<init>", desc := "(III)V" } : Jvm.MethodName) prog_53_method_1_code (4 : Nat) (Option.none : Option Jvm.ClassFile.FieldType)).before args0 about1 = true := code_word (m := ⟨15, 0⟩) (meth := k15m0) (c := k15c0) (by decide +kernel) rfl rfl rfl (by decide +kernel)
set_option maxRecDepth 65536 in
theorem w_c7 : (Jvm.Cond.code ({ cls := "java/lang/Record", name := "<init>", desc := "()V" } : Jvm.MethodName) jdk_30_method_1_code (1 : Nat) (Option.none : Option Jvm.ClassFile.FieldType)).before args0 about1 = true := code_word (m := ⟨13, 0⟩) (meth := k13m0) (c := k13c0) (by decide +kernel) rfl rfl rfl (by decide +kernel)
set_option maxRecDepth 65536 in
theorem w_c8 : (Jvm.Cond.code ({ cls := "com/example/paths_to_proofs/pathstoproofs/statechart/Action$Loop", name := "run", desc := "(Lcom/example/paths_to_proofs/pathstoproofs/statechart/Frame;I)I" } : Jvm.MethodName) prog_53_method_2_code (3 : Nat) (Option.some Jvm.ClassFile.FieldType.int)).before args0 about1 = true := code_word (m := ⟨15, 1⟩) (meth := k15m1) (c := k15c1) (by decide +kernel) rfl rfl rfl (by decide +kernel)
set_option maxRecDepth 65536 in
theorem w_c9 : (Jvm.Cond.code ({ cls := "com/example/paths_to_proofs/pathstoproofs/statechart/LoopRunPinLaw", name := "same", desc := "([I[I)Z" } : Jvm.MethodName) method_3_code (2 : Nat) (Option.some Jvm.ClassFile.FieldType.boolean)).before args0 about1 = true := code_word (m := ⟨1, 2⟩) (meth := k1m2) (c := k1c2) (by decide +kernel) rfl rfl rfl (by decide +kernel)
def codes1 : List Jvm.Cond := [Jvm.Cond.code x code maxLocals ret, Jvm.Cond.code ({ cls := "com/example/paths_to_proofs/pathstoproofs/statechart/Frame", name := "<init>", desc := "(ILcom/example/paths_to_proofs/pathstoproofs/statechart/Vectors;Z)V" } : Jvm.MethodName) prog_97_method_1_code (4 : Nat) (Option.none : Option Jvm.ClassFile.FieldType), Jvm.Cond.code ({ cls := "java/lang/Object", name := "<init>", desc := "()V" } : Jvm.MethodName) object_method_1_code (1 : Nat) (Option.none : Option Jvm.ClassFile.FieldType), Jvm.Cond.code ({ cls := "java/util/ArrayList", name := "<init>", desc := "()V" } : Jvm.MethodName) jdk_38_method_2_code (1 : Nat) (Option.none : Option Jvm.ClassFile.FieldType), Jvm.Cond.code ({ cls := "java/util/AbstractList", name := "<init>", desc := "()V" } : Jvm.MethodName) jdk_39_method_1_code (1 : Nat) (Option.none : Option Jvm.ClassFile.FieldType), Jvm.Cond.code ({ cls := "java/util/AbstractCollection", name := "<init>", desc := "()V" } : Jvm.MethodName) jdk_22_method_1_code (1 : Nat) (Option.none : Option Jvm.ClassFile.FieldType), Jvm.Cond.code ({ cls := "com/example/paths_to_proofs/pathstoproofs/statechart/Action$Loop", name := "<init>", desc := "(III)V" } : Jvm.MethodName) prog_53_method_1_code (4 : Nat) (Option.none : Option Jvm.ClassFile.FieldType), Jvm.Cond.code ({ cls := "java/lang/Record", name := "<init>", desc := "()V" } : Jvm.MethodName) jdk_30_method_1_code (1 : Nat) (Option.none : Option Jvm.ClassFile.FieldType), Jvm.Cond.code ({ cls := "com/example/paths_to_proofs/pathstoproofs/statechart/Action$Loop", name := "run", desc := "(Lcom/example/paths_to_proofs/pathstoproofs/statechart/Frame;I)I" } : Jvm.MethodName) prog_53_method_2_code (3 : Nat) (Option.some Jvm.ClassFile.FieldType.int), Jvm.Cond.code ({ cls := "com/example/paths_to_proofs/pathstoproofs/statechart/LoopRunPinLaw", name := "same", desc := "([I[I)Z" } : Jvm.MethodName) method_3_code (2 : Nat) (Option.some Jvm.ClassFile.FieldType.boolean)]
set_option maxRecDepth 65536 in
theorem codes_eq : words1.filter isCode = codes1 := rfl
theorem w_codes : ∀ c ∈ words1.filter isCode, c.before args0 about1 = true := by
  rw [codes_eq]
  intro c hc
  simp only [codes1, List.mem_cons, List.not_mem_nil, or_false] at hc
  rcases hc with rfl | rfl | rfl | rfl | rfl | rfl | rfl | rfl | rfl | rfl
  · exact w_c0
  · exact w_c1
  · exact w_c2
  · exact w_c3
  · exact w_c4
  · exact w_c5
  · exact w_c6
  · exact w_c7
  · exact w_c8
  · exact w_c9
set_option maxRecDepth 65536 in
theorem w_t1 : (words1.take 24).all (fun c => isCode c || c.before args0 about1) = true := by decide +kernel
set_option maxRecDepth 65536 in
theorem w_t2 : ((words1.drop 24).take 24).all (fun c => isCode c || c.before args0 about1) = true := by decide +kernel
set_option maxRecDepth 65536 in
theorem w_t3 : (((words1.drop 24).drop 24).take 24).all (fun c => isCode c || c.before args0 about1) = true := by decide +kernel
set_option maxRecDepth 65536 in
theorem w_t4 : (((words1.drop 24).drop 24).drop 24).all (fun c => isCode c || c.before args0 about1) = true := by decide +kernel
theorem w_tables : (allAtoms (Jvm.Cond.code x code maxLocals ret :: tables_1)).before args0 about1 = true := by
  rw [allAtoms_all]
  show words1.all (fun c => c.before args0 about1) = true
  refine all_split ?_ w_codes
  rw [← List.take_append_drop 24 words1, List.all_append, w_t1, ← List.take_append_drop 24 (words1.drop 24), List.all_append, w_t2, ← List.take_append_drop 24 ((words1.drop 24).drop 24), List.all_append, w_t3, w_t4]
  rfl
set_option maxRecDepth 65536 in
theorem w_rest : rest_1_c.before args0 about1 = true := by decide +kernel
set_option maxRecDepth 65536 in
theorem w_case : (Jvm.Cond.and given_1 narrow_1).before args0 about1 = true := by decide +kernel
theorem w_applies : (headSpec (Jvm.Cond.code x code maxLocals ret :: tables_1) room_1).applies x e0.platform about1 = true :=
  (Spec.applies_iff w_frames).mpr ⟨w_running, w_runnable, w_alone, w_named, w_hears, w_ripe, w_room, w_tables⟩
theorem atStart : AtStart classFile x code maxLocals ret World_1 tables_1 room_1 Calls_1 rest_1 Pre_1 launch0 p0 e0 about1 theMethod args0 below0 :=
  ⟨lists_1, trivial, launch0.admits_env _ _ _, launch0.least_env, fairChoices_fair.cas, fairChoices_fair.clock, w_frames, w_args, w_heap, w_applies, trivial, w_rest, w_case⟩
end start1
theorem witness_1 : WitnessClaimed_1 := ⟨start1.p0, start1.e0, start1.about1, start1.theMethod, start1.args0, start1.below0, start1.atStart⟩
end Jvm.Pilot.@@N@@
