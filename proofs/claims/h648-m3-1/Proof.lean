import JvmDerived
import JvmDerived.Pilot.@@N@@Statement
import JvmDerived.Pilot.@@N@@Code
set_option linter.unusedVariables false
set_option linter.unusedSimpArgs false
namespace Jvm.Pilot.@@N@@
open Jvm Jvm.ClassFile Sem Op Lib Jvm.Free Jvm.Stand Jvm.LawKit Jvm.RoadKit Bundle Jvm.Pilot.@@N@@.Jvm.D
section OwnLayer
variable {p : Program} {l : Launch} {e : Env} {R : Room} {s : State} {m : MethodId} {args : Array Value} {below : List Frame} {meth : Method} {c : Code} {T : State} {locs : List Loc} {cells slots : Nat} {Z : State} {y : MethodName} {bs : ByteArray} {maxL : Nat} {rt : Option FieldType} {ce sl : Nat} {Q : Option Value → Heap → List Loc → Prop} {G : Outcome → State → Prop} {pc : Nat} {Ls : Array Slot} {st rest : List Value} {h : Heap} {a0 : Array Value}
/-- from S the body runs on, returns, and Q says what it leaves -/
def OwnEnds (p : Program) (e : Env) (below : List Frame) (G : Outcome → State → Prop) (S : State) : Prop :=
  ∃ s₂ o, Steps p.tables e below S s₂ ∧ s₂.status = .running ∧ Ended s₂ below o ∧ G o s₂
def OwnG (s : State) (ce sl : Nat) (Q : Option Value → Heap → List Loc → Prop) : Outcome → State → Prop := fun o s₂ => ∃ v L, o = .returned v ∧ Q v s₂.heap L ∧ FrameEnd s o s₂ L ce sl
/-- what stands throughout a body's walk -/
def OwnCx (p : Program) (s : State) (m : MethodId) (meth : Method) (c : Code) (Z : State) (y : MethodName) (bs : ByteArray) (maxL : Nat) (rt : Option FieldType) : Prop :=
  p.tables.exec = Jvm.exec ∧ Z.Warmed39 s.vm ∧ s.vm.findClass y.cls = some m.cls ∧ c.code = bs ∧ c.maxLocals = maxL ∧ meth.sig.returnType = rt ∧ meth.locks = false ∧ meth.name = y.name
/-- a body's contract over the heap h at these arguments -/
def OwnMet (l : Launch) (Z : State) (y : MethodName) (bs : ByteArray) (maxL : Nat) (rt : Option FieldType) (ws : List Jvm.Cond) (rm : Room) (as' : Array Value) (h : Heap) (Q : Option Value → Heap → List Loc → Prop) : Prop :=
  MetFree l y (head1 (Jvm.Cond.code y bs maxL rt :: ws) rm) (fun a U => a = as' ∧ Z.Warmed39 U.vm ∧ U.heap = h) (fun _ _ _ _ _ => True) (fun _ U o U' => ∃ v L, o = .returned v ∧ Q v U'.heap L ∧ FrameEnd U o U' L rm.cells rm.slots)
theorem own_nz32 {d : Int32} (q : d.toInt ≠ 0) : d ≠ 0 := fun r => q (by rw [r]; rfl)
theorem own_nz64 {d : Int64} (q : d.toInt ≠ 0) : d ≠ 0 := fun r => q (by rw [r]; rfl)
theorem own_st {S S' : State} (k : ∀ t, Steps p.tables e below S' t → Steps p.tables e below S t) (r : OwnEnds p e below G S') : OwnEnds p e below G S := by
  obtain ⟨s₂, o, h1, r⟩ := r
  exact ⟨s₂, o, k _ h1, r⟩
theorem own_tr {S S' : State} (k : Steps p.tables e below S S') (r : OwnEnds p e below G S') : OwnEnds p e below G S := own_st (fun _ q => k.trans q) r
theorem own_enter {ws : List Jvm.Cond} {rm : Room} {as' : Array Value} {f0 : MethodId → JFrame} (hp : plainFor y = true) (hf : ∀ m, entryFrame m as' maxL = f0 m)
    (H : ∀ p e s m below meth c T, Stand p l e rm s m as' below meth c T [] 0 0 → OwnCx p s m meth c Z y bs maxL rt → T.heap = h → OwnEnds p e below (OwnG s rm.cells rm.slots Q) (T.setTop (f0 m))) : OwnMet l Z y bs maxL rt ws rm as' h Q := by
  refine MetFree.of_bodySF hp hisR ?_
  intro p e s m args below meth c s₁ Bd hml0 hP hK
  obtain ⟨rfl, hZ, hh⟩ := hP
  have k := H p e s m below meth c s₁ (Stand.of_body Bd) ⟨Bd.exec, hZ, findClass_of_methodNamed Bd.named, Bd.bytes, hml0, Bd.returns, Bd.notSynchronized, (name_of_methodNamed Bd.named Bd.method).1⟩ (by rw [← hh, Bd.state]; rfl)
  rw [← hf m] at k
  exact k
theorem own_mono {ws : List Jvm.Cond} {rm : Room} {as' : Array Value} {Q' : Option Value → Heap → List Loc → Prop} (H : OwnMet l Z y bs maxL rt ws rm as' h Q) (q : ∀ v h' L, Q v h' L → Q' v h' L) : OwnMet l Z y bs maxL rt ws rm as' h Q' := by
  intro p e ha hc hk s m args below hf happ hP hK
  obtain ⟨n, o, h1, h2, h3, v, L, h4, h5, h6⟩ := H p e ha hc hk s m args below hf happ hP hK
  exact ⟨n, o, h1, h2, h3, v, L, h4, q _ _ _ h5, h6⟩
theorem own_iload (X : Stand p l e R s m args below meth c T locs cells slots) (C : OwnCx p s m meth c Z y bs maxL rt) {k : Nat} {v : Int32} (hd : decode bs pc = .ok (.iload k, 2)) (pc' : Nat) (hp : pc + 2 = pc') (hl : Ls[k]? = some (.val (.int v)))
    (hr : OwnEnds p e below G (T.setTop (mkF m pc' Ls (.int v :: st)))) : OwnEnds p e below G (T.setTop (mkF m pc Ls st)) := by
  subst hp; exact own_st (fun _ q => XS.iload X.here C.1 rfl (hb C.2.2.2.1 hd) hl q) hr
theorem own_lload (X : Stand p l e R s m args below meth c T locs cells slots) (C : OwnCx p s m meth c Z y bs maxL rt) {k : Nat} {v : Int64} (hd : decode bs pc = .ok (.lload k, 2)) (pc' : Nat) (hp : pc + 2 = pc') (hl : Ls[k]? = some (.val (.long v)))
    (hr : OwnEnds p e below G (T.setTop (mkF m pc' Ls (.long v :: st)))) : OwnEnds p e below G (T.setTop (mkF m pc Ls st)) := by
  subst hp; exact own_st (fun _ q => XS.lload X.here C.1 rfl (hb C.2.2.2.1 hd) hl q) hr
theorem own_iload_n (X : Stand p l e R s m args below meth c T locs cells slots) (C : OwnCx p s m meth c Z y bs maxL rt) {k : Fin 4} {v : Int32} (hd : decode bs pc = .ok (.iload_n k, 1)) (pc' : Nat) (hp : pc + 1 = pc') (hl : Ls[k.val]? = some (.val (.int v)))
    (hr : OwnEnds p e below G (T.setTop (mkF m pc' Ls (.int v :: st)))) : OwnEnds p e below G (T.setTop (mkF m pc Ls st)) := by
  subst hp; exact own_st (fun _ q => XS.iloadN X.here C.1 rfl (hb C.2.2.2.1 hd) hl q) hr
theorem own_lload_n (X : Stand p l e R s m args below meth c T locs cells slots) (C : OwnCx p s m meth c Z y bs maxL rt) {k : Fin 4} {v : Int64} (hd : decode bs pc = .ok (.lload_n k, 1)) (pc' : Nat) (hp : pc + 1 = pc') (hl : Ls[k.val]? = some (.val (.long v)))
    (hr : OwnEnds p e below G (T.setTop (mkF m pc' Ls (.long v :: st)))) : OwnEnds p e below G (T.setTop (mkF m pc Ls st)) := by
  subst hp; exact own_st (fun _ q => XS.lloadN X.here C.1 rfl (hb C.2.2.2.1 hd) hl q) hr
theorem own_aload (X : Stand p l e R s m args below meth c T locs cells slots) (C : OwnCx p s m meth c Z y bs maxL rt) {k : Nat} {v : Value} (hd : decode bs pc = .ok (.aload k, 2)) (pc' : Nat) (hp : pc + 2 = pc') (hl : Ls[k]? = some (.val v)) (hv : v.isRef = true)
    (hr : OwnEnds p e below G (T.setTop (mkF m pc' Ls (v :: st)))) : OwnEnds p e below G (T.setTop (mkF m pc Ls st)) := by
  subst hp; exact own_st (fun _ q => XS.aload X.here C.1 rfl (hb C.2.2.2.1 hd) hl hv q) hr
theorem own_aload_n (X : Stand p l e R s m args below meth c T locs cells slots) (C : OwnCx p s m meth c Z y bs maxL rt) {k : Fin 4} {v : Value} (hd : decode bs pc = .ok (.aload_n k, 1)) (pc' : Nat) (hp : pc + 1 = pc') (hl : Ls[k.val]? = some (.val v)) (hv : v.isRef = true)
    (hr : OwnEnds p e below G (T.setTop (mkF m pc' Ls (v :: st)))) : OwnEnds p e below G (T.setTop (mkF m pc Ls st)) := by
  subst hp; exact own_st (fun _ q => XS.aloadN X.here C.1 rfl (hb C.2.2.2.1 hd) hl hv q) hr
theorem own_istore (X : Stand p l e R s m args below meth c T locs cells slots) (C : OwnCx p s m meth c Z y bs maxL rt) {k : Nat} {v : Int32} (hd : decode bs pc = .ok (.istore k, 2)) (pc' : Nat) (hp : pc + 2 = pc') (L' : Array Slot) (hl : storeLocals Ls k (.int v) = some L')
    (hr : OwnEnds p e below G (T.setTop (mkF m pc' L' st))) : OwnEnds p e below G (T.setTop (mkF m pc Ls (.int v :: st))) := by
  subst hp; exact own_st (fun _ q => XS.istore X.here C.1 rfl (hb C.2.2.2.1 hd) rfl hl q) hr
theorem own_lstore (X : Stand p l e R s m args below meth c T locs cells slots) (C : OwnCx p s m meth c Z y bs maxL rt) {k : Nat} {v : Int64} (hd : decode bs pc = .ok (.lstore k, 2)) (pc' : Nat) (hp : pc + 2 = pc') (L' : Array Slot) (hl : storeLocals Ls k (.long v) = some L')
    (hr : OwnEnds p e below G (T.setTop (mkF m pc' L' st))) : OwnEnds p e below G (T.setTop (mkF m pc Ls (.long v :: st))) := by
  subst hp; exact own_st (fun _ q => XS.lstore X.here C.1 rfl (hb C.2.2.2.1 hd) rfl hl q) hr
theorem own_istore_n (X : Stand p l e R s m args below meth c T locs cells slots) (C : OwnCx p s m meth c Z y bs maxL rt) {k : Fin 4} {v : Int32} (hd : decode bs pc = .ok (.istore_n k, 1)) (pc' : Nat) (hp : pc + 1 = pc') (L' : Array Slot) (hl : storeLocals Ls k.val (.int v) = some L')
    (hr : OwnEnds p e below G (T.setTop (mkF m pc' L' st))) : OwnEnds p e below G (T.setTop (mkF m pc Ls (.int v :: st))) := by
  subst hp; exact own_st (fun _ q => XS.istoreN X.here C.1 rfl (hb C.2.2.2.1 hd) rfl hl q) hr
theorem own_lstore_n (X : Stand p l e R s m args below meth c T locs cells slots) (C : OwnCx p s m meth c Z y bs maxL rt) {k : Fin 4} {v : Int64} (hd : decode bs pc = .ok (.lstore_n k, 1)) (pc' : Nat) (hp : pc + 1 = pc') (L' : Array Slot) (hl : storeLocals Ls k.val (.long v) = some L')
    (hr : OwnEnds p e below G (T.setTop (mkF m pc' L' st))) : OwnEnds p e below G (T.setTop (mkF m pc Ls (.long v :: st))) := by
  subst hp; exact own_st (fun _ q => XS.lstoreN X.here C.1 rfl (hb C.2.2.2.1 hd) rfl hl q) hr
theorem own_astore (X : Stand p l e R s m args below meth c T locs cells slots) (C : OwnCx p s m meth c Z y bs maxL rt) {k : Nat} {v : Value} (hd : decode bs pc = .ok (.astore k, 2)) (pc' : Nat) (hp : pc + 2 = pc') (hv : v.isRef = true) (L' : Array Slot) (hl : storeLocals Ls k v = some L')
    (hr : OwnEnds p e below G (T.setTop (mkF m pc' L' st))) : OwnEnds p e below G (T.setTop (mkF m pc Ls (v :: st))) := by
  subst hp; exact own_st (fun _ q => XS.astore X.here C.1 rfl (hb C.2.2.2.1 hd) rfl hv hl q) hr
theorem own_astore_n (X : Stand p l e R s m args below meth c T locs cells slots) (C : OwnCx p s m meth c Z y bs maxL rt) {k : Fin 4} {v : Value} (hd : decode bs pc = .ok (.astore_n k, 1)) (pc' : Nat) (hp : pc + 1 = pc') (hv : v.isRef = true) (L' : Array Slot) (hl : storeLocals Ls k.val v = some L')
    (hr : OwnEnds p e below G (T.setTop (mkF m pc' L' st))) : OwnEnds p e below G (T.setTop (mkF m pc Ls (v :: st))) := by
  subst hp; exact own_st (fun _ q => XS.astoreN X.here C.1 rfl (hb C.2.2.2.1 hd) rfl hv hl q) hr
theorem own_iinc (X : Stand p l e R s m args below meth c T locs cells slots) (C : OwnCx p s m meth c Z y bs maxL rt) {k : Nat} {cst : Int} {v : Int32} (hd : decode bs pc = .ok (.iinc k cst, 3)) (pc' : Nat) (hp : pc + 3 = pc') (hl : Ls[k]? = some (.val (.int v))) (w : Int32) (hw : Int32.ofInt cst = w) (F : Int32 → Array Slot) (hl' : ∀ z, storeLocals Ls k (.int z) = some (F z))
    (hr : ∀ z, z = v + w → OwnEnds p e below G (T.setTop (mkF m pc' (F z) st))) : OwnEnds p e below G (T.setTop (mkF m pc Ls st)) := by
  subst hp hw; exact own_st (fun _ q => XS.iinc X.here C.1 rfl (hb C.2.2.2.1 hd) hl (hl' _) q) (hr _ rfl)
theorem own_iconst (X : Stand p l e R s m args below meth c T locs cells slots) (C : OwnCx p s m meth c Z y bs maxL rt) {i : Int} (hd : decode bs pc = .ok (.iconst i, 1)) (pc' : Nat) (hp : pc + 1 = pc') (k : Int32) (hk : Int32.ofInt i = k)
    (hr : OwnEnds p e below G (T.setTop (mkF m pc' Ls (.int k :: st)))) : OwnEnds p e below G (T.setTop (mkF m pc Ls st)) := by
  subst hp hk; exact own_st (fun _ q => XS.iconst X.here C.1 rfl (hb C.2.2.2.1 hd) q) hr
theorem own_bipush (X : Stand p l e R s m args below meth c T locs cells slots) (C : OwnCx p s m meth c Z y bs maxL rt) {i : Int} (hd : decode bs pc = .ok (.bipush i, 2)) (pc' : Nat) (hp : pc + 2 = pc') (k : Int32) (hk : (Int8.ofInt i).toInt32 = k)
    (hr : OwnEnds p e below G (T.setTop (mkF m pc' Ls (.int k :: st)))) : OwnEnds p e below G (T.setTop (mkF m pc Ls st)) := by
  subst hp hk; exact own_st (fun _ q => XS.bipush X.here C.1 rfl (hb C.2.2.2.1 hd) q) hr
theorem own_sipush (X : Stand p l e R s m args below meth c T locs cells slots) (C : OwnCx p s m meth c Z y bs maxL rt) {i : Int} (hd : decode bs pc = .ok (.sipush i, 3)) (pc' : Nat) (hp : pc + 3 = pc') (k : Int32) (hk : (Int16.ofInt i).toInt32 = k)
    (hr : OwnEnds p e below G (T.setTop (mkF m pc' Ls (.int k :: st)))) : OwnEnds p e below G (T.setTop (mkF m pc Ls st)) := by
  subst hp hk; exact own_st (fun _ q => XS.sipush X.here C.1 rfl (hb C.2.2.2.1 hd) q) hr
theorem own_lconst (X : Stand p l e R s m args below meth c T locs cells slots) (C : OwnCx p s m meth c Z y bs maxL rt) {i : Fin 2} (hd : decode bs pc = .ok (.lconst i, 1)) (pc' : Nat) (hp : pc + 1 = pc') (k : Int64) (hk : Int64.ofNat i = k)
    (hr : OwnEnds p e below G (T.setTop (mkF m pc' Ls (.long k :: st)))) : OwnEnds p e below G (T.setTop (mkF m pc Ls st)) := by
  subst hp hk; exact own_st (fun _ q => XS.lconst X.here C.1 rfl (hb C.2.2.2.1 hd) q) hr
theorem own_aconst_null (X : Stand p l e R s m args below meth c T locs cells slots) (C : OwnCx p s m meth c Z y bs maxL rt) (hd : decode bs pc = .ok (.aconst_null, 1)) (pc' : Nat) (hp : pc + 1 = pc')
    (hr : OwnEnds p e below G (T.setTop (mkF m pc' Ls (.null :: st)))) : OwnEnds p e below G (T.setTop (mkF m pc Ls st)) := by
  subst hp; exact own_st (fun _ q => XS.aconstNull X.here C.1 rfl (hb C.2.2.2.1 hd) q) hr
theorem own_ldc (X : Stand p l e R s m args below meth c T locs cells slots) (C : OwnCx p s m meth c Z y bs maxL rt) {i : Nat} {v : Int32} (w : (Jvm.Cond.constant y.cls i v).before a0 Z = true) (hd : decode bs pc = .ok (.ldc i, 2)) (pc' : Nat) (hp : pc + 2 = pc')
    (hr : OwnEnds p e below G (T.setTop (mkF m pc' Ls (.int v :: st)))) : OwnEnds p e below G (T.setTop (mkF m pc Ls st)) := by
  subst hp; exact own_st (X.ldcInt C.1 C.2.2.1 (mvT C.2.1 w) (g := mkF m pc Ls st) rfl (hb C.2.2.2.1 hd)) hr
theorem own_ldcw (X : Stand p l e R s m args below meth c T locs cells slots) (C : OwnCx p s m meth c Z y bs maxL rt) {i : Nat} {v : Int32} (w : (Jvm.Cond.constant y.cls i v).before a0 Z = true) (hd : decode bs pc = .ok (.ldc_w i, 3)) (pc' : Nat) (hp : pc + 3 = pc')
    (hr : OwnEnds p e below G (T.setTop (mkF m pc' Ls (.int v :: st)))) : OwnEnds p e below G (T.setTop (mkF m pc Ls st)) := by
  subst hp; exact own_st (X.ldcwInt C.1 C.2.2.1 (mvT C.2.1 w) (g := mkF m pc Ls st) rfl (hb C.2.2.2.1 hd)) hr
theorem own_ldc2 (X : Stand p l e R s m args below meth c T locs cells slots) (C : OwnCx p s m meth c Z y bs maxL rt) {i : Nat} {v : Int64} (w : (Jvm.Cond.constantLong y.cls i v).before a0 Z = true) (hd : decode bs pc = .ok (.ldc2_w i, 3)) (pc' : Nat) (hp : pc + 3 = pc')
    (hr : OwnEnds p e below G (T.setTop (mkF m pc' Ls (.long v :: st)))) : OwnEnds p e below G (T.setTop (mkF m pc Ls st)) := by
  subst hp; exact own_st (X.ldc2Long C.1 C.2.2.1 (mvT C.2.1 w) (g := mkF m pc Ls st) rfl (hb C.2.2.2.1 hd)) hr
theorem own_iadd (X : Stand p l e R s m args below meth c T locs cells slots) (C : OwnCx p s m meth c Z y bs maxL rt) {a b : Int32} (hd : decode bs pc = .ok (.iadd, 1)) (pc' : Nat) (hp : pc + 1 = pc')
    (hr : ∀ z, z = a + b → OwnEnds p e below G (T.setTop (mkF m pc' Ls (.int z :: st)))) : OwnEnds p e below G (T.setTop (mkF m pc Ls (.int b :: .int a :: st))) := by
  subst hp; exact own_st (fun _ q => XS.iadd X.here C.1 rfl (hb C.2.2.2.1 hd) rfl q) (hr _ rfl)
theorem own_isub (X : Stand p l e R s m args below meth c T locs cells slots) (C : OwnCx p s m meth c Z y bs maxL rt) {a b : Int32} (hd : decode bs pc = .ok (.isub, 1)) (pc' : Nat) (hp : pc + 1 = pc')
    (hr : ∀ z, z = a - b → OwnEnds p e below G (T.setTop (mkF m pc' Ls (.int z :: st)))) : OwnEnds p e below G (T.setTop (mkF m pc Ls (.int b :: .int a :: st))) := by
  subst hp; exact own_st (fun _ q => XS.isub X.here C.1 rfl (hb C.2.2.2.1 hd) rfl q) (hr _ rfl)
theorem own_imul (X : Stand p l e R s m args below meth c T locs cells slots) (C : OwnCx p s m meth c Z y bs maxL rt) {a b : Int32} (hd : decode bs pc = .ok (.imul, 1)) (pc' : Nat) (hp : pc + 1 = pc')
    (hr : ∀ z, z = a * b → OwnEnds p e below G (T.setTop (mkF m pc' Ls (.int z :: st)))) : OwnEnds p e below G (T.setTop (mkF m pc Ls (.int b :: .int a :: st))) := by
  subst hp; exact own_st (fun _ q => XS.imul X.here C.1 rfl (hb C.2.2.2.1 hd) rfl q) (hr _ rfl)
theorem own_iand (X : Stand p l e R s m args below meth c T locs cells slots) (C : OwnCx p s m meth c Z y bs maxL rt) {a b : Int32} (hd : decode bs pc = .ok (.iand, 1)) (pc' : Nat) (hp : pc + 1 = pc')
    (hr : ∀ z, z = a &&& b → OwnEnds p e below G (T.setTop (mkF m pc' Ls (.int z :: st)))) : OwnEnds p e below G (T.setTop (mkF m pc Ls (.int b :: .int a :: st))) := by
  subst hp; exact own_st (fun _ q => XS.iand X.here C.1 rfl (hb C.2.2.2.1 hd) rfl q) (hr _ rfl)
theorem own_ior (X : Stand p l e R s m args below meth c T locs cells slots) (C : OwnCx p s m meth c Z y bs maxL rt) {a b : Int32} (hd : decode bs pc = .ok (.ior, 1)) (pc' : Nat) (hp : pc + 1 = pc')
    (hr : ∀ z, z = a ||| b → OwnEnds p e below G (T.setTop (mkF m pc' Ls (.int z :: st)))) : OwnEnds p e below G (T.setTop (mkF m pc Ls (.int b :: .int a :: st))) := by
  subst hp; exact own_st (fun _ q => XS.ior X.here C.1 rfl (hb C.2.2.2.1 hd) rfl q) (hr _ rfl)
theorem own_ixor (X : Stand p l e R s m args below meth c T locs cells slots) (C : OwnCx p s m meth c Z y bs maxL rt) {a b : Int32} (hd : decode bs pc = .ok (.ixor, 1)) (pc' : Nat) (hp : pc + 1 = pc')
    (hr : ∀ z, z = a ^^^ b → OwnEnds p e below G (T.setTop (mkF m pc' Ls (.int z :: st)))) : OwnEnds p e below G (T.setTop (mkF m pc Ls (.int b :: .int a :: st))) := by
  subst hp; exact own_st (fun _ q => XS.ixor X.here C.1 rfl (hb C.2.2.2.1 hd) rfl q) (hr _ rfl)
theorem own_idiv (X : Stand p l e R s m args below meth c T locs cells slots) (C : OwnCx p s m meth c Z y bs maxL rt) {a b : Int32} (hd : decode bs pc = .ok (.idiv, 1)) (pc' : Nat) (hp : pc + 1 = pc') (hz : b ≠ 0)
    (hr : ∀ z, z = a / b → OwnEnds p e below G (T.setTop (mkF m pc' Ls (.int z :: st)))) : OwnEnds p e below G (T.setTop (mkF m pc Ls (.int b :: .int a :: st))) := by
  subst hp; exact own_st (fun _ q => XS.idiv X.here C.1 rfl (hb C.2.2.2.1 hd) rfl hz q) (hr _ rfl)
theorem own_ladd (X : Stand p l e R s m args below meth c T locs cells slots) (C : OwnCx p s m meth c Z y bs maxL rt) {a b : Int64} (hd : decode bs pc = .ok (.ladd, 1)) (pc' : Nat) (hp : pc + 1 = pc')
    (hr : ∀ z, z = a + b → OwnEnds p e below G (T.setTop (mkF m pc' Ls (.long z :: st)))) : OwnEnds p e below G (T.setTop (mkF m pc Ls (.long b :: .long a :: st))) := by
  subst hp; exact own_st (fun _ q => XS.ladd X.here C.1 rfl (hb C.2.2.2.1 hd) rfl q) (hr _ rfl)
theorem own_lsub (X : Stand p l e R s m args below meth c T locs cells slots) (C : OwnCx p s m meth c Z y bs maxL rt) {a b : Int64} (hd : decode bs pc = .ok (.lsub, 1)) (pc' : Nat) (hp : pc + 1 = pc')
    (hr : ∀ z, z = a - b → OwnEnds p e below G (T.setTop (mkF m pc' Ls (.long z :: st)))) : OwnEnds p e below G (T.setTop (mkF m pc Ls (.long b :: .long a :: st))) := by
  subst hp; exact own_st (fun _ q => XS.lsub X.here C.1 rfl (hb C.2.2.2.1 hd) rfl q) (hr _ rfl)
theorem own_lmul (X : Stand p l e R s m args below meth c T locs cells slots) (C : OwnCx p s m meth c Z y bs maxL rt) {a b : Int64} (hd : decode bs pc = .ok (.lmul, 1)) (pc' : Nat) (hp : pc + 1 = pc')
    (hr : ∀ z, z = a * b → OwnEnds p e below G (T.setTop (mkF m pc' Ls (.long z :: st)))) : OwnEnds p e below G (T.setTop (mkF m pc Ls (.long b :: .long a :: st))) := by
  subst hp; exact own_st (fun _ q => XS.lmul X.here C.1 rfl (hb C.2.2.2.1 hd) rfl q) (hr _ rfl)
theorem own_land (X : Stand p l e R s m args below meth c T locs cells slots) (C : OwnCx p s m meth c Z y bs maxL rt) {a b : Int64} (hd : decode bs pc = .ok (.land, 1)) (pc' : Nat) (hp : pc + 1 = pc')
    (hr : ∀ z, z = a &&& b → OwnEnds p e below G (T.setTop (mkF m pc' Ls (.long z :: st)))) : OwnEnds p e below G (T.setTop (mkF m pc Ls (.long b :: .long a :: st))) := by
  subst hp; exact own_st (fun _ q => XS.land X.here C.1 rfl (hb C.2.2.2.1 hd) rfl q) (hr _ rfl)
theorem own_lor (X : Stand p l e R s m args below meth c T locs cells slots) (C : OwnCx p s m meth c Z y bs maxL rt) {a b : Int64} (hd : decode bs pc = .ok (.lor, 1)) (pc' : Nat) (hp : pc + 1 = pc')
    (hr : ∀ z, z = a ||| b → OwnEnds p e below G (T.setTop (mkF m pc' Ls (.long z :: st)))) : OwnEnds p e below G (T.setTop (mkF m pc Ls (.long b :: .long a :: st))) := by
  subst hp; exact own_st (fun _ q => XS.lor X.here C.1 rfl (hb C.2.2.2.1 hd) rfl q) (hr _ rfl)
theorem own_lxor (X : Stand p l e R s m args below meth c T locs cells slots) (C : OwnCx p s m meth c Z y bs maxL rt) {a b : Int64} (hd : decode bs pc = .ok (.lxor, 1)) (pc' : Nat) (hp : pc + 1 = pc')
    (hr : ∀ z, z = a ^^^ b → OwnEnds p e below G (T.setTop (mkF m pc' Ls (.long z :: st)))) : OwnEnds p e below G (T.setTop (mkF m pc Ls (.long b :: .long a :: st))) := by
  subst hp; exact own_st (fun _ q => XS.lxor X.here C.1 rfl (hb C.2.2.2.1 hd) rfl q) (hr _ rfl)
theorem own_ldiv (X : Stand p l e R s m args below meth c T locs cells slots) (C : OwnCx p s m meth c Z y bs maxL rt) {a b : Int64} (hd : decode bs pc = .ok (.ldiv, 1)) (pc' : Nat) (hp : pc + 1 = pc') (hz : b ≠ 0)
    (hr : ∀ z, z = a / b → OwnEnds p e below G (T.setTop (mkF m pc' Ls (.long z :: st)))) : OwnEnds p e below G (T.setTop (mkF m pc Ls (.long b :: .long a :: st))) := by
  subst hp; exact own_st (fun _ q => XS.ldiv X.here C.1 rfl (hb C.2.2.2.1 hd) rfl hz q) (hr _ rfl)
theorem own_irem (X : Stand p l e R s m args below meth c T locs cells slots) (C : OwnCx p s m meth c Z y bs maxL rt) {a b : Int32} (hd : decode bs pc = .ok (.irem, 1)) (pc' : Nat) (hp : pc + 1 = pc') (hz : b ≠ 0)
    (hr : ∀ z, z = a % b → OwnEnds p e below G (T.setTop (mkF m pc' Ls (.int z :: st)))) : OwnEnds p e below G (T.setTop (mkF m pc Ls (.int b :: .int a :: st))) := by
  subst hp; exact own_st (fun _ q => iremM X C.1 rfl (hb C.2.2.2.1 hd) rfl hz q) (hr _ rfl)
theorem own_lrem (X : Stand p l e R s m args below meth c T locs cells slots) (C : OwnCx p s m meth c Z y bs maxL rt) {a b : Int64} (hd : decode bs pc = .ok (.lrem, 1)) (pc' : Nat) (hp : pc + 1 = pc') (hz : b ≠ 0)
    (hr : ∀ z, z = a % b → OwnEnds p e below G (T.setTop (mkF m pc' Ls (.long z :: st)))) : OwnEnds p e below G (T.setTop (mkF m pc Ls (.long b :: .long a :: st))) := by
  subst hp; exact own_st (fun _ q => XS.lrem X.here C.1 rfl (hb C.2.2.2.1 hd) rfl hz q) (hr _ (lrem_mod a b))
theorem own_ishl (X : Stand p l e R s m args below meth c T locs cells slots) (C : OwnCx p s m meth c Z y bs maxL rt) {a : Int32} {b : Int32} (hd : decode bs pc = .ok (.ishl, 1)) (pc' : Nat) (hp : pc + 1 = pc')
    (hr : ∀ z, z = (a <<< (b &&& 31)) → OwnEnds p e below G (T.setTop (mkF m pc' Ls (.int z :: st)))) : OwnEnds p e below G (T.setTop (mkF m pc Ls (.int b :: .int a :: st))) := by
  subst hp; exact own_st (fun _ q => XS.ishl X.here C.1 rfl (hb C.2.2.2.1 hd) rfl q) (hr _ rfl)
theorem own_ishr (X : Stand p l e R s m args below meth c T locs cells slots) (C : OwnCx p s m meth c Z y bs maxL rt) {a : Int32} {b : Int32} (hd : decode bs pc = .ok (.ishr, 1)) (pc' : Nat) (hp : pc + 1 = pc')
    (hr : ∀ z, z = (a >>> (b &&& 31)) → OwnEnds p e below G (T.setTop (mkF m pc' Ls (.int z :: st)))) : OwnEnds p e below G (T.setTop (mkF m pc Ls (.int b :: .int a :: st))) := by
  subst hp; exact own_st (fun _ q => XS.ishr X.here C.1 rfl (hb C.2.2.2.1 hd) rfl q) (hr _ rfl)
theorem own_iushr (X : Stand p l e R s m args below meth c T locs cells slots) (C : OwnCx p s m meth c Z y bs maxL rt) {a : Int32} {b : Int32} (hd : decode bs pc = .ok (.iushr, 1)) (pc' : Nat) (hp : pc + 1 = pc')
    (hr : ∀ z, z = ((a.toUInt32 >>> (b &&& 31).toUInt32).toInt32) → OwnEnds p e below G (T.setTop (mkF m pc' Ls (.int z :: st)))) : OwnEnds p e below G (T.setTop (mkF m pc Ls (.int b :: .int a :: st))) := by
  subst hp; exact own_st (fun _ q => XS.iushr X.here C.1 rfl (hb C.2.2.2.1 hd) rfl q) (hr _ rfl)
theorem own_lshl (X : Stand p l e R s m args below meth c T locs cells slots) (C : OwnCx p s m meth c Z y bs maxL rt) {a : Int64} {b : Int32} (hd : decode bs pc = .ok (.lshl, 1)) (pc' : Nat) (hp : pc + 1 = pc')
    (hr : ∀ z, z = (a <<< (b &&& 0x3f).toInt64) → OwnEnds p e below G (T.setTop (mkF m pc' Ls (.long z :: st)))) : OwnEnds p e below G (T.setTop (mkF m pc Ls (.int b :: .long a :: st))) := by
  subst hp; exact own_st (fun _ q => XS.lshl X.here C.1 rfl (hb C.2.2.2.1 hd) rfl q) (hr _ rfl)
theorem own_lshr (X : Stand p l e R s m args below meth c T locs cells slots) (C : OwnCx p s m meth c Z y bs maxL rt) {a : Int64} {b : Int32} (hd : decode bs pc = .ok (.lshr, 1)) (pc' : Nat) (hp : pc + 1 = pc')
    (hr : ∀ z, z = (a >>> (b &&& 0x3f).toInt64) → OwnEnds p e below G (T.setTop (mkF m pc' Ls (.long z :: st)))) : OwnEnds p e below G (T.setTop (mkF m pc Ls (.int b :: .long a :: st))) := by
  subst hp; exact own_st (fun _ q => XS.lshr X.here C.1 rfl (hb C.2.2.2.1 hd) rfl q) (hr _ rfl)
theorem own_lushr (X : Stand p l e R s m args below meth c T locs cells slots) (C : OwnCx p s m meth c Z y bs maxL rt) {a : Int64} {b : Int32} (hd : decode bs pc = .ok (.lushr, 1)) (pc' : Nat) (hp : pc + 1 = pc')
    (hr : ∀ z, z = ((a.toUInt64 >>> (b &&& 0x3f).toInt64.toUInt64).toInt64) → OwnEnds p e below G (T.setTop (mkF m pc' Ls (.long z :: st)))) : OwnEnds p e below G (T.setTop (mkF m pc Ls (.int b :: .long a :: st))) := by
  subst hp; exact own_st (fun _ q => XS.lushr X.here C.1 rfl (hb C.2.2.2.1 hd) rfl q) (hr _ rfl)
theorem own_ineg (X : Stand p l e R s m args below meth c T locs cells slots) (C : OwnCx p s m meth c Z y bs maxL rt) {a : Int32} (hd : decode bs pc = .ok (.ineg, 1)) (pc' : Nat) (hp : pc + 1 = pc')
    (hr : ∀ z, z = -a → OwnEnds p e below G (T.setTop (mkF m pc' Ls (.int z :: st)))) : OwnEnds p e below G (T.setTop (mkF m pc Ls (.int a :: st))) := by
  subst hp; exact own_st (fun _ q => XS.ineg X.here C.1 rfl (hb C.2.2.2.1 hd) rfl q) (hr _ rfl)
theorem own_lneg (X : Stand p l e R s m args below meth c T locs cells slots) (C : OwnCx p s m meth c Z y bs maxL rt) {a : Int64} (hd : decode bs pc = .ok (.lneg, 1)) (pc' : Nat) (hp : pc + 1 = pc')
    (hr : ∀ z, z = -a → OwnEnds p e below G (T.setTop (mkF m pc' Ls (.long z :: st)))) : OwnEnds p e below G (T.setTop (mkF m pc Ls (.long a :: st))) := by
  subst hp; exact own_st (fun _ q => XS.lneg X.here C.1 rfl (hb C.2.2.2.1 hd) rfl q) (hr _ rfl)
theorem own_i2l (X : Stand p l e R s m args below meth c T locs cells slots) (C : OwnCx p s m meth c Z y bs maxL rt) {a : Int32} (hd : decode bs pc = .ok (.i2l, 1)) (pc' : Nat) (hp : pc + 1 = pc')
    (hr : ∀ z, z = a.toInt64 → OwnEnds p e below G (T.setTop (mkF m pc' Ls (.long z :: st)))) : OwnEnds p e below G (T.setTop (mkF m pc Ls (.int a :: st))) := by
  subst hp; exact own_st (fun _ q => XS.i2l X.here C.1 rfl (hb C.2.2.2.1 hd) rfl q) (hr _ rfl)
theorem own_l2i (X : Stand p l e R s m args below meth c T locs cells slots) (C : OwnCx p s m meth c Z y bs maxL rt) {a : Int64} (hd : decode bs pc = .ok (.l2i, 1)) (pc' : Nat) (hp : pc + 1 = pc')
    (hr : ∀ z, z = a.toInt32 → OwnEnds p e below G (T.setTop (mkF m pc' Ls (.int z :: st)))) : OwnEnds p e below G (T.setTop (mkF m pc Ls (.long a :: st))) := by
  subst hp; exact own_st (fun _ q => XS.l2i X.here C.1 rfl (hb C.2.2.2.1 hd) rfl q) (hr _ rfl)
theorem own_i2b (X : Stand p l e R s m args below meth c T locs cells slots) (C : OwnCx p s m meth c Z y bs maxL rt) {a : Int32} (hd : decode bs pc = .ok (.i2b, 1)) (pc' : Nat) (hp : pc + 1 = pc')
    (hr : ∀ z, z = a.toInt8.toInt32 → OwnEnds p e below G (T.setTop (mkF m pc' Ls (.int z :: st)))) : OwnEnds p e below G (T.setTop (mkF m pc Ls (.int a :: st))) := by
  subst hp; exact own_st (fun _ q => XS.i2b X.here C.1 rfl (hb C.2.2.2.1 hd) rfl q) (hr _ rfl)
theorem own_i2s (X : Stand p l e R s m args below meth c T locs cells slots) (C : OwnCx p s m meth c Z y bs maxL rt) {a : Int32} (hd : decode bs pc = .ok (.i2s, 1)) (pc' : Nat) (hp : pc + 1 = pc')
    (hr : ∀ z, z = a.toInt16.toInt32 → OwnEnds p e below G (T.setTop (mkF m pc' Ls (.int z :: st)))) : OwnEnds p e below G (T.setTop (mkF m pc Ls (.int a :: st))) := by
  subst hp; exact own_st (fun _ q => XS.i2s X.here C.1 rfl (hb C.2.2.2.1 hd) rfl q) (hr _ rfl)
theorem own_i2c (X : Stand p l e R s m args below meth c T locs cells slots) (C : OwnCx p s m meth c Z y bs maxL rt) {a : Int32} (hd : decode bs pc = .ok (.i2c, 1)) (pc' : Nat) (hp : pc + 1 = pc')
    (hr : ∀ z, z = a.toUInt32.toUInt16.toUInt32.toInt32 → OwnEnds p e below G (T.setTop (mkF m pc' Ls (.int z :: st)))) : OwnEnds p e below G (T.setTop (mkF m pc Ls (.int a :: st))) := by
  subst hp; exact own_st (fun _ q => XS.i2c X.here C.1 rfl (hb C.2.2.2.1 hd) rfl q) (hr _ rfl)
theorem own_lcmp (X : Stand p l e R s m args below meth c T locs cells slots) (C : OwnCx p s m meth c Z y bs maxL rt) {a b : Int64} (hd : decode bs pc = .ok (.lcmp, 1)) (pc' : Nat) (hp : pc + 1 = pc')
    (hr : ∀ z : Int32, (a.toInt < b.toInt → z.toInt = -1) → (a.toInt = b.toInt → z.toInt = 0) → (b.toInt < a.toInt → z.toInt = 1) → OwnEnds p e below G (T.setTop (mkF m pc' Ls (.int z :: st)))) : OwnEnds p e below G (T.setTop (mkF m pc Ls (.long b :: .long a :: st))) := by
  subst hp; exact own_st (fun _ q => XS.lcmp X.here C.1 rfl (hb C.2.2.2.1 hd) rfl q) (hr _ (c_lcmp a b).1 (c_lcmp a b).2.1 (c_lcmp a b).2.2)
theorem own_dup (X : Stand p l e R s m args below meth c T locs cells slots) (C : OwnCx p s m meth c Z y bs maxL rt) {v : Value} (hd : decode bs pc = .ok (.dup, 1)) (pc' : Nat) (hp : pc + 1 = pc') (hc : v.category = 1)
    (hr : OwnEnds p e below G (T.setTop (mkF m pc' Ls (v :: v :: st)))) : OwnEnds p e below G (T.setTop (mkF m pc Ls (v :: st))) := by
  subst hp; exact own_st (fun _ q => XS.dup X.here C.1 rfl (hb C.2.2.2.1 hd) rfl hc q) hr
theorem own_dup_x1 (X : Stand p l e R s m args below meth c T locs cells slots) (C : OwnCx p s m meth c Z y bs maxL rt) {v w : Value} (hd : decode bs pc = .ok (.dup_x1, 1)) (pc' : Nat) (hp : pc + 1 = pc') (hc : v.category = 1) (hc' : w.category = 1)
    (hr : OwnEnds p e below G (T.setTop (mkF m pc' Ls (v :: w :: v :: st)))) : OwnEnds p e below G (T.setTop (mkF m pc Ls (v :: w :: st))) := by
  subst hp; exact own_st (fun _ q => XS.dupX1 X.here C.1 rfl (hb C.2.2.2.1 hd) rfl hc hc' q) hr
theorem own_pop (X : Stand p l e R s m args below meth c T locs cells slots) (C : OwnCx p s m meth c Z y bs maxL rt) {v : Value} (hd : decode bs pc = .ok (.pop, 1)) (pc' : Nat) (hp : pc + 1 = pc') (hc : v.category = 1)
    (hr : OwnEnds p e below G (T.setTop (mkF m pc' Ls st))) : OwnEnds p e below G (T.setTop (mkF m pc Ls (v :: st))) := by
  subst hp; exact own_st (fun _ q => XS.pop X.here C.1 rfl (hb C.2.2.2.1 hd) rfl hc q) hr
theorem own_dup2 (X : Stand p l e R s m args below meth c T locs cells slots) (C : OwnCx p s m meth c Z y bs maxL rt) {v w : Value} (hd : decode bs pc = .ok (.dup2, 1)) (pc' : Nat) (hp : pc + 1 = pc') (hc : v.category = 1) (hc' : w.category = 1)
    (hr : OwnEnds p e below G (T.setTop (mkF m pc' Ls (v :: w :: v :: w :: st)))) : OwnEnds p e below G (T.setTop (mkF m pc Ls (v :: w :: st))) := by
  subst hp; exact own_st (fun _ q => XT.dup2 X.here C.1 rfl (hb C.2.2.2.1 hd) rfl hc hc' q) hr
theorem own_goto (X : Stand p l e R s m args below meth c T locs cells slots) (C : OwnCx p s m meth c Z y bs maxL rt) {o : Int} (hd : decode bs pc = .ok (.goto o, 3)) (pc' : Nat) (ho : 0 ≤ (pc : Int) + o) (hp : ((pc : Int) + o).toNat = pc')
    (hr : OwnEnds p e below G (T.setTop (mkF m pc' Ls st))) : OwnEnds p e below G (T.setTop (mkF m pc Ls st)) :=
  own_st (fun _ q => XS.goto X.here C.1 rfl rfl (hb C.2.2.2.1 hd) ho hp q) hr
theorem own_icmplt (X : Stand p l e R s m args below meth c T locs cells slots) (C : OwnCx p s m meth c Z y bs maxL rt) {x' y' : Int32} {o : Int} (hd : decode bs pc = .ok (.if_icmp .lt o, 3)) (pn pc' : Nat) (hpn : pc + 3 = pn) (ho : 0 ≤ (pc : Int) + o) (hp : ((pc : Int) + o).toNat = pc') {i : Int} (hi : x'.toInt = i) {j : Int} (hj : y'.toInt = j) 
    (hy : i < j → OwnEnds p e below G (T.setTop (mkF m pc' Ls st))) (hn : j ≤ i → OwnEnds p e below G (T.setTop (mkF m pn Ls st))) : OwnEnds p e below G (T.setTop (mkF m pc Ls (.int y' :: .int x' :: st))) := by
  subst hpn
  by_cases k : x' < y'
  · exact own_st (fun _ q => XS.icmpYes X.here C.1 rfl rfl (hb C.2.2.2.1 hd) rfl (((tlt k).1)) ho hp q) (hy (by rw [Int32.lt_iff_toInt_lt] at k; have q : y'.toInt = j := hj; omega))
  · exact own_st (fun _ q => XS.icmpNo X.here C.1 rfl (hb C.2.2.2.1 hd) rfl (((flt k).1)) q) (hn (by rw [Int32.lt_iff_toInt_lt] at k; have q : y'.toInt = j := hj; omega))
theorem own_icmpge (X : Stand p l e R s m args below meth c T locs cells slots) (C : OwnCx p s m meth c Z y bs maxL rt) {x' y' : Int32} {o : Int} (hd : decode bs pc = .ok (.if_icmp .ge o, 3)) (pn pc' : Nat) (hpn : pc + 3 = pn) (ho : 0 ≤ (pc : Int) + o) (hp : ((pc : Int) + o).toNat = pc') {i : Int} (hi : x'.toInt = i) {j : Int} (hj : y'.toInt = j) 
    (hy : j ≤ i → OwnEnds p e below G (T.setTop (mkF m pc' Ls st))) (hn : i < j → OwnEnds p e below G (T.setTop (mkF m pn Ls st))) : OwnEnds p e below G (T.setTop (mkF m pc Ls (.int y' :: .int x' :: st))) := by
  subst hpn
  by_cases k : x' < y'
  · exact own_st (fun _ q => XS.icmpNo X.here C.1 rfl (hb C.2.2.2.1 hd) rfl (((tlt k).2.1)) q) (hn (by rw [Int32.lt_iff_toInt_lt] at k; have q : y'.toInt = j := hj; omega))
  · exact own_st (fun _ q => XS.icmpYes X.here C.1 rfl rfl (hb C.2.2.2.1 hd) rfl (((flt k).2.1)) ho hp q) (hy (by rw [Int32.lt_iff_toInt_lt] at k; have q : y'.toInt = j := hj; omega))
theorem own_icmpgt (X : Stand p l e R s m args below meth c T locs cells slots) (C : OwnCx p s m meth c Z y bs maxL rt) {x' y' : Int32} {o : Int} (hd : decode bs pc = .ok (.if_icmp .gt o, 3)) (pn pc' : Nat) (hpn : pc + 3 = pn) (ho : 0 ≤ (pc : Int) + o) (hp : ((pc : Int) + o).toNat = pc') {i : Int} (hi : x'.toInt = i) {j : Int} (hj : y'.toInt = j) 
    (hy : j < i → OwnEnds p e below G (T.setTop (mkF m pc' Ls st))) (hn : i ≤ j → OwnEnds p e below G (T.setTop (mkF m pn Ls st))) : OwnEnds p e below G (T.setTop (mkF m pc Ls (.int y' :: .int x' :: st))) := by
  subst hpn
  by_cases k : y' < x'
  · exact own_st (fun _ q => XS.icmpYes X.here C.1 rfl rfl (hb C.2.2.2.1 hd) rfl (((tlt k).2.2.1)) ho hp q) (hy (by rw [Int32.lt_iff_toInt_lt] at k; have q : y'.toInt = j := hj; omega))
  · exact own_st (fun _ q => XS.icmpNo X.here C.1 rfl (hb C.2.2.2.1 hd) rfl (((flt k).2.2.1)) q) (hn (by rw [Int32.lt_iff_toInt_lt] at k; have q : y'.toInt = j := hj; omega))
theorem own_icmple (X : Stand p l e R s m args below meth c T locs cells slots) (C : OwnCx p s m meth c Z y bs maxL rt) {x' y' : Int32} {o : Int} (hd : decode bs pc = .ok (.if_icmp .le o, 3)) (pn pc' : Nat) (hpn : pc + 3 = pn) (ho : 0 ≤ (pc : Int) + o) (hp : ((pc : Int) + o).toNat = pc') {i : Int} (hi : x'.toInt = i) {j : Int} (hj : y'.toInt = j) 
    (hy : i ≤ j → OwnEnds p e below G (T.setTop (mkF m pc' Ls st))) (hn : j < i → OwnEnds p e below G (T.setTop (mkF m pn Ls st))) : OwnEnds p e below G (T.setTop (mkF m pc Ls (.int y' :: .int x' :: st))) := by
  subst hpn
  by_cases k : y' < x'
  · exact own_st (fun _ q => XS.icmpNo X.here C.1 rfl (hb C.2.2.2.1 hd) rfl (((tlt k).2.2.2)) q) (hn (by rw [Int32.lt_iff_toInt_lt] at k; have q : y'.toInt = j := hj; omega))
  · exact own_st (fun _ q => XS.icmpYes X.here C.1 rfl rfl (hb C.2.2.2.1 hd) rfl (((flt k).2.2.2)) ho hp q) (hy (by rw [Int32.lt_iff_toInt_lt] at k; have q : y'.toInt = j := hj; omega))
theorem own_icmpeq (X : Stand p l e R s m args below meth c T locs cells slots) (C : OwnCx p s m meth c Z y bs maxL rt) {x' y' : Int32} {o : Int} (hd : decode bs pc = .ok (.if_icmp .eq o, 3)) (pn pc' : Nat) (hpn : pc + 3 = pn) (ho : 0 ≤ (pc : Int) + o) (hp : ((pc : Int) + o).toNat = pc') {i : Int} (hi : x'.toInt = i) {j : Int} (hj : y'.toInt = j) 
    (hy : i = j → OwnEnds p e below G (T.setTop (mkF m pc' Ls st))) (hn : i ≠ j → OwnEnds p e below G (T.setTop (mkF m pn Ls st))) : OwnEnds p e below G (T.setTop (mkF m pc Ls (.int y' :: .int x' :: st))) := by
  subst hpn
  by_cases k : x' = y'
  · exact own_st (fun _ q => XS.icmpYes X.here C.1 rfl rfl (hb C.2.2.2.1 hd) rfl (((teq k).1)) ho hp q) (hy (by subst k; exact hi.symm.trans hj))
  · exact own_st (fun _ q => XS.icmpNo X.here C.1 rfl (hb C.2.2.2.1 hd) rfl (((feq k).1)) q) (hn (fun q => k (Int32.toInt_inj.mp (hi.trans (q.trans hj.symm)))))
theorem own_icmpne (X : Stand p l e R s m args below meth c T locs cells slots) (C : OwnCx p s m meth c Z y bs maxL rt) {x' y' : Int32} {o : Int} (hd : decode bs pc = .ok (.if_icmp .ne o, 3)) (pn pc' : Nat) (hpn : pc + 3 = pn) (ho : 0 ≤ (pc : Int) + o) (hp : ((pc : Int) + o).toNat = pc') {i : Int} (hi : x'.toInt = i) {j : Int} (hj : y'.toInt = j) 
    (hy : i ≠ j → OwnEnds p e below G (T.setTop (mkF m pc' Ls st))) (hn : i = j → OwnEnds p e below G (T.setTop (mkF m pn Ls st))) : OwnEnds p e below G (T.setTop (mkF m pc Ls (.int y' :: .int x' :: st))) := by
  subst hpn
  by_cases k : x' = y'
  · exact own_st (fun _ q => XS.icmpNo X.here C.1 rfl (hb C.2.2.2.1 hd) rfl (((teq k).2)) q) (hn (by subst k; exact hi.symm.trans hj))
  · exact own_st (fun _ q => XS.icmpYes X.here C.1 rfl rfl (hb C.2.2.2.1 hd) rfl (((feq k).2)) ho hp q) (hy (fun q => k (Int32.toInt_inj.mp (hi.trans (q.trans hj.symm)))))
theorem own_iflt (X : Stand p l e R s m args below meth c T locs cells slots) (C : OwnCx p s m meth c Z y bs maxL rt) {x' : Int32} {o : Int} (hd : decode bs pc = .ok (.ifCond .lt o, 3)) (pn pc' : Nat) (hpn : pc + 3 = pn) (ho : 0 ≤ (pc : Int) + o) (hp : ((pc : Int) + o).toNat = pc') {i : Int} (hi : x'.toInt = i) 
    (hy : i < 0 → OwnEnds p e below G (T.setTop (mkF m pc' Ls st))) (hn : 0 ≤ i → OwnEnds p e below G (T.setTop (mkF m pn Ls st))) : OwnEnds p e below G (T.setTop (mkF m pc Ls (.int x' :: st))) := by
  subst hpn
  by_cases k : x' < (0 : Int32)
  · exact own_st (fun _ q => XS.ifYes X.here C.1 rfl rfl (hb C.2.2.2.1 hd) rfl ((if0 _ _).trans ((tlt k).1)) ho hp q) (hy (by rw [Int32.lt_iff_toInt_lt] at k; have q : (0 : Int32).toInt = 0 := (rfl : (0 : Int32).toInt = 0); omega))
  · exact own_st (fun _ q => XS.ifNo X.here C.1 rfl (hb C.2.2.2.1 hd) rfl ((if0 _ _).trans ((flt k).1)) q) (hn (by rw [Int32.lt_iff_toInt_lt] at k; have q : (0 : Int32).toInt = 0 := (rfl : (0 : Int32).toInt = 0); omega))
theorem own_ifge (X : Stand p l e R s m args below meth c T locs cells slots) (C : OwnCx p s m meth c Z y bs maxL rt) {x' : Int32} {o : Int} (hd : decode bs pc = .ok (.ifCond .ge o, 3)) (pn pc' : Nat) (hpn : pc + 3 = pn) (ho : 0 ≤ (pc : Int) + o) (hp : ((pc : Int) + o).toNat = pc') {i : Int} (hi : x'.toInt = i) 
    (hy : 0 ≤ i → OwnEnds p e below G (T.setTop (mkF m pc' Ls st))) (hn : i < 0 → OwnEnds p e below G (T.setTop (mkF m pn Ls st))) : OwnEnds p e below G (T.setTop (mkF m pc Ls (.int x' :: st))) := by
  subst hpn
  by_cases k : x' < (0 : Int32)
  · exact own_st (fun _ q => XS.ifNo X.here C.1 rfl (hb C.2.2.2.1 hd) rfl ((if0 _ _).trans ((tlt k).2.1)) q) (hn (by rw [Int32.lt_iff_toInt_lt] at k; have q : (0 : Int32).toInt = 0 := (rfl : (0 : Int32).toInt = 0); omega))
  · exact own_st (fun _ q => XS.ifYes X.here C.1 rfl rfl (hb C.2.2.2.1 hd) rfl ((if0 _ _).trans ((flt k).2.1)) ho hp q) (hy (by rw [Int32.lt_iff_toInt_lt] at k; have q : (0 : Int32).toInt = 0 := (rfl : (0 : Int32).toInt = 0); omega))
theorem own_ifgt (X : Stand p l e R s m args below meth c T locs cells slots) (C : OwnCx p s m meth c Z y bs maxL rt) {x' : Int32} {o : Int} (hd : decode bs pc = .ok (.ifCond .gt o, 3)) (pn pc' : Nat) (hpn : pc + 3 = pn) (ho : 0 ≤ (pc : Int) + o) (hp : ((pc : Int) + o).toNat = pc') {i : Int} (hi : x'.toInt = i) 
    (hy : 0 < i → OwnEnds p e below G (T.setTop (mkF m pc' Ls st))) (hn : i ≤ 0 → OwnEnds p e below G (T.setTop (mkF m pn Ls st))) : OwnEnds p e below G (T.setTop (mkF m pc Ls (.int x' :: st))) := by
  subst hpn
  by_cases k : (0 : Int32) < x'
  · exact own_st (fun _ q => XS.ifYes X.here C.1 rfl rfl (hb C.2.2.2.1 hd) rfl ((if0 _ _).trans ((tlt k).2.2.1)) ho hp q) (hy (by rw [Int32.lt_iff_toInt_lt] at k; have q : (0 : Int32).toInt = 0 := (rfl : (0 : Int32).toInt = 0); omega))
  · exact own_st (fun _ q => XS.ifNo X.here C.1 rfl (hb C.2.2.2.1 hd) rfl ((if0 _ _).trans ((flt k).2.2.1)) q) (hn (by rw [Int32.lt_iff_toInt_lt] at k; have q : (0 : Int32).toInt = 0 := (rfl : (0 : Int32).toInt = 0); omega))
theorem own_ifle (X : Stand p l e R s m args below meth c T locs cells slots) (C : OwnCx p s m meth c Z y bs maxL rt) {x' : Int32} {o : Int} (hd : decode bs pc = .ok (.ifCond .le o, 3)) (pn pc' : Nat) (hpn : pc + 3 = pn) (ho : 0 ≤ (pc : Int) + o) (hp : ((pc : Int) + o).toNat = pc') {i : Int} (hi : x'.toInt = i) 
    (hy : i ≤ 0 → OwnEnds p e below G (T.setTop (mkF m pc' Ls st))) (hn : 0 < i → OwnEnds p e below G (T.setTop (mkF m pn Ls st))) : OwnEnds p e below G (T.setTop (mkF m pc Ls (.int x' :: st))) := by
  subst hpn
  by_cases k : (0 : Int32) < x'
  · exact own_st (fun _ q => XS.ifNo X.here C.1 rfl (hb C.2.2.2.1 hd) rfl ((if0 _ _).trans ((tlt k).2.2.2)) q) (hn (by rw [Int32.lt_iff_toInt_lt] at k; have q : (0 : Int32).toInt = 0 := (rfl : (0 : Int32).toInt = 0); omega))
  · exact own_st (fun _ q => XS.ifYes X.here C.1 rfl rfl (hb C.2.2.2.1 hd) rfl ((if0 _ _).trans ((flt k).2.2.2)) ho hp q) (hy (by rw [Int32.lt_iff_toInt_lt] at k; have q : (0 : Int32).toInt = 0 := (rfl : (0 : Int32).toInt = 0); omega))
theorem own_ifeq (X : Stand p l e R s m args below meth c T locs cells slots) (C : OwnCx p s m meth c Z y bs maxL rt) {x' : Int32} {o : Int} (hd : decode bs pc = .ok (.ifCond .eq o, 3)) (pn pc' : Nat) (hpn : pc + 3 = pn) (ho : 0 ≤ (pc : Int) + o) (hp : ((pc : Int) + o).toNat = pc') {i : Int} (hi : x'.toInt = i) 
    (hy : i = 0 → OwnEnds p e below G (T.setTop (mkF m pc' Ls st))) (hn : i ≠ 0 → OwnEnds p e below G (T.setTop (mkF m pn Ls st))) : OwnEnds p e below G (T.setTop (mkF m pc Ls (.int x' :: st))) := by
  subst hpn
  by_cases k : x' = (0 : Int32)
  · exact own_st (fun _ q => XS.ifYes X.here C.1 rfl rfl (hb C.2.2.2.1 hd) rfl ((if0 _ _).trans ((teq k).1)) ho hp q) (hy (by subst k; exact hi.symm.trans (rfl : (0 : Int32).toInt = 0)))
  · exact own_st (fun _ q => XS.ifNo X.here C.1 rfl (hb C.2.2.2.1 hd) rfl ((if0 _ _).trans ((feq k).1)) q) (hn (fun q => k (Int32.toInt_inj.mp (hi.trans (q.trans (rfl : (0 : Int32).toInt = 0).symm)))))
theorem own_ifne (X : Stand p l e R s m args below meth c T locs cells slots) (C : OwnCx p s m meth c Z y bs maxL rt) {x' : Int32} {o : Int} (hd : decode bs pc = .ok (.ifCond .ne o, 3)) (pn pc' : Nat) (hpn : pc + 3 = pn) (ho : 0 ≤ (pc : Int) + o) (hp : ((pc : Int) + o).toNat = pc') {i : Int} (hi : x'.toInt = i) 
    (hy : i ≠ 0 → OwnEnds p e below G (T.setTop (mkF m pc' Ls st))) (hn : i = 0 → OwnEnds p e below G (T.setTop (mkF m pn Ls st))) : OwnEnds p e below G (T.setTop (mkF m pc Ls (.int x' :: st))) := by
  subst hpn
  by_cases k : x' = (0 : Int32)
  · exact own_st (fun _ q => XS.ifNo X.here C.1 rfl (hb C.2.2.2.1 hd) rfl ((if0 _ _).trans ((teq k).2)) q) (hn (by subst k; exact hi.symm.trans (rfl : (0 : Int32).toInt = 0)))
  · exact own_st (fun _ q => XS.ifYes X.here C.1 rfl rfl (hb C.2.2.2.1 hd) rfl ((if0 _ _).trans ((feq k).2)) ho hp q) (hy (fun q => k (Int32.toInt_inj.mp (hi.trans (q.trans (rfl : (0 : Int32).toInt = 0).symm)))))
theorem own_ifnonnull_y (X : Stand p l e R s m args below meth c T locs cells slots) (C : OwnCx p s m meth c Z y bs maxL rt) {b : Addr} {o : Int} (hd : decode bs pc = .ok (.ifnonnull o, 3)) (pc' : Nat) (ho : 0 ≤ (pc : Int) + o) (hp : ((pc : Int) + o).toNat = pc')
    (hr : OwnEnds p e below G (T.setTop (mkF m pc' Ls st))) : OwnEnds p e below G (T.setTop (mkF m pc Ls (.ref b :: st))) :=
  own_st (fun _ q => XS.ifnonnullYes X.here C.1 rfl rfl (hb C.2.2.2.1 hd) rfl ho hp q) hr
theorem own_ifnull_n (X : Stand p l e R s m args below meth c T locs cells slots) (C : OwnCx p s m meth c Z y bs maxL rt) {b : Addr} {o : Int} (hd : decode bs pc = .ok (.ifnull o, 3)) (pn : Nat) (hp : pc + 3 = pn)
    (hr : OwnEnds p e below G (T.setTop (mkF m pn Ls st))) : OwnEnds p e below G (T.setTop (mkF m pc Ls (.ref b :: st))) := by
  subst hp; exact own_st (fun _ q => XS.ifnullNo X.here C.1 rfl (hb C.2.2.2.1 hd) rfl q) hr
theorem own_ifnull_y (X : Stand p l e R s m args below meth c T locs cells slots) (C : OwnCx p s m meth c Z y bs maxL rt) {o : Int} (hd : decode bs pc = .ok (.ifnull o, 3)) (pc' : Nat) (ho : 0 ≤ (pc : Int) + o) (hp : ((pc : Int) + o).toNat = pc')
    (hr : OwnEnds p e below G (T.setTop (mkF m pc' Ls st))) : OwnEnds p e below G (T.setTop (mkF m pc Ls (.null :: st))) :=
  own_st (fun _ q => XS.ifnullYes X.here C.1 rfl rfl (hb C.2.2.2.1 hd) rfl ho hp q) hr
theorem own_ifnonnull_n (X : Stand p l e R s m args below meth c T locs cells slots) (C : OwnCx p s m meth c Z y bs maxL rt) {o : Int} (hd : decode bs pc = .ok (.ifnonnull o, 3)) (pn : Nat) (hp : pc + 3 = pn)
    (hr : OwnEnds p e below G (T.setTop (mkF m pn Ls st))) : OwnEnds p e below G (T.setTop (mkF m pc Ls (.null :: st))) := by
  subst hp; exact own_st (fun _ q => XS.ifnonnullNo X.here C.1 rfl (hb C.2.2.2.1 hd) rfl q) hr
theorem own_acmpeq (X : Stand p l e R s m args below meth c T locs cells slots) (C : OwnCx p s m meth c Z y bs maxL rt) {a b : Addr} {o : Int} (hd : decode bs pc = .ok (.if_acmp .eq o, 3)) (pn pc' : Nat) (hpn : pc + 3 = pn) (ho : 0 ≤ (pc : Int) + o) (hp : ((pc : Int) + o).toNat = pc')
    (hy : a = b → OwnEnds p e below G (T.setTop (mkF m pc' Ls st))) (hn : a ≠ b → OwnEnds p e below G (T.setTop (mkF m pn Ls st))) : OwnEnds p e below G (T.setTop (mkF m pc Ls (.ref b :: .ref a :: st))) := by
  subst hpn
  by_cases k : a = b
  · exact own_st (fun _ q => XS.acmpYes X.here C.1 rfl rfl (hb C.2.2.2.1 hd) rfl (by simp [if_acmp.holds, k]) ho hp q) (hy k)
  · exact own_st (fun _ q => XS.acmpNo X.here C.1 rfl (hb C.2.2.2.1 hd) rfl (by simp [if_acmp.holds, k]) q) (hn k)
theorem own_acmpne (X : Stand p l e R s m args below meth c T locs cells slots) (C : OwnCx p s m meth c Z y bs maxL rt) {a b : Addr} {o : Int} (hd : decode bs pc = .ok (.if_acmp .ne o, 3)) (pn pc' : Nat) (hpn : pc + 3 = pn) (ho : 0 ≤ (pc : Int) + o) (hp : ((pc : Int) + o).toNat = pc')
    (hy : a ≠ b → OwnEnds p e below G (T.setTop (mkF m pc' Ls st))) (hn : a = b → OwnEnds p e below G (T.setTop (mkF m pn Ls st))) : OwnEnds p e below G (T.setTop (mkF m pc Ls (.ref b :: .ref a :: st))) := by
  subst hpn
  by_cases k : a = b
  · exact own_st (fun _ q => XS.acmpNo X.here C.1 rfl (hb C.2.2.2.1 hd) rfl (by simp [if_acmp.holds, k]) q) (hn k)
  · exact own_st (fun _ q => XS.acmpYes X.here C.1 rfl rfl (hb C.2.2.2.1 hd) rfl (by simp [if_acmp.holds, k]) ho hp q) (hy k)
theorem own_leave (X : Stand p l e R s m args below meth c T locs cells slots) (C : OwnCx p s m meth c Z y bs maxL rt) (v : Option Value) (hv : meth.sig.returnType = none → v = none) (hce : cells ≤ ce) (hsl : slots ≤ sl) (hQ : Q v T.heap locs) {S : State}
    (k : ∀ fs, (∀ (f : JFrame) (acts : List Action), f.method = m → f.locked = none → f.entered = [] → (doReturn e (T.setTop f) acts v).1 = T.setFrames fs) → Steps p.tables e below S (T.setFrames fs)) : OwnEnds p e below (OwnG s ce sl Q) S := by
  obtain ⟨fs, hr, hrun, hended, hW, hsame⟩ := X.leave (v := v) hv C.2.2.2.2.2.2.1
  exact ⟨_, _, k fs hr, hrun, hended, _, _, rfl, hQ, ⟨_, rfl⟩, hW, hsame.mono hce hsl⟩
theorem own_return (X : Stand p l e R s m args below meth c T locs cells slots) (C : OwnCx p s m meth c Z y bs maxL rt) (hrt : rt = none) (hd : decode bs pc = .ok (.return_, 1)) (hce : cells ≤ ce) (hsl : slots ≤ sl) (hQ : Q none T.heap locs) : OwnEnds p e below (OwnG s ce sl Q) (T.setTop (mkF m pc Ls [])) := by
  subst hrt
  exact own_leave X C none (fun _ => rfl) hce hsl hQ fun fs hr => X.returnOut C.1 C.2.2.2.2.2.1 (hb C.2.2.2.1 hd) hr
theorem own_iretN (X : Stand p l e R s m args below meth c T locs cells slots) (C : OwnCx p s m meth c Z y bs maxL rt) {z : Int32} (t : FieldType) (hrt : rt = some t) (ht : t = .boolean ∨ t = .byte ∨ t = .char ∨ t = .short) (hd : decode bs pc = .ok (.ireturn, 1)) (hce : cells ≤ ce) (hsl : slots ≤ sl) (w : Int32) (hw : nar t z = w) (hQ : Q (some (.int w)) T.heap locs) : OwnEnds p e below (OwnG s ce sl Q) (T.setTop (mkF m pc Ls (.int z :: st))) := by
  subst hrt hw
  exact own_leave X C (some (.int (nar t z))) (fun q => by rw [C.2.2.2.2.2.1] at q; cases q) hce hsl hQ fun fs hr => retN X C.1 C.2.2.2.2.2.1 ht (hb C.2.2.2.1 hd) hr
theorem own_ireturn (X : Stand p l e R s m args below meth c T locs cells slots) (C : OwnCx p s m meth c Z y bs maxL rt) {z : Int32} (hrt : rt = some .int) (hd : decode bs pc = .ok (.ireturn, 1)) (hce : cells ≤ ce) (hsl : slots ≤ sl) (hQ : Q (some (.int z)) T.heap locs) : OwnEnds p e below (OwnG s ce sl Q) (T.setTop (mkF m pc Ls (.int z :: st))) := by
  subst hrt
  exact own_leave X C (some (.int z)) (fun q => by rw [C.2.2.2.2.2.1] at q; cases q) hce hsl hQ fun fs hr => retOut X C.1 C.2.2.2.2.2.1 rfl (Or.inl ⟨rfl, Or.inl rfl, z, rfl⟩) (hb C.2.2.2.1 hd) hr
theorem own_lreturn (X : Stand p l e R s m args below meth c T locs cells slots) (C : OwnCx p s m meth c Z y bs maxL rt) {z : Int64} (hrt : rt = some .long) (hd : decode bs pc = .ok (.lreturn, 1)) (hce : cells ≤ ce) (hsl : slots ≤ sl) (hQ : Q (some (.long z)) T.heap locs) : OwnEnds p e below (OwnG s ce sl Q) (T.setTop (mkF m pc Ls (.long z :: st))) := by
  subst hrt
  exact own_leave X C (some (.long z)) (fun q => by rw [C.2.2.2.2.2.1] at q; cases q) hce hsl hQ fun fs hr => retOut X C.1 C.2.2.2.2.2.1 rfl (Or.inr (Or.inl ⟨rfl, rfl, z, rfl⟩)) (hb C.2.2.2.1 hd) hr
theorem own_areturn (X : Stand p l e R s m args below meth c T locs cells slots) (C : OwnCx p s m meth c Z y bs maxL rt) {z : Value} (t : FieldType) (hrt : rt = some t) (ht : t.isReference = true) (hz : z.isRef = true) (hn : narrow t z = z) (hd : decode bs pc = .ok (.areturn, 1)) (hce : cells ≤ ce) (hsl : slots ≤ sl) (hQ : Q (some z) T.heap locs) : OwnEnds p e below (OwnG s ce sl Q) (T.setTop (mkF m pc Ls (z :: st))) := by
  subst hrt
  exact own_leave X C (some z) (fun q => by rw [C.2.2.2.2.2.1] at q; cases q) hce hsl hQ fun fs hr => retOut X C.1 C.2.2.2.2.2.1 hn (Or.inr (Or.inr (Or.inr (Or.inr ⟨rfl, ht, hz⟩)))) (hb C.2.2.2.1 hd) hr
theorem own_callS (X : Stand p l e R s m args below meth c T locs cells slots) (C : OwnCx p s m meth c Z y bs maxL rt) {idx : Nat} {y' : MethodName} {bs' : ByteArray} {maxL' : Nat} {rt' : Option FieldType} {rm : Room} {as' : Array Value} {Q' : Option Value → Heap → List Loc → Prop}
    (w1 : (Jvm.Cond.methodLink y.cls idx y').before a0 Z = true) (w2 : (Jvm.Cond.static y').before a0 Z = true) (w3 : (Jvm.Cond.initialized y'.cls).before a0 Z = true) (w4 : (Jvm.Cond.code y' bs' maxL' rt').before a0 Z = true) (hy : y'.cls ≠ "java/lang/invoke/MethodHandle" ∧ y'.cls ≠ "java/lang/invoke/VarHandle")
    (hM : OwnMet l Z y' bs' maxL' rt' [] rm as' h Q') (eT : T.heap = h) {ps : List FieldType} {r : Option FieldType} (hpd : parseMethodDescriptor y'.desc = some ⟨ps, r⟩) (argsL : List Value) (has : argsL.toArray = as') (hlen : argsL.length = ps.length) (hst : st = argsL.reverse ++ rest) (hsz : Ls.size = maxL)
    (W : Nat) (hW : (rest.map fun v => v.category).sum = W) (hf : rm.frames + 1 ≤ R.frames) (hlo : W + (maxL' + 11) + rm.locals ≤ R.locals) (hce : cells + rm.cells ≤ R.cells) (hsl : slots + rm.slots ≤ R.slots) (hd : decode bs pc = .ok (.invokestatic idx, 3)) (pc' : Nat) (hp : pc + 3 = pc')
    (hr : ∀ T' L v, Stand p l e R s m args below meth c T' (locs ++ L) (cells + rm.cells) (slots + rm.slots) → Q' v T'.heap L → OwnEnds p e below G (T'.setTop (mkF m pc' Ls (v.toList ++ rest)))) : OwnEnds p e below G (T.setTop (mkF m pc Ls st)) := by
  subst hp has hW
  obtain ⟨v, _, ⟨T', L, k, n⟩, -, X', ⟨L', hQ, l1, l2, l3⟩, stp⟩ := Jvm.LawKit.callS X C.1 C.2.2.1 (mvT C.2.1 w1) (mvT C.2.1 w2) (mvT C.2.1 w3) (mvT C.2.1 w4) hy (backOf (len := 3) (W := (rest.map fun v => v.category).sum) hM C.2.1 w4 w3 hf hlo) (g := mkF m pc Ls st) rfl (by rw [C.2.2.2.2.1]; exact hsz) (argsL := argsL) (rest := rest) (lenOf hpd hlen) hst (by show 2 * 0 + _ ≤ _; omega) (hb C.2.2.2.1 hd) (fun _ _ => ⟨rfl, eT, hce, hsl⟩)
  dsimp only [Pt.U, Pt.locs, Pt.cells, Pt.slots] at X' l1 l2 l3 stp hQ
  subst l1 l2 l3
  exact own_st stp (hr T' L' v X' hQ)
/-- a callee that returns w and leaves the heap alone -/
def OwnPure (w : Value) (h : Heap) : Option Value → Heap → List Loc → Prop := fun v h' L => v = some w ∧ h' = h ∧ L = []
theorem own_conv {ws : List Jvm.Cond} {rm : Room} {as' : Array Value} {w w' : Value} (H : OwnMet l Z y bs maxL rt ws rm as' h (OwnPure w h)) (q : w = w') : OwnMet l Z y bs maxL rt ws rm as' h (OwnPure w' h) := q ▸ H
theorem own_callP (X : Stand p l e R s m args below meth c T locs cells slots) (C : OwnCx p s m meth c Z y bs maxL rt) {idx : Nat} {y' : MethodName} {bs' : ByteArray} {maxL' : Nat} {rt' : Option FieldType} {rm : Room} {as' : Array Value} {w : Value}
    (w1 : (Jvm.Cond.methodLink y.cls idx y').before a0 Z = true) (w2 : (Jvm.Cond.static y').before a0 Z = true) (w3 : (Jvm.Cond.initialized y'.cls).before a0 Z = true) (w4 : (Jvm.Cond.code y' bs' maxL' rt').before a0 Z = true) (hy : y'.cls ≠ "java/lang/invoke/MethodHandle" ∧ y'.cls ≠ "java/lang/invoke/VarHandle")
    (hM : OwnMet l Z y' bs' maxL' rt' [] rm as' h (OwnPure w h)) (eT : T.heap = h) {ps : List FieldType} {r : Option FieldType} (hpd : parseMethodDescriptor y'.desc = some ⟨ps, r⟩) (argsL : List Value) (has : argsL.toArray = as') (hlen : argsL.length = ps.length) (hst : st = argsL.reverse ++ rest) (hsz : Ls.size = maxL)
    (W : Nat) (hW : (rest.map fun v => v.category).sum = W) (hf : rm.frames + 1 ≤ R.frames) (hlo : W + (maxL' + 11) + rm.locals ≤ R.locals) (hce : rm.cells = 0) (hsl : rm.slots = 0) (hc0 : cells ≤ R.cells) (hs0 : slots ≤ R.slots) (hd : decode bs pc = .ok (.invokestatic idx, 3)) (pc' : Nat) (hp : pc + 3 = pc')
    (hr : ∀ T', Stand p l e R s m args below meth c T' locs cells slots → T'.heap = h → OwnEnds p e below G (T'.setTop (mkF m pc' Ls (w :: rest)))) : OwnEnds p e below G (T.setTop (mkF m pc Ls st)) := by
  refine own_callS X C w1 w2 w3 w4 hy hM eT hpd argsL has hlen hst hsz W hW hf hlo (by omega) (by omega) hd pc' hp ?_
  rintro T' L v X' ⟨rfl, e, rfl⟩
  rw [List.append_nil, hce, hsl] at X'
  exact hr T' X' e
/-- a callee that leaves the heap alone and returns a value of which Pw says something -/
def OwnSome (Pw : Value → Prop) (h : Heap) : Option Value → Heap → List Loc → Prop := fun v h' L => (∃ w, v = some w ∧ Pw w) ∧ h' = h ∧ L = []
theorem own_callE (X : Stand p l e R s m args below meth c T locs cells slots) (C : OwnCx p s m meth c Z y bs maxL rt) {idx : Nat} {y' : MethodName} {bs' : ByteArray} {maxL' : Nat} {rt' : Option FieldType} {rm : Room} {as' : Array Value} {Pw : Value → Prop}
    (w1 : (Jvm.Cond.methodLink y.cls idx y').before a0 Z = true) (w2 : (Jvm.Cond.static y').before a0 Z = true) (w3 : (Jvm.Cond.initialized y'.cls).before a0 Z = true) (w4 : (Jvm.Cond.code y' bs' maxL' rt').before a0 Z = true) (hy : y'.cls ≠ "java/lang/invoke/MethodHandle" ∧ y'.cls ≠ "java/lang/invoke/VarHandle")
    (hM : OwnMet l Z y' bs' maxL' rt' [] rm as' h (OwnSome Pw h)) (eT : T.heap = h) {ps : List FieldType} {r : Option FieldType} (hpd : parseMethodDescriptor y'.desc = some ⟨ps, r⟩) (argsL : List Value) (has : argsL.toArray = as') (hlen : argsL.length = ps.length) (hst : st = argsL.reverse ++ rest) (hsz : Ls.size = maxL)
    (W : Nat) (hW : (rest.map fun v => v.category).sum = W) (hf : rm.frames + 1 ≤ R.frames) (hlo : W + (maxL' + 11) + rm.locals ≤ R.locals) (hce : rm.cells = 0) (hsl : rm.slots = 0) (hc0 : cells ≤ R.cells) (hs0 : slots ≤ R.slots) (hd : decode bs pc = .ok (.invokestatic idx, 3)) (pc' : Nat) (hp : pc + 3 = pc')
    (hr : ∀ T' w, Pw w → Stand p l e R s m args below meth c T' locs cells slots → T'.heap = h → OwnEnds p e below G (T'.setTop (mkF m pc' Ls (w :: rest)))) : OwnEnds p e below G (T.setTop (mkF m pc Ls st)) := by
  refine own_callS X C w1 w2 w3 w4 hy hM eT hpd argsL has hlen hst hsz W hW hf hlo (by omega) (by omega) hd pc' hp ?_
  rintro T' L v X' ⟨⟨w, rfl, hw⟩, e, rfl⟩
  rw [List.append_nil, hce, hsl] at X'
  exact hr T' w hw X' e
end OwnLayer
section OwnHeap
variable {p : Program} {l : Launch} {e : Env} {R : Room} {s : State} {m : MethodId} {args : Array Value} {below : List Frame} {meth : Method} {c : Code} {T : State} {locs : List Loc} {cells slots : Nat} {Z : State} {y : MethodName} {bs : ByteArray} {maxL : Nat} {rt : Option FieldType} {ce sl : Nat} {Q : Option Value → Heap → List Loc → Prop} {G : Outcome → State → Prop} {pc : Nat} {Ls : Array Slot} {st rest : List Value} {h h' : Heap} {a0 : Array Value} {a : Addr}
/-- an array: its length and what lies at each place -/
def OwnAr (Z : State) (h : Heap) (a : Addr) (ty : FieldType) (n : Nat) (f : Nat → Value) : Prop := ∃ cl : Cell, Arr Z h a cl ty ∧ cl.slots.size = n ∧ ∀ i, i < n → cl.slots[i]? = some (f i)
theorem OwnAr.lt {ty : FieldType} {n : Nat} {f : Nat → Value} (F : OwnAr Z h a ty n f) : a < h.size := by obtain ⟨cl, A, -⟩ := F; exact A.lt
theorem OwnAr.ext {ty : FieldType} {n : Nat} {f : Nat → Value} (F : OwnAr Z h a ty n f) (E : Ext h h') : OwnAr Z h' a ty n f := by obtain ⟨cl, A, r⟩ := F; exact ⟨cl, A.ext E, r⟩
theorem OwnAr.other {ty : FieldType} {n : Nat} {f : Nat → Value} {b : Addr} {sl : Nat} {v : Value} (F : OwnAr Z h a ty n f) (W : Wr h h' b sl v) (q : a ≠ b) : OwnAr Z h' a ty n f := by obtain ⟨cl, A, r⟩ := F; exact ⟨cl, A.other W q, r⟩
theorem OwnAr.keep {ty : FieldType} {n : Nat} {f : Nat → Value} {ws : List Addr} (F : OwnAr Z h a ty n f) (K : Keep h h' ws) (q : a ∉ ws) : OwnAr Z h' a ty n f := by obtain ⟨cl, A, r⟩ := F; exact ⟨cl, ⟨K.2.1 a cl A.1 q, A.2⟩, r⟩
theorem OwnAr.eqv {ty : FieldType} {n : Nat} {f g : Nat → Value} (F : OwnAr Z h a ty n f) (q : ∀ i, i < n → f i = g i) : OwnAr Z h a ty n g := by obtain ⟨cl, A, S, r⟩ := F; exact ⟨cl, A, S, fun i hi => by rw [r i hi, q i hi]⟩
theorem OwnAr.set {ty : FieldType} {n : Nat} {f : Nat → Value} {k : Nat} {v : Value} (F : OwnAr Z h a ty n f) (W : Wr h h' a k v) : OwnAr Z h' a ty n (fun i => if i = k then v else f i) := by
  obtain ⟨cl, A, S, r⟩ := F
  obtain ⟨cl', w1, w2, w3, w4⟩ := id W
  cases A.1.symm.trans w1
  refine ⟨cl.setSlot k v, A.same W, by rw [sz_set]; exact S, fun i hi => ?_⟩
  by_cases q : i = k
  · subst q; simp [Cell.setSlot, w3]
  · simp [Cell.setSlot, q, Array.getElem?_setIfInBounds_ne (Ne.symm q), r i hi]
theorem OwnAr.new {ty : FieldType} {n : Int32} {cA : ClassId} (A : Arr Z h a (newA cA ty n) ty) : OwnAr Z h a ty n.toNatClampNeg (fun _ => defaultValue ty) := ⟨_, A, sz_new _ _ _, fun i hi => by simp [newA, hi]⟩
theorem own_fr1 {k : Nat} {L : List Loc} {a : Addr} {sl : Nat} (N : Fr k L) (q : k ≤ a) : Fr k (L ++ [⟨a, sl⟩]) := N.app fun y hy => by cases List.mem_singleton.mp hy; exact q
theorem own_stak {C n d : String} {v : Value} (F : Sta Z h C n d v) (K : Keep h h' []) : Sta Z h' C n d v := by
  obtain ⟨cf, i, k, f, st, cell, h1, h2, h3, h4, h5, r⟩ := F
  exact ⟨cf, i, k, f, st, cell, h1, h2, h3, h4, K.2.1 _ _ h5 nin0, r⟩
theorem own_arl {a : Nat} {ty : FieldType} {n : Nat} {f : Nat → Value} (F : OwnAr Z h a ty n f) : a < h.size := F.lt
theorem own_exl {a : Nat} {K : String} (F : Exa Z h a K) : a < h.size := F.lt
theorem own_iteI {q : Prop} [Decidable q] {a b : Int32} : (if q then Value.int a else Value.int b) = Value.int (if q then a else b) := by split <;> rfl
theorem own_iteL {q : Prop} [Decidable q] {a b : Int64} : (if q then Value.long a else Value.long b) = Value.long (if q then a else b) := by split <;> rfl
theorem own_ne {x y : Nat} (q : x ≠ y) : @Ne Addr x y := q
theorem own_in {j : Int32} {n : Nat} (h0 : 0 ≤ j.toInt) (h1 : j.toInt < n) : ¬ (j < 0 ∨ n ≤ j.toNatClampNeg) := by
  rintro (q | q)
  · rw [Int32.lt_iff_toInt_lt] at q; have : (0 : Int32).toInt = 0 := rfl; omega
  · have e : j.toNatClampNeg = j.toInt.toNat := rfl
    omega
theorem own_len {n : Nat} (h : n < 2147483648) : (n.toInt32).toInt = n := by
  show (Int32.ofNat n).toInt = _
  rw [Int32.toInt_ofNat_of_lt (by omega)]
theorem own_iastore (X : Stand p l e R s m args below meth c T locs cells slots) (C : OwnCx p s m meth c Z y bs maxL rt) {v : Int32} {j : Int32} {n : Nat} {f : Nat → Value} (eT : T.heap = h) (F : OwnAr Z h a .int n f) (h0 : 0 ≤ j.toInt) (h1 : j.toInt < n) (hd : decode bs pc = .ok (.iastore, 1)) (pc' : Nat) (hp : pc + 1 = pc')
    (hr : ∀ T' h', Stand p l e R s m args below meth c T' (locs ++ [⟨a, j.toInt.toNat⟩]) cells slots → T'.heap = h' → Wr h h' a j.toInt.toNat (.int v) → OwnEnds p e below G (T'.setTop (mkF m pc' Ls st))) : OwnEnds p e below G (T.setTop (mkF m pc Ls ((.int v) :: .int j :: .ref a :: st))) := by
  subst hp
  obtain ⟨cl, A, S, r⟩ := F
  obtain ⟨T', h', X', e', W, stp⟩ := stI X C.1 C.2.1 eT A (j := j) (x := v) (by rw [S]; exact own_in h0 h1) (g := mkF m pc Ls _) rfl rfl (hb C.2.2.2.1 hd)
  exact own_st stp (hr T' h' X' e' W)
theorem own_lastore (X : Stand p l e R s m args below meth c T locs cells slots) (C : OwnCx p s m meth c Z y bs maxL rt) {v : Int64} {j : Int32} {n : Nat} {f : Nat → Value} (eT : T.heap = h) (F : OwnAr Z h a .long n f) (h0 : 0 ≤ j.toInt) (h1 : j.toInt < n) (hd : decode bs pc = .ok (.lastore, 1)) (pc' : Nat) (hp : pc + 1 = pc')
    (hr : ∀ T' h', Stand p l e R s m args below meth c T' (locs ++ [⟨a, j.toInt.toNat⟩]) cells slots → T'.heap = h' → Wr h h' a j.toInt.toNat (.long v) → OwnEnds p e below G (T'.setTop (mkF m pc' Ls st))) : OwnEnds p e below G (T.setTop (mkF m pc Ls ((.long v) :: .int j :: .ref a :: st))) := by
  subst hp
  obtain ⟨cl, A, S, r⟩ := F
  obtain ⟨T', h', X', e', W, stp⟩ := stJ X C.1 C.2.1 eT A (j := j) (x := v) (by rw [S]; exact own_in h0 h1) (g := mkF m pc Ls _) rfl rfl (hb C.2.2.2.1 hd)
  exact own_st stp (hr T' h' X' e' W)
theorem own_bastoreB (X : Stand p l e R s m args below meth c T locs cells slots) (C : OwnCx p s m meth c Z y bs maxL rt) {v : Int32} {j : Int32} {n : Nat} {f : Nat → Value} (eT : T.heap = h) (F : OwnAr Z h a .byte n f) (h0 : 0 ≤ j.toInt) (h1 : j.toInt < n) (hd : decode bs pc = .ok (.bastore, 1)) (pc' : Nat) (hp : pc + 1 = pc') (w : Int32) (hw : v.toInt8.toInt32 = w)
    (hr : ∀ T' h', Stand p l e R s m args below meth c T' (locs ++ [⟨a, j.toInt.toNat⟩]) cells slots → T'.heap = h' → Wr h h' a j.toInt.toNat (.int w) → OwnEnds p e below G (T'.setTop (mkF m pc' Ls st))) : OwnEnds p e below G (T.setTop (mkF m pc Ls (.int v :: .int j :: .ref a :: st))) := by
  subst hp hw
  obtain ⟨cl, A, S, r⟩ := F
  obtain ⟨T', h', X', e', W, stp⟩ := stB X C.1 C.2.1 eT A (j := j) (x := v) (by rw [S]; exact own_in h0 h1) (g := mkF m pc Ls _) rfl rfl (hb C.2.2.2.1 hd)
  exact own_st stp (hr T' h' X' e' W)
theorem own_castore (X : Stand p l e R s m args below meth c T locs cells slots) (C : OwnCx p s m meth c Z y bs maxL rt) {v : Int32} {j : Int32} {n : Nat} {f : Nat → Value} (eT : T.heap = h) (F : OwnAr Z h a .char n f) (h0 : 0 ≤ j.toInt) (h1 : j.toInt < n) (hd : decode bs pc = .ok (.castore, 1)) (pc' : Nat) (hp : pc + 1 = pc') (w : Int32) (hw : nar .char v = w)
    (hr : ∀ T' h', Stand p l e R s m args below meth c T' (locs ++ [⟨a, j.toInt.toNat⟩]) cells slots → T'.heap = h' → Wr h h' a j.toInt.toNat (.int w) → OwnEnds p e below G (T'.setTop (mkF m pc' Ls st))) : OwnEnds p e below G (T.setTop (mkF m pc Ls (.int v :: .int j :: .ref a :: st))) := by
  subst hp hw
  obtain ⟨cl, A, S, r⟩ := F
  obtain ⟨T', h', X', e', W, stp⟩ := stC X C.1 C.2.1 eT A (j := j) (x := v) (by rw [S]; exact own_in h0 h1) (g := mkF m pc Ls _) rfl rfl (hb C.2.2.2.1 hd)
  exact own_st stp (hr T' h' X' e' W)
theorem own_bastoreZ (X : Stand p l e R s m args below meth c T locs cells slots) (C : OwnCx p s m meth c Z y bs maxL rt) {v : Int32} {j : Int32} {n : Nat} {f : Nat → Value} (eT : T.heap = h) (F : OwnAr Z h a .boolean n f) (h0 : 0 ≤ j.toInt) (h1 : j.toInt < n) (hd : decode bs pc = .ok (.bastore, 1)) (pc' : Nat) (hp : pc + 1 = pc') (w : Int32) (hw : nar .boolean v = w)
    (hr : ∀ T' h', Stand p l e R s m args below meth c T' (locs ++ [⟨a, j.toInt.toNat⟩]) cells slots → T'.heap = h' → Wr h h' a j.toInt.toNat (.int w) → OwnEnds p e below G (T'.setTop (mkF m pc' Ls st))) : OwnEnds p e below G (T.setTop (mkF m pc Ls (.int v :: .int j :: .ref a :: st))) := by
  subst hp hw
  obtain ⟨cl, A, S, r⟩ := F
  obtain ⟨T', h', X', e', W, stp⟩ := stZ X C.1 C.2.1 eT A (j := j) (x := v) (by rw [S]; exact own_in h0 h1) (g := mkF m pc Ls _) rfl rfl (hb C.2.2.2.1 hd)
  exact own_st stp (hr T' h' X' e' W)
theorem own_iaload (X : Stand p l e R s m args below meth c T locs cells slots) (C : OwnCx p s m meth c Z y bs maxL rt) {j : Int32} {n : Nat} {f : Nat → Value} (eT : T.heap = h) (F : OwnAr Z h a .int n f) (h0 : 0 ≤ j.toInt) (h1 : j.toInt < n) (hd : decode bs pc = .ok (.iaload, 1)) (pc' : Nat) (hp : pc + 1 = pc') (v : Value) (hv : f j.toInt.toNat = v)
    (hr : OwnEnds p e below G (T.setTop (mkF m pc' Ls (v :: st)))) : OwnEnds p e below G (T.setTop (mkF m pc Ls (.int j :: .ref a :: st))) := by
  subst hp hv
  obtain ⟨cl, A, S, r⟩ := F
  exact own_st (fun _ q => X.iaload C.1 (j := j) (v := f j.toInt.toNat) (by rw [eT]; exact A.1) (State.isArrayOf_alike C.2.1.alike A.2.1) A.2.2 (by rw [S]; exact own_in h0 h1) (show cl.slots[j.toNatClampNeg]? = _ from r j.toInt.toNat (by omega)) (g := mkF m pc Ls _) rfl rfl (hb C.2.2.2.1 hd) _ q) hr
theorem own_laload (X : Stand p l e R s m args below meth c T locs cells slots) (C : OwnCx p s m meth c Z y bs maxL rt) {j : Int32} {n : Nat} {f : Nat → Value} (eT : T.heap = h) (F : OwnAr Z h a .long n f) (h0 : 0 ≤ j.toInt) (h1 : j.toInt < n) (hd : decode bs pc = .ok (.laload, 1)) (pc' : Nat) (hp : pc + 1 = pc') (v : Value) (hv : f j.toInt.toNat = v)
    (hr : OwnEnds p e below G (T.setTop (mkF m pc' Ls (v :: st)))) : OwnEnds p e below G (T.setTop (mkF m pc Ls (.int j :: .ref a :: st))) := by
  subst hp hv
  obtain ⟨cl, A, S, r⟩ := F
  exact own_st (fun _ q => X.laload C.1 (j := j) (v := f j.toInt.toNat) (by rw [eT]; exact A.1) (State.isArrayOf_alike C.2.1.alike A.2.1) A.2.2 (by rw [S]; exact own_in h0 h1) (show cl.slots[j.toNatClampNeg]? = _ from r j.toInt.toNat (by omega)) (g := mkF m pc Ls _) rfl rfl (hb C.2.2.2.1 hd) _ q) hr
theorem own_caload (X : Stand p l e R s m args below meth c T locs cells slots) (C : OwnCx p s m meth c Z y bs maxL rt) {j : Int32} {n : Nat} {f : Nat → Value} (eT : T.heap = h) (F : OwnAr Z h a .char n f) (h0 : 0 ≤ j.toInt) (h1 : j.toInt < n) (hd : decode bs pc = .ok (.caload, 1)) (pc' : Nat) (hp : pc + 1 = pc') (v : Value) (hv : f j.toInt.toNat = v)
    (hr : OwnEnds p e below G (T.setTop (mkF m pc' Ls (v :: st)))) : OwnEnds p e below G (T.setTop (mkF m pc Ls (.int j :: .ref a :: st))) := by
  subst hp hv
  obtain ⟨cl, A, S, r⟩ := F
  exact own_st (fun _ q => X.caload C.1 (j := j) (v := f j.toInt.toNat) (by rw [eT]; exact A.1) (State.isArrayOf_alike C.2.1.alike A.2.1) A.2.2 (by rw [S]; exact own_in h0 h1) (show cl.slots[j.toNatClampNeg]? = _ from r j.toInt.toNat (by omega)) (g := mkF m pc Ls _) rfl rfl (hb C.2.2.2.1 hd) _ q) hr
theorem own_baloadB (X : Stand p l e R s m args below meth c T locs cells slots) (C : OwnCx p s m meth c Z y bs maxL rt) {j : Int32} {n : Nat} {f : Nat → Value} (eT : T.heap = h) (F : OwnAr Z h a .byte n f) (h0 : 0 ≤ j.toInt) (h1 : j.toInt < n) (hd : decode bs pc = .ok (.baload, 1)) (pc' : Nat) (hp : pc + 1 = pc') (v : Value) (hv : f j.toInt.toNat = v)
    (hr : OwnEnds p e below G (T.setTop (mkF m pc' Ls (v :: st)))) : OwnEnds p e below G (T.setTop (mkF m pc Ls (.int j :: .ref a :: st))) := by
  subst hp hv
  obtain ⟨cl, A, S, r⟩ := F
  exact own_st (fun _ q => X.baloadBytes C.1 (j := j) (v := f j.toInt.toNat) (by rw [eT]; exact A.1) (State.isArrayOf_alike C.2.1.alike A.2.1) A.2.2 (by rw [S]; exact own_in h0 h1) (show cl.slots[j.toNatClampNeg]? = _ from r j.toInt.toNat (by omega)) (g := mkF m pc Ls _) rfl rfl (hb C.2.2.2.1 hd) _ q) hr
theorem own_baloadZ (X : Stand p l e R s m args below meth c T locs cells slots) (C : OwnCx p s m meth c Z y bs maxL rt) {j : Int32} {n : Nat} {f : Nat → Value} (eT : T.heap = h) (F : OwnAr Z h a .boolean n f) (h0 : 0 ≤ j.toInt) (h1 : j.toInt < n) (hd : decode bs pc = .ok (.baload, 1)) (pc' : Nat) (hp : pc + 1 = pc') (v : Value) (hv : f j.toInt.toNat = v)
    (hr : OwnEnds p e below G (T.setTop (mkF m pc' Ls (v :: st)))) : OwnEnds p e below G (T.setTop (mkF m pc Ls (.int j :: .ref a :: st))) := by
  subst hp hv
  obtain ⟨cl, A, S, r⟩ := F
  exact own_st (fun _ q => X.baloadBooleans C.1 (j := j) (v := f j.toInt.toNat) (by rw [eT]; exact A.1) (State.isArrayOf_alike C.2.1.alike A.2.1) A.2.2 (by rw [S]; exact own_in h0 h1) (show cl.slots[j.toNatClampNeg]? = _ from r j.toInt.toNat (by omega)) (g := mkF m pc Ls _) rfl rfl (hb C.2.2.2.1 hd) _ q) hr
theorem own_arraylength (X : Stand p l e R s m args below meth c T locs cells slots) (C : OwnCx p s m meth c Z y bs maxL rt) {ty : FieldType} {n : Nat} {f : Nat → Value} (eT : T.heap = h) (F : OwnAr Z h a ty n f) (hd : decode bs pc = .ok (.arraylength, 1)) (pc' : Nat) (hp : pc + 1 = pc') (hn : n < 2147483648)
    (hr : ∀ z : Int32, z.toInt = n → z = n.toInt32 → OwnEnds p e below G (T.setTop (mkF m pc' Ls (.int z :: st)))) : OwnEnds p e below G (T.setTop (mkF m pc Ls (.ref a :: st))) := by
  subst hp
  obtain ⟨cl, A, S, r⟩ := F
  have k := hr n.toInt32 (own_len hn) rfl
  rw [← S] at k
  exact own_st (fun _ q => X.arraylength C.1 (by rw [eT]; exact A.1) (State.isArrayOf_alike C.2.1.alike A.2.1) (g := mkF m pc Ls _) rfl rfl (hb C.2.2.2.1 hd) _ q) k
theorem own_newarray (X : Stand p l e R s m args below meth c T locs cells slots) (C : OwnCx p s m meth c Z y bs maxL rt) {aty : ArrayType} {n : Int32} (w : (Jvm.Cond.arrayClass (newarray.typeOf aty)).before a0 Z = true) (eT : T.heap = h) (hd : decode bs pc = .ok (.newarray aty, 2)) (pc' : Nat) (hp : pc + 2 = pc') (h0 : 0 ≤ n.toInt) (cap : Nat) (hcap : n.toInt ≤ cap) (hbig : cap * 8 ≤ 536870912) (hc : cells + 1 ≤ R.cells) (hl : slots + cap ≤ R.slots)
    (hr : ∀ T' h' b, b = h.size → Stand p l e R s m args below meth c T' locs (cells + 1) (slots + cap) → T'.heap = h' → Ext h h' → OwnAr Z h' b (newarray.typeOf aty) n.toInt.toNat (fun _ => defaultValue (newarray.typeOf aty)) → OwnEnds p e below G (T'.setTop (mkF m pc' Ls (.ref b :: st)))) : OwnEnds p e below G (T.setTop (mkF m pc Ls (.int n :: st))) := by
  subst hp
  have hn0 : ¬ n < 0 := fun q => by rw [Int32.lt_iff_toInt_lt] at q; have : (0 : Int32).toInt = 0 := rfl; omega
  obtain ⟨T', h', cA, X', e', E', A, stp⟩ := newP X C.1 C.2.1 w eT (g := mkF m pc Ls (.int n :: st)) rfl (hb C.2.2.2.1 hd) rfl hn0 (cap := cap) (by show n.toInt.toNat ≤ cap; omega) hbig hc hl
  exact own_st stp (hr T' h' _ rfl X' e' E' (OwnAr.new A))
theorem own_new (X : Stand p l e R s m args below meth c T locs cells slots) (C : OwnCx p s m meth c Z y bs maxL rt) {idx n : Nat} {K : String} (w : (Jvm.Cond.classLink y.cls idx K).before a0 Z = true) (wi : (Jvm.Cond.instantiable K n).before a0 Z = true) (wz : (Jvm.Cond.initialized K).before a0 Z = true) (eT : T.heap = h) (hd : decode bs pc = .ok (.new idx, 3)) (pc' : Nat) (hp : pc + 3 = pc') (hc : cells + 1 ≤ R.cells) (hl : slots + n ≤ R.slots)
    (hr : ∀ T' h' b, b = h.size → Stand p l e R s m args below meth c T' locs (cells + 1) (slots + n) → T'.heap = h' → Ext h h' → Exa Z h' b K → (∀ {O nm d : String} {ty : FieldType}, Laid Z a0 K O nm d → parseFieldDescriptor d = some ty → Fld Z h' b O nm d (defaultValue ty)) → OwnEnds p e below G (T'.setTop (mkF m pc' Ls (.ref b :: st)))) : OwnEnds p e below G (T.setTop (mkF m pc Ls st)) := by
  subst hp
  obtain ⟨T', h', X', e', E', A, D, -, stp⟩ := newO X C.1 C.2.1 C.2.2.1 w wi wz eT (g := mkF m pc Ls st) rfl (hb C.2.2.2.1 hd) hc hl
  exact own_st stp (hr T' h' _ rfl X' e' E' A D)
theorem own_getfield (X : Stand p l e R s m args below meth c T locs cells slots) (C : OwnCx p s m meth c Z y bs maxL rt) {idx : Nat} {R0 O n d host : String} {v : Value} (w : (Jvm.Cond.fieldLink y.cls idx R0 n d).before a0 Z = true ∨ (Jvm.Cond.fieldLinkNest y.cls idx R0 n d host).before a0 Z = true) (via : Via Z R0 O n d) (eT : T.heap = h) (F : Fld Z h a O n d v) (hd : decode bs pc = .ok (.getfield idx, 3)) (pc' : Nat) (hp : pc + 3 = pc')
    (hr : ∀ T', Stand p l e R s m args below meth c T' locs cells slots → T'.heap = h → OwnEnds p e below G (T'.setTop (mkF m pc' Ls (v :: st)))) : OwnEnds p e below G (T.setTop (mkF m pc Ls (.ref a :: st))) := by
  subst hp
  obtain ⟨T', X', e', stp⟩ := getF X C.1 C.2.1 C.2.2.1 w via eT F (g := mkF m pc Ls _) rfl rfl (hb C.2.2.2.1 hd)
  exact own_st stp (hr T' X' e')
theorem own_getstatic (X : Stand p l e R s m args below meth c T locs cells slots) (C : OwnCx p s m meth c Z y bs maxL rt) {idx : Nat} {R0 O n d host : String} {v : Value} (w : (Jvm.Cond.fieldLink y.cls idx R0 n d).before a0 Z = true ∨ (Jvm.Cond.fieldLinkNest y.cls idx R0 n d host).before a0 Z = true) (via : Via Z R0 O n d) (eT : T.heap = h) (F : Sta Z h O n d v) (hd : decode bs pc = .ok (.getstatic idx, 3)) (pc' : Nat) (hp : pc + 3 = pc')
    (hr : ∀ T', Stand p l e R s m args below meth c T' locs cells slots → T'.heap = h → OwnEnds p e below G (T'.setTop (mkF m pc' Ls (v :: st)))) : OwnEnds p e below G (T.setTop (mkF m pc Ls st)) := by
  subst hp
  obtain ⟨T', X', e', stp⟩ := getS2 X C.1 C.2.1 C.2.2.1 w via eT F (g := mkF m pc Ls st) rfl (hb C.2.2.2.1 hd)
  exact own_st stp (hr T' X' e')
theorem own_putfield (X : Stand p l e R s m args below meth c T locs cells slots) (C : OwnCx p s m meth c Z y bs maxL rt) {idx kk : Nat} {R0 O n d host K : String} {ty : FieldType} {v old : Value} (w : (Jvm.Cond.fieldLink y.cls idx R0 n d).before a0 Z = true ∨ (Jvm.Cond.fieldLinkNest y.cls idx R0 n d host).before a0 Z = true) (via : Via Z R0 O n d) (eT : T.heap = h) (F : Fld Z h a O n d old) (E : Exa Z h a K) (L : (Jvm.Cond.lays K O n d).before a0 Z = true ∨ ((Jvm.Cond.laysFinal K O n d).before a0 Z = true ∧ y.cls = O ∧ y.name = "<init>")) (wi : (Jvm.Cond.instantiable K kk).before a0 Z = true)
    (hty : parseFieldDescriptor d = some ty) (hn : narrow ty v = v) (hf : fits ty v = true) (hd : decode bs pc = .ok (.putfield idx, 3)) (pc' : Nat) (hp : pc + 3 = pc')
    (hr : ∀ T' h', Stand p l e R s m args below meth c T' (locs ++ [⟨a, Jvm.RoadKit.slotOf Z O n d⟩]) cells slots → T'.heap = h' → Wr h h' a (Jvm.RoadKit.slotOf Z O n d) v → OwnEnds p e below G (T'.setTop (mkF m pc' Ls st))) : OwnEnds p e below G (T.setTop (mkF m pc Ls (v :: .ref a :: st))) := by
  subst hp
  obtain ⟨T', h', X', e', W, stp⟩ := putF X C.1 C.2.1 C.2.2.1 w via eT F E (L.imp id fun q => ⟨q.1, q.2.1, C.2.2.2.2.2.2.2.trans q.2.2⟩) wi hty hn hf (g := mkF m pc Ls _) rfl rfl (hb C.2.2.2.1 hd)
  exact own_st stp (hr T' h' X' e' W)
theorem own_putfieldN (X : Stand p l e R s m args below meth c T locs cells slots) (C : OwnCx p s m meth c Z y bs maxL rt) {idx kk : Nat} {R0 O n d K : String} {ty : FieldType} {v v' old : Value} (w : (Jvm.Cond.fieldLink y.cls idx R0 n d).before a0 Z = true) (via : Via Z R0 O n d) (eT : T.heap = h) (F : Fld Z h a O n d old) (E : Exa Z h a K) (L : (Jvm.Cond.lays K O n d).before a0 Z = true ∨ ((Jvm.Cond.laysFinal K O n d).before a0 Z = true ∧ y.cls = O ∧ y.name = "<init>")) (wi : (Jvm.Cond.instantiable K kk).before a0 Z = true)
    (hty : parseFieldDescriptor d = some ty) (hn : narrow ty v = v') (hf : fits ty v' = true) (hd : decode bs pc = .ok (.putfield idx, 3)) (pc' : Nat) (hp : pc + 3 = pc')
    (hr : ∀ T' h', Stand p l e R s m args below meth c T' (locs ++ [⟨a, Jvm.RoadKit.slotOf Z O n d⟩]) cells slots → T'.heap = h' → Wr h h' a (Jvm.RoadKit.slotOf Z O n d) v' → OwnEnds p e below G (T'.setTop (mkF m pc' Ls st))) : OwnEnds p e below G (T.setTop (mkF m pc Ls (v :: .ref a :: st))) := by
  subst hp
  obtain ⟨T', h', X', e', W, stp⟩ := putFN X C.1 C.2.1 C.2.2.1 w via eT F E (L.imp id fun q => ⟨q.1, q.2.1, C.2.2.2.2.2.2.2.trans q.2.2⟩) wi hty hn hf (g := mkF m pc Ls _) rfl rfl (hb C.2.2.2.1 hd)
  exact own_st stp (hr T' h' X' e' W)
theorem own_callI (X : Stand p l e R s m args below meth c T locs cells slots) (C : OwnCx p s m meth c Z y bs maxL rt) {idx : Nat} {y' : MethodName} {bs' : ByteArray} {maxL' : Nat} {rt' : Option FieldType} {rm : Room} {as' : Array Value} {Q' : Option Value → Heap → List Loc → Prop} (hrt' : rt' = none)
    (w1 : (Jvm.Cond.methodLink y.cls idx y').before a0 Z = true) (w2 : (Jvm.Cond.instanceMethod y').before a0 Z = true) (w3 : (Jvm.Cond.initialized y'.cls).before a0 Z = true) (w4 : (Jvm.Cond.code y' bs' maxL' rt').before a0 Z = true) (hy1 : y'.name = "<init>") (hy : y'.cls ≠ "java/lang/invoke/MethodHandle" ∧ y'.cls ≠ "java/lang/invoke/VarHandle")
    (hM : OwnMet l Z y' bs' maxL' rt' [] rm as' h Q') (eT : T.heap = h) {ps : List FieldType} {r : Option FieldType} (hpd : parseMethodDescriptor y'.desc = some ⟨ps, r⟩) (argsL : List Value) (has : (Value.ref a :: argsL).toArray = as') (hlen : argsL.length = ps.length) (hst : st = argsL.reverse ++ .ref a :: rest) (hsz : Ls.size = maxL)
    (W : Nat) (hW : (rest.map fun v => v.category).sum = W) (hf : rm.frames + 1 ≤ R.frames) (hlo : W + (maxL' + 11) + rm.locals ≤ R.locals) (hce : cells + rm.cells ≤ R.cells) (hsl : slots + rm.slots ≤ R.slots) (hd : decode bs pc = .ok (.invokespecial idx, 3)) (pc' : Nat) (hp : pc + 3 = pc')
    (hr : ∀ T' L v, Stand p l e R s m args below meth c T' (locs ++ L) (cells + rm.cells) (slots + rm.slots) → Q' v T'.heap L → OwnEnds p e below G (T'.setTop (mkF m pc' Ls (v.toList ++ rest)))) : OwnEnds p e below G (T.setTop (mkF m pc Ls st)) := by
  subst hp has hW hrt'
  obtain ⟨v, _, ⟨T', L, k, n⟩, -, X', ⟨L', hQ, l1, l2, l3⟩, stp⟩ := X.specialBack C.1 hy1 C.2.2.1 (mvT C.2.1 w1) (mvT C.2.1 w2) (mvT C.2.1 w4) hy (backOf (len := 3) (W := (rest.map fun v => v.category).sum) hM C.2.1 w4 w3 hf hlo) (g := mkF m pc Ls st) rfl (by rw [C.2.2.2.2.1]; exact hsz) (Steps.refl _) (a := a) (argsL := argsL) (rest := rest) (lenOf hpd hlen) hst (by show 2 * 0 + _ ≤ _; omega) (hb C.2.2.2.1 hd) (fun _ _ => ⟨rfl, eT, hce, hsl⟩)
  dsimp only [Pt.U, Pt.locs, Pt.cells, Pt.slots] at X' l1 l2 l3 stp hQ
  subst l1 l2 l3
  exact own_tr stp (hr T' L' v X' hQ)
theorem own_callV (X : Stand p l e R s m args below meth c T locs cells slots) (C : OwnCx p s m meth c Z y bs maxL rt) {idx : Nat} {K : String} {y' : MethodName} {bs' : ByteArray} {maxL' : Nat} {rt' : Option FieldType} {rm : Room} {as' : Array Value} {Q' : Option Value → Heap → List Loc → Prop}
    (w1 : (Jvm.Cond.methodLink y.cls idx y').before a0 Z = true) (wd : (Jvm.Cond.declares y').before a0 Z = true) (ws : (Jvm.Cond.selects K y' y').before a0 Z = true) (w2 : (Jvm.Cond.instanceMethod y').before a0 Z = true) (w3 : (Jvm.Cond.initialized y'.cls).before a0 Z = true) (w4 : (Jvm.Cond.code y' bs' maxL' rt').before a0 Z = true) (hy : y'.cls ≠ "java/lang/invoke/MethodHandle" ∧ y'.cls ≠ "java/lang/invoke/VarHandle") (E : Exa Z h a K)
    (hM : OwnMet l Z y' bs' maxL' rt' [] rm as' h Q') (eT : T.heap = h) {ps : List FieldType} {r : Option FieldType} (hpd : parseMethodDescriptor y'.desc = some ⟨ps, r⟩) (argsL : List Value) (has : (Value.ref a :: argsL).toArray = as') (hlen : argsL.length = ps.length) (hst : st = argsL.reverse ++ .ref a :: rest) (hsz : Ls.size = maxL)
    (W : Nat) (hW : (rest.map fun v => v.category).sum = W) (hf : rm.frames + 1 ≤ R.frames) (hlo : W + (maxL' + 11) + rm.locals ≤ R.locals) (hce : cells + rm.cells ≤ R.cells) (hsl : slots + rm.slots ≤ R.slots) (hd : decode bs pc = .ok (.invokevirtual idx, 3)) (pc' : Nat) (hp : pc + 3 = pc')
    (hr : ∀ T' L v, Stand p l e R s m args below meth c T' (locs ++ L) (cells + rm.cells) (slots + rm.slots) → Q' v T'.heap L → OwnEnds p e below G (T'.setTop (mkF m pc' Ls (v.toList ++ rest)))) : OwnEnds p e below G (T.setTop (mkF m pc Ls st)) := by
  subst hp has hW
  obtain ⟨cq, kq, qa, qb, qc⟩ := isOf C.2.1 eT E
  obtain ⟨v, _, ⟨T', L, k, n⟩, -, X', ⟨L', hQ, l1, l2, l3⟩, stp⟩ := X.virtualBack C.1 (y := y') (z := y') C.2.2.1 (mvT C.2.1 w1) (mvT C.2.1 wd) (notFace_of_selects (args := #[]) (mvT C.2.1 ws)) (mvT C.2.1 ws) (mvT C.2.1 w2) hy (backOf (len := 3) (W := (rest.map fun v => v.category).sum) hM C.2.1 w4 w3 hf hlo) qa qc (g := mkF m pc Ls st) rfl (by rw [C.2.2.2.2.1]; exact hsz) (Steps.refl _) (argsL := argsL) (rest := rest) (lenOf hpd hlen) hst (by show 2 * 0 + _ ≤ _; omega) (hb C.2.2.2.1 hd) (fun _ _ => ⟨rfl, eT, hce, hsl⟩)
  dsimp only [Pt.U, Pt.locs, Pt.cells, Pt.slots] at X' l1 l2 l3 stp hQ
  subst l1 l2 l3
  exact own_tr stp (hr T' L' v X' hQ)
theorem own_instY (X : Stand p l e R s m args below meth c T locs cells slots) (C : OwnCx p s m meth c Z y bs maxL rt) {idx : Nat} {K : String} (w : (Jvm.Cond.classLink y.cls idx K).before a0 Z = true) (eT : T.heap = h) (F : Ins Z h a K true) (hd : decode bs pc = .ok (.instanceof idx, 3)) (pc' : Nat) (hp : pc + 3 = pc')
    (hr : ∀ T', Stand p l e R s m args below meth c T' locs cells slots → T'.heap = h → OwnEnds p e below G (T'.setTop (mkF m pc' Ls (.int 1 :: st)))) : OwnEnds p e below G (T.setTop (mkF m pc Ls (.ref a :: st))) := by
  subst hp
  obtain ⟨T', X', e', stp⟩ := instY X C.1 C.2.1 C.2.2.1 w eT F (g := mkF m pc Ls _) rfl rfl (hb C.2.2.2.1 hd)
  exact own_st stp (hr T' X' e')
theorem own_castY (X : Stand p l e R s m args below meth c T locs cells slots) (C : OwnCx p s m meth c Z y bs maxL rt) {idx : Nat} {K : String} (w : (Jvm.Cond.classLink y.cls idx K).before a0 Z = true) (eT : T.heap = h) (F : Ins Z h a K true) (hd : decode bs pc = .ok (.checkcast idx, 3)) (pc' : Nat) (hp : pc + 3 = pc')
    (hr : ∀ T', Stand p l e R s m args below meth c T' locs cells slots → T'.heap = h → OwnEnds p e below G (T'.setTop (mkF m pc' Ls (.ref a :: st)))) : OwnEnds p e below G (T.setTop (mkF m pc Ls (.ref a :: st))) := by
  subst hp
  obtain ⟨T', X', e', stp⟩ := castY X C.1 C.2.1 C.2.2.1 w eT F (g := mkF m pc Ls (.ref a :: st)) rfl (rest := st) rfl (hb C.2.2.2.1 hd)
  exact own_st stp (hr T' X' e')
end OwnHeap
theorem own_w {Z : State} {a0 : Array Value} (hw : ∀ d ∈ tables_1, d.before a0 Z = true) (k : Nat) {d : Jvm.Cond} (q : tables_1[k]? = some d) : d.before a0 Z = true := hw _ (List.mem_of_getElem? q)
theorem own_eqI {args : Array Value} {s : State} {t : Term} {k : Int32} (q : (Jvm.Cond.eq t (.int k)).value args s none s [] = some true) : t.eval args s none [] s = some (.int k) := by
  simp only [Cond.value, Term.int_eval] at q
  cases e : t.eval args s none [] s with
  | none => simp [e] at q
  | some v => cases v <;> simp [e] at q ⊢; exact q
theorem own_lenI {args : Array Value} {s : State} {t : Term} {a : Addr} {cl : Cell} {ty : FieldType} {k : Int32} (ev : t.eval args s none [] s = some (.ref a)) (A : Arr s s.heap a cl ty) (q : (Jvm.Cond.eq (.length t) (.int k)).value args s none s [] = some true) : (cl.slots.size : Int) = k.toInt := by
  have q1 := own_eqI q
  have q2 := A.fin (Vm.Alike.refl _)
  simp only [Term.eval, ev] at q1
  simp [q2] at q1
  obtain ⟨q3, q4⟩ := q1
  rw [← q4, len_toInt (by omega)]
theorem own_elI {args : Array Value} {s : State} {t : Term} {a : Addr} {cl : Cell} {ty : FieldType} {k j : Int32} (ev : t.eval args s none [] s = some (.ref a)) (A : Arr s s.heap a cl ty) (q : (Jvm.Cond.eq (.elem t (.int j)) (.int k)).value args s none s [] = some true) : cl.slots[j.toNatClampNeg]? = some (.int k) :=
  (elem_in (own_eqI q) ev (Term.int_eval j) A.1).2
/-- a Latin-1 string at o: its bytes at b, n of them: G -/
def OwnStr (Z : State) (h : Heap) (o b : Addr) (n : Nat) (G : Nat → Int32) : Prop :=
  Exa Z h o "java/lang/String" ∧ Fld Z h o "java/lang/String" "value" "[B" (.ref b) ∧ Fld Z h o "java/lang/String" "coder" "B" (.int (0 : Int32)) ∧ OwnAr Z h b .byte n (fun i => .int (G i)) ∧ n < 2147483648
theorem OwnStr.ext {Z : State} {h h' : Heap} {o b : Addr} {n : Nat} {G : Nat → Int32} (I : OwnStr Z h o b n G) (E : Ext h h') : OwnStr Z h' o b n G := ⟨I.1.ext E, I.2.1.ext E, I.2.2.1.ext E, I.2.2.2.1.ext E, I.2.2.2.2⟩
theorem OwnStr.keep {Z : State} {h h' : Heap} {o b : Addr} {n : Nat} {G : Nat → Int32} {ws : List Addr} (I : OwnStr Z h o b n G) (K : Keep h h' ws) (q1 : o ∉ ws) (q2 : b ∉ ws) : OwnStr Z h' o b n G := ⟨I.1.keep K, I.2.1.keep K q1, I.2.2.1.keep K q1, I.2.2.2.1.keep K q2, I.2.2.2.2⟩
/-- what the JDK's statics hold -/
def OwnJ (Z : State) (h : Heap) (cs : Int32) (vF : Value) : Prop := Sta Z h "java/lang/String" "COMPACT_STRINGS" "Z" (.int cs) ∧ cs.toInt ≠ 0 ∧ Sta Z h "jdk/internal/util/Preconditions" "SIOOBE_FORMATTER" "Ljava/util/function/BiFunction;" vF ∧ vF.isRef = true
theorem OwnJ.ext {Z : State} {h h' : Heap} {cs : Int32} {vF : Value} (J : OwnJ Z h cs vF) (E : Ext h h') : OwnJ Z h' cs vF := ⟨J.1.ext E, J.2.1, J.2.2.1.ext E, J.2.2.2⟩
theorem OwnJ.keep {Z : State} {h h' : Heap} {cs : Int32} {vF : Value} (J : OwnJ Z h cs vF) (K : Keep h h' []) : OwnJ Z h' cs vF := ⟨own_stak J.1 K, J.2.1, own_stak J.2.2.1 K, J.2.2.2⟩
def own_temp (aU aW aR a : Addr) : Int32 := if a = aU ∨ a = aW ∨ a = aR then 1 else 0
theorem own_pn_String : plainName "java/lang/String" = true := by first | (simp [plainName, overriddenIn]; done) | decide +kernel
theorem own_pd__R_B : parseMethodDescriptor "()B" = some ⟨[], some .byte⟩ := by decide +kernel
theorem own_d_jdk_42_method_152_code_0 : decode jdk_42_method_152_code 0 = .ok (.getstatic 38, 3) := by decide +kernel
theorem own_d_jdk_42_method_152_code_3 : decode jdk_42_method_152_code 3 = .ok (.ifCond .eq 10, 3) := by decide +kernel
theorem own_d_jdk_42_method_152_code_6 : decode jdk_42_method_152_code 6 = .ok (.aload_n 0, 1) := by decide +kernel
theorem own_d_jdk_42_method_152_code_7 : decode jdk_42_method_152_code 7 = .ok (.getfield 15, 3) := by decide +kernel
theorem own_d_jdk_42_method_152_code_10 : decode jdk_42_method_152_code 10 = .ok (.goto 4, 3) := by decide +kernel
theorem own_d_jdk_42_method_152_code_14 : decode jdk_42_method_152_code 14 = .ok (.ireturn, 1) := by decide +kernel
set_option maxRecDepth 65536 in
set_option maxHeartbeats 4000000 in
theorem own_ef_own_rm_coder (m : MethodId) (oa0 : Nat) : entryFrame m #[(.ref oa0)] 1 = (mkF m 0 #[.val (.ref oa0)] []) := by first | (simp [entryFrame, mkF, argsToLocals, Value.category]; done) | rfl
set_option maxRecDepth 65536 in
set_option maxHeartbeats 4000000 in
theorem own_rm_coder (l : Launch) (Z : State) (a0 : Array Value) (hw : ∀ d ∈ tables_1, d.before a0 Z = true) (oa0 : Nat) (h : Heap) (b : Addr) (n : Nat) (G : Nat → Int32) (I : OwnStr Z h oa0 b n G) (cs : Int32) (vF : Value) (J : OwnJ Z h cs vF) :
    OwnMet l Z (⟨"java/lang/String", "coder", "()B"⟩ : MethodName) jdk_42_method_152_code 1 (some .byte) [] ({ frames := 0, cells := 0, slots := 0, locals := 0 } : Room) #[(.ref oa0)] h (OwnPure (.int 0) h) := by
  refine own_enter (f0 := fun m => mkF m 0 #[.val (.ref oa0)] []) (plainFor_of_name own_pn_String) (fun m => own_ef_own_rm_coder m oa0) ?_
  intro p e s m below meth c T0 X0 C e0
  refine own_getstatic X0 C (host := "") (Or.inl (own_w hw 30 rfl)) Via.refl e0 J.1 own_d_jdk_42_method_152_code_0 3 rfl (fun T1 X1 e1 => ?_)
  refine own_ifeq X1 C own_d_jdk_42_method_152_code_3 6 13 rfl (by decide) (by decide) (i := cs.toInt) rfl (fun b2 => ?_) (fun b2 => ?_)
  · exfalso
    exact J.2.1 b2
  · refine own_aload_n X1 C own_d_jdk_42_method_152_code_6 7 rfl rfl rfl ?_
    refine own_getfield X1 C (host := "") (Or.inl (own_w hw 31 rfl)) Via.refl e1 I.2.2.1 own_d_jdk_42_method_152_code_7 10 rfl (fun T3 X3 e3 => ?_)
    refine own_goto X3 C own_d_jdk_42_method_152_code_10 14 (by decide) (by decide) ?_
    refine own_iretN X3 C .byte rfl (by simp) own_d_jdk_42_method_152_code_14 (by decide) (by decide) (0) (by decide) ?_
    exact ⟨rfl, e3, rfl⟩
theorem own_pd__R_I : parseMethodDescriptor "()I" = some ⟨[], some .int⟩ := by decide +kernel
theorem own_d_jdk_42_method_54_code_0 : decode jdk_42_method_54_code 0 = .ok (.aload_n 0, 1) := by decide +kernel
theorem own_d_jdk_42_method_54_code_1 : decode jdk_42_method_54_code 1 = .ok (.getfield 9, 3) := by decide +kernel
theorem own_d_jdk_42_method_54_code_4 : decode jdk_42_method_54_code 4 = .ok (.arraylength, 1) := by decide +kernel
theorem own_d_jdk_42_method_54_code_5 : decode jdk_42_method_54_code 5 = .ok (.aload_n 0, 1) := by decide +kernel
theorem own_d_jdk_42_method_54_code_6 : decode jdk_42_method_54_code 6 = .ok (.invokevirtual 335, 3) := by decide +kernel
theorem own_d_jdk_42_method_54_code_9 : decode jdk_42_method_54_code 9 = .ok (.ishr, 1) := by decide +kernel
theorem own_d_jdk_42_method_54_code_10 : decode jdk_42_method_54_code 10 = .ok (.ireturn, 1) := by decide +kernel
set_option maxRecDepth 65536 in
set_option maxHeartbeats 4000000 in
theorem own_ef_own_rm_length (m : MethodId) (oa0 : Nat) : entryFrame m #[(.ref oa0)] 1 = (mkF m 0 #[.val (.ref oa0)] []) := by first | (simp [entryFrame, mkF, argsToLocals, Value.category]; done) | rfl
set_option maxRecDepth 65536 in
set_option maxHeartbeats 4000000 in
theorem own_rm_length (l : Launch) (Z : State) (a0 : Array Value) (hw : ∀ d ∈ tables_1, d.before a0 Z = true) (oa0 : Nat) (h : Heap) (b : Addr) (n : Nat) (G : Nat → Int32) (I : OwnStr Z h oa0 b n G) (cs : Int32) (vF : Value) (J : OwnJ Z h cs vF) :
    OwnMet l Z (⟨"java/lang/String", "length", "()I"⟩ : MethodName) jdk_42_method_54_code 1 (some .int) [] ({ frames := 1, cells := 0, slots := 0, locals := 20 } : Room) #[(.ref oa0)] h (OwnSome (fun v => ∃ z : Int32, v = .int z ∧ z.toInt = n) h) := by
  refine own_enter (f0 := fun m => mkF m 0 #[.val (.ref oa0)] []) (plainFor_of_name own_pn_String) (fun m => own_ef_own_rm_length m oa0) ?_
  intro p e s m below meth c T0 X0 C e0
  refine own_aload_n X0 C own_d_jdk_42_method_54_code_0 1 rfl rfl rfl ?_
  refine own_getfield X0 C (host := "") (Or.inl (own_w hw 23 rfl)) Via.refl e0 I.2.1 own_d_jdk_42_method_54_code_1 4 rfl (fun T1 X1 e1 => ?_)
  refine own_arraylength X1 C e1 I.2.2.2.1 own_d_jdk_42_method_54_code_4 5 rfl I.2.2.2.2 (fun v1 ev1 fv1 => ?_)
  refine own_aload_n X1 C own_d_jdk_42_method_54_code_5 6 rfl rfl rfl ?_
  refine own_callV X1 C (own_w hw 25 rfl) (own_w hw 26 rfl) (own_w hw 28 rfl) (own_w hw 27 rfl) (own_w hw 21 rfl) (own_w hw 29 rfl) (by decide) I.1 (own_rm_coder l Z a0 hw oa0 h b n G I cs vF J) e1 own_pd__R_B [] rfl rfl rfl rfl 1 rfl (by decide) (by decide) (by decide) (by decide) own_d_jdk_42_method_54_code_6 9 rfl (fun T2 L2 v2 X2 q2 => ?_)
  obtain ⟨rfl, eh2, rfl⟩ := q2
  have N2 := Fr.app (Fr.nil 0) (Fr.nil 0)
  refine own_ishr X2 C own_d_jdk_42_method_54_code_9 10 rfl (fun v2 ev2 => ?_)
  refine own_ireturn X2 C rfl own_d_jdk_42_method_54_code_10 (by decide) (by decide) ?_
  exact ⟨⟨_, rfl, _, rfl, by rw [ev2, c_ishr _ _ 0 (by decide)]; omega⟩, eh2, rfl⟩
theorem own_pd__R_Z : parseMethodDescriptor "()Z" = some ⟨[], some .boolean⟩ := by decide +kernel
theorem own_d_jdk_42_method_154_code_0 : decode jdk_42_method_154_code 0 = .ok (.getstatic 38, 3) := by decide +kernel
theorem own_d_jdk_42_method_154_code_3 : decode jdk_42_method_154_code 3 = .ok (.ifCond .eq 14, 3) := by decide +kernel
theorem own_d_jdk_42_method_154_code_6 : decode jdk_42_method_154_code 6 = .ok (.aload_n 0, 1) := by decide +kernel
theorem own_d_jdk_42_method_154_code_7 : decode jdk_42_method_154_code 7 = .ok (.getfield 15, 3) := by decide +kernel
theorem own_d_jdk_42_method_154_code_10 : decode jdk_42_method_154_code 10 = .ok (.ifCond .ne 7, 3) := by decide +kernel
theorem own_d_jdk_42_method_154_code_13 : decode jdk_42_method_154_code 13 = .ok (.iconst 1, 1) := by decide +kernel
theorem own_d_jdk_42_method_154_code_14 : decode jdk_42_method_154_code 14 = .ok (.goto 4, 3) := by decide +kernel
theorem own_d_jdk_42_method_154_code_18 : decode jdk_42_method_154_code 18 = .ok (.ireturn, 1) := by decide +kernel
set_option maxRecDepth 65536 in
set_option maxHeartbeats 4000000 in
theorem own_ef_own_rm_isLatin1 (m : MethodId) (oa0 : Nat) : entryFrame m #[(.ref oa0)] 1 = (mkF m 0 #[.val (.ref oa0)] []) := by first | (simp [entryFrame, mkF, argsToLocals, Value.category]; done) | rfl
set_option maxRecDepth 65536 in
set_option maxHeartbeats 4000000 in
theorem own_rm_isLatin1 (l : Launch) (Z : State) (a0 : Array Value) (hw : ∀ d ∈ tables_1, d.before a0 Z = true) (oa0 : Nat) (h : Heap) (b : Addr) (n : Nat) (G : Nat → Int32) (I : OwnStr Z h oa0 b n G) (cs : Int32) (vF : Value) (J : OwnJ Z h cs vF) :
    OwnMet l Z (⟨"java/lang/String", "isLatin1", "()Z"⟩ : MethodName) jdk_42_method_154_code 1 (some .boolean) [] ({ frames := 0, cells := 0, slots := 0, locals := 0 } : Room) #[(.ref oa0)] h (OwnPure (.int 1) h) := by
  refine own_enter (f0 := fun m => mkF m 0 #[.val (.ref oa0)] []) (plainFor_of_name own_pn_String) (fun m => own_ef_own_rm_isLatin1 m oa0) ?_
  intro p e s m below meth c T0 X0 C e0
  refine own_getstatic X0 C (host := "") (Or.inl (own_w hw 30 rfl)) Via.refl e0 J.1 own_d_jdk_42_method_154_code_0 3 rfl (fun T1 X1 e1 => ?_)
  refine own_ifeq X1 C own_d_jdk_42_method_154_code_3 6 17 rfl (by decide) (by decide) (i := cs.toInt) rfl (fun b2 => ?_) (fun b2 => ?_)
  · exfalso
    exact J.2.1 b2
  · refine own_aload_n X1 C own_d_jdk_42_method_154_code_6 7 rfl rfl rfl ?_
    refine own_getfield X1 C (host := "") (Or.inl (own_w hw 31 rfl)) Via.refl e1 I.2.2.1 own_d_jdk_42_method_154_code_7 10 rfl (fun T3 X3 e3 => ?_)
    refine own_ifne X3 C own_d_jdk_42_method_154_code_10 13 17 rfl (by decide) (by decide) (i := 0) (by decide) (fun b4 => ?_) (fun b4 => ?_)
    · exfalso
      omega
    · refine own_iconst X3 C own_d_jdk_42_method_154_code_13 14 rfl (1) rfl ?_
      refine own_goto X3 C own_d_jdk_42_method_154_code_14 18 (by decide) (by decide) ?_
      refine own_iretN X3 C .boolean rfl (by simp) own_d_jdk_42_method_154_code_18 (by decide) (by decide) (1) (by decide) ?_
      exact ⟨rfl, e3, rfl⟩
theorem own_pn_Preconditions : plainName "jdk/internal/util/Preconditions" = true := by first | (simp [plainName, overriddenIn]; done) | decide +kernel
theorem own_pd_IILjava_util_function_BiFunction__R_I : parseMethodDescriptor "(IILjava/util/function/BiFunction;)I" = some ⟨[.int, .int, (.object "java/util/function/BiFunction")], some .int⟩ := by decide +kernel
theorem own_d_jdk_41_method_11_code_0 : decode jdk_41_method_11_code 0 = .ok (.iload_n 0, 1) := by decide +kernel
theorem own_d_jdk_41_method_11_code_1 : decode jdk_41_method_11_code 1 = .ok (.ifCond .lt 8, 3) := by decide +kernel
theorem own_d_jdk_41_method_11_code_4 : decode jdk_41_method_11_code 4 = .ok (.iload_n 0, 1) := by decide +kernel
theorem own_d_jdk_41_method_11_code_5 : decode jdk_41_method_11_code 5 = .ok (.iload_n 1, 1) := by decide +kernel
theorem own_d_jdk_41_method_11_code_6 : decode jdk_41_method_11_code 6 = .ok (.if_icmp .lt 10, 3) := by decide +kernel
theorem own_d_jdk_41_method_11_code_16 : decode jdk_41_method_11_code 16 = .ok (.iload_n 0, 1) := by decide +kernel
theorem own_d_jdk_41_method_11_code_17 : decode jdk_41_method_11_code 17 = .ok (.ireturn, 1) := by decide +kernel
set_option maxRecDepth 65536 in
set_option maxHeartbeats 4000000 in
theorem own_ef_own_rm_pre_ref (m : MethodId) (ia0 : Int32) (ia1 : Int32) (oa2 : Nat) : entryFrame m #[(.int ia0), (.int ia1), (.ref oa2)] 3 = (mkF m 0 #[.val (.int ia0), .val (.int ia1), .val (.ref oa2)] []) := by first | (simp [entryFrame, mkF, argsToLocals, Value.category]; done) | rfl
set_option maxRecDepth 65536 in
set_option maxHeartbeats 4000000 in
theorem own_rm_pre_ref (l : Launch) (Z : State) (a0 : Array Value) (hw : ∀ d ∈ tables_1, d.before a0 Z = true) (ia0 : Int32) (ia1 : Int32) (oa2 : Nat) (h : Heap) (h0 : 0 ≤ ia0.toInt) (h1 : ia0.toInt < ia1.toInt) :
    OwnMet l Z (⟨"jdk/internal/util/Preconditions", "checkIndex", "(IILjava/util/function/BiFunction;)I"⟩ : MethodName) jdk_41_method_11_code 3 (some .int) [] ({ frames := 0, cells := 0, slots := 0, locals := 0 } : Room) #[(.int ia0), (.int ia1), (.ref oa2)] h (OwnPure (.int ia0) h) := by
  refine own_enter (f0 := fun m => mkF m 0 #[.val (.int ia0), .val (.int ia1), .val (.ref oa2)] []) (plainFor_of_name own_pn_Preconditions) (fun m => own_ef_own_rm_pre_ref m ia0 ia1 oa2) ?_
  intro p e s m below meth c T0 X0 C e0
  refine own_iload_n X0 C own_d_jdk_41_method_11_code_0 1 rfl rfl ?_
  refine own_iflt X0 C own_d_jdk_41_method_11_code_1 4 9 rfl (by decide) (by decide) (i := ia0.toInt) rfl (fun b1 => ?_) (fun b1 => ?_)
  · exfalso
    omega
  · refine own_iload_n X0 C own_d_jdk_41_method_11_code_4 5 rfl rfl ?_
    refine own_iload_n X0 C own_d_jdk_41_method_11_code_5 6 rfl rfl ?_
    refine own_icmplt X0 C own_d_jdk_41_method_11_code_6 9 16 rfl (by decide) (by decide) (i := ia0.toInt) rfl (j := ia1.toInt) rfl (fun b2 => ?_) (fun b2 => ?_)
    · refine own_iload_n X0 C own_d_jdk_41_method_11_code_16 17 rfl rfl ?_
      refine own_ireturn X0 C rfl own_d_jdk_41_method_11_code_17 (by decide) (by decide) ?_
      exact ⟨rfl, e0, rfl⟩
    · exfalso
      omega
set_option maxRecDepth 65536 in
set_option maxHeartbeats 4000000 in
theorem own_ef_own_rm_pre_null (m : MethodId) (ia0 : Int32) (ia1 : Int32) : entryFrame m #[(.int ia0), (.int ia1), .null] 3 = (mkF m 0 #[.val (.int ia0), .val (.int ia1), .val .null] []) := by first | (simp [entryFrame, mkF, argsToLocals, Value.category]; done) | rfl
set_option maxRecDepth 65536 in
set_option maxHeartbeats 4000000 in
theorem own_rm_pre_null (l : Launch) (Z : State) (a0 : Array Value) (hw : ∀ d ∈ tables_1, d.before a0 Z = true) (ia0 : Int32) (ia1 : Int32) (h : Heap) (h0 : 0 ≤ ia0.toInt) (h1 : ia0.toInt < ia1.toInt) :
    OwnMet l Z (⟨"jdk/internal/util/Preconditions", "checkIndex", "(IILjava/util/function/BiFunction;)I"⟩ : MethodName) jdk_41_method_11_code 3 (some .int) [] ({ frames := 0, cells := 0, slots := 0, locals := 0 } : Room) #[(.int ia0), (.int ia1), .null] h (OwnPure (.int ia0) h) := by
  refine own_enter (f0 := fun m => mkF m 0 #[.val (.int ia0), .val (.int ia1), .val .null] []) (plainFor_of_name own_pn_Preconditions) (fun m => own_ef_own_rm_pre_null m ia0 ia1) ?_
  intro p e s m below meth c T0 X0 C e0
  refine own_iload_n X0 C own_d_jdk_41_method_11_code_0 1 rfl rfl ?_
  refine own_iflt X0 C own_d_jdk_41_method_11_code_1 4 9 rfl (by decide) (by decide) (i := ia0.toInt) rfl (fun b1 => ?_) (fun b1 => ?_)
  · exfalso
    omega
  · refine own_iload_n X0 C own_d_jdk_41_method_11_code_4 5 rfl rfl ?_
    refine own_iload_n X0 C own_d_jdk_41_method_11_code_5 6 rfl rfl ?_
    refine own_icmplt X0 C own_d_jdk_41_method_11_code_6 9 16 rfl (by decide) (by decide) (i := ia0.toInt) rfl (j := ia1.toInt) rfl (fun b2 => ?_) (fun b2 => ?_)
    · refine own_iload_n X0 C own_d_jdk_41_method_11_code_16 17 rfl rfl ?_
      refine own_ireturn X0 C rfl own_d_jdk_41_method_11_code_17 (by decide) (by decide) ?_
      exact ⟨rfl, e0, rfl⟩
    · exfalso
      omega
theorem own_pd_II_R_V : parseMethodDescriptor "(II)V" = some ⟨[.int, .int], none⟩ := by decide +kernel
theorem own_d_jdk_42_method_155_code_0 : decode jdk_42_method_155_code 0 = .ok (.iload_n 0, 1) := by decide +kernel
theorem own_d_jdk_42_method_155_code_1 : decode jdk_42_method_155_code 1 = .ok (.iload_n 1, 1) := by decide +kernel
theorem own_d_jdk_42_method_155_code_2 : decode jdk_42_method_155_code 2 = .ok (.getstatic 1053, 3) := by decide +kernel
theorem own_d_jdk_42_method_155_code_5 : decode jdk_42_method_155_code 5 = .ok (.invokestatic 1059, 3) := by decide +kernel
theorem own_d_jdk_42_method_155_code_8 : decode jdk_42_method_155_code 8 = .ok (.pop, 1) := by decide +kernel
theorem own_d_jdk_42_method_155_code_9 : decode jdk_42_method_155_code 9 = .ok (.return_, 1) := by decide +kernel
set_option maxRecDepth 65536 in
set_option maxHeartbeats 4000000 in
theorem own_ef_own_rm_check (m : MethodId) (ia0 : Int32) (ia1 : Int32) : entryFrame m #[(.int ia0), (.int ia1)] 2 = (mkF m 0 #[.val (.int ia0), .val (.int ia1)] []) := by first | (simp [entryFrame, mkF, argsToLocals, Value.category]; done) | rfl
set_option maxRecDepth 65536 in
set_option maxHeartbeats 4000000 in
theorem own_rm_check (l : Launch) (Z : State) (a0 : Array Value) (hw : ∀ d ∈ tables_1, d.before a0 Z = true) (ia0 : Int32) (ia1 : Int32) (h : Heap) (cs : Int32) (vF : Value) (J : OwnJ Z h cs vF) (h0 : 0 ≤ ia0.toInt) (h1 : ia0.toInt < ia1.toInt) :
    OwnMet l Z (⟨"java/lang/String", "checkIndex", "(II)V"⟩ : MethodName) jdk_42_method_155_code 2 none [] ({ frames := 1, cells := 0, slots := 0, locals := 30 } : Room) #[(.int ia0), (.int ia1)] h (fun v h' L => v = none ∧ h' = h ∧ L = []) := by
  refine own_enter (f0 := fun m => mkF m 0 #[.val (.int ia0), .val (.int ia1)] []) (plainFor_of_name own_pn_String) (fun m => own_ef_own_rm_check m ia0 ia1) ?_
  intro p e s m below meth c T0 X0 C e0
  rcases ref_cases J.2.2.2 with rfl | ⟨aF, rfl⟩
  · refine own_iload_n X0 C own_d_jdk_42_method_155_code_0 1 rfl rfl ?_
    refine own_iload_n X0 C own_d_jdk_42_method_155_code_1 2 rfl rfl ?_
    refine own_getstatic X0 C (host := "") (Or.inl (own_w hw 53 rfl)) Via.refl e0 J.2.2.1 own_d_jdk_42_method_155_code_2 5 rfl (fun T1 X1 e1 => ?_)
    refine own_callP X1 C (own_w hw 55 rfl) (own_w hw 56 rfl) (own_w hw 54 rfl) (own_w hw 57 rfl) (by decide) (own_rm_pre_null l Z a0 hw ia0 ia1 h h0 h1) e1 own_pd_IILjava_util_function_BiFunction__R_I [(.int ia0), (.int ia1), .null] rfl rfl rfl rfl 0 rfl (by decide) (by decide) rfl rfl (by decide) (by decide) own_d_jdk_42_method_155_code_5 8 rfl (fun T2 X2 e2 => ?_)
    refine own_pop X2 C own_d_jdk_42_method_155_code_8 9 rfl rfl ?_
    refine own_return X2 C rfl own_d_jdk_42_method_155_code_9 (by decide) (by decide) ?_
    exact ⟨rfl, e2, rfl⟩
  · refine own_iload_n X0 C own_d_jdk_42_method_155_code_0 1 rfl rfl ?_
    refine own_iload_n X0 C own_d_jdk_42_method_155_code_1 2 rfl rfl ?_
    refine own_getstatic X0 C (host := "") (Or.inl (own_w hw 53 rfl)) Via.refl e0 J.2.2.1 own_d_jdk_42_method_155_code_2 5 rfl (fun T3 X3 e3 => ?_)
    refine own_callP X3 C (own_w hw 55 rfl) (own_w hw 56 rfl) (own_w hw 54 rfl) (own_w hw 57 rfl) (by decide) (own_rm_pre_ref l Z a0 hw ia0 ia1 aF h h0 h1) e3 own_pd_IILjava_util_function_BiFunction__R_I [(.int ia0), (.int ia1), (.ref aF)] rfl rfl rfl rfl 0 rfl (by decide) (by decide) rfl rfl (by decide) (by decide) own_d_jdk_42_method_155_code_5 8 rfl (fun T4 X4 e4 => ?_)
    refine own_pop X4 C own_d_jdk_42_method_155_code_8 9 rfl rfl ?_
    refine own_return X4 C rfl own_d_jdk_42_method_155_code_9 (by decide) (by decide) ?_
    exact ⟨rfl, e4, rfl⟩
theorem own_pn_StringLatin1 : plainName "java/lang/StringLatin1" = true := by first | (simp [plainName, overriddenIn]; done) | decide +kernel
theorem own_pd_ABI_R_C : parseMethodDescriptor "([BI)C" = some ⟨[(.array .byte), .int], some .char⟩ := by decide +kernel
theorem own_d_jdk_43_method_2_code_0 : decode jdk_43_method_2_code 0 = .ok (.iload_n 1, 1) := by decide +kernel
theorem own_d_jdk_43_method_2_code_1 : decode jdk_43_method_2_code 1 = .ok (.aload_n 0, 1) := by decide +kernel
theorem own_d_jdk_43_method_2_code_2 : decode jdk_43_method_2_code 2 = .ok (.arraylength, 1) := by decide +kernel
theorem own_d_jdk_43_method_2_code_3 : decode jdk_43_method_2_code 3 = .ok (.invokestatic 9, 3) := by decide +kernel
theorem own_d_jdk_43_method_2_code_6 : decode jdk_43_method_2_code 6 = .ok (.aload_n 0, 1) := by decide +kernel
theorem own_d_jdk_43_method_2_code_7 : decode jdk_43_method_2_code 7 = .ok (.iload_n 1, 1) := by decide +kernel
theorem own_d_jdk_43_method_2_code_8 : decode jdk_43_method_2_code 8 = .ok (.baload, 1) := by decide +kernel
theorem own_d_jdk_43_method_2_code_9 : decode jdk_43_method_2_code 9 = .ok (.sipush 255, 3) := by decide +kernel
theorem own_d_jdk_43_method_2_code_12 : decode jdk_43_method_2_code 12 = .ok (.iand, 1) := by decide +kernel
theorem own_d_jdk_43_method_2_code_13 : decode jdk_43_method_2_code 13 = .ok (.i2c, 1) := by decide +kernel
theorem own_d_jdk_43_method_2_code_14 : decode jdk_43_method_2_code 14 = .ok (.ireturn, 1) := by decide +kernel
set_option maxRecDepth 65536 in
set_option maxHeartbeats 4000000 in
theorem own_ef_own_rm_lcharAt (m : MethodId) (oa0 : Nat) (ia1 : Int32) : entryFrame m #[(.ref oa0), (.int ia1)] 2 = (mkF m 0 #[.val (.ref oa0), .val (.int ia1)] []) := by first | (simp [entryFrame, mkF, argsToLocals, Value.category]; done) | rfl
set_option maxRecDepth 65536 in
set_option maxHeartbeats 4000000 in
theorem own_rm_lcharAt (l : Launch) (Z : State) (a0 : Array Value) (hw : ∀ d ∈ tables_1, d.before a0 Z = true) (oa0 : Nat) (ia1 : Int32) (h : Heap) (n : Nat) (G : Nat → Int32) (A : OwnAr Z h oa0 .byte n (fun i => .int (G i))) (hn : n < 2147483648) (cs : Int32) (vF : Value) (J : OwnJ Z h cs vF) (k : Nat) (hk : ia1.toInt = k) (hk2 : k < n) :
    OwnMet l Z (⟨"java/lang/StringLatin1", "charAt", "([BI)C"⟩ : MethodName) jdk_43_method_2_code 2 (some .char) [] ({ frames := 2, cells := 0, slots := 0, locals := 60 } : Room) #[(.ref oa0), (.int ia1)] h (OwnSome (fun v => ∃ z : Int32, v = .int z ∧ z.toInt = (G k).toInt % 256) h) := by
  refine own_enter (f0 := fun m => mkF m 0 #[.val (.ref oa0), .val (.int ia1)] []) (plainFor_of_name own_pn_StringLatin1) (fun m => own_ef_own_rm_lcharAt m oa0 ia1) ?_
  intro p e s m below meth c T0 X0 C e0
  refine own_iload_n X0 C own_d_jdk_43_method_2_code_0 1 rfl rfl ?_
  refine own_aload_n X0 C own_d_jdk_43_method_2_code_1 2 rfl rfl rfl ?_
  refine own_arraylength X0 C e0 A own_d_jdk_43_method_2_code_2 3 rfl hn (fun v1 ev1 fv1 => ?_)
  refine own_callS X0 C (own_w hw 50 rfl) (own_w hw 51 rfl) (own_w hw 21 rfl) (own_w hw 52 rfl) (by decide) (own_rm_check l Z a0 hw ia1 v1 h cs vF J (by omega) (by omega)) e0 own_pd_II_R_V [(.int ia1), (.int v1)] rfl rfl rfl rfl 0 rfl (by decide) (by decide) (by decide) (by decide) own_d_jdk_43_method_2_code_3 6 rfl (fun T1 L1 v1 X1 q1 => ?_)
  obtain ⟨rfl, eh1, rfl⟩ := q1
  have N1 := Fr.app (Fr.nil 0) (Fr.nil 0)
  refine own_aload_n X1 C own_d_jdk_43_method_2_code_6 7 rfl rfl rfl ?_
  refine own_iload_n X1 C own_d_jdk_43_method_2_code_7 8 rfl rfl ?_
  refine own_baloadB X1 C eh1 A (by omega) (by omega) own_d_jdk_43_method_2_code_8 9 rfl (.int (G k)) (by show Value.int (G _) = _; rw [show ia1.toInt.toNat = k by omega]) ?_
  refine own_sipush X1 C own_d_jdk_43_method_2_code_9 12 rfl (255) rfl ?_
  refine own_iand X1 C own_d_jdk_43_method_2_code_12 13 rfl (fun v2 ev2 => ?_)
  refine own_i2c X1 C own_d_jdk_43_method_2_code_13 14 rfl (fun v3 ev3 => ?_)
  refine own_iretN X1 C .char rfl (by simp) own_d_jdk_43_method_2_code_14 (by decide) (by decide) _ rfl ?_
  have y1 := c_mask (G k) 255 8 (by decide) (by decide)
  rw [← ev2] at y1
  have y2 := c_i2c v2
  rw [← ev3] at y2
  have y3 := c_i2c v3
  exact ⟨⟨_, rfl, _, rfl, by show (v3.toUInt32.toUInt16.toUInt32.toInt32).toInt = _; omega⟩, eh1, rfl⟩
theorem own_pd_I_R_C : parseMethodDescriptor "(I)C" = some ⟨[.int], some .char⟩ := by decide +kernel
theorem own_d_jdk_42_method_56_code_0 : decode jdk_42_method_56_code 0 = .ok (.aload_n 0, 1) := by decide +kernel
theorem own_d_jdk_42_method_56_code_1 : decode jdk_42_method_56_code 1 = .ok (.invokevirtual 492, 3) := by decide +kernel
theorem own_d_jdk_42_method_56_code_4 : decode jdk_42_method_56_code 4 = .ok (.ifCond .eq 12, 3) := by decide +kernel
theorem own_d_jdk_42_method_56_code_7 : decode jdk_42_method_56_code 7 = .ok (.aload_n 0, 1) := by decide +kernel
theorem own_d_jdk_42_method_56_code_8 : decode jdk_42_method_56_code 8 = .ok (.getfield 9, 3) := by decide +kernel
theorem own_d_jdk_42_method_56_code_11 : decode jdk_42_method_56_code 11 = .ok (.iload_n 1, 1) := by decide +kernel
theorem own_d_jdk_42_method_56_code_12 : decode jdk_42_method_56_code 12 = .ok (.invokestatic 495, 3) := by decide +kernel
theorem own_d_jdk_42_method_56_code_15 : decode jdk_42_method_56_code 15 = .ok (.ireturn, 1) := by decide +kernel
set_option maxRecDepth 65536 in
set_option maxHeartbeats 4000000 in
theorem own_ef_own_rm_charAt (m : MethodId) (oa0 : Nat) (ia1 : Int32) : entryFrame m #[(.ref oa0), (.int ia1)] 2 = (mkF m 0 #[.val (.ref oa0), .val (.int ia1)] []) := by first | (simp [entryFrame, mkF, argsToLocals, Value.category]; done) | rfl
set_option maxRecDepth 65536 in
set_option maxHeartbeats 4000000 in
theorem own_rm_charAt (l : Launch) (Z : State) (a0 : Array Value) (hw : ∀ d ∈ tables_1, d.before a0 Z = true) (oa0 : Nat) (ia1 : Int32) (h : Heap) (b : Addr) (n : Nat) (G : Nat → Int32) (I : OwnStr Z h oa0 b n G) (cs : Int32) (vF : Value) (J : OwnJ Z h cs vF) (k : Nat) (hk : ia1.toInt = k) (hk2 : k < n) :
    OwnMet l Z (⟨"java/lang/String", "charAt", "(I)C"⟩ : MethodName) jdk_42_method_56_code 2 (some .char) [] ({ frames := 3, cells := 0, slots := 0, locals := 90 } : Room) #[(.ref oa0), (.int ia1)] h (OwnSome (fun v => ∃ z : Int32, v = .int z ∧ z.toInt = (G k).toInt % 256) h) := by
  refine own_enter (f0 := fun m => mkF m 0 #[.val (.ref oa0), .val (.int ia1)] []) (plainFor_of_name own_pn_String) (fun m => own_ef_own_rm_charAt m oa0 ia1) ?_
  intro p e s m below meth c T0 X0 C e0
  refine own_aload_n X0 C own_d_jdk_42_method_56_code_0 1 rfl rfl rfl ?_
  refine own_callV X0 C (own_w hw 41 rfl) (own_w hw 42 rfl) (own_w hw 44 rfl) (own_w hw 43 rfl) (own_w hw 21 rfl) (own_w hw 45 rfl) (by decide) I.1 (own_rm_isLatin1 l Z a0 hw oa0 h b n G I cs vF J) e0 own_pd__R_Z [] rfl rfl rfl rfl 0 rfl (by decide) (by decide) (by decide) (by decide) own_d_jdk_42_method_56_code_1 4 rfl (fun T1 L1 v1 X1 q1 => ?_)
  obtain ⟨rfl, eh1, rfl⟩ := q1
  have N1 := Fr.app (Fr.nil 0) (Fr.nil 0)
  refine own_ifeq X1 C own_d_jdk_42_method_56_code_4 7 16 rfl (by decide) (by decide) (i := 1) (by decide) (fun b2 => ?_) (fun b2 => ?_)
  · exfalso
    omega
  · refine own_aload_n X1 C own_d_jdk_42_method_56_code_7 8 rfl rfl rfl ?_
    refine own_getfield X1 C (host := "") (Or.inl (own_w hw 23 rfl)) Via.refl eh1 I.2.1 own_d_jdk_42_method_56_code_8 11 rfl (fun T3 X3 e3 => ?_)
    refine own_iload_n X3 C own_d_jdk_42_method_56_code_11 12 rfl rfl ?_
    refine own_callE X3 C (own_w hw 46 rfl) (own_w hw 47 rfl) (own_w hw 48 rfl) (own_w hw 49 rfl) (by decide) (own_rm_lcharAt l Z a0 hw b ia1 h n G I.2.2.2.1 I.2.2.2.2 cs vF J k hk hk2) e3 own_pd_ABI_R_C [(.ref b), (.int ia1)] rfl rfl rfl rfl 0 rfl (by decide) (by decide) rfl rfl (by decide) (by decide) own_d_jdk_42_method_56_code_12 15 rfl (fun T4 w4 q4 X4 e4 => ?_)
    obtain ⟨z4, rfl, q4⟩ := q4
    refine own_iretN X4 C .char rfl (by simp) own_d_jdk_42_method_56_code_15 (by decide) (by decide) _ rfl ?_
    have y3 := c_i2c z4
    exact ⟨⟨_, rfl, _, rfl, by show (z4.toUInt32.toUInt16.toUInt32.toInt32).toInt = _; omega⟩, e4, rfl⟩
theorem own_pn_Formula_Connective : plainName "com/example/paths_to_proofs/pathstoproofs/check/Formula$Connective" = true := by first | (simp [plainName, overriddenIn]; done) | decide +kernel
theorem own_d_prog_19_method_4_code_0 : decode prog_19_method_4_code 0 = .ok (.aload_n 0, 1) := by decide +kernel
theorem own_d_prog_19_method_4_code_1 : decode prog_19_method_4_code 1 = .ok (.getstatic 16, 3) := by decide +kernel
theorem own_d_prog_19_method_4_code_4 : decode prog_19_method_4_code 4 = .ok (.if_acmp .eq 17, 3) := by decide +kernel
theorem own_d_prog_19_method_4_code_7 : decode prog_19_method_4_code 7 = .ok (.aload_n 0, 1) := by decide +kernel
theorem own_d_prog_19_method_4_code_8 : decode prog_19_method_4_code 8 = .ok (.getstatic 19, 3) := by decide +kernel
theorem own_d_prog_19_method_4_code_11 : decode prog_19_method_4_code 11 = .ok (.if_acmp .eq 10, 3) := by decide +kernel
theorem own_d_prog_19_method_4_code_14 : decode prog_19_method_4_code 14 = .ok (.aload_n 0, 1) := by decide +kernel
theorem own_d_prog_19_method_4_code_15 : decode prog_19_method_4_code 15 = .ok (.getstatic 22, 3) := by decide +kernel
theorem own_d_prog_19_method_4_code_18 : decode prog_19_method_4_code 18 = .ok (.if_acmp .ne 7, 3) := by decide +kernel
theorem own_d_prog_19_method_4_code_21 : decode prog_19_method_4_code 21 = .ok (.iconst 1, 1) := by decide +kernel
theorem own_d_prog_19_method_4_code_22 : decode prog_19_method_4_code 22 = .ok (.goto 4, 3) := by decide +kernel
theorem own_d_prog_19_method_4_code_25 : decode prog_19_method_4_code 25 = .ok (.iconst 0, 1) := by decide +kernel
theorem own_d_prog_19_method_4_code_26 : decode prog_19_method_4_code 26 = .ok (.ireturn, 1) := by decide +kernel
set_option maxRecDepth 65536 in
set_option maxHeartbeats 4000000 in
theorem own_ef_own_rm_temporal (m : MethodId) (oa0 : Nat) : entryFrame m #[(.ref oa0)] 1 = (mkF m 0 #[.val (.ref oa0)] []) := by first | (simp [entryFrame, mkF, argsToLocals, Value.category]; done) | rfl
set_option maxRecDepth 65536 in
set_option maxHeartbeats 4000000 in
theorem own_rm_temporal (l : Launch) (Z : State) (a0 : Array Value) (hw : ∀ d ∈ tables_1, d.before a0 Z = true) (oa0 : Nat) (h : Heap) (a_UNTIL a_WEAK_UNTIL a_RELEASE : Addr) (S_UNTIL : Sta Z h "com/example/paths_to_proofs/pathstoproofs/check/Formula$Connective" "UNTIL" "Lcom/example/paths_to_proofs/pathstoproofs/check/Formula$Connective;" (.ref a_UNTIL)) (S_WEAK_UNTIL : Sta Z h "com/example/paths_to_proofs/pathstoproofs/check/Formula$Connective" "WEAK_UNTIL" "Lcom/example/paths_to_proofs/pathstoproofs/check/Formula$Connective;" (.ref a_WEAK_UNTIL)) (S_RELEASE : Sta Z h "com/example/paths_to_proofs/pathstoproofs/check/Formula$Connective" "RELEASE" "Lcom/example/paths_to_proofs/pathstoproofs/check/Formula$Connective;" (.ref a_RELEASE)) :
    OwnMet l Z (⟨"com/example/paths_to_proofs/pathstoproofs/check/Formula$Connective", "temporal", "()Z"⟩ : MethodName) prog_19_method_4_code 1 (some .boolean) [] ({ frames := 0, cells := 0, slots := 0, locals := 0 } : Room) #[(.ref oa0)] h (OwnPure (.int (own_temp a_UNTIL a_WEAK_UNTIL a_RELEASE oa0)) h) := by
  refine own_enter (f0 := fun m => mkF m 0 #[.val (.ref oa0)] []) (plainFor_of_name own_pn_Formula_Connective) (fun m => own_ef_own_rm_temporal m oa0) ?_
  intro p e s m below meth c T0 X0 C e0
  refine own_aload_n X0 C own_d_prog_19_method_4_code_0 1 rfl rfl rfl ?_
  refine own_getstatic X0 C (host := "") (Or.inl (own_w hw 9 rfl)) Via.refl e0 S_UNTIL own_d_prog_19_method_4_code_1 4 rfl (fun T1 X1 e1 => ?_)
  refine own_acmpeq X1 C own_d_prog_19_method_4_code_4 7 21 rfl (by decide) (by decide) (fun b2 => ?_) (fun b2 => ?_)
  · refine own_iconst X1 C own_d_prog_19_method_4_code_21 22 rfl (1) rfl ?_
    refine own_goto X1 C own_d_prog_19_method_4_code_22 26 (by decide) (by decide) ?_
    refine own_iretN X1 C .boolean rfl (by simp) own_d_prog_19_method_4_code_26 (by decide) (by decide) (1) (by decide) ?_
    exact ⟨by simp_all [own_temp], e1, rfl⟩
  · refine own_aload_n X1 C own_d_prog_19_method_4_code_7 8 rfl rfl rfl ?_
    refine own_getstatic X1 C (host := "") (Or.inl (own_w hw 11 rfl)) Via.refl e1 S_WEAK_UNTIL own_d_prog_19_method_4_code_8 11 rfl (fun T3 X3 e3 => ?_)
    refine own_acmpeq X3 C own_d_prog_19_method_4_code_11 14 21 rfl (by decide) (by decide) (fun b4 => ?_) (fun b4 => ?_)
    · refine own_iconst X3 C own_d_prog_19_method_4_code_21 22 rfl (1) rfl ?_
      refine own_goto X3 C own_d_prog_19_method_4_code_22 26 (by decide) (by decide) ?_
      refine own_iretN X3 C .boolean rfl (by simp) own_d_prog_19_method_4_code_26 (by decide) (by decide) (1) (by decide) ?_
      exact ⟨by simp_all [own_temp], e3, rfl⟩
    · refine own_aload_n X3 C own_d_prog_19_method_4_code_14 15 rfl rfl rfl ?_
      refine own_getstatic X3 C (host := "") (Or.inl (own_w hw 13 rfl)) Via.refl e3 S_RELEASE own_d_prog_19_method_4_code_15 18 rfl (fun T5 X5 e5 => ?_)
      refine own_acmpne X5 C own_d_prog_19_method_4_code_18 21 25 rfl (by decide) (by decide) (fun b6 => ?_) (fun b6 => ?_)
      · refine own_iconst X5 C own_d_prog_19_method_4_code_25 26 rfl (0) rfl ?_
        refine own_iretN X5 C .boolean rfl (by simp) own_d_prog_19_method_4_code_26 (by decide) (by decide) (0) (by decide) ?_
        exact ⟨by simp_all [own_temp], e5, rfl⟩
      · refine own_iconst X5 C own_d_prog_19_method_4_code_21 22 rfl (1) rfl ?_
        refine own_goto X5 C own_d_prog_19_method_4_code_22 26 (by decide) (by decide) ?_
        refine own_iretN X5 C .boolean rfl (by simp) own_d_prog_19_method_4_code_26 (by decide) (by decide) (1) (by decide) ?_
        exact ⟨by simp_all [own_temp], e5, rfl⟩
theorem own_pn_ConnectiveTemporalPinLaw : plainName "com/example/paths_to_proofs/pathstoproofs/check/ConnectiveTemporalPinLaw" = true := by first | (simp [plainName, overriddenIn]; done) | decide +kernel
theorem own_pd_I_R_Z : parseMethodDescriptor "(I)Z" = some ⟨[.int], some .boolean⟩ := by decide +kernel
set_option maxRecDepth 65536 in
set_option maxHeartbeats 4000000 in
theorem own_ef_own_rm_law (m : MethodId) (ia0 : Int32) : entryFrame m #[(.int ia0)] maxLocals = (mkF m 0 #[.val (.int ia0), .unset, .unset, .unset, .unset, .unset, .unset] []) := by first | (simp [entryFrame, mkF, argsToLocals, Value.category, maxLocals]; done) | rfl
set_option maxRecDepth 65536 in
set_option maxHeartbeats 4000000 in
theorem own_rm_law (l : Launch) (Z : State) (a0 : Array Value) (hw : ∀ d ∈ tables_1, d.before a0 Z = true) (ia0 : Int32) (h : Heap) (n0 : Nat) (a_AND s_AND b_AND a_OR s_OR b_OR a_IMPLIES s_IMPLIES b_IMPLIES a_IFF s_IFF b_IFF a_UNTIL s_UNTIL b_UNTIL a_WEAK_UNTIL s_WEAK_UNTIL b_WEAK_UNTIL a_RELEASE s_RELEASE b_RELEASE : Addr) (S_AND : Sta Z h "com/example/paths_to_proofs/pathstoproofs/check/Formula$Connective" "AND" "Lcom/example/paths_to_proofs/pathstoproofs/check/Formula$Connective;" (.ref a_AND)) (S_OR : Sta Z h "com/example/paths_to_proofs/pathstoproofs/check/Formula$Connective" "OR" "Lcom/example/paths_to_proofs/pathstoproofs/check/Formula$Connective;" (.ref a_OR)) (S_IMPLIES : Sta Z h "com/example/paths_to_proofs/pathstoproofs/check/Formula$Connective" "IMPLIES" "Lcom/example/paths_to_proofs/pathstoproofs/check/Formula$Connective;" (.ref a_IMPLIES)) (S_IFF : Sta Z h "com/example/paths_to_proofs/pathstoproofs/check/Formula$Connective" "IFF" "Lcom/example/paths_to_proofs/pathstoproofs/check/Formula$Connective;" (.ref a_IFF)) (S_UNTIL : Sta Z h "com/example/paths_to_proofs/pathstoproofs/check/Formula$Connective" "UNTIL" "Lcom/example/paths_to_proofs/pathstoproofs/check/Formula$Connective;" (.ref a_UNTIL)) (S_WEAK_UNTIL : Sta Z h "com/example/paths_to_proofs/pathstoproofs/check/Formula$Connective" "WEAK_UNTIL" "Lcom/example/paths_to_proofs/pathstoproofs/check/Formula$Connective;" (.ref a_WEAK_UNTIL)) (S_RELEASE : Sta Z h "com/example/paths_to_proofs/pathstoproofs/check/Formula$Connective" "RELEASE" "Lcom/example/paths_to_proofs/pathstoproofs/check/Formula$Connective;" (.ref a_RELEASE)) (E_AND : Exa Z h a_AND "com/example/paths_to_proofs/pathstoproofs/check/Formula$Connective") (F_AND : Fld Z h a_AND "com/example/paths_to_proofs/pathstoproofs/check/Formula$Connective" "symbol" "Ljava/lang/String;" (.ref s_AND)) (I_AND : OwnStr Z h s_AND b_AND 2 (fun i => if i = 0 then (38 : Int32) else if i = 1 then (38 : Int32) else 0)) (E_OR : Exa Z h a_OR "com/example/paths_to_proofs/pathstoproofs/check/Formula$Connective") (F_OR : Fld Z h a_OR "com/example/paths_to_proofs/pathstoproofs/check/Formula$Connective" "symbol" "Ljava/lang/String;" (.ref s_OR)) (I_OR : OwnStr Z h s_OR b_OR 2 (fun i => if i = 0 then (124 : Int32) else if i = 1 then (124 : Int32) else 0)) (E_IMPLIES : Exa Z h a_IMPLIES "com/example/paths_to_proofs/pathstoproofs/check/Formula$Connective") (F_IMPLIES : Fld Z h a_IMPLIES "com/example/paths_to_proofs/pathstoproofs/check/Formula$Connective" "symbol" "Ljava/lang/String;" (.ref s_IMPLIES)) (I_IMPLIES : OwnStr Z h s_IMPLIES b_IMPLIES 2 (fun i => if i = 0 then (45 : Int32) else if i = 1 then (62 : Int32) else 0)) (E_IFF : Exa Z h a_IFF "com/example/paths_to_proofs/pathstoproofs/check/Formula$Connective") (F_IFF : Fld Z h a_IFF "com/example/paths_to_proofs/pathstoproofs/check/Formula$Connective" "symbol" "Ljava/lang/String;" (.ref s_IFF)) (I_IFF : OwnStr Z h s_IFF b_IFF 3 (fun i => if i = 0 then (60 : Int32) else if i = 1 then (45 : Int32) else if i = 2 then (62 : Int32) else 0)) (E_UNTIL : Exa Z h a_UNTIL "com/example/paths_to_proofs/pathstoproofs/check/Formula$Connective") (F_UNTIL : Fld Z h a_UNTIL "com/example/paths_to_proofs/pathstoproofs/check/Formula$Connective" "symbol" "Ljava/lang/String;" (.ref s_UNTIL)) (I_UNTIL : OwnStr Z h s_UNTIL b_UNTIL 1 (fun i => if i = 0 then (85 : Int32) else 0)) (E_WEAK_UNTIL : Exa Z h a_WEAK_UNTIL "com/example/paths_to_proofs/pathstoproofs/check/Formula$Connective") (F_WEAK_UNTIL : Fld Z h a_WEAK_UNTIL "com/example/paths_to_proofs/pathstoproofs/check/Formula$Connective" "symbol" "Ljava/lang/String;" (.ref s_WEAK_UNTIL)) (I_WEAK_UNTIL : OwnStr Z h s_WEAK_UNTIL b_WEAK_UNTIL 1 (fun i => if i = 0 then (87 : Int32) else 0)) (E_RELEASE : Exa Z h a_RELEASE "com/example/paths_to_proofs/pathstoproofs/check/Formula$Connective") (F_RELEASE : Fld Z h a_RELEASE "com/example/paths_to_proofs/pathstoproofs/check/Formula$Connective" "symbol" "Ljava/lang/String;" (.ref s_RELEASE)) (I_RELEASE : OwnStr Z h s_RELEASE b_RELEASE 1 (fun i => if i = 0 then (86 : Int32) else 0)) (ne_AND_UNTIL : a_AND ≠ a_UNTIL) (ne_AND_WEAK_UNTIL : a_AND ≠ a_WEAK_UNTIL) (ne_AND_RELEASE : a_AND ≠ a_RELEASE) (ne_OR_UNTIL : a_OR ≠ a_UNTIL) (ne_OR_WEAK_UNTIL : a_OR ≠ a_WEAK_UNTIL) (ne_OR_RELEASE : a_OR ≠ a_RELEASE) (ne_IMPLIES_UNTIL : a_IMPLIES ≠ a_UNTIL) (ne_IMPLIES_WEAK_UNTIL : a_IMPLIES ≠ a_WEAK_UNTIL) (ne_IMPLIES_RELEASE : a_IMPLIES ≠ a_RELEASE) (ne_IFF_UNTIL : a_IFF ≠ a_UNTIL) (ne_IFF_WEAK_UNTIL : a_IFF ≠ a_WEAK_UNTIL) (ne_IFF_RELEASE : a_IFF ≠ a_RELEASE) (cs : Int32) (vF : Value) (J : OwnJ Z h cs vF) :
    OwnMet l Z x code maxLocals ret tables_1 room_1 #[(.int ia0)] h (fun v h' L => v = some (.int 1) ∧ Fr n0 L) := by
  refine own_enter (f0 := fun m => mkF m 0 #[.val (.int ia0), .unset, .unset, .unset, .unset, .unset, .unset] []) (plainFor_of_name own_pn_ConnectiveTemporalPinLaw) (fun m => own_ef_own_rm_law m ia0) ?_
  intro p e s m below meth c T0 X0 C e0
  refine own_iload_n X0 C at_0 1 rfl rfl ?_
  refine own_ldc X0 C (own_w hw 0 rfl) at_1 3 rfl ?_
  refine own_iand X0 C at_3 4 rfl (fun v1 ev1 => ?_)
  refine own_bipush X0 C at_4 6 rfl (7) rfl ?_
  refine own_irem X0 C at_6 7 rfl (by decide) (fun v2 ev2 => ?_)
  have r1 := c_and ia0 2147483647 (by decide)
  rw [← ev1] at r1
  have r2 := (c_irem v1 7 7 (by decide)).1 r1.1
  rw [← ev2] at r2
  refine own_istore_n X0 C at_7 8 rfl #[.val (.int ia0), .val (.int v2), .unset, .unset, .unset, .unset, .unset] rfl ?_
  refine own_iload_n X0 C at_8 9 rfl rfl ?_
  refine own_ifne X0 C at_9 12 21 rfl (by decide) (by decide) (i := v2.toInt) rfl (fun b1 => ?_) (fun b1 => ?_)
  · refine own_iload_n X0 C at_21 22 rfl rfl ?_
    refine own_iconst X0 C at_22 23 rfl (1) rfl ?_
    refine own_icmpne X0 C at_23 26 35 rfl (by decide) (by decide) (i := v2.toInt) rfl (j := 1) (by decide) (fun b2 => ?_) (fun b2 => ?_)
    · refine own_iload_n X0 C at_35 36 rfl rfl ?_
      refine own_iconst X0 C at_36 37 rfl (2) rfl ?_
      refine own_icmpne X0 C at_37 40 49 rfl (by decide) (by decide) (i := v2.toInt) rfl (j := 2) (by decide) (fun b3 => ?_) (fun b3 => ?_)
      · refine own_iload_n X0 C at_49 50 rfl rfl ?_
        refine own_iconst X0 C at_50 51 rfl (3) rfl ?_
        refine own_icmpne X0 C at_51 54 63 rfl (by decide) (by decide) (i := v2.toInt) rfl (j := 3) (by decide) (fun b4 => ?_) (fun b4 => ?_)
        · refine own_iload_n X0 C at_63 64 rfl rfl ?_
          refine own_iconst X0 C at_64 65 rfl (4) rfl ?_
          refine own_icmpne X0 C at_65 68 77 rfl (by decide) (by decide) (i := v2.toInt) rfl (j := 4) (by decide) (fun b5 => ?_) (fun b5 => ?_)
          · refine own_iload_n X0 C at_77 78 rfl rfl ?_
            refine own_iconst X0 C at_78 79 rfl (5) rfl ?_
            refine own_icmpne X0 C at_79 82 91 rfl (by decide) (by decide) (i := v2.toInt) rfl (j := 5) (by decide) (fun b6 => ?_) (fun b6 => ?_)
            · refine own_getstatic X0 C (host := "") (Or.inl (own_w hw 58 rfl)) Via.refl e0 S_RELEASE at_91 94 rfl (fun T7 X7 e7 => ?_)
              refine own_astore_n X7 C at_94 95 rfl rfl #[.val (.int ia0), .val (.int v2), .val (.ref a_RELEASE), .unset, .unset, .unset, .unset] rfl ?_
              refine own_iconst X7 C at_95 96 rfl (1) rfl ?_
              refine own_istore_n X7 C at_96 97 rfl #[.val (.int ia0), .val (.int v2), .val (.ref a_RELEASE), .val (.int (1 : Int32)), .unset, .unset, .unset] rfl ?_
              refine own_aload_n X7 C at_97 98 rfl rfl rfl ?_
              refine own_callV X7 C (own_w hw 4 rfl) (own_w hw 5 rfl) (own_w hw 7 rfl) (own_w hw 6 rfl) (own_w hw 2 rfl) (own_w hw 8 rfl) (by decide) E_RELEASE (own_conv (w' := (.int 1)) (own_rm_temporal l Z a0 hw a_RELEASE h a_UNTIL a_WEAK_UNTIL a_RELEASE S_UNTIL S_WEAK_UNTIL S_RELEASE) (by rw [own_temp, if_pos (by simp)])) e7 own_pd__R_Z [] rfl rfl rfl rfl 0 rfl (by decide) (by decide) (by decide) (by decide) at_98 101 rfl (fun T8 L8 v8 X8 q8 => ?_)
              obtain ⟨rfl, eh8, rfl⟩ := q8
              have N8 := Fr.app (Fr.nil n0) (Fr.nil n0)
              refine own_istore X8 C at_101 103 rfl #[.val (.int ia0), .val (.int v2), .val (.ref a_RELEASE), .val (.int (1 : Int32)), .val (.int (1 : Int32)), .unset, .unset] rfl ?_
              refine own_aload_n X8 C at_103 104 rfl rfl rfl ?_
              refine own_getfield X8 C (host := "") (Or.inl (own_w hw 15 rfl)) Via.refl eh8 F_RELEASE at_104 107 rfl (fun T9 X9 e9 => ?_)
              refine own_astore X9 C at_107 109 rfl rfl #[.val (.int ia0), .val (.int v2), .val (.ref a_RELEASE), .val (.int (1 : Int32)), .val (.int (1 : Int32)), .val (.ref s_RELEASE), .unset] rfl ?_
              refine own_aload X9 C at_109 111 rfl rfl rfl ?_
              refine own_callV X9 C (own_w hw 17 rfl) (own_w hw 18 rfl) (own_w hw 20 rfl) (own_w hw 19 rfl) (own_w hw 21 rfl) (own_w hw 22 rfl) (by decide) I_RELEASE.1 (own_rm_length l Z a0 hw s_RELEASE h b_RELEASE 1 (fun i => if i = 0 then (86 : Int32) else 0) I_RELEASE cs vF J) e9 own_pd__R_I [] rfl rfl rfl rfl 0 rfl (by decide) (by decide) (by decide) (by decide) at_111 114 rfl (fun T10 L10 v10 X10 q10 => ?_)
              obtain ⟨⟨_, rfl, z10, rfl, hz10⟩, eh10, rfl⟩ := q10
              have N10 := Fr.app N8 (Fr.nil n0)
              refine own_iconst X10 C at_114 115 rfl (1) rfl ?_
              refine own_icmpne X10 C at_115 118 144 rfl (by decide) (by decide) (i := z10.toInt) rfl (j := 1) (by decide) (fun b11 => ?_) (fun b11 => ?_)
              · exfalso
                omega
              · refine own_aload X10 C at_118 120 rfl rfl rfl ?_
                refine own_iconst X10 C at_120 121 rfl (0) rfl ?_
                refine own_callV X10 C (own_w hw 36 rfl) (own_w hw 37 rfl) (own_w hw 39 rfl) (own_w hw 38 rfl) (own_w hw 21 rfl) (own_w hw 40 rfl) (by decide) I_RELEASE.1 (own_rm_charAt l Z a0 hw s_RELEASE 0 h b_RELEASE 1 (fun i => if i = 0 then (86 : Int32) else 0) I_RELEASE cs vF J 0 (by decide) (by decide)) eh10 own_pd_I_R_C [(.int (0 : Int32))] rfl rfl rfl rfl 0 rfl (by decide) (by decide) (by decide) (by decide) at_121 124 rfl (fun T12 L12 v12 X12 q12 => ?_)
                obtain ⟨⟨_, rfl, z12, rfl, hz12⟩, eh12, rfl⟩ := q12
                have N12 := Fr.app N10 (Fr.nil n0)
                have hy12 : z12.toInt = 86 := by rw [hz12]; decide
                refine own_bipush X12 C at_124 126 rfl (65) rfl ?_
                refine own_icmplt X12 C at_126 129 144 rfl (by decide) (by decide) (i := z12.toInt) rfl (j := 65) (by decide) (fun b13 => ?_) (fun b13 => ?_)
                · exfalso
                  omega
                · refine own_aload X12 C at_129 131 rfl rfl rfl ?_
                  refine own_iconst X12 C at_131 132 rfl (0) rfl ?_
                  refine own_callV X12 C (own_w hw 36 rfl) (own_w hw 37 rfl) (own_w hw 39 rfl) (own_w hw 38 rfl) (own_w hw 21 rfl) (own_w hw 40 rfl) (by decide) I_RELEASE.1 (own_rm_charAt l Z a0 hw s_RELEASE 0 h b_RELEASE 1 (fun i => if i = 0 then (86 : Int32) else 0) I_RELEASE cs vF J 0 (by decide) (by decide)) eh12 own_pd_I_R_C [(.int (0 : Int32))] rfl rfl rfl rfl 0 rfl (by decide) (by decide) (by decide) (by decide) at_132 135 rfl (fun T14 L14 v14 X14 q14 => ?_)
                  obtain ⟨⟨_, rfl, z14, rfl, hz14⟩, eh14, rfl⟩ := q14
                  have N14 := Fr.app N12 (Fr.nil n0)
                  have hy14 : z14.toInt = 86 := by rw [hz14]; decide
                  refine own_bipush X14 C at_135 137 rfl (90) rfl ?_
                  refine own_icmpgt X14 C at_137 140 144 rfl (by decide) (by decide) (i := z14.toInt) rfl (j := 90) (by decide) (fun b15 => ?_) (fun b15 => ?_)
                  · exfalso
                    omega
                  · refine own_iconst X14 C at_140 141 rfl (1) rfl ?_
                    refine own_goto X14 C at_141 145 (by decide) (by decide) ?_
                    refine own_istore X14 C at_145 147 rfl #[.val (.int ia0), .val (.int v2), .val (.ref a_RELEASE), .val (.int (1 : Int32)), .val (.int (1 : Int32)), .val (.ref s_RELEASE), .val (.int (1 : Int32))] rfl ?_
                    refine own_iload X14 C at_147 149 rfl rfl ?_
                    refine own_iload_n X14 C at_149 150 rfl rfl ?_
                    refine own_icmpne X14 C at_150 153 164 rfl (by decide) (by decide) (i := 1) (by decide) (j := 1) (by decide) (fun b16 => ?_) (fun b16 => ?_)
                    · exfalso
                      omega
                    · refine own_iload X14 C at_153 155 rfl rfl ?_
                      refine own_iload X14 C at_155 157 rfl rfl ?_
                      refine own_icmpne X14 C at_157 160 164 rfl (by decide) (by decide) (i := 1) (by decide) (j := 1) (by decide) (fun b17 => ?_) (fun b17 => ?_)
                      · exfalso
                        omega
                      · refine own_iconst X14 C at_160 161 rfl (1) rfl ?_
                        refine own_goto X14 C at_161 165 (by decide) (by decide) ?_
                        refine own_iretN X14 C .boolean rfl (by simp) at_165 (by decide) (by decide) (1) (by decide) ?_
                        exact ⟨rfl, N14⟩
            · refine own_getstatic X0 C (host := "") (Or.inl (own_w hw 35 rfl)) Via.refl e0 S_WEAK_UNTIL at_82 85 rfl (fun T18 X18 e18 => ?_)
              refine own_astore_n X18 C at_85 86 rfl rfl #[.val (.int ia0), .val (.int v2), .val (.ref a_WEAK_UNTIL), .unset, .unset, .unset, .unset] rfl ?_
              refine own_iconst X18 C at_86 87 rfl (1) rfl ?_
              refine own_istore_n X18 C at_87 88 rfl #[.val (.int ia0), .val (.int v2), .val (.ref a_WEAK_UNTIL), .val (.int (1 : Int32)), .unset, .unset, .unset] rfl ?_
              refine own_goto X18 C at_88 97 (by decide) (by decide) ?_
              refine own_aload_n X18 C at_97 98 rfl rfl rfl ?_
              refine own_callV X18 C (own_w hw 4 rfl) (own_w hw 5 rfl) (own_w hw 7 rfl) (own_w hw 6 rfl) (own_w hw 2 rfl) (own_w hw 8 rfl) (by decide) E_WEAK_UNTIL (own_conv (w' := (.int 1)) (own_rm_temporal l Z a0 hw a_WEAK_UNTIL h a_UNTIL a_WEAK_UNTIL a_RELEASE S_UNTIL S_WEAK_UNTIL S_RELEASE) (by rw [own_temp, if_pos (by simp)])) e18 own_pd__R_Z [] rfl rfl rfl rfl 0 rfl (by decide) (by decide) (by decide) (by decide) at_98 101 rfl (fun T19 L19 v19 X19 q19 => ?_)
              obtain ⟨rfl, eh19, rfl⟩ := q19
              have N19 := Fr.app (Fr.nil n0) (Fr.nil n0)
              refine own_istore X19 C at_101 103 rfl #[.val (.int ia0), .val (.int v2), .val (.ref a_WEAK_UNTIL), .val (.int (1 : Int32)), .val (.int (1 : Int32)), .unset, .unset] rfl ?_
              refine own_aload_n X19 C at_103 104 rfl rfl rfl ?_
              refine own_getfield X19 C (host := "") (Or.inl (own_w hw 15 rfl)) Via.refl eh19 F_WEAK_UNTIL at_104 107 rfl (fun T20 X20 e20 => ?_)
              refine own_astore X20 C at_107 109 rfl rfl #[.val (.int ia0), .val (.int v2), .val (.ref a_WEAK_UNTIL), .val (.int (1 : Int32)), .val (.int (1 : Int32)), .val (.ref s_WEAK_UNTIL), .unset] rfl ?_
              refine own_aload X20 C at_109 111 rfl rfl rfl ?_
              refine own_callV X20 C (own_w hw 17 rfl) (own_w hw 18 rfl) (own_w hw 20 rfl) (own_w hw 19 rfl) (own_w hw 21 rfl) (own_w hw 22 rfl) (by decide) I_WEAK_UNTIL.1 (own_rm_length l Z a0 hw s_WEAK_UNTIL h b_WEAK_UNTIL 1 (fun i => if i = 0 then (87 : Int32) else 0) I_WEAK_UNTIL cs vF J) e20 own_pd__R_I [] rfl rfl rfl rfl 0 rfl (by decide) (by decide) (by decide) (by decide) at_111 114 rfl (fun T21 L21 v21 X21 q21 => ?_)
              obtain ⟨⟨_, rfl, z21, rfl, hz21⟩, eh21, rfl⟩ := q21
              have N21 := Fr.app N19 (Fr.nil n0)
              refine own_iconst X21 C at_114 115 rfl (1) rfl ?_
              refine own_icmpne X21 C at_115 118 144 rfl (by decide) (by decide) (i := z21.toInt) rfl (j := 1) (by decide) (fun b22 => ?_) (fun b22 => ?_)
              · exfalso
                omega
              · refine own_aload X21 C at_118 120 rfl rfl rfl ?_
                refine own_iconst X21 C at_120 121 rfl (0) rfl ?_
                refine own_callV X21 C (own_w hw 36 rfl) (own_w hw 37 rfl) (own_w hw 39 rfl) (own_w hw 38 rfl) (own_w hw 21 rfl) (own_w hw 40 rfl) (by decide) I_WEAK_UNTIL.1 (own_rm_charAt l Z a0 hw s_WEAK_UNTIL 0 h b_WEAK_UNTIL 1 (fun i => if i = 0 then (87 : Int32) else 0) I_WEAK_UNTIL cs vF J 0 (by decide) (by decide)) eh21 own_pd_I_R_C [(.int (0 : Int32))] rfl rfl rfl rfl 0 rfl (by decide) (by decide) (by decide) (by decide) at_121 124 rfl (fun T23 L23 v23 X23 q23 => ?_)
                obtain ⟨⟨_, rfl, z23, rfl, hz23⟩, eh23, rfl⟩ := q23
                have N23 := Fr.app N21 (Fr.nil n0)
                have hy23 : z23.toInt = 87 := by rw [hz23]; decide
                refine own_bipush X23 C at_124 126 rfl (65) rfl ?_
                refine own_icmplt X23 C at_126 129 144 rfl (by decide) (by decide) (i := z23.toInt) rfl (j := 65) (by decide) (fun b24 => ?_) (fun b24 => ?_)
                · exfalso
                  omega
                · refine own_aload X23 C at_129 131 rfl rfl rfl ?_
                  refine own_iconst X23 C at_131 132 rfl (0) rfl ?_
                  refine own_callV X23 C (own_w hw 36 rfl) (own_w hw 37 rfl) (own_w hw 39 rfl) (own_w hw 38 rfl) (own_w hw 21 rfl) (own_w hw 40 rfl) (by decide) I_WEAK_UNTIL.1 (own_rm_charAt l Z a0 hw s_WEAK_UNTIL 0 h b_WEAK_UNTIL 1 (fun i => if i = 0 then (87 : Int32) else 0) I_WEAK_UNTIL cs vF J 0 (by decide) (by decide)) eh23 own_pd_I_R_C [(.int (0 : Int32))] rfl rfl rfl rfl 0 rfl (by decide) (by decide) (by decide) (by decide) at_132 135 rfl (fun T25 L25 v25 X25 q25 => ?_)
                  obtain ⟨⟨_, rfl, z25, rfl, hz25⟩, eh25, rfl⟩ := q25
                  have N25 := Fr.app N23 (Fr.nil n0)
                  have hy25 : z25.toInt = 87 := by rw [hz25]; decide
                  refine own_bipush X25 C at_135 137 rfl (90) rfl ?_
                  refine own_icmpgt X25 C at_137 140 144 rfl (by decide) (by decide) (i := z25.toInt) rfl (j := 90) (by decide) (fun b26 => ?_) (fun b26 => ?_)
                  · exfalso
                    omega
                  · refine own_iconst X25 C at_140 141 rfl (1) rfl ?_
                    refine own_goto X25 C at_141 145 (by decide) (by decide) ?_
                    refine own_istore X25 C at_145 147 rfl #[.val (.int ia0), .val (.int v2), .val (.ref a_WEAK_UNTIL), .val (.int (1 : Int32)), .val (.int (1 : Int32)), .val (.ref s_WEAK_UNTIL), .val (.int (1 : Int32))] rfl ?_
                    refine own_iload X25 C at_147 149 rfl rfl ?_
                    refine own_iload_n X25 C at_149 150 rfl rfl ?_
                    refine own_icmpne X25 C at_150 153 164 rfl (by decide) (by decide) (i := 1) (by decide) (j := 1) (by decide) (fun b27 => ?_) (fun b27 => ?_)
                    · exfalso
                      omega
                    · refine own_iload X25 C at_153 155 rfl rfl ?_
                      refine own_iload X25 C at_155 157 rfl rfl ?_
                      refine own_icmpne X25 C at_157 160 164 rfl (by decide) (by decide) (i := 1) (by decide) (j := 1) (by decide) (fun b28 => ?_) (fun b28 => ?_)
                      · exfalso
                        omega
                      · refine own_iconst X25 C at_160 161 rfl (1) rfl ?_
                        refine own_goto X25 C at_161 165 (by decide) (by decide) ?_
                        refine own_iretN X25 C .boolean rfl (by simp) at_165 (by decide) (by decide) (1) (by decide) ?_
                        exact ⟨rfl, N25⟩
          · refine own_getstatic X0 C (host := "") (Or.inl (own_w hw 59 rfl)) Via.refl e0 S_UNTIL at_68 71 rfl (fun T29 X29 e29 => ?_)
            refine own_astore_n X29 C at_71 72 rfl rfl #[.val (.int ia0), .val (.int v2), .val (.ref a_UNTIL), .unset, .unset, .unset, .unset] rfl ?_
            refine own_iconst X29 C at_72 73 rfl (1) rfl ?_
            refine own_istore_n X29 C at_73 74 rfl #[.val (.int ia0), .val (.int v2), .val (.ref a_UNTIL), .val (.int (1 : Int32)), .unset, .unset, .unset] rfl ?_
            refine own_goto X29 C at_74 97 (by decide) (by decide) ?_
            refine own_aload_n X29 C at_97 98 rfl rfl rfl ?_
            refine own_callV X29 C (own_w hw 4 rfl) (own_w hw 5 rfl) (own_w hw 7 rfl) (own_w hw 6 rfl) (own_w hw 2 rfl) (own_w hw 8 rfl) (by decide) E_UNTIL (own_conv (w' := (.int 1)) (own_rm_temporal l Z a0 hw a_UNTIL h a_UNTIL a_WEAK_UNTIL a_RELEASE S_UNTIL S_WEAK_UNTIL S_RELEASE) (by rw [own_temp, if_pos (by simp)])) e29 own_pd__R_Z [] rfl rfl rfl rfl 0 rfl (by decide) (by decide) (by decide) (by decide) at_98 101 rfl (fun T30 L30 v30 X30 q30 => ?_)
            obtain ⟨rfl, eh30, rfl⟩ := q30
            have N30 := Fr.app (Fr.nil n0) (Fr.nil n0)
            refine own_istore X30 C at_101 103 rfl #[.val (.int ia0), .val (.int v2), .val (.ref a_UNTIL), .val (.int (1 : Int32)), .val (.int (1 : Int32)), .unset, .unset] rfl ?_
            refine own_aload_n X30 C at_103 104 rfl rfl rfl ?_
            refine own_getfield X30 C (host := "") (Or.inl (own_w hw 15 rfl)) Via.refl eh30 F_UNTIL at_104 107 rfl (fun T31 X31 e31 => ?_)
            refine own_astore X31 C at_107 109 rfl rfl #[.val (.int ia0), .val (.int v2), .val (.ref a_UNTIL), .val (.int (1 : Int32)), .val (.int (1 : Int32)), .val (.ref s_UNTIL), .unset] rfl ?_
            refine own_aload X31 C at_109 111 rfl rfl rfl ?_
            refine own_callV X31 C (own_w hw 17 rfl) (own_w hw 18 rfl) (own_w hw 20 rfl) (own_w hw 19 rfl) (own_w hw 21 rfl) (own_w hw 22 rfl) (by decide) I_UNTIL.1 (own_rm_length l Z a0 hw s_UNTIL h b_UNTIL 1 (fun i => if i = 0 then (85 : Int32) else 0) I_UNTIL cs vF J) e31 own_pd__R_I [] rfl rfl rfl rfl 0 rfl (by decide) (by decide) (by decide) (by decide) at_111 114 rfl (fun T32 L32 v32 X32 q32 => ?_)
            obtain ⟨⟨_, rfl, z32, rfl, hz32⟩, eh32, rfl⟩ := q32
            have N32 := Fr.app N30 (Fr.nil n0)
            refine own_iconst X32 C at_114 115 rfl (1) rfl ?_
            refine own_icmpne X32 C at_115 118 144 rfl (by decide) (by decide) (i := z32.toInt) rfl (j := 1) (by decide) (fun b33 => ?_) (fun b33 => ?_)
            · exfalso
              omega
            · refine own_aload X32 C at_118 120 rfl rfl rfl ?_
              refine own_iconst X32 C at_120 121 rfl (0) rfl ?_
              refine own_callV X32 C (own_w hw 36 rfl) (own_w hw 37 rfl) (own_w hw 39 rfl) (own_w hw 38 rfl) (own_w hw 21 rfl) (own_w hw 40 rfl) (by decide) I_UNTIL.1 (own_rm_charAt l Z a0 hw s_UNTIL 0 h b_UNTIL 1 (fun i => if i = 0 then (85 : Int32) else 0) I_UNTIL cs vF J 0 (by decide) (by decide)) eh32 own_pd_I_R_C [(.int (0 : Int32))] rfl rfl rfl rfl 0 rfl (by decide) (by decide) (by decide) (by decide) at_121 124 rfl (fun T34 L34 v34 X34 q34 => ?_)
              obtain ⟨⟨_, rfl, z34, rfl, hz34⟩, eh34, rfl⟩ := q34
              have N34 := Fr.app N32 (Fr.nil n0)
              have hy34 : z34.toInt = 85 := by rw [hz34]; decide
              refine own_bipush X34 C at_124 126 rfl (65) rfl ?_
              refine own_icmplt X34 C at_126 129 144 rfl (by decide) (by decide) (i := z34.toInt) rfl (j := 65) (by decide) (fun b35 => ?_) (fun b35 => ?_)
              · exfalso
                omega
              · refine own_aload X34 C at_129 131 rfl rfl rfl ?_
                refine own_iconst X34 C at_131 132 rfl (0) rfl ?_
                refine own_callV X34 C (own_w hw 36 rfl) (own_w hw 37 rfl) (own_w hw 39 rfl) (own_w hw 38 rfl) (own_w hw 21 rfl) (own_w hw 40 rfl) (by decide) I_UNTIL.1 (own_rm_charAt l Z a0 hw s_UNTIL 0 h b_UNTIL 1 (fun i => if i = 0 then (85 : Int32) else 0) I_UNTIL cs vF J 0 (by decide) (by decide)) eh34 own_pd_I_R_C [(.int (0 : Int32))] rfl rfl rfl rfl 0 rfl (by decide) (by decide) (by decide) (by decide) at_132 135 rfl (fun T36 L36 v36 X36 q36 => ?_)
                obtain ⟨⟨_, rfl, z36, rfl, hz36⟩, eh36, rfl⟩ := q36
                have N36 := Fr.app N34 (Fr.nil n0)
                have hy36 : z36.toInt = 85 := by rw [hz36]; decide
                refine own_bipush X36 C at_135 137 rfl (90) rfl ?_
                refine own_icmpgt X36 C at_137 140 144 rfl (by decide) (by decide) (i := z36.toInt) rfl (j := 90) (by decide) (fun b37 => ?_) (fun b37 => ?_)
                · exfalso
                  omega
                · refine own_iconst X36 C at_140 141 rfl (1) rfl ?_
                  refine own_goto X36 C at_141 145 (by decide) (by decide) ?_
                  refine own_istore X36 C at_145 147 rfl #[.val (.int ia0), .val (.int v2), .val (.ref a_UNTIL), .val (.int (1 : Int32)), .val (.int (1 : Int32)), .val (.ref s_UNTIL), .val (.int (1 : Int32))] rfl ?_
                  refine own_iload X36 C at_147 149 rfl rfl ?_
                  refine own_iload_n X36 C at_149 150 rfl rfl ?_
                  refine own_icmpne X36 C at_150 153 164 rfl (by decide) (by decide) (i := 1) (by decide) (j := 1) (by decide) (fun b38 => ?_) (fun b38 => ?_)
                  · exfalso
                    omega
                  · refine own_iload X36 C at_153 155 rfl rfl ?_
                    refine own_iload X36 C at_155 157 rfl rfl ?_
                    refine own_icmpne X36 C at_157 160 164 rfl (by decide) (by decide) (i := 1) (by decide) (j := 1) (by decide) (fun b39 => ?_) (fun b39 => ?_)
                    · exfalso
                      omega
                    · refine own_iconst X36 C at_160 161 rfl (1) rfl ?_
                      refine own_goto X36 C at_161 165 (by decide) (by decide) ?_
                      refine own_iretN X36 C .boolean rfl (by simp) at_165 (by decide) (by decide) (1) (by decide) ?_
                      exact ⟨rfl, N36⟩
        · refine own_getstatic X0 C (host := "") (Or.inl (own_w hw 33 rfl)) Via.refl e0 S_IFF at_54 57 rfl (fun T40 X40 e40 => ?_)
          refine own_astore_n X40 C at_57 58 rfl rfl #[.val (.int ia0), .val (.int v2), .val (.ref a_IFF), .unset, .unset, .unset, .unset] rfl ?_
          refine own_iconst X40 C at_58 59 rfl (0) rfl ?_
          refine own_istore_n X40 C at_59 60 rfl #[.val (.int ia0), .val (.int v2), .val (.ref a_IFF), .val (.int (0 : Int32)), .unset, .unset, .unset] rfl ?_
          refine own_goto X40 C at_60 97 (by decide) (by decide) ?_
          refine own_aload_n X40 C at_97 98 rfl rfl rfl ?_
          refine own_callV X40 C (own_w hw 4 rfl) (own_w hw 5 rfl) (own_w hw 7 rfl) (own_w hw 6 rfl) (own_w hw 2 rfl) (own_w hw 8 rfl) (by decide) E_IFF (own_conv (w' := (.int 0)) (own_rm_temporal l Z a0 hw a_IFF h a_UNTIL a_WEAK_UNTIL a_RELEASE S_UNTIL S_WEAK_UNTIL S_RELEASE) (by rw [own_temp, if_neg (fun q => q.elim ne_IFF_UNTIL fun q => q.elim ne_IFF_WEAK_UNTIL ne_IFF_RELEASE)])) e40 own_pd__R_Z [] rfl rfl rfl rfl 0 rfl (by decide) (by decide) (by decide) (by decide) at_98 101 rfl (fun T41 L41 v41 X41 q41 => ?_)
          obtain ⟨rfl, eh41, rfl⟩ := q41
          have N41 := Fr.app (Fr.nil n0) (Fr.nil n0)
          refine own_istore X41 C at_101 103 rfl #[.val (.int ia0), .val (.int v2), .val (.ref a_IFF), .val (.int (0 : Int32)), .val (.int (0 : Int32)), .unset, .unset] rfl ?_
          refine own_aload_n X41 C at_103 104 rfl rfl rfl ?_
          refine own_getfield X41 C (host := "") (Or.inl (own_w hw 15 rfl)) Via.refl eh41 F_IFF at_104 107 rfl (fun T42 X42 e42 => ?_)
          refine own_astore X42 C at_107 109 rfl rfl #[.val (.int ia0), .val (.int v2), .val (.ref a_IFF), .val (.int (0 : Int32)), .val (.int (0 : Int32)), .val (.ref s_IFF), .unset] rfl ?_
          refine own_aload X42 C at_109 111 rfl rfl rfl ?_
          refine own_callV X42 C (own_w hw 17 rfl) (own_w hw 18 rfl) (own_w hw 20 rfl) (own_w hw 19 rfl) (own_w hw 21 rfl) (own_w hw 22 rfl) (by decide) I_IFF.1 (own_rm_length l Z a0 hw s_IFF h b_IFF 3 (fun i => if i = 0 then (60 : Int32) else if i = 1 then (45 : Int32) else if i = 2 then (62 : Int32) else 0) I_IFF cs vF J) e42 own_pd__R_I [] rfl rfl rfl rfl 0 rfl (by decide) (by decide) (by decide) (by decide) at_111 114 rfl (fun T43 L43 v43 X43 q43 => ?_)
          obtain ⟨⟨_, rfl, z43, rfl, hz43⟩, eh43, rfl⟩ := q43
          have N43 := Fr.app N41 (Fr.nil n0)
          refine own_iconst X43 C at_114 115 rfl (1) rfl ?_
          refine own_icmpne X43 C at_115 118 144 rfl (by decide) (by decide) (i := z43.toInt) rfl (j := 1) (by decide) (fun b44 => ?_) (fun b44 => ?_)
          · refine own_iconst X43 C at_144 145 rfl (0) rfl ?_
            refine own_istore X43 C at_145 147 rfl #[.val (.int ia0), .val (.int v2), .val (.ref a_IFF), .val (.int (0 : Int32)), .val (.int (0 : Int32)), .val (.ref s_IFF), .val (.int (0 : Int32))] rfl ?_
            refine own_iload X43 C at_147 149 rfl rfl ?_
            refine own_iload_n X43 C at_149 150 rfl rfl ?_
            refine own_icmpne X43 C at_150 153 164 rfl (by decide) (by decide) (i := 0) (by decide) (j := 0) (by decide) (fun b45 => ?_) (fun b45 => ?_)
            · exfalso
              omega
            · refine own_iload X43 C at_153 155 rfl rfl ?_
              refine own_iload X43 C at_155 157 rfl rfl ?_
              refine own_icmpne X43 C at_157 160 164 rfl (by decide) (by decide) (i := 0) (by decide) (j := 0) (by decide) (fun b46 => ?_) (fun b46 => ?_)
              · exfalso
                omega
              · refine own_iconst X43 C at_160 161 rfl (1) rfl ?_
                refine own_goto X43 C at_161 165 (by decide) (by decide) ?_
                refine own_iretN X43 C .boolean rfl (by simp) at_165 (by decide) (by decide) (1) (by decide) ?_
                exact ⟨rfl, N43⟩
          · exfalso
            omega
      · refine own_getstatic X0 C (host := "") (Or.inl (own_w hw 60 rfl)) Via.refl e0 S_IMPLIES at_40 43 rfl (fun T47 X47 e47 => ?_)
        refine own_astore_n X47 C at_43 44 rfl rfl #[.val (.int ia0), .val (.int v2), .val (.ref a_IMPLIES), .unset, .unset, .unset, .unset] rfl ?_
        refine own_iconst X47 C at_44 45 rfl (0) rfl ?_
        refine own_istore_n X47 C at_45 46 rfl #[.val (.int ia0), .val (.int v2), .val (.ref a_IMPLIES), .val (.int (0 : Int32)), .unset, .unset, .unset] rfl ?_
        refine own_goto X47 C at_46 97 (by decide) (by decide) ?_
        refine own_aload_n X47 C at_97 98 rfl rfl rfl ?_
        refine own_callV X47 C (own_w hw 4 rfl) (own_w hw 5 rfl) (own_w hw 7 rfl) (own_w hw 6 rfl) (own_w hw 2 rfl) (own_w hw 8 rfl) (by decide) E_IMPLIES (own_conv (w' := (.int 0)) (own_rm_temporal l Z a0 hw a_IMPLIES h a_UNTIL a_WEAK_UNTIL a_RELEASE S_UNTIL S_WEAK_UNTIL S_RELEASE) (by rw [own_temp, if_neg (fun q => q.elim ne_IMPLIES_UNTIL fun q => q.elim ne_IMPLIES_WEAK_UNTIL ne_IMPLIES_RELEASE)])) e47 own_pd__R_Z [] rfl rfl rfl rfl 0 rfl (by decide) (by decide) (by decide) (by decide) at_98 101 rfl (fun T48 L48 v48 X48 q48 => ?_)
        obtain ⟨rfl, eh48, rfl⟩ := q48
        have N48 := Fr.app (Fr.nil n0) (Fr.nil n0)
        refine own_istore X48 C at_101 103 rfl #[.val (.int ia0), .val (.int v2), .val (.ref a_IMPLIES), .val (.int (0 : Int32)), .val (.int (0 : Int32)), .unset, .unset] rfl ?_
        refine own_aload_n X48 C at_103 104 rfl rfl rfl ?_
        refine own_getfield X48 C (host := "") (Or.inl (own_w hw 15 rfl)) Via.refl eh48 F_IMPLIES at_104 107 rfl (fun T49 X49 e49 => ?_)
        refine own_astore X49 C at_107 109 rfl rfl #[.val (.int ia0), .val (.int v2), .val (.ref a_IMPLIES), .val (.int (0 : Int32)), .val (.int (0 : Int32)), .val (.ref s_IMPLIES), .unset] rfl ?_
        refine own_aload X49 C at_109 111 rfl rfl rfl ?_
        refine own_callV X49 C (own_w hw 17 rfl) (own_w hw 18 rfl) (own_w hw 20 rfl) (own_w hw 19 rfl) (own_w hw 21 rfl) (own_w hw 22 rfl) (by decide) I_IMPLIES.1 (own_rm_length l Z a0 hw s_IMPLIES h b_IMPLIES 2 (fun i => if i = 0 then (45 : Int32) else if i = 1 then (62 : Int32) else 0) I_IMPLIES cs vF J) e49 own_pd__R_I [] rfl rfl rfl rfl 0 rfl (by decide) (by decide) (by decide) (by decide) at_111 114 rfl (fun T50 L50 v50 X50 q50 => ?_)
        obtain ⟨⟨_, rfl, z50, rfl, hz50⟩, eh50, rfl⟩ := q50
        have N50 := Fr.app N48 (Fr.nil n0)
        refine own_iconst X50 C at_114 115 rfl (1) rfl ?_
        refine own_icmpne X50 C at_115 118 144 rfl (by decide) (by decide) (i := z50.toInt) rfl (j := 1) (by decide) (fun b51 => ?_) (fun b51 => ?_)
        · refine own_iconst X50 C at_144 145 rfl (0) rfl ?_
          refine own_istore X50 C at_145 147 rfl #[.val (.int ia0), .val (.int v2), .val (.ref a_IMPLIES), .val (.int (0 : Int32)), .val (.int (0 : Int32)), .val (.ref s_IMPLIES), .val (.int (0 : Int32))] rfl ?_
          refine own_iload X50 C at_147 149 rfl rfl ?_
          refine own_iload_n X50 C at_149 150 rfl rfl ?_
          refine own_icmpne X50 C at_150 153 164 rfl (by decide) (by decide) (i := 0) (by decide) (j := 0) (by decide) (fun b52 => ?_) (fun b52 => ?_)
          · exfalso
            omega
          · refine own_iload X50 C at_153 155 rfl rfl ?_
            refine own_iload X50 C at_155 157 rfl rfl ?_
            refine own_icmpne X50 C at_157 160 164 rfl (by decide) (by decide) (i := 0) (by decide) (j := 0) (by decide) (fun b53 => ?_) (fun b53 => ?_)
            · exfalso
              omega
            · refine own_iconst X50 C at_160 161 rfl (1) rfl ?_
              refine own_goto X50 C at_161 165 (by decide) (by decide) ?_
              refine own_iretN X50 C .boolean rfl (by simp) at_165 (by decide) (by decide) (1) (by decide) ?_
              exact ⟨rfl, N50⟩
        · exfalso
          omega
    · refine own_getstatic X0 C (host := "") (Or.inl (own_w hw 62 rfl)) Via.refl e0 S_OR at_26 29 rfl (fun T54 X54 e54 => ?_)
      refine own_astore_n X54 C at_29 30 rfl rfl #[.val (.int ia0), .val (.int v2), .val (.ref a_OR), .unset, .unset, .unset, .unset] rfl ?_
      refine own_iconst X54 C at_30 31 rfl (0) rfl ?_
      refine own_istore_n X54 C at_31 32 rfl #[.val (.int ia0), .val (.int v2), .val (.ref a_OR), .val (.int (0 : Int32)), .unset, .unset, .unset] rfl ?_
      refine own_goto X54 C at_32 97 (by decide) (by decide) ?_
      refine own_aload_n X54 C at_97 98 rfl rfl rfl ?_
      refine own_callV X54 C (own_w hw 4 rfl) (own_w hw 5 rfl) (own_w hw 7 rfl) (own_w hw 6 rfl) (own_w hw 2 rfl) (own_w hw 8 rfl) (by decide) E_OR (own_conv (w' := (.int 0)) (own_rm_temporal l Z a0 hw a_OR h a_UNTIL a_WEAK_UNTIL a_RELEASE S_UNTIL S_WEAK_UNTIL S_RELEASE) (by rw [own_temp, if_neg (fun q => q.elim ne_OR_UNTIL fun q => q.elim ne_OR_WEAK_UNTIL ne_OR_RELEASE)])) e54 own_pd__R_Z [] rfl rfl rfl rfl 0 rfl (by decide) (by decide) (by decide) (by decide) at_98 101 rfl (fun T55 L55 v55 X55 q55 => ?_)
      obtain ⟨rfl, eh55, rfl⟩ := q55
      have N55 := Fr.app (Fr.nil n0) (Fr.nil n0)
      refine own_istore X55 C at_101 103 rfl #[.val (.int ia0), .val (.int v2), .val (.ref a_OR), .val (.int (0 : Int32)), .val (.int (0 : Int32)), .unset, .unset] rfl ?_
      refine own_aload_n X55 C at_103 104 rfl rfl rfl ?_
      refine own_getfield X55 C (host := "") (Or.inl (own_w hw 15 rfl)) Via.refl eh55 F_OR at_104 107 rfl (fun T56 X56 e56 => ?_)
      refine own_astore X56 C at_107 109 rfl rfl #[.val (.int ia0), .val (.int v2), .val (.ref a_OR), .val (.int (0 : Int32)), .val (.int (0 : Int32)), .val (.ref s_OR), .unset] rfl ?_
      refine own_aload X56 C at_109 111 rfl rfl rfl ?_
      refine own_callV X56 C (own_w hw 17 rfl) (own_w hw 18 rfl) (own_w hw 20 rfl) (own_w hw 19 rfl) (own_w hw 21 rfl) (own_w hw 22 rfl) (by decide) I_OR.1 (own_rm_length l Z a0 hw s_OR h b_OR 2 (fun i => if i = 0 then (124 : Int32) else if i = 1 then (124 : Int32) else 0) I_OR cs vF J) e56 own_pd__R_I [] rfl rfl rfl rfl 0 rfl (by decide) (by decide) (by decide) (by decide) at_111 114 rfl (fun T57 L57 v57 X57 q57 => ?_)
      obtain ⟨⟨_, rfl, z57, rfl, hz57⟩, eh57, rfl⟩ := q57
      have N57 := Fr.app N55 (Fr.nil n0)
      refine own_iconst X57 C at_114 115 rfl (1) rfl ?_
      refine own_icmpne X57 C at_115 118 144 rfl (by decide) (by decide) (i := z57.toInt) rfl (j := 1) (by decide) (fun b58 => ?_) (fun b58 => ?_)
      · refine own_iconst X57 C at_144 145 rfl (0) rfl ?_
        refine own_istore X57 C at_145 147 rfl #[.val (.int ia0), .val (.int v2), .val (.ref a_OR), .val (.int (0 : Int32)), .val (.int (0 : Int32)), .val (.ref s_OR), .val (.int (0 : Int32))] rfl ?_
        refine own_iload X57 C at_147 149 rfl rfl ?_
        refine own_iload_n X57 C at_149 150 rfl rfl ?_
        refine own_icmpne X57 C at_150 153 164 rfl (by decide) (by decide) (i := 0) (by decide) (j := 0) (by decide) (fun b59 => ?_) (fun b59 => ?_)
        · exfalso
          omega
        · refine own_iload X57 C at_153 155 rfl rfl ?_
          refine own_iload X57 C at_155 157 rfl rfl ?_
          refine own_icmpne X57 C at_157 160 164 rfl (by decide) (by decide) (i := 0) (by decide) (j := 0) (by decide) (fun b60 => ?_) (fun b60 => ?_)
          · exfalso
            omega
          · refine own_iconst X57 C at_160 161 rfl (1) rfl ?_
            refine own_goto X57 C at_161 165 (by decide) (by decide) ?_
            refine own_iretN X57 C .boolean rfl (by simp) at_165 (by decide) (by decide) (1) (by decide) ?_
            exact ⟨rfl, N57⟩
      · exfalso
        omega
  · refine own_getstatic X0 C (host := "") (Or.inl (own_w hw 1 rfl)) Via.refl e0 S_AND at_12 15 rfl (fun T61 X61 e61 => ?_)
    refine own_astore_n X61 C at_15 16 rfl rfl #[.val (.int ia0), .val (.int v2), .val (.ref a_AND), .unset, .unset, .unset, .unset] rfl ?_
    refine own_iconst X61 C at_16 17 rfl (0) rfl ?_
    refine own_istore_n X61 C at_17 18 rfl #[.val (.int ia0), .val (.int v2), .val (.ref a_AND), .val (.int (0 : Int32)), .unset, .unset, .unset] rfl ?_
    refine own_goto X61 C at_18 97 (by decide) (by decide) ?_
    refine own_aload_n X61 C at_97 98 rfl rfl rfl ?_
    refine own_callV X61 C (own_w hw 4 rfl) (own_w hw 5 rfl) (own_w hw 7 rfl) (own_w hw 6 rfl) (own_w hw 2 rfl) (own_w hw 8 rfl) (by decide) E_AND (own_conv (w' := (.int 0)) (own_rm_temporal l Z a0 hw a_AND h a_UNTIL a_WEAK_UNTIL a_RELEASE S_UNTIL S_WEAK_UNTIL S_RELEASE) (by rw [own_temp, if_neg (fun q => q.elim ne_AND_UNTIL fun q => q.elim ne_AND_WEAK_UNTIL ne_AND_RELEASE)])) e61 own_pd__R_Z [] rfl rfl rfl rfl 0 rfl (by decide) (by decide) (by decide) (by decide) at_98 101 rfl (fun T62 L62 v62 X62 q62 => ?_)
    obtain ⟨rfl, eh62, rfl⟩ := q62
    have N62 := Fr.app (Fr.nil n0) (Fr.nil n0)
    refine own_istore X62 C at_101 103 rfl #[.val (.int ia0), .val (.int v2), .val (.ref a_AND), .val (.int (0 : Int32)), .val (.int (0 : Int32)), .unset, .unset] rfl ?_
    refine own_aload_n X62 C at_103 104 rfl rfl rfl ?_
    refine own_getfield X62 C (host := "") (Or.inl (own_w hw 15 rfl)) Via.refl eh62 F_AND at_104 107 rfl (fun T63 X63 e63 => ?_)
    refine own_astore X63 C at_107 109 rfl rfl #[.val (.int ia0), .val (.int v2), .val (.ref a_AND), .val (.int (0 : Int32)), .val (.int (0 : Int32)), .val (.ref s_AND), .unset] rfl ?_
    refine own_aload X63 C at_109 111 rfl rfl rfl ?_
    refine own_callV X63 C (own_w hw 17 rfl) (own_w hw 18 rfl) (own_w hw 20 rfl) (own_w hw 19 rfl) (own_w hw 21 rfl) (own_w hw 22 rfl) (by decide) I_AND.1 (own_rm_length l Z a0 hw s_AND h b_AND 2 (fun i => if i = 0 then (38 : Int32) else if i = 1 then (38 : Int32) else 0) I_AND cs vF J) e63 own_pd__R_I [] rfl rfl rfl rfl 0 rfl (by decide) (by decide) (by decide) (by decide) at_111 114 rfl (fun T64 L64 v64 X64 q64 => ?_)
    obtain ⟨⟨_, rfl, z64, rfl, hz64⟩, eh64, rfl⟩ := q64
    have N64 := Fr.app N62 (Fr.nil n0)
    refine own_iconst X64 C at_114 115 rfl (1) rfl ?_
    refine own_icmpne X64 C at_115 118 144 rfl (by decide) (by decide) (i := z64.toInt) rfl (j := 1) (by decide) (fun b65 => ?_) (fun b65 => ?_)
    · refine own_iconst X64 C at_144 145 rfl (0) rfl ?_
      refine own_istore X64 C at_145 147 rfl #[.val (.int ia0), .val (.int v2), .val (.ref a_AND), .val (.int (0 : Int32)), .val (.int (0 : Int32)), .val (.ref s_AND), .val (.int (0 : Int32))] rfl ?_
      refine own_iload X64 C at_147 149 rfl rfl ?_
      refine own_iload_n X64 C at_149 150 rfl rfl ?_
      refine own_icmpne X64 C at_150 153 164 rfl (by decide) (by decide) (i := 0) (by decide) (j := 0) (by decide) (fun b66 => ?_) (fun b66 => ?_)
      · exfalso
        omega
      · refine own_iload X64 C at_153 155 rfl rfl ?_
        refine own_iload X64 C at_155 157 rfl rfl ?_
        refine own_icmpne X64 C at_157 160 164 rfl (by decide) (by decide) (i := 0) (by decide) (j := 0) (by decide) (fun b67 => ?_) (fun b67 => ?_)
        · exfalso
          omega
        · refine own_iconst X64 C at_160 161 rfl (1) rfl ?_
          refine own_goto X64 C at_161 165 (by decide) (by decide) ?_
          refine own_iretN X64 C .boolean rfl (by simp) at_165 (by decide) (by decide) (1) (by decide) ?_
          exact ⟨rfl, N64⟩
    · exfalso
      omega
theorem own_len1 {n : Nat} (q : (n : Int) = (1 : Int32).toInt) : n = 1 := by
  have q1 : (1 : Int32).toInt = 1 := by decide
  omega
theorem own_len2 {n : Nat} (q : (n : Int) = (2 : Int32).toInt) : n = 2 := by
  have q1 : (2 : Int32).toInt = 2 := by decide
  omega
theorem own_len3 {n : Nat} (q : (n : Int) = (3 : Int32).toInt) : n = 3 := by
  have q1 : (3 : Int32).toInt = 3 := by decide
  omega
theorem own_el_AND (cl : Cell) (i : Nat) (hi : i < 2) (e0 : cl.slots[(0 : Int32).toNatClampNeg]? = some (.int 38)) (e1 : cl.slots[(1 : Int32).toNatClampNeg]? = some (.int 38)) : cl.slots[i]? = some (.int ((fun i => if i = 0 then (38 : Int32) else if i = 1 then (38 : Int32) else 0) i)) := by
  rcases (show i = 0 ∨ i = 1 by omega) with rfl | rfl <;> assumption
theorem own_el_OR (cl : Cell) (i : Nat) (hi : i < 2) (e0 : cl.slots[(0 : Int32).toNatClampNeg]? = some (.int 124)) (e1 : cl.slots[(1 : Int32).toNatClampNeg]? = some (.int 124)) : cl.slots[i]? = some (.int ((fun i => if i = 0 then (124 : Int32) else if i = 1 then (124 : Int32) else 0) i)) := by
  rcases (show i = 0 ∨ i = 1 by omega) with rfl | rfl <;> assumption
theorem own_el_IMPLIES (cl : Cell) (i : Nat) (hi : i < 2) (e0 : cl.slots[(0 : Int32).toNatClampNeg]? = some (.int 45)) (e1 : cl.slots[(1 : Int32).toNatClampNeg]? = some (.int 62)) : cl.slots[i]? = some (.int ((fun i => if i = 0 then (45 : Int32) else if i = 1 then (62 : Int32) else 0) i)) := by
  rcases (show i = 0 ∨ i = 1 by omega) with rfl | rfl <;> assumption
theorem own_el_IFF (cl : Cell) (i : Nat) (hi : i < 3) (e0 : cl.slots[(0 : Int32).toNatClampNeg]? = some (.int 60)) (e1 : cl.slots[(1 : Int32).toNatClampNeg]? = some (.int 45)) (e2 : cl.slots[(2 : Int32).toNatClampNeg]? = some (.int 62)) : cl.slots[i]? = some (.int ((fun i => if i = 0 then (60 : Int32) else if i = 1 then (45 : Int32) else if i = 2 then (62 : Int32) else 0) i)) := by
  rcases (show i = 0 ∨ i = 1 ∨ i = 2 by omega) with rfl | rfl | rfl <;> assumption
theorem own_el_UNTIL (cl : Cell) (i : Nat) (hi : i < 1) (e0 : cl.slots[(0 : Int32).toNatClampNeg]? = some (.int 85)) : cl.slots[i]? = some (.int ((fun i => if i = 0 then (85 : Int32) else 0) i)) := by
  rcases (show i = 0 by omega) with rfl <;> assumption
theorem own_el_WEAK_UNTIL (cl : Cell) (i : Nat) (hi : i < 1) (e0 : cl.slots[(0 : Int32).toNatClampNeg]? = some (.int 87)) : cl.slots[i]? = some (.int ((fun i => if i = 0 then (87 : Int32) else 0) i)) := by
  rcases (show i = 0 by omega) with rfl <;> assumption
theorem own_el_RELEASE (cl : Cell) (i : Nat) (hi : i < 1) (e0 : cl.slots[(0 : Int32).toNatClampNeg]? = some (.int 86)) : cl.slots[i]? = some (.int ((fun i => if i = 0 then (86 : Int32) else 0) i)) := by
  rcases (show i = 0 by omega) with rfl <;> assumption
set_option maxRecDepth 65536 in
set_option maxHeartbeats 4000000 in
theorem own_comes_1 {Post : Tables → Env → Array Value → State → Outcome → State → Prop} (hpost : ∀ tb e args s v u, (limb_1_1.after args s (.returned v) u = true ∧ limb_1_2.after args s (.returned v) u = true ∧ True) → FrameEnd s (.returned v) u (Jvm.fieldLocs frame_1_writes args s ++ Jvm.arrayLocs frame_1_arrays args s ++ Jvm.staticLocs frame_1_statics s) 0 0 → Post tb e args s (.returned v) u) :
    ArmFor flags0 classFile x code maxLocals ret World_1 tables_1 room_1 Calls_1 rest_1 Pre_1 Post := by
  intro l hfl _ _ p e ha hc hk s m args below hf hA hF happ hP
  obtain ⟨hcalls, hrest, hpre⟩ := hP
  obtain ⟨-, -, -, hnamed, -, -, -, hat⟩ := (Spec.applies_iff hf).mp happ
  obtain ⟨hg, hn⟩ := and_e (Cond.before_iff.mp (show (Jvm.Cond.and given_1 narrow_1).before args s = true from hpre))
  obtain ⟨g0, g0r⟩ := and_e hg
  obtain ⟨w0, rfl⟩ : ∃ w0 : Value, args = #[w0] := by
    have hs : args.size = 1 := by simpa [Cond.value, given_1] using g0
    obtain ⟨L⟩ := args
    match L, hs with
    | [w0], _ => exact ⟨w0, rfl⟩
  have hw := fun d (hd : d ∈ tables_1) => atoms_spec (ws := Jvm.Cond.code x code maxLocals ret :: tables_1) hat d (List.mem_cons_of_mem _ hd)
  have hfit : Fit s := fun {y c} hc i hi => by
    obtain ⟨ha, rfl⟩ := Array.getElem?_eq_some_iff.mp hc
    have q := List.all_eq_true.mp ((Array.all_eq_true_iff_forall_mem.mp hF) _ (Array.getElem_mem ha)) i (List.mem_range.mpr hi)
    simpa [Array.getElem?_eq_getElem hi] using q
  obtain ⟨i0, q0⟩ := is_v g0r
  obtain rfl : w0 = (.int i0) := Option.some.inj q0
  obtain ⟨n0, n0r⟩ := and_e hn
  obtain ⟨n1, n1r⟩ := and_e n0r
  obtain ⟨n2, n2r⟩ := and_e n1r
  obtain ⟨n3, n3r⟩ := and_e n2r
  obtain ⟨n4, n4r⟩ := and_e n3r
  obtain ⟨n5, n5r⟩ := and_e n4r
  obtain ⟨n6, n6r⟩ := and_e n5r
  obtain ⟨n7, n7r⟩ := and_e n6r
  obtain ⟨n8, n8r⟩ := and_e n7r
  obtain ⟨n9, n9r⟩ := and_e n8r
  obtain ⟨n10, n10r⟩ := and_e n9r
  obtain ⟨n11, n11r⟩ := and_e n10r
  obtain ⟨n12, n12r⟩ := and_e n11r
  obtain ⟨n13, n13r⟩ := and_e n12r
  obtain ⟨n14, n14r⟩ := and_e n13r
  obtain ⟨n15, n15r⟩ := and_e n14r
  obtain ⟨n16, n16r⟩ := and_e n15r
  obtain ⟨n17, n17r⟩ := and_e n16r
  obtain ⟨n18, n18r⟩ := and_e n17r
  obtain ⟨n19, n19r⟩ := and_e n18r
  obtain ⟨n20, n20r⟩ := and_e n19r
  obtain ⟨n21, n21r⟩ := and_e n20r
  obtain ⟨n22, n22r⟩ := and_e n21r
  obtain ⟨n23, n23r⟩ := and_e n22r
  obtain ⟨n24, n24r⟩ := and_e n23r
  obtain ⟨n25, n25r⟩ := and_e n24r
  obtain ⟨n26, n26r⟩ := and_e n25r
  obtain ⟨n27, n27r⟩ := and_e n26r
  obtain ⟨n28, n28r⟩ := and_e n27r
  obtain ⟨n29, n29r⟩ := and_e n28r
  obtain ⟨n30, n30r⟩ := and_e n29r
  obtain ⟨n31, n31r⟩ := and_e n30r
  obtain ⟨n32, n32r⟩ := and_e n31r
  obtain ⟨n33, n33r⟩ := and_e n32r
  obtain ⟨n34, n34r⟩ := and_e n33r
  obtain ⟨n35, n35r⟩ := and_e n34r
  obtain ⟨n36, n36r⟩ := and_e n35r
  obtain ⟨n37, n37r⟩ := and_e n36r
  obtain ⟨n38, n38r⟩ := and_e n37r
  obtain ⟨n39, n39r⟩ := and_e n38r
  obtain ⟨n40, n40r⟩ := and_e n39r
  obtain ⟨n41, n41r⟩ := and_e n40r
  obtain ⟨n42, n42r⟩ := and_e n41r
  obtain ⟨n43, n43r⟩ := and_e n42r
  obtain ⟨n44, n44r⟩ := and_e n43r
  obtain ⟨n45, n45r⟩ := and_e n44r
  obtain ⟨n46, n46r⟩ := and_e n45r
  obtain ⟨n47, n47r⟩ := and_e n46r
  obtain ⟨n48, n48r⟩ := and_e n47r
  obtain ⟨n49, n49r⟩ := and_e n48r
  obtain ⟨n50, n50r⟩ := and_e n49r
  obtain ⟨n51, n51r⟩ := and_e n50r
  obtain ⟨n52, n52r⟩ := and_e n51r
  obtain ⟨a_AND, ev_AND⟩ := exa_v n0
  have S_AND : Sta s s.heap "com/example/paths_to_proofs/pathstoproofs/check/Formula$Connective" "AND" "Lcom/example/paths_to_proofs/pathstoproofs/check/Formula$Connective;" (.ref a_AND) := Sta.start ev_AND (Or.inr ⟨(own_w hw 2 rfl), (own_w hw 3 rfl)⟩)
  have E_AND : Exa s s.heap a_AND "com/example/paths_to_proofs/pathstoproofs/check/Formula$Connective" := Exa.start ev_AND n0
  obtain ⟨a_UNTIL, ev_UNTIL⟩ := exa_v n1
  have S_UNTIL : Sta s s.heap "com/example/paths_to_proofs/pathstoproofs/check/Formula$Connective" "UNTIL" "Lcom/example/paths_to_proofs/pathstoproofs/check/Formula$Connective;" (.ref a_UNTIL) := Sta.start ev_UNTIL (Or.inr ⟨(own_w hw 2 rfl), (own_w hw 10 rfl)⟩)
  have E_UNTIL : Exa s s.heap a_UNTIL "com/example/paths_to_proofs/pathstoproofs/check/Formula$Connective" := Exa.start ev_UNTIL n1
  have ev_AND_ordinal := own_eqI n2
  have F_AND_ordinal : Fld s s.heap a_AND "java/lang/Enum" "ordinal" "I" (.int (0 : Int32)) := Fld.start ((fld_at ev_AND).symm.trans ev_AND_ordinal)
  have ev_UNTIL_ordinal := own_eqI n3
  have F_UNTIL_ordinal : Fld s s.heap a_UNTIL "java/lang/Enum" "ordinal" "I" (.int (4 : Int32)) := Fld.start ((fld_at ev_UNTIL).symm.trans ev_UNTIL_ordinal)
  obtain ⟨a_WEAK_UNTIL, ev_WEAK_UNTIL⟩ := exa_v n4
  have S_WEAK_UNTIL : Sta s s.heap "com/example/paths_to_proofs/pathstoproofs/check/Formula$Connective" "WEAK_UNTIL" "Lcom/example/paths_to_proofs/pathstoproofs/check/Formula$Connective;" (.ref a_WEAK_UNTIL) := Sta.start ev_WEAK_UNTIL (Or.inr ⟨(own_w hw 2 rfl), (own_w hw 12 rfl)⟩)
  have E_WEAK_UNTIL : Exa s s.heap a_WEAK_UNTIL "com/example/paths_to_proofs/pathstoproofs/check/Formula$Connective" := Exa.start ev_WEAK_UNTIL n4
  have ev_WEAK_UNTIL_ordinal := own_eqI n5
  have F_WEAK_UNTIL_ordinal : Fld s s.heap a_WEAK_UNTIL "java/lang/Enum" "ordinal" "I" (.int (5 : Int32)) := Fld.start ((fld_at ev_WEAK_UNTIL).symm.trans ev_WEAK_UNTIL_ordinal)
  obtain ⟨a_RELEASE, ev_RELEASE⟩ := exa_v n6
  have S_RELEASE : Sta s s.heap "com/example/paths_to_proofs/pathstoproofs/check/Formula$Connective" "RELEASE" "Lcom/example/paths_to_proofs/pathstoproofs/check/Formula$Connective;" (.ref a_RELEASE) := Sta.start ev_RELEASE (Or.inr ⟨(own_w hw 2 rfl), (own_w hw 14 rfl)⟩)
  have E_RELEASE : Exa s s.heap a_RELEASE "com/example/paths_to_proofs/pathstoproofs/check/Formula$Connective" := Exa.start ev_RELEASE n6
  have ev_RELEASE_ordinal := own_eqI n7
  have F_RELEASE_ordinal : Fld s s.heap a_RELEASE "java/lang/Enum" "ordinal" "I" (.int (6 : Int32)) := Fld.start ((fld_at ev_RELEASE).symm.trans ev_RELEASE_ordinal)
  obtain ⟨a_AND_symbol, ev_AND_symbol⟩ := exa_v n8
  have F_AND_symbol : Fld s s.heap a_AND "com/example/paths_to_proofs/pathstoproofs/check/Formula$Connective" "symbol" "Ljava/lang/String;" (.ref a_AND_symbol) := Fld.start ((fld_at ev_AND).symm.trans ev_AND_symbol)
  have E_AND_symbol : Exa s s.heap a_AND_symbol "java/lang/String" := Exa.start ev_AND_symbol n8
  obtain ⟨a_AND_symbol_value, ev_AND_symbol_value⟩ := arr_v n9
  have F_AND_symbol_value : Fld s s.heap a_AND_symbol "java/lang/String" "value" "[B" (.ref a_AND_symbol_value) := Fld.start ((fld_at ev_AND_symbol).symm.trans ev_AND_symbol_value)
  obtain ⟨cl_AND_symbol_value, Ar_AND_symbol_value⟩ := Arr.start ev_AND_symbol_value n9
  have len_AND_symbol_value := own_lenI ev_AND_symbol_value Ar_AND_symbol_value n10
  have ev_AND_symbol_coder := own_eqI n11
  have F_AND_symbol_coder : Fld s s.heap a_AND_symbol "java/lang/String" "coder" "B" (.int (0 : Int32)) := Fld.start ((fld_at ev_AND_symbol).symm.trans ev_AND_symbol_coder)
  obtain ⟨a_IFF, ev_IFF⟩ := exa_v n12
  have S_IFF : Sta s s.heap "com/example/paths_to_proofs/pathstoproofs/check/Formula$Connective" "IFF" "Lcom/example/paths_to_proofs/pathstoproofs/check/Formula$Connective;" (.ref a_IFF) := Sta.start ev_IFF (Or.inr ⟨(own_w hw 2 rfl), (own_w hw 34 rfl)⟩)
  have E_IFF : Exa s s.heap a_IFF "com/example/paths_to_proofs/pathstoproofs/check/Formula$Connective" := Exa.start ev_IFF n12
  have ev_IFF_ordinal := own_eqI n13
  have F_IFF_ordinal : Fld s s.heap a_IFF "java/lang/Enum" "ordinal" "I" (.int (3 : Int32)) := Fld.start ((fld_at ev_IFF).symm.trans ev_IFF_ordinal)
  obtain ⟨a_IFF_symbol, ev_IFF_symbol⟩ := exa_v n14
  have F_IFF_symbol : Fld s s.heap a_IFF "com/example/paths_to_proofs/pathstoproofs/check/Formula$Connective" "symbol" "Ljava/lang/String;" (.ref a_IFF_symbol) := Fld.start ((fld_at ev_IFF).symm.trans ev_IFF_symbol)
  have E_IFF_symbol : Exa s s.heap a_IFF_symbol "java/lang/String" := Exa.start ev_IFF_symbol n14
  obtain ⟨a_IFF_symbol_value, ev_IFF_symbol_value⟩ := arr_v n15
  have F_IFF_symbol_value : Fld s s.heap a_IFF_symbol "java/lang/String" "value" "[B" (.ref a_IFF_symbol_value) := Fld.start ((fld_at ev_IFF_symbol).symm.trans ev_IFF_symbol_value)
  obtain ⟨cl_IFF_symbol_value, Ar_IFF_symbol_value⟩ := Arr.start ev_IFF_symbol_value n15
  have len_IFF_symbol_value := own_lenI ev_IFF_symbol_value Ar_IFF_symbol_value n16
  have ev_IFF_symbol_coder := own_eqI n17
  have F_IFF_symbol_coder : Fld s s.heap a_IFF_symbol "java/lang/String" "coder" "B" (.int (0 : Int32)) := Fld.start ((fld_at ev_IFF_symbol).symm.trans ev_IFF_symbol_coder)
  obtain ⟨a_WEAK_UNTIL_symbol, ev_WEAK_UNTIL_symbol⟩ := exa_v n18
  have F_WEAK_UNTIL_symbol : Fld s s.heap a_WEAK_UNTIL "com/example/paths_to_proofs/pathstoproofs/check/Formula$Connective" "symbol" "Ljava/lang/String;" (.ref a_WEAK_UNTIL_symbol) := Fld.start ((fld_at ev_WEAK_UNTIL).symm.trans ev_WEAK_UNTIL_symbol)
  have E_WEAK_UNTIL_symbol : Exa s s.heap a_WEAK_UNTIL_symbol "java/lang/String" := Exa.start ev_WEAK_UNTIL_symbol n18
  obtain ⟨a_WEAK_UNTIL_symbol_value, ev_WEAK_UNTIL_symbol_value⟩ := arr_v n19
  have F_WEAK_UNTIL_symbol_value : Fld s s.heap a_WEAK_UNTIL_symbol "java/lang/String" "value" "[B" (.ref a_WEAK_UNTIL_symbol_value) := Fld.start ((fld_at ev_WEAK_UNTIL_symbol).symm.trans ev_WEAK_UNTIL_symbol_value)
  obtain ⟨cl_WEAK_UNTIL_symbol_value, Ar_WEAK_UNTIL_symbol_value⟩ := Arr.start ev_WEAK_UNTIL_symbol_value n19
  have len_WEAK_UNTIL_symbol_value := own_lenI ev_WEAK_UNTIL_symbol_value Ar_WEAK_UNTIL_symbol_value n20
  have ev_WEAK_UNTIL_symbol_coder := own_eqI n21
  have F_WEAK_UNTIL_symbol_coder : Fld s s.heap a_WEAK_UNTIL_symbol "java/lang/String" "coder" "B" (.int (0 : Int32)) := Fld.start ((fld_at ev_WEAK_UNTIL_symbol).symm.trans ev_WEAK_UNTIL_symbol_coder)
  have el_WEAK_UNTIL_symbol_value_0 := own_elI ev_WEAK_UNTIL_symbol_value Ar_WEAK_UNTIL_symbol_value n22
  obtain ⟨a_RELEASE_symbol, ev_RELEASE_symbol⟩ := exa_v n23
  have F_RELEASE_symbol : Fld s s.heap a_RELEASE "com/example/paths_to_proofs/pathstoproofs/check/Formula$Connective" "symbol" "Ljava/lang/String;" (.ref a_RELEASE_symbol) := Fld.start ((fld_at ev_RELEASE).symm.trans ev_RELEASE_symbol)
  have E_RELEASE_symbol : Exa s s.heap a_RELEASE_symbol "java/lang/String" := Exa.start ev_RELEASE_symbol n23
  obtain ⟨a_RELEASE_symbol_value, ev_RELEASE_symbol_value⟩ := arr_v n24
  have F_RELEASE_symbol_value : Fld s s.heap a_RELEASE_symbol "java/lang/String" "value" "[B" (.ref a_RELEASE_symbol_value) := Fld.start ((fld_at ev_RELEASE_symbol).symm.trans ev_RELEASE_symbol_value)
  obtain ⟨cl_RELEASE_symbol_value, Ar_RELEASE_symbol_value⟩ := Arr.start ev_RELEASE_symbol_value n24
  have len_RELEASE_symbol_value := own_lenI ev_RELEASE_symbol_value Ar_RELEASE_symbol_value n25
  have ev_RELEASE_symbol_coder := own_eqI n26
  have F_RELEASE_symbol_coder : Fld s s.heap a_RELEASE_symbol "java/lang/String" "coder" "B" (.int (0 : Int32)) := Fld.start ((fld_at ev_RELEASE_symbol).symm.trans ev_RELEASE_symbol_coder)
  have el_RELEASE_symbol_value_0 := own_elI ev_RELEASE_symbol_value Ar_RELEASE_symbol_value n27
  obtain ⟨a_UNTIL_symbol, ev_UNTIL_symbol⟩ := exa_v n28
  have F_UNTIL_symbol : Fld s s.heap a_UNTIL "com/example/paths_to_proofs/pathstoproofs/check/Formula$Connective" "symbol" "Ljava/lang/String;" (.ref a_UNTIL_symbol) := Fld.start ((fld_at ev_UNTIL).symm.trans ev_UNTIL_symbol)
  have E_UNTIL_symbol : Exa s s.heap a_UNTIL_symbol "java/lang/String" := Exa.start ev_UNTIL_symbol n28
  obtain ⟨a_UNTIL_symbol_value, ev_UNTIL_symbol_value⟩ := arr_v n29
  have F_UNTIL_symbol_value : Fld s s.heap a_UNTIL_symbol "java/lang/String" "value" "[B" (.ref a_UNTIL_symbol_value) := Fld.start ((fld_at ev_UNTIL_symbol).symm.trans ev_UNTIL_symbol_value)
  obtain ⟨cl_UNTIL_symbol_value, Ar_UNTIL_symbol_value⟩ := Arr.start ev_UNTIL_symbol_value n29
  have len_UNTIL_symbol_value := own_lenI ev_UNTIL_symbol_value Ar_UNTIL_symbol_value n30
  have ev_UNTIL_symbol_coder := own_eqI n31
  have F_UNTIL_symbol_coder : Fld s s.heap a_UNTIL_symbol "java/lang/String" "coder" "B" (.int (0 : Int32)) := Fld.start ((fld_at ev_UNTIL_symbol).symm.trans ev_UNTIL_symbol_coder)
  have el_UNTIL_symbol_value_0 := own_elI ev_UNTIL_symbol_value Ar_UNTIL_symbol_value n32
  obtain ⟨a_IMPLIES, ev_IMPLIES⟩ := exa_v n33
  have S_IMPLIES : Sta s s.heap "com/example/paths_to_proofs/pathstoproofs/check/Formula$Connective" "IMPLIES" "Lcom/example/paths_to_proofs/pathstoproofs/check/Formula$Connective;" (.ref a_IMPLIES) := Sta.start ev_IMPLIES (Or.inr ⟨(own_w hw 2 rfl), (own_w hw 61 rfl)⟩)
  have E_IMPLIES : Exa s s.heap a_IMPLIES "com/example/paths_to_proofs/pathstoproofs/check/Formula$Connective" := Exa.start ev_IMPLIES n33
  have ev_IMPLIES_ordinal := own_eqI n34
  have F_IMPLIES_ordinal : Fld s s.heap a_IMPLIES "java/lang/Enum" "ordinal" "I" (.int (2 : Int32)) := Fld.start ((fld_at ev_IMPLIES).symm.trans ev_IMPLIES_ordinal)
  obtain ⟨a_IMPLIES_symbol, ev_IMPLIES_symbol⟩ := exa_v n35
  have F_IMPLIES_symbol : Fld s s.heap a_IMPLIES "com/example/paths_to_proofs/pathstoproofs/check/Formula$Connective" "symbol" "Ljava/lang/String;" (.ref a_IMPLIES_symbol) := Fld.start ((fld_at ev_IMPLIES).symm.trans ev_IMPLIES_symbol)
  have E_IMPLIES_symbol : Exa s s.heap a_IMPLIES_symbol "java/lang/String" := Exa.start ev_IMPLIES_symbol n35
  obtain ⟨a_IMPLIES_symbol_value, ev_IMPLIES_symbol_value⟩ := arr_v n36
  have F_IMPLIES_symbol_value : Fld s s.heap a_IMPLIES_symbol "java/lang/String" "value" "[B" (.ref a_IMPLIES_symbol_value) := Fld.start ((fld_at ev_IMPLIES_symbol).symm.trans ev_IMPLIES_symbol_value)
  obtain ⟨cl_IMPLIES_symbol_value, Ar_IMPLIES_symbol_value⟩ := Arr.start ev_IMPLIES_symbol_value n36
  have len_IMPLIES_symbol_value := own_lenI ev_IMPLIES_symbol_value Ar_IMPLIES_symbol_value n37
  have ev_IMPLIES_symbol_coder := own_eqI n38
  have F_IMPLIES_symbol_coder : Fld s s.heap a_IMPLIES_symbol "java/lang/String" "coder" "B" (.int (0 : Int32)) := Fld.start ((fld_at ev_IMPLIES_symbol).symm.trans ev_IMPLIES_symbol_coder)
  obtain ⟨a_OR, ev_OR⟩ := exa_v n39
  have S_OR : Sta s s.heap "com/example/paths_to_proofs/pathstoproofs/check/Formula$Connective" "OR" "Lcom/example/paths_to_proofs/pathstoproofs/check/Formula$Connective;" (.ref a_OR) := Sta.start ev_OR (Or.inr ⟨(own_w hw 2 rfl), (own_w hw 63 rfl)⟩)
  have E_OR : Exa s s.heap a_OR "com/example/paths_to_proofs/pathstoproofs/check/Formula$Connective" := Exa.start ev_OR n39
  have ev_OR_ordinal := own_eqI n40
  have F_OR_ordinal : Fld s s.heap a_OR "java/lang/Enum" "ordinal" "I" (.int (1 : Int32)) := Fld.start ((fld_at ev_OR).symm.trans ev_OR_ordinal)
  obtain ⟨a_OR_symbol, ev_OR_symbol⟩ := exa_v n41
  have F_OR_symbol : Fld s s.heap a_OR "com/example/paths_to_proofs/pathstoproofs/check/Formula$Connective" "symbol" "Ljava/lang/String;" (.ref a_OR_symbol) := Fld.start ((fld_at ev_OR).symm.trans ev_OR_symbol)
  have E_OR_symbol : Exa s s.heap a_OR_symbol "java/lang/String" := Exa.start ev_OR_symbol n41
  obtain ⟨a_OR_symbol_value, ev_OR_symbol_value⟩ := arr_v n42
  have F_OR_symbol_value : Fld s s.heap a_OR_symbol "java/lang/String" "value" "[B" (.ref a_OR_symbol_value) := Fld.start ((fld_at ev_OR_symbol).symm.trans ev_OR_symbol_value)
  obtain ⟨cl_OR_symbol_value, Ar_OR_symbol_value⟩ := Arr.start ev_OR_symbol_value n42
  have len_OR_symbol_value := own_lenI ev_OR_symbol_value Ar_OR_symbol_value n43
  have ev_OR_symbol_coder := own_eqI n44
  have F_OR_symbol_coder : Fld s s.heap a_OR_symbol "java/lang/String" "coder" "B" (.int (0 : Int32)) := Fld.start ((fld_at ev_OR_symbol).symm.trans ev_OR_symbol_coder)
  have el_AND_symbol_value_0 := own_elI ev_AND_symbol_value Ar_AND_symbol_value n45
  have el_AND_symbol_value_1 := own_elI ev_AND_symbol_value Ar_AND_symbol_value n46
  have el_IFF_symbol_value_0 := own_elI ev_IFF_symbol_value Ar_IFF_symbol_value n47
  have el_IFF_symbol_value_1 := own_elI ev_IFF_symbol_value Ar_IFF_symbol_value n48
  have el_IFF_symbol_value_2 := own_elI ev_IFF_symbol_value Ar_IFF_symbol_value n49
  have el_IMPLIES_symbol_value_0 := own_elI ev_IMPLIES_symbol_value Ar_IMPLIES_symbol_value n50
  have el_IMPLIES_symbol_value_1 := own_elI ev_IMPLIES_symbol_value Ar_IMPLIES_symbol_value n51
  have el_OR_symbol_value_0 := own_elI ev_OR_symbol_value Ar_OR_symbol_value n52
  have el_OR_symbol_value_1 := own_elI ev_OR_symbol_value Ar_OR_symbol_value n52r
  obtain ⟨hsets, hown0⟩ := atoms_of _ (rest_1_c_eq ▸ (show rest_1_c.before _ s = true from hrest))
  have jn := not_v (Cond.before_iff.mp (hsets _ (List.mem_of_getElem? (i := 2) rfl)))
  obtain ⟨cs, je⟩ := is_v (Cond.before_iff.mp (hsets _ (List.mem_of_getElem? (i := 1) rfl)))
  obtain ⟨vF, jf, jr⟩ := isR_v (Cond.before_iff.mp (hsets _ (List.mem_of_getElem? (i := 8) rfl)))
  have J : OwnJ s s.heap cs vF := ⟨Sta.start je (Or.inl (hsets _ (List.mem_of_getElem? (i := 0) rfl))), fun q => gotF (Cond.eq_ints je (Term.int_eval (0))) jn (Int32.toInt_inj.mp (q.trans (by decide))), Sta.start jf (Or.inl (hsets _ (List.mem_of_getElem? (i := 7) rfl))), jr⟩
  have I_AND : OwnStr s s.heap a_AND_symbol a_AND_symbol_value 2 (fun i => if i = 0 then (38 : Int32) else if i = 1 then (38 : Int32) else 0) := ⟨E_AND_symbol, F_AND_symbol_value, F_AND_symbol_coder, ⟨cl_AND_symbol_value, Ar_AND_symbol_value, own_len2 len_AND_symbol_value, fun i hi => own_el_AND cl_AND_symbol_value i hi el_AND_symbol_value_0 el_AND_symbol_value_1⟩, by decide⟩
  have I_OR : OwnStr s s.heap a_OR_symbol a_OR_symbol_value 2 (fun i => if i = 0 then (124 : Int32) else if i = 1 then (124 : Int32) else 0) := ⟨E_OR_symbol, F_OR_symbol_value, F_OR_symbol_coder, ⟨cl_OR_symbol_value, Ar_OR_symbol_value, own_len2 len_OR_symbol_value, fun i hi => own_el_OR cl_OR_symbol_value i hi el_OR_symbol_value_0 el_OR_symbol_value_1⟩, by decide⟩
  have I_IMPLIES : OwnStr s s.heap a_IMPLIES_symbol a_IMPLIES_symbol_value 2 (fun i => if i = 0 then (45 : Int32) else if i = 1 then (62 : Int32) else 0) := ⟨E_IMPLIES_symbol, F_IMPLIES_symbol_value, F_IMPLIES_symbol_coder, ⟨cl_IMPLIES_symbol_value, Ar_IMPLIES_symbol_value, own_len2 len_IMPLIES_symbol_value, fun i hi => own_el_IMPLIES cl_IMPLIES_symbol_value i hi el_IMPLIES_symbol_value_0 el_IMPLIES_symbol_value_1⟩, by decide⟩
  have I_IFF : OwnStr s s.heap a_IFF_symbol a_IFF_symbol_value 3 (fun i => if i = 0 then (60 : Int32) else if i = 1 then (45 : Int32) else if i = 2 then (62 : Int32) else 0) := ⟨E_IFF_symbol, F_IFF_symbol_value, F_IFF_symbol_coder, ⟨cl_IFF_symbol_value, Ar_IFF_symbol_value, own_len3 len_IFF_symbol_value, fun i hi => own_el_IFF cl_IFF_symbol_value i hi el_IFF_symbol_value_0 el_IFF_symbol_value_1 el_IFF_symbol_value_2⟩, by decide⟩
  have I_UNTIL : OwnStr s s.heap a_UNTIL_symbol a_UNTIL_symbol_value 1 (fun i => if i = 0 then (85 : Int32) else 0) := ⟨E_UNTIL_symbol, F_UNTIL_symbol_value, F_UNTIL_symbol_coder, ⟨cl_UNTIL_symbol_value, Ar_UNTIL_symbol_value, own_len1 len_UNTIL_symbol_value, fun i hi => own_el_UNTIL cl_UNTIL_symbol_value i hi el_UNTIL_symbol_value_0⟩, by decide⟩
  have I_WEAK_UNTIL : OwnStr s s.heap a_WEAK_UNTIL_symbol a_WEAK_UNTIL_symbol_value 1 (fun i => if i = 0 then (87 : Int32) else 0) := ⟨E_WEAK_UNTIL_symbol, F_WEAK_UNTIL_symbol_value, F_WEAK_UNTIL_symbol_coder, ⟨cl_WEAK_UNTIL_symbol_value, Ar_WEAK_UNTIL_symbol_value, own_len1 len_WEAK_UNTIL_symbol_value, fun i hi => own_el_WEAK_UNTIL cl_WEAK_UNTIL_symbol_value i hi el_WEAK_UNTIL_symbol_value_0⟩, by decide⟩
  have I_RELEASE : OwnStr s s.heap a_RELEASE_symbol a_RELEASE_symbol_value 1 (fun i => if i = 0 then (86 : Int32) else 0) := ⟨E_RELEASE_symbol, F_RELEASE_symbol_value, F_RELEASE_symbol_coder, ⟨cl_RELEASE_symbol_value, Ar_RELEASE_symbol_value, own_len1 len_RELEASE_symbol_value, fun i hi => own_el_RELEASE cl_RELEASE_symbol_value i hi el_RELEASE_symbol_value_0⟩, by decide⟩
  obtain ⟨n, o, h1, h2, h3, _, L, rfl, ⟨rfl, N⟩, hq⟩ := own_rm_law l s _ hw i0 s.heap s.heap.size a_AND a_AND_symbol a_AND_symbol_value a_OR a_OR_symbol a_OR_symbol_value a_IMPLIES a_IMPLIES_symbol a_IMPLIES_symbol_value a_IFF a_IFF_symbol a_IFF_symbol_value a_UNTIL a_UNTIL_symbol a_UNTIL_symbol_value a_WEAK_UNTIL a_WEAK_UNTIL_symbol a_WEAK_UNTIL_symbol_value a_RELEASE a_RELEASE_symbol a_RELEASE_symbol_value S_AND S_OR S_IMPLIES S_IFF S_UNTIL S_WEAK_UNTIL S_RELEASE E_AND F_AND_symbol I_AND E_OR F_OR_symbol I_OR E_IMPLIES F_IMPLIES_symbol I_IMPLIES E_IFF F_IFF_symbol I_IFF E_UNTIL F_UNTIL_symbol I_UNTIL E_WEAK_UNTIL F_WEAK_UNTIL_symbol I_WEAK_UNTIL E_RELEASE F_RELEASE_symbol I_RELEASE (Fld.ne F_AND_ordinal F_UNTIL_ordinal (by decide)) (Fld.ne F_AND_ordinal F_WEAK_UNTIL_ordinal (by decide)) (Fld.ne F_AND_ordinal F_RELEASE_ordinal (by decide)) (Fld.ne F_OR_ordinal F_UNTIL_ordinal (by decide)) (Fld.ne F_OR_ordinal F_WEAK_UNTIL_ordinal (by decide)) (Fld.ne F_OR_ordinal F_RELEASE_ordinal (by decide)) (Fld.ne F_IMPLIES_ordinal F_UNTIL_ordinal (by decide)) (Fld.ne F_IMPLIES_ordinal F_WEAK_UNTIL_ordinal (by decide)) (Fld.ne F_IMPLIES_ordinal F_RELEASE_ordinal (by decide)) (Fld.ne F_IFF_ordinal F_UNTIL_ordinal (by decide)) (Fld.ne F_IFF_ordinal F_WEAK_UNTIL_ordinal (by decide)) (Fld.ne F_IFF_ordinal F_RELEASE_ordinal (by decide)) cs vF J p e ha hc hk s m _ below hf ((Spec.applies_iff_loose hf).mp happ).1 ⟨rfl, State.Warmed39.refl s, rfl⟩ trivial
  refine ⟨n, _, h1, h2, h3, hpost _ _ _ _ _ _ ⟨Cond.after_iff.mpr rfl, Cond.after_iff.mpr (eq_i res_at (Term.int_eval (1)) rfl), trivial⟩ ⟨hq.1, hq.2.1, (hq.2.2.sift fun y hy => Or.inr (N y hy)).mono (by decide) (by decide)⟩⟩
theorem main_1_1 : Claimed_1_1 := own_comes_1 fun _ _ _ _ _ _ h hF => ⟨h.1, hF⟩
theorem main_1_2 : Claimed_1_2 := own_comes_1 fun _ _ _ _ _ _ h hF => ⟨h.2.1, hF⟩
end Jvm.Pilot.@@N@@
namespace Jvm.Pilot.@@N@@
open Jvm Jvm.ClassFile Sem Op Lib Jvm.Free Jvm.Stand Jvm.Pilot.@@N@@.Jvm.D
/-! MADE BY PROGRAM (witnessworld.py) out of the Statement's table words and the real class files: 18 classes; the members and pool entries that the words name. The judged class is class 1, her method 1. -/
namespace start1
open Jvm.ClassFile
def u (s : String) : CpInfo := .utf8 (stringToUtf16 s)
/-- a pool by its gaps: so many unusable entries, then the entry; so many at the end -/
def gap : Nat → List CpInfo → List CpInfo
  | 0, r => r
  | n + 1, r => .unusable :: gap n r
def poolList (es : List (Nat × CpInfo)) (last : Nat) : List CpInfo := es.foldr (fun e r => gap e.1 (e.2 :: r)) (gap last [])
def pool (es : List (Nat × CpInfo)) (last : Nat) : Array CpInfo := ⟨poolList es last⟩
def fileOf (pool : Array CpInfo) (this : Nat) (attrs : Array Attribute := #[]) (ms : Array MethodInfo := #[]) (fl : Nat := 33) (sup : Nat := 0) (ifs : Array Nat := #[]) (fds : Array FieldInfo := #[]) : ClassFile where
  minorVersion := 0
  majorVersion := 65
  constantPool := pool
  accessFlags := fl
  thisClass := this
  superClass := sup
  interfaces := ifs
  fields := fds
  methods := ms
  attributes := attrs
def plain (name : String) (sup : Option ClassId) : Class where
  name := name
  kind := .ordinary
  loader := none
  accessFlags := 33
  super := sup
  interfaces := #[]
  cf := none
  fields := #[]
  methods := #[]
  instanceTypes := #[]
  staticTypes := #[]
  resolved := #[]
  callSites := []
  init := .initialized
  statics := none
  mirror := none

def pool0 : Array CpInfo := pool [(5, u "<init>"), (0, u "()V"), (1, .class_ 10), (1, u "java/lang/Object")] 113

def k0m0 : Method := { name := "<init>", desc := "()V", sig := { parameters := [], returnType := none }, accessFlags := 1, code := none }
/-- java/lang/Object -/
def k0 : Class := { plain "java/lang/Object" none with
  accessFlags := 33
  interfaces := #[]
  cf := some (fileOf pool0 8 #[] #[{ accessFlags := 1, nameIndex := 5, descriptorIndex := 6, attributes := #[] }] 33 0 #[] #[])
  fields := #[]
  methods := #[k0m0]
  instanceTypes := #[]
  staticTypes := #[]
  resolved := Array.replicate 124 none
  statics := none }

def pool1 : Array CpInfo := pool [(2, .class_ 4), (1, u "java/lang/Object"), (0, u "<init>"), (0, u "()V"), (0, .integer 2147483647), (0, .fieldref 9 10), (0, .class_ 11), (0, .nameAndType 12 13), (0, u "com/example/paths_to_proofs/pathstoproofs/check/Formula$Connective"), (0, u "AND"), (0, u "Lcom/example/paths_to_proofs/pathstoproofs/check/Formula$Connective;"), (0, .fieldref 9 15), (0, .nameAndType 16 13), (0, u "OR"), (0, .fieldref 9 18), (0, .nameAndType 19 13), (0, u "IMPLIES"), (0, .fieldref 9 21), (0, .nameAndType 22 13), (0, u "IFF"), (0, .fieldref 9 24), (0, .nameAndType 25 13), (0, u "UNTIL"), (0, .fieldref 9 27), (0, .nameAndType 28 13), (0, u "WEAK_UNTIL"), (0, .fieldref 9 30), (0, .nameAndType 31 13), (0, u "RELEASE"), (0, .methodref 9 33), (0, .nameAndType 34 35), (0, u "temporal"), (0, u "()Z"), (0, .fieldref 9 37), (0, .nameAndType 38 39), (0, u "symbol"), (0, u "Ljava/lang/String;"), (0, .methodref 41 42), (0, .class_ 43), (0, .nameAndType 44 45), (0, u "java/lang/String"), (0, u "length"), (0, u "()I"), (0, .methodref 41 47), (0, .nameAndType 48 49), (0, u "charAt"), (0, u "(I)C"), (0, .class_ 51), (0, u "com/example/paths_to_proofs/pathstoproofs/check/ConnectiveTemporalPinLaw"), (2, u "law"), (0, u "(I)Z")] 7

def k1m0 : Method := { name := "<init>", desc := "()V", sig := { parameters := [], returnType := none }, accessFlags := 1, code := none }
def k1c1 : Code := { maxStack := 2, maxLocals := 7, code := code, exceptionTable := #[], attributes := #[] }
def k1m1 : Method := { name := "law", desc := "(I)Z", sig := { parameters := [.int], returnType := some .boolean }, accessFlags := 9, code := some k1c1 }
/-- com/example/paths_to_proofs/pathstoproofs/check/ConnectiveTemporalPinLaw -/
def k1 : Class := { plain "com/example/paths_to_proofs/pathstoproofs/check/ConnectiveTemporalPinLaw" (some 0) with
  accessFlags := 49
  interfaces := #[]
  cf := some (fileOf pool1 50 #[] #[{ accessFlags := 1, nameIndex := 5, descriptorIndex := 6, attributes := #[] }, { accessFlags := 9, nameIndex := 54, descriptorIndex := 55, attributes := #[] }] 49 2 #[] #[])
  fields := #[]
  methods := #[k1m0, k1m1]
  instanceTypes := #[]
  staticTypes := #[]
  resolved := Array.replicate 63 none
  statics := none }

def pool2 : Array CpInfo := pool [(1, .class_ 2), (0, u "java/lang/constant/Constable"), (0, .class_ 4), (0, u "java/lang/Object")] 6

/-- java/lang/constant/Constable -/
def k2 : Class := { plain "java/lang/constant/Constable" (some 0) with
  accessFlags := 1537
  interfaces := #[]
  cf := some (fileOf pool2 1 #[] #[] 1537 3 #[] #[])
  fields := #[]
  methods := #[]
  instanceTypes := #[]
  staticTypes := #[]
  resolved := Array.replicate 11 none
  statics := none }

def pool3 : Array CpInfo := pool [(1, .class_ 2), (0, u "java/lang/Comparable"), (0, .class_ 4), (0, u "java/lang/Object")] 7

/-- java/lang/Comparable -/
def k3 : Class := { plain "java/lang/Comparable" (some 0) with
  accessFlags := 1537
  interfaces := #[]
  cf := some (fileOf pool3 1 #[] #[] 1537 3 #[] #[])
  fields := #[]
  methods := #[]
  instanceTypes := #[]
  staticTypes := #[]
  resolved := Array.replicate 12 none
  statics := none }

def pool4 : Array CpInfo := pool [(1, .class_ 2), (0, u "java/io/Serializable"), (0, .class_ 4), (0, u "java/lang/Object")] 2

/-- java/io/Serializable -/
def k4 : Class := { plain "java/io/Serializable" (some 0) with
  accessFlags := 1537
  interfaces := #[]
  cf := some (fileOf pool4 1 #[] #[] 1537 3 #[] #[])
  fields := #[]
  methods := #[]
  instanceTypes := #[]
  staticTypes := #[]
  resolved := Array.replicate 7 none
  statics := none }

def pool5 : Array CpInfo := pool [(2, .class_ 4), (1, u "java/lang/Enum"), (0, u "name"), (0, u "Ljava/lang/String;"), (2, u "ordinal"), (0, u "I"), (1, .class_ 14), (1, u "java/lang/Object"), (4, u "hash"), (86, .class_ 108), (1, u "java/lang/Enum$EnumDesc"), (2, .class_ 112), (0, u "java/lang/constant/Constable"), (0, .class_ 114), (0, u "java/lang/Comparable"), (0, .class_ 116), (0, u "java/io/Serializable")] 87

/-- java/lang/Enum -/
def k5 : Class := { plain "java/lang/Enum" (some 0) with
  accessFlags := 1057
  interfaces := #[2, 3, 4]
  cf := some (fileOf pool5 2 #[.nestMembers #[106]] #[] 1057 12 #[111, 113, 115] #[{ accessFlags := 18, nameIndex := 5, descriptorIndex := 6, attributes := #[] }, { accessFlags := 18, nameIndex := 9, descriptorIndex := 10, attributes := #[] }, { accessFlags := 2, nameIndex := 19, descriptorIndex := 10, attributes := #[] }])
  fields := #[{ name := "name", type := (.object "java/lang/String"), accessFlags := 18, slot := 0, constantValue := 0 }, { name := "ordinal", type := .int, accessFlags := 18, slot := 1, constantValue := 0 }, { name := "hash", type := .int, accessFlags := 2, slot := 2, constantValue := 0 }]
  methods := #[]
  instanceTypes := #[(.object "java/lang/String"), .int, .int]
  staticTypes := #[]
  resolved := Array.replicate 204 none
  statics := none }

def pool6 : Array CpInfo := pool [(1, .class_ 2), (0, u "com/example/paths_to_proofs/pathstoproofs/check/Formula$Connective"), (2, u "AND"), (0, u "Lcom/example/paths_to_proofs/pathstoproofs/check/Formula$Connective;"), (2, u "OR"), (2, u "IMPLIES"), (2, u "IFF"), (0, .fieldref 1 17), (0, .nameAndType 18 6), (0, u "UNTIL"), (0, .fieldref 1 20), (0, .nameAndType 21 6), (0, u "WEAK_UNTIL"), (0, .fieldref 1 23), (0, .nameAndType 24 6), (0, u "RELEASE"), (2, u "$VALUES"), (0, u "[Lcom/example/paths_to_proofs/pathstoproofs/check/Formula$Connective;"), (6, .class_ 37), (1, u "java/lang/Enum"), (8, u "symbol"), (0, u "Ljava/lang/String;"), (10, .class_ 60), (1, u "com/example/paths_to_proofs/pathstoproofs/check/Formula"), (37, u "temporal"), (0, u "()Z")] 11

def k6c0 : Code := { maxStack := 2, maxLocals := 1, code := prog_19_method_4_code, exceptionTable := #[], attributes := #[] }
def k6m0 : Method := { name := "temporal", desc := "()Z", sig := { parameters := [], returnType := some .boolean }, accessFlags := 0, code := some k6c0 }
/-- com/example/paths_to_proofs/pathstoproofs/check/Formula$Connective -/
def k6 : Class := { plain "com/example/paths_to_proofs/pathstoproofs/check/Formula$Connective" (some 5) with
  accessFlags := 16433
  interfaces := #[]
  cf := some (fileOf pool6 1 #[.nestHost 58] #[{ accessFlags := 0, nameIndex := 98, descriptorIndex := 99, attributes := #[] }] 16433 35 #[] #[{ accessFlags := 16409, nameIndex := 5, descriptorIndex := 6, attributes := #[] }, { accessFlags := 16409, nameIndex := 9, descriptorIndex := 6, attributes := #[] }, { accessFlags := 16409, nameIndex := 12, descriptorIndex := 6, attributes := #[] }, { accessFlags := 16409, nameIndex := 15, descriptorIndex := 6, attributes := #[] }, { accessFlags := 16409, nameIndex := 18, descriptorIndex := 6, attributes := #[] }, { accessFlags := 16409, nameIndex := 21, descriptorIndex := 6, attributes := #[] }, { accessFlags := 16409, nameIndex := 24, descriptorIndex := 6, attributes := #[] }, { accessFlags := 16, nameIndex := 46, descriptorIndex := 47, attributes := #[] }, { accessFlags := 4122, nameIndex := 27, descriptorIndex := 28, attributes := #[] }])
  fields := #[{ name := "AND", type := (.object "com/example/paths_to_proofs/pathstoproofs/check/Formula$Connective"), accessFlags := 16409, slot := 0, constantValue := 0 }, { name := "OR", type := (.object "com/example/paths_to_proofs/pathstoproofs/check/Formula$Connective"), accessFlags := 16409, slot := 1, constantValue := 0 }, { name := "IMPLIES", type := (.object "com/example/paths_to_proofs/pathstoproofs/check/Formula$Connective"), accessFlags := 16409, slot := 2, constantValue := 0 }, { name := "IFF", type := (.object "com/example/paths_to_proofs/pathstoproofs/check/Formula$Connective"), accessFlags := 16409, slot := 3, constantValue := 0 }, { name := "UNTIL", type := (.object "com/example/paths_to_proofs/pathstoproofs/check/Formula$Connective"), accessFlags := 16409, slot := 4, constantValue := 0 }, { name := "WEAK_UNTIL", type := (.object "com/example/paths_to_proofs/pathstoproofs/check/Formula$Connective"), accessFlags := 16409, slot := 5, constantValue := 0 }, { name := "RELEASE", type := (.object "com/example/paths_to_proofs/pathstoproofs/check/Formula$Connective"), accessFlags := 16409, slot := 6, constantValue := 0 }, { name := "symbol", type := (.object "java/lang/String"), accessFlags := 16, slot := 3, constantValue := 0 }, { name := "$VALUES", type := (.array (.object "com/example/paths_to_proofs/pathstoproofs/check/Formula$Connective")), accessFlags := 4122, slot := 7, constantValue := 0 }]
  methods := #[k6m0]
  instanceTypes := #[(.object "java/lang/String"), .int, .int, (.object "java/lang/String")]
  staticTypes := #[(.object "com/example/paths_to_proofs/pathstoproofs/check/Formula$Connective"), (.object "com/example/paths_to_proofs/pathstoproofs/check/Formula$Connective"), (.object "com/example/paths_to_proofs/pathstoproofs/check/Formula$Connective"), (.object "com/example/paths_to_proofs/pathstoproofs/check/Formula$Connective"), (.object "com/example/paths_to_proofs/pathstoproofs/check/Formula$Connective"), (.object "com/example/paths_to_proofs/pathstoproofs/check/Formula$Connective"), (.object "com/example/paths_to_proofs/pathstoproofs/check/Formula$Connective"), (.array (.object "com/example/paths_to_proofs/pathstoproofs/check/Formula$Connective"))]
  resolved := Array.replicate 111 none
  statics := some 0 }

def pool7 : Array CpInfo := pool [(2, .class_ 4), (1, u "java/lang/CharSequence"), (42, .class_ 48), (0, u "java/lang/CharSequence$1CodePointIterator"), (10, .class_ 60), (0, u "java/lang/CharSequence$1CharIterator"), (5, .class_ 67), (0, u "java/lang/Object")] 63

/-- java/lang/CharSequence -/
def k7 : Class := { plain "java/lang/CharSequence" (some 0) with
  accessFlags := 1537
  interfaces := #[]
  cf := some (fileOf pool7 2 #[.nestMembers #[47, 59]] #[] 1537 66 #[] #[])
  fields := #[]
  methods := #[]
  instanceTypes := #[]
  staticTypes := #[]
  resolved := Array.replicate 131 none
  statics := none }

def pool8 : Array CpInfo := pool [(1, .class_ 2), (0, u "java/lang/constant/ConstantDesc"), (0, .class_ 4), (0, u "java/lang/Object")] 32

/-- java/lang/constant/ConstantDesc -/
def k8 : Class := { plain "java/lang/constant/ConstantDesc" (some 0) with
  accessFlags := 1537
  interfaces := #[]
  cf := some (fileOf pool8 1 #[] #[] 1537 3 #[] #[])
  fields := #[]
  methods := #[]
  instanceTypes := #[]
  staticTypes := #[]
  resolved := Array.replicate 37 none
  statics := none }

def pool9 : Array CpInfo := pool [(2, .class_ 4), (1, u "java/lang/Object"), (0, u "<init>"), (0, u "()V"), (2, .fieldref 10 11), (0, .class_ 12), (0, .nameAndType 13 14), (0, u "java/lang/String"), (0, u "value"), (0, u "[B"), (0, .fieldref 10 16), (0, .nameAndType 17 18), (0, u "coder"), (0, u "B"), (2, u "hash"), (0, u "I"), (2, u "hashIsZero"), (0, u "Z"), (11, .fieldref 10 39), (0, .nameAndType 40 26), (0, u "COMPACT_STRINGS"), (66, .class_ 109), (1, u "java/lang/StringLatin1"), (32, u "()Z"), (191, u "()I"), (0, .methodref 10 336), (0, .nameAndType 17 337), (0, u "()B"), (25, u "([BI)C"), (27, u "(II)V"), (35, u "(I)C"), (64, .methodref 10 493), (0, .nameAndType 494 142), (0, u "isLatin1"), (0, .methodref 107 496), (0, .nameAndType 497 363), (0, u "charAt"), (3, u "checkIndex"), (5, u "length"), (67, .class_ 576), (0, u "java/lang/CharSequence"), (22, u "CASE_INSENSITIVE_ORDER"), (0, u "Ljava/util/Comparator;"), (452, .fieldref 1054 1055), (0, .class_ 1056), (0, .nameAndType 1057 1058), (0, u "jdk/internal/util/Preconditions"), (0, u "SIOOBE_FORMATTER"), (0, u "Ljava/util/function/BiFunction;"), (0, .methodref 1054 1060), (0, .nameAndType 501 1061), (0, u "(IILjava/util/function/BiFunction;)I"), (39, u "serialPersistentFields"), (0, u "[Ljava/io/ObjectStreamField;"), (0, .class_ 1104), (0, u "java/lang/String$CaseInsensitiveComparator"), (1, .class_ 1107), (0, u "java/io/Serializable"), (0, .class_ 1109), (0, u "java/lang/Comparable"), (0, .class_ 1111), (0, u "java/lang/constant/Constable"), (0, .class_ 1113), (0, u "java/lang/constant/ConstantDesc"), (2, u "serialVersionUID"), (0, u "J"), (3, u "REPL"), (0, u "C"), (2, u "LATIN1"), (1, u "UTF16")] 323

def k9m0 : Method := { name := "<init>", desc := "()V", sig := { parameters := [], returnType := none }, accessFlags := 1, code := none }
def k9c1 : Code := { maxStack := 2, maxLocals := 1, code := jdk_42_method_54_code, exceptionTable := #[], attributes := #[] }
def k9m1 : Method := { name := "length", desc := "()I", sig := { parameters := [], returnType := some .int }, accessFlags := 1, code := some k9c1 }
def k9c2 : Code := { maxStack := 2, maxLocals := 2, code := jdk_42_method_56_code, exceptionTable := #[], attributes := #[] }
def k9m2 : Method := { name := "charAt", desc := "(I)C", sig := { parameters := [.int], returnType := some .char }, accessFlags := 1, code := some k9c2 }
def k9c3 : Code := { maxStack := 1, maxLocals := 1, code := jdk_42_method_152_code, exceptionTable := #[], attributes := #[] }
def k9m3 : Method := { name := "coder", desc := "()B", sig := { parameters := [], returnType := some .byte }, accessFlags := 0, code := some k9c3 }
def k9c4 : Code := { maxStack := 1, maxLocals := 1, code := jdk_42_method_154_code, exceptionTable := #[], attributes := #[] }
def k9m4 : Method := { name := "isLatin1", desc := "()Z", sig := { parameters := [], returnType := some .boolean }, accessFlags := 0, code := some k9c4 }
def k9c5 : Code := { maxStack := 3, maxLocals := 2, code := jdk_42_method_155_code, exceptionTable := #[], attributes := #[] }
def k9m5 : Method := { name := "checkIndex", desc := "(II)V", sig := { parameters := [.int, .int], returnType := none }, accessFlags := 8, code := some k9c5 }
/-- java/lang/String -/
def k9 : Class := { plain "java/lang/String" (some 0) with
  accessFlags := 49
  interfaces := #[4, 3, 7, 2, 8]
  cf := some (fileOf pool9 10 #[.nestMembers #[1103]] #[{ accessFlags := 1, nameIndex := 5, descriptorIndex := 6, attributes := #[] }, { accessFlags := 1, nameIndex := 507, descriptorIndex := 334, attributes := #[] }, { accessFlags := 1, nameIndex := 497, descriptorIndex := 427, attributes := #[] }, { accessFlags := 0, nameIndex := 17, descriptorIndex := 337, attributes := #[] }, { accessFlags := 0, nameIndex := 494, descriptorIndex := 142, attributes := #[] }, { accessFlags := 8, nameIndex := 501, descriptorIndex := 391, attributes := #[] }] 49 2 #[1106, 1108, 575, 1110, 1112] #[{ accessFlags := 18, nameIndex := 13, descriptorIndex := 14, attributes := #[] }, { accessFlags := 18, nameIndex := 17, descriptorIndex := 18, attributes := #[] }, { accessFlags := 2, nameIndex := 21, descriptorIndex := 22, attributes := #[] }, { accessFlags := 2, nameIndex := 25, descriptorIndex := 26, attributes := #[] }, { accessFlags := 26, nameIndex := 1116, descriptorIndex := 1117, attributes := #[] }, { accessFlags := 24, nameIndex := 40, descriptorIndex := 26, attributes := #[] }, { accessFlags := 26, nameIndex := 1101, descriptorIndex := 1102, attributes := #[] }, { accessFlags := 26, nameIndex := 1121, descriptorIndex := 1122, attributes := #[] }, { accessFlags := 25, nameIndex := 599, descriptorIndex := 600, attributes := #[] }, { accessFlags := 24, nameIndex := 1125, descriptorIndex := 18, attributes := #[] }, { accessFlags := 24, nameIndex := 1127, descriptorIndex := 18, attributes := #[] }])
  fields := #[{ name := "value", type := (.array .byte), accessFlags := 18, slot := 0, constantValue := 0 }, { name := "coder", type := .byte, accessFlags := 18, slot := 1, constantValue := 0 }, { name := "hash", type := .int, accessFlags := 2, slot := 2, constantValue := 0 }, { name := "hashIsZero", type := .boolean, accessFlags := 2, slot := 3, constantValue := 0 }, { name := "serialVersionUID", type := .long, accessFlags := 26, slot := 0, constantValue := 0 }, { name := "COMPACT_STRINGS", type := .boolean, accessFlags := 24, slot := 1, constantValue := 0 }, { name := "serialPersistentFields", type := (.array (.object "java/io/ObjectStreamField")), accessFlags := 26, slot := 2, constantValue := 0 }, { name := "REPL", type := .char, accessFlags := 26, slot := 3, constantValue := 0 }, { name := "CASE_INSENSITIVE_ORDER", type := (.object "java/util/Comparator"), accessFlags := 25, slot := 4, constantValue := 0 }, { name := "LATIN1", type := .byte, accessFlags := 24, slot := 5, constantValue := 0 }, { name := "UTF16", type := .byte, accessFlags := 24, slot := 6, constantValue := 0 }]
  methods := #[k9m0, k9m1, k9m2, k9m3, k9m4, k9m5]
  instanceTypes := #[(.array .byte), .byte, .int, .boolean]
  staticTypes := #[.long, .boolean, (.array (.object "java/io/ObjectStreamField")), .char, (.object "java/util/Comparator"), .byte, .byte]
  resolved := Array.replicate 1451 none
  statics := some 1 }

def pool10 : Array CpInfo := pool [(1, .class_ 2), (0, u "java/lang/String"), (1, .class_ 6), (1, u "java/lang/Object"), (0, u "<init>"), (0, u "()V"), (0, .methodref 1 10), (0, .nameAndType 11 12), (0, u "checkIndex"), (0, u "(II)V"), (1, .class_ 16), (1, u "java/lang/StringLatin1"), (36, u "([BI)C"), (67, u "$assertionsDisabled"), (0, u "Z"), (98, .class_ 223), (1, u "java/lang/StringLatin1$LinesSpliterator"), (28, u "charAt"), (137, .class_ 391), (0, u "java/lang/StringLatin1$CharsSpliterator")] 3

def k10m0 : Method := { name := "<init>", desc := "()V", sig := { parameters := [], returnType := none }, accessFlags := 0, code := none }
def k10c1 : Code := { maxStack := 2, maxLocals := 2, code := jdk_43_method_2_code, exceptionTable := #[], attributes := #[] }
def k10m1 : Method := { name := "charAt", desc := "([BI)C", sig := { parameters := [(.array .byte), .int], returnType := some .char }, accessFlags := 9, code := some k10c1 }
/-- java/lang/StringLatin1 -/
def k10 : Class := { plain "java/lang/StringLatin1" (some 0) with
  accessFlags := 48
  interfaces := #[]
  cf := some (fileOf pool10 14 #[.nestMembers #[390, 221]] #[{ accessFlags := 0, nameIndex := 7, descriptorIndex := 8, attributes := #[] }, { accessFlags := 9, nameIndex := 252, descriptorIndex := 53, attributes := #[] }] 48 4 #[] #[{ accessFlags := 4120, nameIndex := 121, descriptorIndex := 122, attributes := #[] }])
  fields := #[{ name := "$assertionsDisabled", type := .boolean, accessFlags := 4120, slot := 0, constantValue := 0 }]
  methods := #[k10m0, k10m1]
  instanceTypes := #[]
  staticTypes := #[.boolean]
  resolved := Array.replicate 395 none
  statics := none }

def pool11 : Array CpInfo := pool [(2, .class_ 4), (1, u "java/lang/Object"), (0, u "<init>"), (0, u "()V"), (17, .class_ 26), (1, u "jdk/internal/util/Preconditions"), (6, u "checkIndex"), (21, .class_ 56), (0, u "jdk/internal/util/Preconditions$4"), (57, .class_ 115), (0, u "jdk/internal/util/Preconditions$1"), (7, u "SIOOBE_FORMATTER"), (0, u "Ljava/util/function/BiFunction;"), (0, .class_ 126), (0, u "jdk/internal/util/Preconditions$2"), (3, u "AIOOBE_FORMATTER"), (0, .class_ 132), (0, u "jdk/internal/util/Preconditions$3"), (3, u "IOOBE_FORMATTER"), (41, u "(IILjava/util/function/BiFunction;)I")] 15

def k11m0 : Method := { name := "<init>", desc := "()V", sig := { parameters := [], returnType := none }, accessFlags := 1, code := none }
def k11c1 : Code := { maxStack := 3, maxLocals := 3, code := jdk_41_method_11_code, exceptionTable := #[], attributes := #[] }
def k11m1 : Method := { name := "checkIndex", desc := "(IILjava/util/function/BiFunction;)I", sig := { parameters := [.int, .int, (.object "java/util/function/BiFunction")], returnType := some .int }, accessFlags := 9, code := some k11c1 }
/-- jdk/internal/util/Preconditions -/
def k11 : Class := { plain "jdk/internal/util/Preconditions" (some 0) with
  accessFlags := 33
  interfaces := #[]
  cf := some (fileOf pool11 24 #[.nestMembers #[55, 131, 125, 114]] #[{ accessFlags := 1, nameIndex := 5, descriptorIndex := 6, attributes := #[] }, { accessFlags := 9, nameIndex := 33, descriptorIndex := 178, attributes := #[] }] 33 2 #[] #[{ accessFlags := 25, nameIndex := 123, descriptorIndex := 124, attributes := #[] }, { accessFlags := 25, nameIndex := 130, descriptorIndex := 124, attributes := #[] }, { accessFlags := 25, nameIndex := 136, descriptorIndex := 124, attributes := #[] }])
  fields := #[{ name := "SIOOBE_FORMATTER", type := (.object "java/util/function/BiFunction"), accessFlags := 25, slot := 0, constantValue := 0 }, { name := "AIOOBE_FORMATTER", type := (.object "java/util/function/BiFunction"), accessFlags := 25, slot := 1, constantValue := 0 }, { name := "IOOBE_FORMATTER", type := (.object "java/util/function/BiFunction"), accessFlags := 25, slot := 2, constantValue := 0 }]
  methods := #[k11m0, k11m1]
  instanceTypes := #[]
  staticTypes := #[(.object "java/util/function/BiFunction"), (.object "java/util/function/BiFunction"), (.object "java/util/function/BiFunction")]
  resolved := Array.replicate 194 none
  statics := some 2 }

def pool12 : Array CpInfo := pool [(9, u "<init>"), (6, .class_ 18), (1, u "java/lang/Object"), (0, u "()V"), (1, .class_ 23), (1, u "jdk/internal/util/ArraysSupport"), (0, u "LOG2_ARRAY_LONG_INDEX_SCALE"), (0, u "I"), (2, u "U"), (0, u "Ljdk/internal/misc/Unsafe;"), (8, u "BIG_ENDIAN"), (0, u "Z"), (8, u "LOG2_BYTE_BIT_SIZE"), (4, u "LOG2_ARRAY_INT_INDEX_SCALE"), (54, u "JLA"), (0, u "Ljdk/internal/access/JavaLangAccess;"), (11, u "LOG2_ARRAY_BOOLEAN_INDEX_SCALE"), (9, u "LOG2_ARRAY_BYTE_INDEX_SCALE"), (5, u "LOG2_ARRAY_CHAR_INDEX_SCALE"), (5, u "LOG2_ARRAY_SHORT_INDEX_SCALE"), (18, u "LOG2_ARRAY_FLOAT_INDEX_SCALE"), (24, u "LOG2_ARRAY_DOUBLE_INDEX_SCALE"), (89, u "T_BOOLEAN"), (2, u "T_CHAR"), (1, u "T_FLOAT"), (1, u "T_DOUBLE"), (1, u "T_BYTE"), (1, u "T_SHORT"), (1, u "T_INT"), (1, u "T_LONG"), (1, u "SOFT_MAX_ARRAY_LENGTH")] 83

def k12m0 : Method := { name := "<init>", desc := "()V", sig := { parameters := [], returnType := none }, accessFlags := 2, code := none }
/-- jdk/internal/util/ArraysSupport -/
def k12 : Class := { plain "jdk/internal/util/ArraysSupport" (some 0) with
  accessFlags := 33
  interfaces := #[]
  cf := some (fileOf pool12 21 #[] #[{ accessFlags := 2, nameIndex := 9, descriptorIndex := 19, attributes := #[] }] 33 16 #[] #[{ accessFlags := 24, nameIndex := 28, descriptorIndex := 29, attributes := #[] }, { accessFlags := 26, nameIndex := 38, descriptorIndex := 39, attributes := #[] }, { accessFlags := 25, nameIndex := 121, descriptorIndex := 25, attributes := #[] }, { accessFlags := 25, nameIndex := 131, descriptorIndex := 25, attributes := #[] }, { accessFlags := 25, nameIndex := 137, descriptorIndex := 25, attributes := #[] }, { accessFlags := 25, nameIndex := 143, descriptorIndex := 25, attributes := #[] }, { accessFlags := 25, nameIndex := 53, descriptorIndex := 25, attributes := #[] }, { accessFlags := 25, nameIndex := 24, descriptorIndex := 25, attributes := #[] }, { accessFlags := 25, nameIndex := 162, descriptorIndex := 25, attributes := #[] }, { accessFlags := 25, nameIndex := 187, descriptorIndex := 25, attributes := #[] }, { accessFlags := 26, nameIndex := 48, descriptorIndex := 25, attributes := #[] }, { accessFlags := 25, nameIndex := 277, descriptorIndex := 25, attributes := #[] }, { accessFlags := 25, nameIndex := 280, descriptorIndex := 25, attributes := #[] }, { accessFlags := 25, nameIndex := 282, descriptorIndex := 25, attributes := #[] }, { accessFlags := 25, nameIndex := 284, descriptorIndex := 25, attributes := #[] }, { accessFlags := 25, nameIndex := 286, descriptorIndex := 25, attributes := #[] }, { accessFlags := 25, nameIndex := 288, descriptorIndex := 25, attributes := #[] }, { accessFlags := 25, nameIndex := 290, descriptorIndex := 25, attributes := #[] }, { accessFlags := 25, nameIndex := 292, descriptorIndex := 25, attributes := #[] }, { accessFlags := 26, nameIndex := 108, descriptorIndex := 109, attributes := #[] }, { accessFlags := 25, nameIndex := 294, descriptorIndex := 25, attributes := #[] }])
  fields := #[{ name := "U", type := (.object "jdk/internal/misc/Unsafe"), accessFlags := 24, slot := 0, constantValue := 0 }, { name := "BIG_ENDIAN", type := .boolean, accessFlags := 26, slot := 1, constantValue := 0 }, { name := "LOG2_ARRAY_BOOLEAN_INDEX_SCALE", type := .int, accessFlags := 25, slot := 2, constantValue := 0 }, { name := "LOG2_ARRAY_BYTE_INDEX_SCALE", type := .int, accessFlags := 25, slot := 3, constantValue := 0 }, { name := "LOG2_ARRAY_CHAR_INDEX_SCALE", type := .int, accessFlags := 25, slot := 4, constantValue := 0 }, { name := "LOG2_ARRAY_SHORT_INDEX_SCALE", type := .int, accessFlags := 25, slot := 5, constantValue := 0 }, { name := "LOG2_ARRAY_INT_INDEX_SCALE", type := .int, accessFlags := 25, slot := 6, constantValue := 0 }, { name := "LOG2_ARRAY_LONG_INDEX_SCALE", type := .int, accessFlags := 25, slot := 7, constantValue := 0 }, { name := "LOG2_ARRAY_FLOAT_INDEX_SCALE", type := .int, accessFlags := 25, slot := 8, constantValue := 0 }, { name := "LOG2_ARRAY_DOUBLE_INDEX_SCALE", type := .int, accessFlags := 25, slot := 9, constantValue := 0 }, { name := "LOG2_BYTE_BIT_SIZE", type := .int, accessFlags := 26, slot := 10, constantValue := 0 }, { name := "T_BOOLEAN", type := .int, accessFlags := 25, slot := 11, constantValue := 0 }, { name := "T_CHAR", type := .int, accessFlags := 25, slot := 12, constantValue := 0 }, { name := "T_FLOAT", type := .int, accessFlags := 25, slot := 13, constantValue := 0 }, { name := "T_DOUBLE", type := .int, accessFlags := 25, slot := 14, constantValue := 0 }, { name := "T_BYTE", type := .int, accessFlags := 25, slot := 15, constantValue := 0 }, { name := "T_SHORT", type := .int, accessFlags := 25, slot := 16, constantValue := 0 }, { name := "T_INT", type := .int, accessFlags := 25, slot := 17, constantValue := 0 }, { name := "T_LONG", type := .int, accessFlags := 25, slot := 18, constantValue := 0 }, { name := "JLA", type := (.object "jdk/internal/access/JavaLangAccess"), accessFlags := 26, slot := 19, constantValue := 0 }, { name := "SOFT_MAX_ARRAY_LENGTH", type := .int, accessFlags := 25, slot := 20, constantValue := 0 }]
  methods := #[k12m0]
  instanceTypes := #[]
  staticTypes := #[(.object "jdk/internal/misc/Unsafe"), .boolean, .int, .int, .int, .int, .int, .int, .int, .int, .int, .int, .int, .int, .int, .int, .int, .int, .int, (.object "jdk/internal/access/JavaLangAccess"), .int]
  resolved := Array.replicate 378 none
  statics := none }

def pool13 : Array CpInfo := pool [(1, u "java/lang/Cloneable"), (0, .class_ 1), (0, u "java/lang/Object"), (0, .class_ 3)] 3

/-- java/lang/Cloneable -/
def k13 : Class := { plain "java/lang/Cloneable" (some 0) with
  accessFlags := 1537
  interfaces := #[]
  cf := some (fileOf pool13 2 #[] #[] 1537 4 #[] #[])
  fields := #[]
  methods := #[]
  instanceTypes := #[]
  staticTypes := #[]
  resolved := Array.replicate 8 none
  statics := none }

/-- the primitive byte -/
def k14 : Class := { plain "byte" none with kind := .primitive 'B', accessFlags := 0x411 }
/-- [B -/
def k15 : Class := { plain "[B" (some 0) with kind := .array 14 .byte, interfaces := #[13, 4], accessFlags := 1041 }

/-- the primitive int -/
def k16 : Class := { plain "int" none with kind := .primitive 'I', accessFlags := 0x411 }
/-- [I -/
def k17 : Class := { plain "[I" (some 0) with kind := .array 16 .int, interfaces := #[13, 4], accessFlags := 1041 }

def heap : Heap := #[{ cls := 6, slots := #[.ref 5, .ref 8, .ref 11, .ref 14, .ref 17, .ref 20, .ref 23, .null], vm := .statics 6 },
  { cls := 9, slots := #[.long 0, .int 1, .null, .int 0, .null, .int 0, .int 0], vm := .statics 9 },
  { cls := 11, slots := #[.null, .null, .null], vm := .statics 11 },
  { cls := 15, slots := #[.int 38, .int 38], vm := .none },
  { cls := 9, slots := #[.ref 3, .int 0, .int 0, .int 0], vm := .none },
  { cls := 6, slots := #[.null, .int 0, .int 0, .ref 4], vm := .none },
  { cls := 15, slots := #[.int 124, .int 124], vm := .none },
  { cls := 9, slots := #[.ref 6, .int 0, .int 0, .int 0], vm := .none },
  { cls := 6, slots := #[.null, .int 1, .int 0, .ref 7], vm := .none },
  { cls := 15, slots := #[.int 45, .int 62], vm := .none },
  { cls := 9, slots := #[.ref 9, .int 0, .int 0, .int 0], vm := .none },
  { cls := 6, slots := #[.null, .int 2, .int 0, .ref 10], vm := .none },
  { cls := 15, slots := #[.int 60, .int 45, .int 62], vm := .none },
  { cls := 9, slots := #[.ref 12, .int 0, .int 0, .int 0], vm := .none },
  { cls := 6, slots := #[.null, .int 3, .int 0, .ref 13], vm := .none },
  { cls := 15, slots := #[.int 85], vm := .none },
  { cls := 9, slots := #[.ref 15, .int 0, .int 0, .int 0], vm := .none },
  { cls := 6, slots := #[.null, .int 4, .int 0, .ref 16], vm := .none },
  { cls := 15, slots := #[.int 87], vm := .none },
  { cls := 9, slots := #[.ref 18, .int 0, .int 0, .int 0], vm := .none },
  { cls := 6, slots := #[.null, .int 5, .int 0, .ref 19], vm := .none },
  { cls := 15, slots := #[.int 86], vm := .none },
  { cls := 9, slots := #[.ref 21, .int 0, .int 0, .int 0], vm := .none },
  { cls := 6, slots := #[.null, .int 6, .int 0, .ref 22], vm := .none }]
def classes : Array Class := #[k0, k1, k2, k3, k4, k5, k6, k7, k8, k9, k10, k11, k12, k13, k14, k15, k16, k17]
def interned : List (Array UInt16 × Addr) := []
def slotsUsed : Nat := 86
def theMethod : MethodId := ⟨1, 1⟩
def args0 : Array Value := #[.int 1]
def aboutOver (below : List Frame) : State where
  vm := { classes := classes, interned := interned.toArray }
  heap := heap
  slotsUsed := slotsUsed
  threads := #[{ frames := .invoking theMethod args0 :: below }]
def below0 : List Frame := [.native { method := ⟨0, 0⟩, args := #[] }]
def about1 : State := aboutOver below0
def p0 : Program := .bare "" "" ""
def e0 : Env := launch0.env 0 0 0
theorem w_frames : about1.frames = Frame.invoking theMethod args0 :: below0 := rfl
set_option maxRecDepth 65536 in
theorem w_args : argsFit about1.vm theMethod args0 = true := by decide +kernel
set_option maxRecDepth 65536 in
theorem w_heap : heapFits about1 = true := by decide +kernel
set_option maxRecDepth 65536 in
theorem w_runnable : about1.curStatus? = some .runnable := by decide +kernel
set_option maxRecDepth 65536 in
theorem w_alone : about1.alone = true := by decide +kernel
set_option maxRecDepth 65536 in
theorem w_named : about1.methodNamed? x = some theMethod := by decide +kernel
set_option maxRecDepth 65536 in
theorem w_hears : about1.hears theMethod below0 = true := by decide +kernel
set_option maxRecDepth 65536 in
theorem w_ripe : about1.ripe theMethod args0 below0 = true := by decide +kernel
theorem w_running : about1.status = .running := rfl
set_option maxRecDepth 65536 in
theorem w_room : about1.hasRoom e0.platform room_1 = true :=
  launch0.hasRoom_least _ room_1 (by decide +kernel) (by decide +kernel) (by decide +kernel) (by decide +kernel) (by decide +kernel) (by decide +kernel)
theorem allAtoms_all (ts : List Jvm.Cond) (a : Array Jvm.Value) (st : Jvm.State) : (allAtoms ts).before a st = ts.all (fun c => c.before a st) := by
  induction ts with
  | nil => rfl
  | cons c t ih =>
    show (Jvm.Cond.and c (allAtoms t)).before a st = _
    rw [Jvm.Cond.before_and, ih, List.all_cons]
def words1 : List Jvm.Cond := Jvm.Cond.code x code maxLocals ret :: tables_1
/-- a 'code' word, met by the world's own term for the bytes: nothing is compared byte by byte -/
theorem code_word {y : MethodName} {bytes : ByteArray} {mx : Nat} {rt : Option FieldType} {a : Array Value} {s : State} {m : MethodId} {meth : Method} {c : Code} (h1 : s.methodNamed? y = some m) (h2 : s.vm.method? m = some meth) (h3 : meth.code = some c) (h4 : c.code = bytes)
    (h5 : (c.maxLocals == mx && c.exceptionTable.isEmpty && decide (c.maxStack ≤ mostOperands) && decide (meth.sig.returnType = rt) && !meth.locks && decide (parseMethodDescriptor y.desc = some meth.sig)) = true) : (Jvm.Cond.code y bytes mx rt).before a s = true := by
  simp only [Bool.and_eq_true, beq_iff_eq, Bool.not_eq_true', decide_eq_true_eq] at h5
  obtain ⟨⟨⟨⟨⟨g1, g2⟩, g3⟩, g4⟩, g5⟩, g6⟩ := h5
  simp [Cond.before, Cond.holds, Cond.value, h1, h2, h3, h4, g1, g2, g3, g4, g5, g6]
def isCode : Jvm.Cond → Bool
  | .code _ _ _ _ => true
  | _ => false
theorem all_split {L : List Jvm.Cond} {P : Jvm.Cond → Bool} (h1 : L.all (fun c => isCode c || P c) = true) (h2 : ∀ c ∈ L.filter isCode, P c = true) : L.all P = true := by
  refine List.all_eq_true.mpr fun c hc => ?_
  have h := List.all_eq_true.mp h1 c hc
  rcases Bool.eq_false_or_eq_true (isCode c) with hi | hi
  · exact h2 c (List.mem_filter.mpr ⟨hc, hi⟩)
  · simpa [hi] using h
set_option maxRecDepth 65536 in
theorem w_c0 : (Jvm.Cond.code x code maxLocals ret).before args0 about1 = true := code_word (m := ⟨1, 1⟩) (meth := k1m1) (c := k1c1) (by decide +kernel) rfl rfl rfl (by decide +kernel)
set_option maxRecDepth 65536 in
theorem w_c1 : (Jvm.Cond.code ({ cls := "com/example/paths_to_proofs/pathstoproofs/check/Formula$Connective", name := "temporal", desc := "()Z" } : Jvm.MethodName) prog_19_method_4_code (1 : Nat) (Option.some Jvm.ClassFile.FieldType.boolean)).before args0 about1 = true := code_word (m := ⟨6, 0⟩) (meth := k6m0) (c := k6c0) (by decide +kernel) rfl rfl rfl (by decide +kernel)
set_option maxRecDepth 65536 in
theorem w_c2 : (Jvm.Cond.code ({ cls := "java/lang/String", name := "length", desc := "()I" } : Jvm.MethodName) jdk_42_method_54_code (1 : Nat) (Option.some Jvm.ClassFile.FieldType.int)).before args0 about1 = true := code_word (m := ⟨9, 1⟩) (meth := k9m1) (c := k9c1) (by decide +kernel) rfl rfl rfl (by decide +kernel)
set_option maxRecDepth 65536 in
theorem w_c3 : (Jvm.Cond.code ({ cls := "java/lang/String", name := "coder", desc := "()B" } : Jvm.MethodName) jdk_42_method_152_code (1 : Nat) (Option.some Jvm.ClassFile.FieldType.byte)).before args0 about1 = true := code_word (m := ⟨9, 3⟩) (meth := k9m3) (c := k9c3) (by decide +kernel) rfl rfl rfl (by decide +kernel)
set_option maxRecDepth 65536 in
theorem w_c4 : (Jvm.Cond.code ({ cls := "java/lang/String", name := "charAt", desc := "(I)C" } : Jvm.MethodName) jdk_42_method_56_code (2 : Nat) (Option.some Jvm.ClassFile.FieldType.char)).before args0 about1 = true := code_word (m := ⟨9, 2⟩) (meth := k9m2) (c := k9c2) (by decide +kernel) rfl rfl rfl (by decide +kernel)
set_option maxRecDepth 65536 in
theorem w_c5 : (Jvm.Cond.code ({ cls := "java/lang/String", name := "isLatin1", desc := "()Z" } : Jvm.MethodName) jdk_42_method_154_code (1 : Nat) (Option.some Jvm.ClassFile.FieldType.boolean)).before args0 about1 = true := code_word (m := ⟨9, 4⟩) (meth := k9m4) (c := k9c4) (by decide +kernel) rfl rfl rfl (by decide +kernel)
set_option maxRecDepth 65536 in
theorem w_c6 : (Jvm.Cond.code ({ cls := "java/lang/StringLatin1", name := "charAt", desc := "([BI)C" } : Jvm.MethodName) jdk_43_method_2_code (2 : Nat) (Option.some Jvm.ClassFile.FieldType.char)).before args0 about1 = true := code_word (m := ⟨10, 1⟩) (meth := k10m1) (c := k10c1) (by decide +kernel) rfl rfl rfl (by decide +kernel)
set_option maxRecDepth 65536 in
theorem w_c7 : (Jvm.Cond.code ({ cls := "java/lang/String", name := "checkIndex", desc := "(II)V" } : Jvm.MethodName) jdk_42_method_155_code (2 : Nat) (Option.none : Option Jvm.ClassFile.FieldType)).before args0 about1 = true := code_word (m := ⟨9, 5⟩) (meth := k9m5) (c := k9c5) (by decide +kernel) rfl rfl rfl (by decide +kernel)
set_option maxRecDepth 65536 in
theorem w_c8 : (Jvm.Cond.code ({ cls := "jdk/internal/util/Preconditions", name := "checkIndex", desc := "(IILjava/util/function/BiFunction;)I" } : Jvm.MethodName) jdk_41_method_11_code (3 : Nat) (Option.some Jvm.ClassFile.FieldType.int)).before args0 about1 = true := code_word (m := ⟨11, 1⟩) (meth := k11m1) (c := k11c1) (by decide +kernel) rfl rfl rfl (by decide +kernel)
def codes1 : List Jvm.Cond := [Jvm.Cond.code x code maxLocals ret, Jvm.Cond.code ({ cls := "com/example/paths_to_proofs/pathstoproofs/check/Formula$Connective", name := "temporal", desc := "()Z" } : Jvm.MethodName) prog_19_method_4_code (1 : Nat) (Option.some Jvm.ClassFile.FieldType.boolean), Jvm.Cond.code ({ cls := "java/lang/String", name := "length", desc := "()I" } : Jvm.MethodName) jdk_42_method_54_code (1 : Nat) (Option.some Jvm.ClassFile.FieldType.int), Jvm.Cond.code ({ cls := "java/lang/String", name := "coder", desc := "()B" } : Jvm.MethodName) jdk_42_method_152_code (1 : Nat) (Option.some Jvm.ClassFile.FieldType.byte), Jvm.Cond.code ({ cls := "java/lang/String", name := "charAt", desc := "(I)C" } : Jvm.MethodName) jdk_42_method_56_code (2 : Nat) (Option.some Jvm.ClassFile.FieldType.char), Jvm.Cond.code ({ cls := "java/lang/String", name := "isLatin1", desc := "()Z" } : Jvm.MethodName) jdk_42_method_154_code (1 : Nat) (Option.some Jvm.ClassFile.FieldType.boolean), Jvm.Cond.code ({ cls := "java/lang/StringLatin1", name := "charAt", desc := "([BI)C" } : Jvm.MethodName) jdk_43_method_2_code (2 : Nat) (Option.some Jvm.ClassFile.FieldType.char), Jvm.Cond.code ({ cls := "java/lang/String", name := "checkIndex", desc := "(II)V" } : Jvm.MethodName) jdk_42_method_155_code (2 : Nat) (Option.none : Option Jvm.ClassFile.FieldType), Jvm.Cond.code ({ cls := "jdk/internal/util/Preconditions", name := "checkIndex", desc := "(IILjava/util/function/BiFunction;)I" } : Jvm.MethodName) jdk_41_method_11_code (3 : Nat) (Option.some Jvm.ClassFile.FieldType.int)]
set_option maxRecDepth 65536 in
theorem codes_eq : words1.filter isCode = codes1 := rfl
theorem w_codes : ∀ c ∈ words1.filter isCode, c.before args0 about1 = true := by
  rw [codes_eq]
  intro c hc
  simp only [codes1, List.mem_cons, List.not_mem_nil, or_false] at hc
  rcases hc with rfl | rfl | rfl | rfl | rfl | rfl | rfl | rfl | rfl
  · exact w_c0
  · exact w_c1
  · exact w_c2
  · exact w_c3
  · exact w_c4
  · exact w_c5
  · exact w_c6
  · exact w_c7
  · exact w_c8
set_option maxRecDepth 65536 in
theorem w_t1 : (words1.take 24).all (fun c => isCode c || c.before args0 about1) = true := by decide +kernel
set_option maxRecDepth 65536 in
theorem w_t2 : ((words1.drop 24).take 24).all (fun c => isCode c || c.before args0 about1) = true := by decide +kernel
set_option maxRecDepth 65536 in
theorem w_t3 : ((words1.drop 24).drop 24).all (fun c => isCode c || c.before args0 about1) = true := by decide +kernel
theorem w_tables : (allAtoms (Jvm.Cond.code x code maxLocals ret :: tables_1)).before args0 about1 = true := by
  rw [allAtoms_all]
  show words1.all (fun c => c.before args0 about1) = true
  refine all_split ?_ w_codes
  rw [← List.take_append_drop 24 words1, List.all_append, w_t1, ← List.take_append_drop 24 (words1.drop 24), List.all_append, w_t2, w_t3]
  rfl
set_option maxRecDepth 65536 in
theorem w_rest : rest_1_c.before args0 about1 = true := by decide +kernel
set_option maxRecDepth 65536 in
theorem w_case : (Jvm.Cond.and given_1 narrow_1).before args0 about1 = true := by decide +kernel
theorem w_applies : (headSpec (Jvm.Cond.code x code maxLocals ret :: tables_1) room_1).applies x e0.platform about1 = true :=
  (Spec.applies_iff w_frames).mpr ⟨w_running, w_runnable, w_alone, w_named, w_hears, w_ripe, w_room, w_tables⟩
theorem atStart : AtStart classFile x code maxLocals ret World_1 tables_1 room_1 Calls_1 rest_1 Pre_1 launch0 p0 e0 about1 theMethod args0 below0 :=
  ⟨lists_1, trivial, launch0.admits_env _ _ _, launch0.least_env, fairChoices_fair.cas, fairChoices_fair.clock, w_frames, w_args, w_heap, w_applies, trivial, w_rest, w_case⟩
end start1
theorem witness_1 : WitnessClaimed_1 := ⟨start1.p0, start1.e0, start1.about1, start1.theMethod, start1.args0, start1.below0, start1.atStart⟩
end Jvm.Pilot.@@N@@
