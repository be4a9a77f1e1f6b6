import JvmDerived
import JvmDerived.Pilot.@@N@@Statement
import JvmDerived.Pilot.@@N@@Code
set_option linter.unusedVariables false
set_option linter.unusedSimpArgs false
namespace Jvm.Pilot.@@N@@
open Jvm Jvm.ClassFile Sem Op Lib Jvm.Free Jvm.Stand Jvm.LawKit Jvm.RoadKit Bundle Jvm.Pilot.@@N@@.Jvm.D
section OwnLayer
variable {p : Program} {l : Launch} {e : Env} {R : Room} {s : State} {m : MethodId} {args : Array Value} {below : List Frame} {meth : Method} {c : Code} {T : State} {locs : List Loc} {cells slots : Nat} {Z : State} {y : MethodName} {bs : ByteArray} {maxL : Nat} {rt : Option FieldType} {ce sl : Nat} {Q : Option Value → Heap → List Loc → Prop} {G : Outcome → State → Prop} {pc : Nat} {Ls : Array Slot} {st rest : List Value} {h : Heap} {a0 : Array Value}
/-- from S the body runs on, returns, and Q says what it leaves -/
def OwnEnds (p : Program) (e : Env) (below : List Frame) (G : Outcome → State → Prop) (S : State) : Prop :=
  ∃ s₂ o, Steps p.tables e below S s₂ ∧ s₂.status = .running ∧ Ended s₂ below o ∧ G o s₂
def OwnG (s : State) (ce sl : Nat) (Q : Option Value → Heap → List Loc → Prop) : Outcome → State → Prop := fun o s₂ => ∃ v L, o = .returned v ∧ Q v s₂.heap L ∧ FrameEnd s o s₂ L ce sl
/-- what stands throughout a body's walk -/
def OwnCx (p : Program) (s : State) (m : MethodId) (meth : Method) (c : Code) (Z : State) (y : MethodName) (bs : ByteArray) (maxL : Nat) (rt : Option FieldType) : Prop :=
  p.tables.exec = Jvm.exec ∧ Z.Warmed39 s.vm ∧ s.vm.findClass y.cls = some m.cls ∧ c.code = bs ∧ c.maxLocals = maxL ∧ meth.sig.returnType = rt ∧ meth.locks = false ∧ meth.name = y.name
/-- a body's contract over the heap h at these arguments -/
def OwnMet (l : Launch) (Z : State) (y : MethodName) (bs : ByteArray) (maxL : Nat) (rt : Option FieldType) (ws : List Jvm.Cond) (rm : Room) (as' : Array Value) (h : Heap) (Q : Option Value → Heap → List Loc → Prop) : Prop :=
  MetFree l y (head1 (Jvm.Cond.code y bs maxL rt :: ws) rm) (fun a U => a = as' ∧ Z.Warmed39 U.vm ∧ U.heap = h) (fun _ _ _ _ _ => True) (fun _ U o U' => ∃ v L, o = .returned v ∧ Q v U'.heap L ∧ FrameEnd U o U' L rm.cells rm.slots)
theorem own_nz32 {d : Int32} (q : d.toInt ≠ 0) : d ≠ 0 := fun r => q (by rw [r]; rfl)
theorem own_nz64 {d : Int64} (q : d.toInt ≠ 0) : d ≠ 0 := fun r => q (by rw [r]; rfl)
theorem own_st {S S' : State} (k : ∀ t, Steps p.tables e below S' t → Steps p.tables e below S t) (r : OwnEnds p e below G S') : OwnEnds p e below G S := by
  obtain ⟨s₂, o, h1, r⟩ := r
  exact ⟨s₂, o, k _ h1, r⟩
theorem own_tr {S S' : State} (k : Steps p.tables e below S S') (r : OwnEnds p e below G S') : OwnEnds p e below G S := own_st (fun _ q => k.trans q) r
theorem own_enter {ws : List Jvm.Cond} {rm : Room} {as' : Array Value} {f0 : MethodId → JFrame} (hp : plainFor y = true) (hf : ∀ m, entryFrame m as' maxL = f0 m)
    (H : ∀ p e s m below meth c T, Stand p l e rm s m as' below meth c T [] 0 0 → OwnCx p s m meth c Z y bs maxL rt → T.heap = h → OwnEnds p e below (OwnG s rm.cells rm.slots Q) (T.setTop (f0 m))) : OwnMet l Z y bs maxL rt ws rm as' h Q := by
  refine MetFree.of_bodySF hp hisR ?_
  intro p e s m args below meth c s₁ Bd hml0 hP hK
  obtain ⟨rfl, hZ, hh⟩ := hP
  have k := H p e s m below meth c s₁ (Stand.of_body Bd) ⟨Bd.exec, hZ, findClass_of_methodNamed Bd.named, Bd.bytes, hml0, Bd.returns, Bd.notSynchronized, (name_of_methodNamed Bd.named Bd.method).1⟩ (by rw [← hh, Bd.state]; rfl)
  rw [← hf m] at k
  exact k
theorem own_mono {ws : List Jvm.Cond} {rm : Room} {as' : Array Value} {Q' : Option Value → Heap → List Loc → Prop} (H : OwnMet l Z y bs maxL rt ws rm as' h Q) (q : ∀ v h' L, Q v h' L → Q' v h' L) : OwnMet l Z y bs maxL rt ws rm as' h Q' := by
  intro p e ha hc hk s m args below hf happ hP hK
  obtain ⟨n, o, h1, h2, h3, v, L, h4, h5, h6⟩ := H p e ha hc hk s m args below hf happ hP hK
  exact ⟨n, o, h1, h2, h3, v, L, h4, q _ _ _ h5, h6⟩
theorem own_iload (X : Stand p l e R s m args below meth c T locs cells slots) (C : OwnCx p s m meth c Z y bs maxL rt) {k : Nat} {v : Int32} (hd : decode bs pc = .ok (.iload k, 2)) (pc' : Nat) (hp : pc + 2 = pc') (hl : Ls[k]? = some (.val (.int v)))
    (hr : OwnEnds p e below G (T.setTop (mkF m pc' Ls (.int v :: st)))) : OwnEnds p e below G (T.setTop (mkF m pc Ls st)) := by
  subst hp; exact own_st (fun _ q => XS.iload X.here C.1 rfl (hb C.2.2.2.1 hd) hl q) hr
theorem own_lload (X : Stand p l e R s m args below meth c T locs cells slots) (C : OwnCx p s m meth c Z y bs maxL rt) {k : Nat} {v : Int64} (hd : decode bs pc = .ok (.lload k, 2)) (pc' : Nat) (hp : pc + 2 = pc') (hl : Ls[k]? = some (.val (.long v)))
    (hr : OwnEnds p e below G (T.setTop (mkF m pc' Ls (.long v :: st)))) : OwnEnds p e below G (T.setTop (mkF m pc Ls st)) := by
  subst hp; exact own_st (fun _ q => XS.lload X.here C.1 rfl (hb C.2.2.2.1 hd) hl q) hr
theorem own_iload_n (X : Stand p l e R s m args below meth c T locs cells slots) (C : OwnCx p s m meth c Z y bs maxL rt) {k : Fin 4} {v : Int32} (hd : decode bs pc = .ok (.iload_n k, 1)) (pc' : Nat) (hp : pc + 1 = pc') (hl : Ls[k.val]? = some (.val (.int v)))
    (hr : OwnEnds p e below G (T.setTop (mkF m pc' Ls (.int v :: st)))) : OwnEnds p e below G (T.setTop (mkF m pc Ls st)) := by
  subst hp; exact own_st (fun _ q => XS.iloadN X.here C.1 rfl (hb C.2.2.2.1 hd) hl q) hr
theorem own_lload_n (X : Stand p l e R s m args below meth c T locs cells slots) (C : OwnCx p s m meth c Z y bs maxL rt) {k : Fin 4} {v : Int64} (hd : decode bs pc = .ok (.lload_n k, 1)) (pc' : Nat) (hp : pc + 1 = pc') (hl : Ls[k.val]? = some (.val (.long v)))
    (hr : OwnEnds p e below G (T.setTop (mkF m pc' Ls (.long v :: st)))) : OwnEnds p e below G (T.setTop (mkF m pc Ls st)) := by
  subst hp; exact own_st (fun _ q => XS.lloadN X.here C.1 rfl (hb C.2.2.2.1 hd) hl q) hr
theorem own_aload (X : Stand p l e R s m args below meth c T locs cells slots) (C : OwnCx p s m meth c Z y bs maxL rt) {k : Nat} {v : Value} (hd : decode bs pc = .ok (.aload k, 2)) (pc' : Nat) (hp : pc + 2 = pc') (hl : Ls[k]? = some (.val v)) (hv : v.isRef = true)
    (hr : OwnEnds p e below G (T.setTop (mkF m pc' Ls (v :: st)))) : OwnEnds p e below G (T.setTop (mkF m pc Ls st)) := by
  subst hp; exact own_st (fun _ q => XS.aload X.here C.1 rfl (hb C.2.2.2.1 hd) hl hv q) hr
theorem own_aload_n (X : Stand p l e R s m args below meth c T locs cells slots) (C : OwnCx p s m meth c Z y bs maxL rt) {k : Fin 4} {v : Value} (hd : decode bs pc = .ok (.aload_n k, 1)) (pc' : Nat) (hp : pc + 1 = pc') (hl : Ls[k.val]? = some (.val v)) (hv : v.isRef = true)
    (hr : OwnEnds p e below G (T.setTop (mkF m pc' Ls (v :: st)))) : OwnEnds p e below G (T.setTop (mkF m pc Ls st)) := by
  subst hp; exact own_st (fun _ q => XS.aloadN X.here C.1 rfl (hb C.2.2.2.1 hd) hl hv q) hr
theorem own_istore (X : Stand p l e R s m args below meth c T locs cells slots) (C : OwnCx p s m meth c Z y bs maxL rt) {k : Nat} {v : Int32} (hd : decode bs pc = .ok (.istore k, 2)) (pc' : Nat) (hp : pc + 2 = pc') (L' : Array Slot) (hl : storeLocals Ls k (.int v) = some L')
    (hr : OwnEnds p e below G (T.setTop (mkF m pc' L' st))) : OwnEnds p e below G (T.setTop (mkF m pc Ls (.int v :: st))) := by
  subst hp; exact own_st (fun _ q => XS.istore X.here C.1 rfl (hb C.2.2.2.1 hd) rfl hl q) hr
theorem own_lstore (X : Stand p l e R s m args below meth c T locs cells slots) (C : OwnCx p s m meth c Z y bs maxL rt) {k : Nat} {v : Int64} (hd : decode bs pc = .ok (.lstore k, 2)) (pc' : Nat) (hp : pc + 2 = pc') (L' : Array Slot) (hl : storeLocals Ls k (.long v) = some L')
    (hr : OwnEnds p e below G (T.setTop (mkF m pc' L' st))) : OwnEnds p e below G (T.setTop (mkF m pc Ls (.long v :: st))) := by
  subst hp; exact own_st (fun _ q => XS.lstore X.here C.1 rfl (hb C.2.2.2.1 hd) rfl hl q) hr
theorem own_istore_n (X : Stand p l e R s m args below meth c T locs cells slots) (C : OwnCx p s m meth c Z y bs maxL rt) {k : Fin 4} {v : Int32} (hd : decode bs pc = .ok (.istore_n k, 1)) (pc' : Nat) (hp : pc + 1 = pc') (L' : Array Slot) (hl : storeLocals Ls k.val (.int v) = some L')
    (hr : OwnEnds p e below G (T.setTop (mkF m pc' L' st))) : OwnEnds p e below G (T.setTop (mkF m pc Ls (.int v :: st))) := by
  subst hp; exact own_st (fun _ q => XS.istoreN X.here C.1 rfl (hb C.2.2.2.1 hd) rfl hl q) hr
theorem own_lstore_n (X : Stand p l e R s m args below meth c T locs cells slots) (C : OwnCx p s m meth c Z y bs maxL rt) {k : Fin 4} {v : Int64} (hd : decode bs pc = .ok (.lstore_n k, 1)) (pc' : Nat) (hp : pc + 1 = pc') (L' : Array Slot) (hl : storeLocals Ls k.val (.long v) = some L')
    (hr : OwnEnds p e below G (T.setTop (mkF m pc' L' st))) : OwnEnds p e below G (T.setTop (mkF m pc Ls (.long v :: st))) := by
  subst hp; exact own_st (fun _ q => XS.lstoreN X.here C.1 rfl (hb C.2.2.2.1 hd) rfl hl q) hr
theorem own_astore (X : Stand p l e R s m args below meth c T locs cells slots) (C : OwnCx p s m meth c Z y bs maxL rt) {k : Nat} {v : Value} (hd : decode bs pc = .ok (.astore k, 2)) (pc' : Nat) (hp : pc + 2 = pc') (hv : v.isRef = true) (L' : Array Slot) (hl : storeLocals Ls k v = some L')
    (hr : OwnEnds p e below G (T.setTop (mkF m pc' L' st))) : OwnEnds p e below G (T.setTop (mkF m pc Ls (v :: st))) := by
  subst hp; exact own_st (fun _ q => XS.astore X.here C.1 rfl (hb C.2.2.2.1 hd) rfl hv hl q) hr
theorem own_astore_n (X : Stand p l e R s m args below meth c T locs cells slots) (C : OwnCx p s m meth c Z y bs maxL rt) {k : Fin 4} {v : Value} (hd : decode bs pc = .ok (.astore_n k, 1)) (pc' : Nat) (hp : pc + 1 = pc') (hv : v.isRef = true) (L' : Array Slot) (hl : storeLocals Ls k.val v = some L')
    (hr : OwnEnds p e below G (T.setTop (mkF m pc' L' st))) : OwnEnds p e below G (T.setTop (mkF m pc Ls (v :: st))) := by
  subst hp; exact own_st (fun _ q => XS.astoreN X.here C.1 rfl (hb C.2.2.2.1 hd) rfl hv hl q) hr
theorem own_iinc (X : Stand p l e R s m args below meth c T locs cells slots) (C : OwnCx p s m meth c Z y bs maxL rt) {k : Nat} {cst : Int} {v : Int32} (hd : decode bs pc = .ok (.iinc k cst, 3)) (pc' : Nat) (hp : pc + 3 = pc') (hl : Ls[k]? = some (.val (.int v))) (w : Int32) (hw : Int32.ofInt cst = w) (F : Int32 → Array Slot) (hl' : ∀ z, storeLocals Ls k (.int z) = some (F z))
    (hr : ∀ z, z = v + w → OwnEnds p e below G (T.setTop (mkF m pc' (F z) st))) : OwnEnds p e below G (T.setTop (mkF m pc Ls st)) := by
  subst hp hw; exact own_st (fun _ q => XS.iinc X.here C.1 rfl (hb C.2.2.2.1 hd) hl (hl' _) q) (hr _ rfl)
theorem own_iconst (X : Stand p l e R s m args below meth c T locs cells slots) (C : OwnCx p s m meth c Z y bs maxL rt) {i : Int} (hd : decode bs pc = .ok (.iconst i, 1)) (pc' : Nat) (hp : pc + 1 = pc') (k : Int32) (hk : Int32.ofInt i = k)
    (hr : OwnEnds p e below G (T.setTop (mkF m pc' Ls (.int k :: st)))) : OwnEnds p e below G (T.setTop (mkF m pc Ls st)) := by
  subst hp hk; exact own_st (fun _ q => XS.iconst X.here C.1 rfl (hb C.2.2.2.1 hd) q) hr
theorem own_bipush (X : Stand p l e R s m args below meth c T locs cells slots) (C : OwnCx p s m meth c Z y bs maxL rt) {i : Int} (hd : decode bs pc = .ok (.bipush i, 2)) (pc' : Nat) (hp : pc + 2 = pc') (k : Int32) (hk : (Int8.ofInt i).toInt32 = k)
    (hr : OwnEnds p e below G (T.setTop (mkF m pc' Ls (.int k :: st)))) : OwnEnds p e below G (T.setTop (mkF m pc Ls st)) := by
  subst hp hk; exact own_st (fun _ q => XS.bipush X.here C.1 rfl (hb C.2.2.2.1 hd) q) hr
theorem own_sipush (X : Stand p l e R s m args below meth c T locs cells slots) (C : OwnCx p s m meth c Z y bs maxL rt) {i : Int} (hd : decode bs pc = .ok (.sipush i, 3)) (pc' : Nat) (hp : pc + 3 = pc') (k : Int32) (hk : (Int16.ofInt i).toInt32 = k)
    (hr : OwnEnds p e below G (T.setTop (mkF m pc' Ls (.int k :: st)))) : OwnEnds p e below G (T.setTop (mkF m pc Ls st)) := by
  subst hp hk; exact own_st (fun _ q => XS.sipush X.here C.1 rfl (hb C.2.2.2.1 hd) q) hr
theorem own_lconst (X : Stand p l e R s m args below meth c T locs cells slots) (C : OwnCx p s m meth c Z y bs maxL rt) {i : Fin 2} (hd : decode bs pc = .ok (.lconst i, 1)) (pc' : Nat) (hp : pc + 1 = pc') (k : Int64) (hk : Int64.ofNat i = k)
    (hr : OwnEnds p e below G (T.setTop (mkF m pc' Ls (.long k :: st)))) : OwnEnds p e below G (T.setTop (mkF m pc Ls st)) := by
  subst hp hk; exact own_st (fun _ q => XS.lconst X.here C.1 rfl (hb C.2.2.2.1 hd) q) hr
theorem own_aconst_null (X : Stand p l e R s m args below meth c T locs cells slots) (C : OwnCx p s m meth c Z y bs maxL rt) (hd : decode bs pc = .ok (.aconst_null, 1)) (pc' : Nat) (hp : pc + 1 = pc')
    (hr : OwnEnds p e below G (T.setTop (mkF m pc' Ls (.null :: st)))) : OwnEnds p e below G (T.setTop (mkF m pc Ls st)) := by
  subst hp; exact own_st (fun _ q => XS.aconstNull X.here C.1 rfl (hb C.2.2.2.1 hd) q) hr
theorem own_ldc (X : Stand p l e R s m args below meth c T locs cells slots) (C : OwnCx p s m meth c Z y bs maxL rt) {i : Nat} {v : Int32} (w : (Jvm.Cond.constant y.cls i v).before a0 Z = true) (hd : decode bs pc = .ok (.ldc i, 2)) (pc' : Nat) (hp : pc + 2 = pc')
    (hr : OwnEnds p e below G (T.setTop (mkF m pc' Ls (.int v :: st)))) : OwnEnds p e below G (T.setTop (mkF m pc Ls st)) := by
  subst hp; exact own_st (X.ldcInt C.1 C.2.2.1 (mvT C.2.1 w) (g := mkF m pc Ls st) rfl (hb C.2.2.2.1 hd)) hr
theorem own_ldcw (X : Stand p l e R s m args below meth c T locs cells slots) (C : OwnCx p s m meth c Z y bs maxL rt) {i : Nat} {v : Int32} (w : (Jvm.Cond.constant y.cls i v).before a0 Z = true) (hd : decode bs pc = .ok (.ldc_w i, 3)) (pc' : Nat) (hp : pc + 3 = pc')
    (hr : OwnEnds p e below G (T.setTop (mkF m pc' Ls (.int v :: st)))) : OwnEnds p e below G (T.setTop (mkF m pc Ls st)) := by
  subst hp; exact own_st (X.ldcwInt C.1 C.2.2.1 (mvT C.2.1 w) (g := mkF m pc Ls st) rfl (hb C.2.2.2.1 hd)) hr
theorem own_ldc2 (X : Stand p l e R s m args below meth c T locs cells slots) (C : OwnCx p s m meth c Z y bs maxL rt) {i : Nat} {v : Int64} (w : (Jvm.Cond.constantLong y.cls i v).before a0 Z = true) (hd : decode bs pc = .ok (.ldc2_w i, 3)) (pc' : Nat) (hp : pc + 3 = pc')
    (hr : OwnEnds p e below G (T.setTop (mkF m pc' Ls (.long v :: st)))) : OwnEnds p e below G (T.setTop (mkF m pc Ls st)) := by
  subst hp; exact own_st (X.ldc2Long C.1 C.2.2.1 (mvT C.2.1 w) (g := mkF m pc Ls st) rfl (hb C.2.2.2.1 hd)) hr
theorem own_iadd (X : Stand p l e R s m args below meth c T locs cells slots) (C : OwnCx p s m meth c Z y bs maxL rt) {a b : Int32} (hd : decode bs pc = .ok (.iadd, 1)) (pc' : Nat) (hp : pc + 1 = pc')
    (hr : ∀ z, z = a + b → OwnEnds p e below G (T.setTop (mkF m pc' Ls (.int z :: st)))) : OwnEnds p e below G (T.setTop (mkF m pc Ls (.int b :: .int a :: st))) := by
  subst hp; exact own_st (fun _ q => XS.iadd X.here C.1 rfl (hb C.2.2.2.1 hd) rfl q) (hr _ rfl)
theorem own_isub (X : Stand p l e R s m args below meth c T locs cells slots) (C : OwnCx p s m meth c Z y bs maxL rt) {a b : Int32} (hd : decode bs pc = .ok (.isub, 1)) (pc' : Nat) (hp : pc + 1 = pc')
    (hr : ∀ z, z = a - b → OwnEnds p e below G (T.setTop (mkF m pc' Ls (.int z :: st)))) : OwnEnds p e below G (T.setTop (mkF m pc Ls (.int b :: .int a :: st))) := by
  subst hp; exact own_st (fun _ q => XS.isub X.here C.1 rfl (hb C.2.2.2.1 hd) rfl q) (hr _ rfl)
theorem own_imul (X : Stand p l e R s m args below meth c T locs cells slots) (C : OwnCx p s m meth c Z y bs maxL rt) {a b : Int32} (hd : decode bs pc = .ok (.imul, 1)) (pc' : Nat) (hp : pc + 1 = pc')
    (hr : ∀ z, z = a * b → OwnEnds p e below G (T.setTop (mkF m pc' Ls (.int z :: st)))) : OwnEnds p e below G (T.setTop (mkF m pc Ls (.int b :: .int a :: st))) := by
  subst hp; exact own_st (fun _ q => XS.imul X.here C.1 rfl (hb C.2.2.2.1 hd) rfl q) (hr _ rfl)
theorem own_iand (X : Stand p l e R s m args below meth c T locs cells slots) (C : OwnCx p s m meth c Z y bs maxL rt) {a b : Int32} (hd : decode bs pc = .ok (.iand, 1)) (pc' : Nat) (hp : pc + 1 = pc')
    (hr : ∀ z, z = a &&& b → OwnEnds p e below G (T.setTop (mkF m pc' Ls (.int z :: st)))) : OwnEnds p e below G (T.setTop (mkF m pc Ls (.int b :: .int a :: st))) := by
  subst hp; exact own_st (fun _ q => XS.iand X.here C.1 rfl (hb C.2.2.2.1 hd) rfl q) (hr _ rfl)
theorem own_ior (X : Stand p l e R s m args below meth c T locs cells slots) (C : OwnCx p s m meth c Z y bs maxL rt) {a b : Int32} (hd : decode bs pc = .ok (.ior, 1)) (pc' : Nat) (hp : pc + 1 = pc')
    (hr : ∀ z, z = a ||| b → OwnEnds p e below G (T.setTop (mkF m pc' Ls (.int z :: st)))) : OwnEnds p e below G (T.setTop (mkF m pc Ls (.int b :: .int a :: st))) := by
  subst hp; exact own_st (fun _ q => XS.ior X.here C.1 rfl (hb C.2.2.2.1 hd) rfl q) (hr _ rfl)
theorem own_ixor (X : Stand p l e R s m args below meth c T locs cells slots) (C : OwnCx p s m meth c Z y bs maxL rt) {a b : Int32} (hd : decode bs pc = .ok (.ixor, 1)) (pc' : Nat) (hp : pc + 1 = pc')
    (hr : ∀ z, z = a ^^^ b → OwnEnds p e below G (T.setTop (mkF m pc' Ls (.int z :: st)))) : OwnEnds p e below G (T.setTop (mkF m pc Ls (.int b :: .int a :: st))) := by
  subst hp; exact own_st (fun _ q => XS.ixor X.here C.1 rfl (hb C.2.2.2.1 hd) rfl q) (hr _ rfl)
theorem own_idiv (X : Stand p l e R s m args below meth c T locs cells slots) (C : OwnCx p s m meth c Z y bs maxL rt) {a b : Int32} (hd : decode bs pc = .ok (.idiv, 1)) (pc' : Nat) (hp : pc + 1 = pc') (hz : b ≠ 0)
    (hr : ∀ z, z = a / b → OwnEnds p e below G (T.setTop (mkF m pc' Ls (.int z :: st)))) : OwnEnds p e below G (T.setTop (mkF m pc Ls (.int b :: .int a :: st))) := by
  subst hp; exact own_st (fun _ q => XS.idiv X.here C.1 rfl (hb C.2.2.2.1 hd) rfl hz q) (hr _ rfl)
theorem own_ladd (X : Stand p l e R s m args below meth c T locs cells slots) (C : OwnCx p s m meth c Z y bs maxL rt) {a b : Int64} (hd : decode bs pc = .ok (.ladd, 1)) (pc' : Nat) (hp : pc + 1 = pc')
    (hr : ∀ z, z = a + b → OwnEnds p e below G (T.setTop (mkF m pc' Ls (.long z :: st)))) : OwnEnds p e below G (T.setTop (mkF m pc Ls (.long b :: .long a :: st))) := by
  subst hp; exact own_st (fun _ q => XS.ladd X.here C.1 rfl (hb C.2.2.2.1 hd) rfl q) (hr _ rfl)
theorem own_lsub (X : Stand p l e R s m args below meth c T locs cells slots) (C : OwnCx p s m meth c Z y bs maxL rt) {a b : Int64} (hd : decode bs pc = .ok (.lsub, 1)) (pc' : Nat) (hp : pc + 1 = pc')
    (hr : ∀ z, z = a - b → OwnEnds p e below G (T.setTop (mkF m pc' Ls (.long z :: st)))) : OwnEnds p e below G (T.setTop (mkF m pc Ls (.long b :: .long a :: st))) := by
  subst hp; exact own_st (fun _ q => XS.lsub X.here C.1 rfl (hb C.2.2.2.1 hd) rfl q) (hr _ rfl)
theorem own_lmul (X : Stand p l e R s m args below meth c T locs cells slots) (C : OwnCx p s m meth c Z y bs maxL rt) {a b : Int64} (hd : decode bs pc = .ok (.lmul, 1)) (pc' : Nat) (hp : pc + 1 = pc')
    (hr : ∀ z, z = a * b → OwnEnds p e below G (T.setTop (mkF m pc' Ls (.long z :: st)))) : OwnEnds p e below G (T.setTop (mkF m pc Ls (.long b :: .long a :: st))) := by
  subst hp; exact own_st (fun _ q => XS.lmul X.here C.1 rfl (hb C.2.2.2.1 hd) rfl q) (hr _ rfl)
theorem own_land (X : Stand p l e R s m args below meth c T locs cells slots) (C : OwnCx p s m meth c Z y bs maxL rt) {a b : Int64} (hd : decode bs pc = .ok (.land, 1)) (pc' : Nat) (hp : pc + 1 = pc')
    (hr : ∀ z, z = a &&& b → OwnEnds p e below G (T.setTop (mkF m pc' Ls (.long z :: st)))) : OwnEnds p e below G (T.setTop (mkF m pc Ls (.long b :: .long a :: st))) := by
  subst hp; exact own_st (fun _ q => XS.land X.here C.1 rfl (hb C.2.2.2.1 hd) rfl q) (hr _ rfl)
theorem own_lor (X : Stand p l e R s m args below meth c T locs cells slots) (C : OwnCx p s m meth c Z y bs maxL rt) {a b : Int64} (hd : decode bs pc = .ok (.lor, 1)) (pc' : Nat) (hp : pc + 1 = pc')
    (hr : ∀ z, z = a ||| b → OwnEnds p e below G (T.setTop (mkF m pc' Ls (.long z :: st)))) : OwnEnds p e below G (T.setTop (mkF m pc Ls (.long b :: .long a :: st))) := by
  subst hp; exact own_st (fun _ q => XS.lor X.here C.1 rfl (hb C.2.2.2.1 hd) rfl q) (hr _ rfl)
theorem own_lxor (X : Stand p l e R s m args below meth c T locs cells slots) (C : OwnCx p s m meth c Z y bs maxL rt) {a b : Int64} (hd : decode bs pc = .ok (.lxor, 1)) (pc' : Nat) (hp : pc + 1 = pc')
    (hr : ∀ z, z = a ^^^ b → OwnEnds p e below G (T.setTop (mkF m pc' Ls (.long z :: st)))) : OwnEnds p e below G (T.setTop (mkF m pc Ls (.long b :: .long a :: st))) := by
  subst hp; exact own_st (fun _ q => XS.lxor X.here C.1 rfl (hb C.2.2.2.1 hd) rfl q) (hr _ rfl)
theorem own_ldiv (X : Stand p l e R s m args below meth c T locs cells slots) (C : OwnCx p s m meth c Z y bs maxL rt) {a b : Int64} (hd : decode bs pc = .ok (.ldiv, 1)) (pc' : Nat) (hp : pc + 1 = pc') (hz : b ≠ 0)
    (hr : ∀ z, z = a / b → OwnEnds p e below G (T.setTop (mkF m pc' Ls (.long z :: st)))) : OwnEnds p e below G (T.setTop (mkF m pc Ls (.long b :: .long a :: st))) := by
  subst hp; exact own_st (fun _ q => XS.ldiv X.here C.1 rfl (hb C.2.2.2.1 hd) rfl hz q) (hr _ rfl)
theorem own_irem (X : Stand p l e R s m args below meth c T locs cells slots) (C : OwnCx p s m meth c Z y bs maxL rt) {a b : Int32} (hd : decode bs pc = .ok (.irem, 1)) (pc' : Nat) (hp : pc + 1 = pc') (hz : b ≠ 0)
    (hr : ∀ z, z = a % b → OwnEnds p e below G (T.setTop (mkF m pc' Ls (.int z :: st)))) : OwnEnds p e below G (T.setTop (mkF m pc Ls (.int b :: .int a :: st))) := by
  subst hp; exact own_st (fun _ q => iremM X C.1 rfl (hb C.2.2.2.1 hd) rfl hz q) (hr _ rfl)
theorem own_lrem (X : Stand p l e R s m args below meth c T locs cells slots) (C : OwnCx p s m meth c Z y bs maxL rt) {a b : Int64} (hd : decode bs pc = .ok (.lrem, 1)) (pc' : Nat) (hp : pc + 1 = pc') (hz : b ≠ 0)
    (hr : ∀ z, z = a % b → OwnEnds p e below G (T.setTop (mkF m pc' Ls (.long z :: st)))) : OwnEnds p e below G (T.setTop (mkF m pc Ls (.long b :: .long a :: st))) := by
  subst hp; exact own_st (fun _ q => XS.lrem X.here C.1 rfl (hb C.2.2.2.1 hd) rfl hz q) (hr _ (lrem_mod a b))
theorem own_ishl (X : Stand p l e R s m args below meth c T locs cells slots) (C : OwnCx p s m meth c Z y bs maxL rt) {a : Int32} {b : Int32} (hd : decode bs pc = .ok (.ishl, 1)) (pc' : Nat) (hp : pc + 1 = pc')
    (hr : ∀ z, z = (a <<< (b &&& 31)) → OwnEnds p e below G (T.setTop (mkF m pc' Ls (.int z :: st)))) : OwnEnds p e below G (T.setTop (mkF m pc Ls (.int b :: .int a :: st))) := by
  subst hp; exact own_st (fun _ q => XS.ishl X.here C.1 rfl (hb C.2.2.2.1 hd) rfl q) (hr _ rfl)
theorem own_ishr (X : Stand p l e R s m args below meth c T locs cells slots) (C : OwnCx p s m meth c Z y bs maxL rt) {a : Int32} {b : Int32} (hd : decode bs pc = .ok (.ishr, 1)) (pc' : Nat) (hp : pc + 1 = pc')
    (hr : ∀ z, z = (a >>> (b &&& 31)) → OwnEnds p e below G (T.setTop (mkF m pc' Ls (.int z :: st)))) : OwnEnds p e below G (T.setTop (mkF m pc Ls (.int b :: .int a :: st))) := by
  subst hp; exact own_st (fun _ q => XS.ishr X.here C.1 rfl (hb C.2.2.2.1 hd) rfl q) (hr _ rfl)
theorem own_iushr (X : Stand p l e R s m args below meth c T locs cells slots) (C : OwnCx p s m meth c Z y bs maxL rt) {a : Int32} {b : Int32} (hd : decode bs pc = .ok (.iushr, 1)) (pc' : Nat) (hp : pc + 1 = pc')
    (hr : ∀ z, z = ((a.toUInt32 >>> (b &&& 31).toUInt32).toInt32) → OwnEnds p e below G (T.setTop (mkF m pc' Ls (.int z :: st)))) : OwnEnds p e below G (T.setTop (mkF m pc Ls (.int b :: .int a :: st))) := by
  subst hp; exact own_st (fun _ q => XS.iushr X.here C.1 rfl (hb C.2.2.2.1 hd) rfl q) (hr _ rfl)
theorem own_lshl (X : Stand p l e R s m args below meth c T locs cells slots) (C : OwnCx p s m meth c Z y bs maxL rt) {a : Int64} {b : Int32} (hd : decode bs pc = .ok (.lshl, 1)) (pc' : Nat) (hp : pc + 1 = pc')
    (hr : ∀ z, z = (a <<< (b &&& 0x3f).toInt64) → OwnEnds p e below G (T.setTop (mkF m pc' Ls (.long z :: st)))) : OwnEnds p e below G (T.setTop (mkF m pc Ls (.int b :: .long a :: st))) := by
  subst hp; exact own_st (fun _ q => XS.lshl X.here C.1 rfl (hb C.2.2.2.1 hd) rfl q) (hr _ rfl)
theorem own_lshr (X : Stand p l e R s m args below meth c T locs cells slots) (C : OwnCx p s m meth c Z y bs maxL rt) {a : Int64} {b : Int32} (hd : decode bs pc = .ok (.lshr, 1)) (pc' : Nat) (hp : pc + 1 = pc')
    (hr : ∀ z, z = (a >>> (b &&& 0x3f).toInt64) → OwnEnds p e below G (T.setTop (mkF m pc' Ls (.long z :: st)))) : OwnEnds p e below G (T.setTop (mkF m pc Ls (.int b :: .long a :: st))) := by
  subst hp; exact own_st (fun _ q => XS.lshr X.here C.1 rfl (hb C.2.2.2.1 hd) rfl q) (hr _ rfl)
theorem own_lushr (X : Stand p l e R s m args below meth c T locs cells slots) (C : OwnCx p s m meth c Z y bs maxL rt) {a : Int64} {b : Int32} (hd : decode bs pc = .ok (.lushr, 1)) (pc' : Nat) (hp : pc + 1 = pc')
    (hr : ∀ z, z = ((a.toUInt64 >>> (b &&& 0x3f).toInt64.toUInt64).toInt64) → OwnEnds p e below G (T.setTop (mkF m pc' Ls (.long z :: st)))) : OwnEnds p e below G (T.setTop (mkF m pc Ls (.int b :: .long a :: st))) := by
  subst hp; exact own_st (fun _ q => XS.lushr X.here C.1 rfl (hb C.2.2.2.1 hd) rfl q) (hr _ rfl)
theorem own_ineg (X : Stand p l e R s m args below meth c T locs cells slots) (C : OwnCx p s m meth c Z y bs maxL rt) {a : Int32} (hd : decode bs pc = .ok (.ineg, 1)) (pc' : Nat) (hp : pc + 1 = pc')
    (hr : ∀ z, z = -a → OwnEnds p e below G (T.setTop (mkF m pc' Ls (.int z :: st)))) : OwnEnds p e below G (T.setTop (mkF m pc Ls (.int a :: st))) := by
  subst hp; exact own_st (fun _ q => XS.ineg X.here C.1 rfl (hb C.2.2.2.1 hd) rfl q) (hr _ rfl)
theorem own_lneg (X : Stand p l e R s m args below meth c T locs cells slots) (C : OwnCx p s m meth c Z y bs maxL rt) {a : Int64} (hd : decode bs pc = .ok (.lneg, 1)) (pc' : Nat) (hp : pc + 1 = pc')
    (hr : ∀ z, z = -a → OwnEnds p e below G (T.setTop (mkF m pc' Ls (.long z :: st)))) : OwnEnds p e below G (T.setTop (mkF m pc Ls (.long a :: st))) := by
  subst hp; exact own_st (fun _ q => XS.lneg X.here C.1 rfl (hb C.2.2.2.1 hd) rfl q) (hr _ rfl)
theorem own_i2l (X : Stand p l e R s m args below meth c T locs cells slots) (C : OwnCx p s m meth c Z y bs maxL rt) {a : Int32} (hd : decode bs pc = .ok (.i2l, 1)) (pc' : Nat) (hp : pc + 1 = pc')
    (hr : ∀ z, z = a.toInt64 → OwnEnds p e below G (T.setTop (mkF m pc' Ls (.long z :: st)))) : OwnEnds p e below G (T.setTop (mkF m pc Ls (.int a :: st))) := by
  subst hp; exact own_st (fun _ q => XS.i2l X.here C.1 rfl (hb C.2.2.2.1 hd) rfl q) (hr _ rfl)
theorem own_l2i (X : Stand p l e R s m args below meth c T locs cells slots) (C : OwnCx p s m meth c Z y bs maxL rt) {a : Int64} (hd : decode bs pc = .ok (.l2i, 1)) (pc' : Nat) (hp : pc + 1 = pc')
    (hr : ∀ z, z = a.toInt32 → OwnEnds p e below G (T.setTop (mkF m pc' Ls (.int z :: st)))) : OwnEnds p e below G (T.setTop (mkF m pc Ls (.long a :: st))) := by
  subst hp; exact own_st (fun _ q => XS.l2i X.here C.1 rfl (hb C.2.2.2.1 hd) rfl q) (hr _ rfl)
theorem own_i2b (X : Stand p l e R s m args below meth c T locs cells slots) (C : OwnCx p s m meth c Z y bs maxL rt) {a : Int32} (hd : decode bs pc = .ok (.i2b, 1)) (pc' : Nat) (hp : pc + 1 = pc')
    (hr : ∀ z, z = a.toInt8.toInt32 → OwnEnds p e below G (T.setTop (mkF m pc' Ls (.int z :: st)))) : OwnEnds p e below G (T.setTop (mkF m pc Ls (.int a :: st))) := by
  subst hp; exact own_st (fun _ q => XS.i2b X.here C.1 rfl (hb C.2.2.2.1 hd) rfl q) (hr _ rfl)
theorem own_i2s (X : Stand p l e R s m args below meth c T locs cells slots) (C : OwnCx p s m meth c Z y bs maxL rt) {a : Int32} (hd : decode bs pc = .ok (.i2s, 1)) (pc' : Nat) (hp : pc + 1 = pc')
    (hr : ∀ z, z = a.toInt16.toInt32 → OwnEnds p e below G (T.setTop (mkF m pc' Ls (.int z :: st)))) : OwnEnds p e below G (T.setTop (mkF m pc Ls (.int a :: st))) := by
  subst hp; exact own_st (fun _ q => XS.i2s X.here C.1 rfl (hb C.2.2.2.1 hd) rfl q) (hr _ rfl)
theorem own_i2c (X : Stand p l e R s m args below meth c T locs cells slots) (C : OwnCx p s m meth c Z y bs maxL rt) {a : Int32} (hd : decode bs pc = .ok (.i2c, 1)) (pc' : Nat) (hp : pc + 1 = pc')
    (hr : ∀ z, z = a.toUInt32.toUInt16.toUInt32.toInt32 → OwnEnds p e below G (T.setTop (mkF m pc' Ls (.int z :: st)))) : OwnEnds p e below G (T.setTop (mkF m pc Ls (.int a :: st))) := by
  subst hp; exact own_st (fun _ q => XS.i2c X.here C.1 rfl (hb C.2.2.2.1 hd) rfl q) (hr _ rfl)
theorem own_lcmp (X : Stand p l e R s m args below meth c T locs cells slots) (C : OwnCx p s m meth c Z y bs maxL rt) {a b : Int64} (hd : decode bs pc = .ok (.lcmp, 1)) (pc' : Nat) (hp : pc + 1 = pc')
    (hr : ∀ z : Int32, (a.toInt < b.toInt → z.toInt = -1) → (a.toInt = b.toInt → z.toInt = 0) → (b.toInt < a.toInt → z.toInt = 1) → OwnEnds p e below G (T.setTop (mkF m pc' Ls (.int z :: st)))) : OwnEnds p e below G (T.setTop (mkF m pc Ls (.long b :: .long a :: st))) := by
  subst hp; exact own_st (fun _ q => XS.lcmp X.here C.1 rfl (hb C.2.2.2.1 hd) rfl q) (hr _ (c_lcmp a b).1 (c_lcmp a b).2.1 (c_lcmp a b).2.2)
theorem own_dup (X : Stand p l e R s m args below meth c T locs cells slots) (C : OwnCx p s m meth c Z y bs maxL rt) {v : Value} (hd : decode bs pc = .ok (.dup, 1)) (pc' : Nat) (hp : pc + 1 = pc') (hc : v.category = 1)
    (hr : OwnEnds p e below G (T.setTop (mkF m pc' Ls (v :: v :: st)))) : OwnEnds p e below G (T.setTop (mkF m pc Ls (v :: st))) := by
  subst hp; exact own_st (fun _ q => XS.dup X.here C.1 rfl (hb C.2.2.2.1 hd) rfl hc q) hr
theorem own_dup_x1 (X : Stand p l e R s m args below meth c T locs cells slots) (C : OwnCx p s m meth c Z y bs maxL rt) {v w : Value} (hd : decode bs pc = .ok (.dup_x1, 1)) (pc' : Nat) (hp : pc + 1 = pc') (hc : v.category = 1) (hc' : w.category = 1)
    (hr : OwnEnds p e below G (T.setTop (mkF m pc' Ls (v :: w :: v :: st)))) : OwnEnds p e below G (T.setTop (mkF m pc Ls (v :: w :: st))) := by
  subst hp; exact own_st (fun _ q => XS.dupX1 X.here C.1 rfl (hb C.2.2.2.1 hd) rfl hc hc' q) hr
theorem own_pop (X : Stand p l e R s m args below meth c T locs cells slots) (C : OwnCx p s m meth c Z y bs maxL rt) {v : Value} (hd : decode bs pc = .ok (.pop, 1)) (pc' : Nat) (hp : pc + 1 = pc') (hc : v.category = 1)
    (hr : OwnEnds p e below G (T.setTop (mkF m pc' Ls st))) : OwnEnds p e below G (T.setTop (mkF m pc Ls (v :: st))) := by
  subst hp; exact own_st (fun _ q => XS.pop X.here C.1 rfl (hb C.2.2.2.1 hd) rfl hc q) hr
theorem own_dup2 (X : Stand p l e R s m args below meth c T locs cells slots) (C : OwnCx p s m meth c Z y bs maxL rt) {v w : Value} (hd : decode bs pc = .ok (.dup2, 1)) (pc' : Nat) (hp : pc + 1 = pc') (hc : v.category = 1) (hc' : w.category = 1)
    (hr : OwnEnds p e below G (T.setTop (mkF m pc' Ls (v :: w :: v :: w :: st)))) : OwnEnds p e below G (T.setTop (mkF m pc Ls (v :: w :: st))) := by
  subst hp; exact own_st (fun _ q => XT.dup2 X.here C.1 rfl (hb C.2.2.2.1 hd) rfl hc hc' q) hr
theorem own_goto (X : Stand p l e R s m args below meth c T locs cells slots) (C : OwnCx p s m meth c Z y bs maxL rt) {o : Int} (hd : decode bs pc = .ok (.goto o, 3)) (pc' : Nat) (ho : 0 ≤ (pc : Int) + o) (hp : ((pc : Int) + o).toNat = pc')
    (hr : OwnEnds p e below G (T.setTop (mkF m pc' Ls st))) : OwnEnds p e below G (T.setTop (mkF m pc Ls st)) :=
  own_st (fun _ q => XS.goto X.here C.1 rfl rfl (hb C.2.2.2.1 hd) ho hp q) hr
theorem own_icmplt (X : Stand p l e R s m args below meth c T locs cells slots) (C : OwnCx p s m meth c Z y bs maxL rt) {x' y' : Int32} {o : Int} (hd : decode bs pc = .ok (.if_icmp .lt o, 3)) (pn pc' : Nat) (hpn : pc + 3 = pn) (ho : 0 ≤ (pc : Int) + o) (hp : ((pc : Int) + o).toNat = pc') {i : Int} (hi : x'.toInt = i) {j : Int} (hj : y'.toInt = j) 
    (hy : i < j → OwnEnds p e below G (T.setTop (mkF m pc' Ls st))) (hn : j ≤ i → OwnEnds p e below G (T.setTop (mkF m pn Ls st))) : OwnEnds p e below G (T.setTop (mkF m pc Ls (.int y' :: .int x' :: st))) := by
  subst hpn
  by_cases k : x' < y'
  · exact own_st (fun _ q => XS.icmpYes X.here C.1 rfl rfl (hb C.2.2.2.1 hd) rfl (((tlt k).1)) ho hp q) (hy (by rw [Int32.lt_iff_toInt_lt] at k; have q : y'.toInt = j := hj; omega))
  · exact own_st (fun _ q => XS.icmpNo X.here C.1 rfl (hb C.2.2.2.1 hd) rfl (((flt k).1)) q) (hn (by rw [Int32.lt_iff_toInt_lt] at k; have q : y'.toInt = j := hj; omega))
theorem own_icmpge (X : Stand p l e R s m args below meth c T locs cells slots) (C : OwnCx p s m meth c Z y bs maxL rt) {x' y' : Int32} {o : Int} (hd : decode bs pc = .ok (.if_icmp .ge o, 3)) (pn pc' : Nat) (hpn : pc + 3 = pn) (ho : 0 ≤ (pc : Int) + o) (hp : ((pc : Int) + o).toNat = pc') {i : Int} (hi : x'.toInt = i) {j : Int} (hj : y'.toInt = j) 
    (hy : j ≤ i → OwnEnds p e below G (T.setTop (mkF m pc' Ls st))) (hn : i < j → OwnEnds p e below G (T.setTop (mkF m pn Ls st))) : OwnEnds p e below G (T.setTop (mkF m pc Ls (.int y' :: .int x' :: st))) := by
  subst hpn
  by_cases k : x' < y'
  · exact own_st (fun _ q => XS.icmpNo X.here C.1 rfl (hb C.2.2.2.1 hd) rfl (((tlt k).2.1)) q) (hn (by rw [Int32.lt_iff_toInt_lt] at k; have q : y'.toInt = j := hj; omega))
  · exact own_st (fun _ q => XS.icmpYes X.here C.1 rfl rfl (hb C.2.2.2.1 hd) rfl (((flt k).2.1)) ho hp q) (hy (by rw [Int32.lt_iff_toInt_lt] at k; have q : y'.toInt = j := hj; omega))
theorem own_icmpgt (X : Stand p l e R s m args below meth c T locs cells slots) (C : OwnCx p s m meth c Z y bs maxL rt) {x' y' : Int32} {o : Int} (hd : decode bs pc = .ok (.if_icmp .gt o, 3)) (pn pc' : Nat) (hpn : pc + 3 = pn) (ho : 0 ≤ (pc : Int) + o) (hp : ((pc : Int) + o).toNat = pc') {i : Int} (hi : x'.toInt = i) {j : Int} (hj : y'.toInt = j) 
    (hy : j < i → OwnEnds p e below G (T.setTop (mkF m pc' Ls st))) (hn : i ≤ j → OwnEnds p e below G (T.setTop (mkF m pn Ls st))) : OwnEnds p e below G (T.setTop (mkF m pc Ls (.int y' :: .int x' :: st))) := by
  subst hpn
  by_cases k : y' < x'
  · exact own_st (fun _ q => XS.icmpYes X.here C.1 rfl rfl (hb C.2.2.2.1 hd) rfl (((tlt k).2.2.1)) ho hp q) (hy (by rw [Int32.lt_iff_toInt_lt] at k; have q : y'.toInt = j := hj; omega))
  · exact own_st (fun _ q => XS.icmpNo X.here C.1 rfl (hb C.2.2.2.1 hd) rfl (((flt k).2.2.1)) q) (hn (by rw [Int32.lt_iff_toInt_lt] at k; have q : y'.toInt = j := hj; omega))
theorem own_icmple (X : Stand p l e R s m args below meth c T locs cells slots) (C : OwnCx p s m meth c Z y bs maxL rt) {x' y' : Int32} {o : Int} (hd : decode bs pc = .ok (.if_icmp .le o, 3)) (pn pc' : Nat) (hpn : pc + 3 = pn) (ho : 0 ≤ (pc : Int) + o) (hp : ((pc : Int) + o).toNat = pc') {i : Int} (hi : x'.toInt = i) {j : Int} (hj : y'.toInt = j) 
    (hy : i ≤ j → OwnEnds p e below G (T.setTop (mkF m pc' Ls st))) (hn : j < i → OwnEnds p e below G (T.setTop (mkF m pn Ls st))) : OwnEnds p e below G (T.setTop (mkF m pc Ls (.int y' :: .int x' :: st))) := by
  subst hpn
  by_cases k : y' < x'
  · exact own_st (fun _ q => XS.icmpNo X.here C.1 rfl (hb C.2.2.2.1 hd) rfl (((tlt k).2.2.2)) q) (hn (by rw [Int32.lt_iff_toInt_lt] at k; have q : y'.toInt = j := hj; omega))
  · exact own_st (fun _ q => XS.icmpYes X.here C.1 rfl rfl (hb C.2.2.2.1 hd) rfl (((flt k).2.2.2)) ho hp q) (hy (by rw [Int32.lt_iff_toInt_lt] at k; have q : y'.toInt = j := hj; omega))
theorem own_icmpeq (X : Stand p l e R s m args below meth c T locs cells slots) (C : OwnCx p s m meth c Z y bs maxL rt) {x' y' : Int32} {o : Int} (hd : decode bs pc = .ok (.if_icmp .eq o, 3)) (pn pc' : Nat) (hpn : pc + 3 = pn) (ho : 0 ≤ (pc : Int) + o) (hp : ((pc : Int) + o).toNat = pc') {i : Int} (hi : x'.toInt = i) {j : Int} (hj : y'.toInt = j) 
    (hy : i = j → OwnEnds p e below G (T.setTop (mkF m pc' Ls st))) (hn : i ≠ j → OwnEnds p e below G (T.setTop (mkF m pn Ls st))) : OwnEnds p e below G (T.setTop (mkF m pc Ls (.int y' :: .int x' :: st))) := by
  subst hpn
  by_cases k : x' = y'
  · exact own_st (fun _ q => XS.icmpYes X.here C.1 rfl rfl (hb C.2.2.2.1 hd) rfl (((teq k).1)) ho hp q) (hy (by subst k; exact hi.symm.trans hj))
  · exact own_st (fun _ q => XS.icmpNo X.here C.1 rfl (hb C.2.2.2.1 hd) rfl (((feq k).1)) q) (hn (fun q => k (Int32.toInt_inj.mp (hi.trans (q.trans hj.symm)))))
theorem own_icmpne (X : Stand p l e R s m args below meth c T locs cells slots) (C : OwnCx p s m meth c Z y bs maxL rt) {x' y' : Int32} {o : Int} (hd : decode bs pc = .ok (.if_icmp .ne o, 3)) (pn pc' : Nat) (hpn : pc + 3 = pn) (ho : 0 ≤ (pc : Int) + o) (hp : ((pc : Int) + o).toNat = pc') {i : Int} (hi : x'.toInt = i) {j : Int} (hj : y'.toInt = j) 
    (hy : i ≠ j → OwnEnds p e below G (T.setTop (mkF m pc' Ls st))) (hn : i = j → OwnEnds p e below G (T.setTop (mkF m pn Ls st))) : OwnEnds p e below G (T.setTop (mkF m pc Ls (.int y' :: .int x' :: st))) := by
  subst hpn
  by_cases k : x' = y'
  · exact own_st (fun _ q => XS.icmpNo X.here C.1 rfl (hb C.2.2.2.1 hd) rfl (((teq k).2)) q) (hn (by subst k; exact hi.symm.trans hj))
  · exact own_st (fun _ q => XS.icmpYes X.here C.1 rfl rfl (hb C.2.2.2.1 hd) rfl (((feq k).2)) ho hp q) (hy (fun q => k (Int32.toInt_inj.mp (hi.trans (q.trans hj.symm)))))
theorem own_iflt (X : Stand p l e R s m args below meth c T locs cells slots) (C : OwnCx p s m meth c Z y bs maxL rt) {x' : Int32} {o : Int} (hd : decode bs pc = .ok (.ifCond .lt o, 3)) (pn pc' : Nat) (hpn : pc + 3 = pn) (ho : 0 ≤ (pc : Int) + o) (hp : ((pc : Int) + o).toNat = pc') {i : Int} (hi : x'.toInt = i) 
    (hy : i < 0 → OwnEnds p e below G (T.setTop (mkF m pc' Ls st))) (hn : 0 ≤ i → OwnEnds p e below G (T.setTop (mkF m pn Ls st))) : OwnEnds p e below G (T.setTop (mkF m pc Ls (.int x' :: st))) := by
  subst hpn
  by_cases k : x' < (0 : Int32)
  · exact own_st (fun _ q => XS.ifYes X.here C.1 rfl rfl (hb C.2.2.2.1 hd) rfl ((if0 _ _).trans ((tlt k).1)) ho hp q) (hy (by rw [Int32.lt_iff_toInt_lt] at k; have q : (0 : Int32).toInt = 0 := (rfl : (0 : Int32).toInt = 0); omega))
  · exact own_st (fun _ q => XS.ifNo X.here C.1 rfl (hb C.2.2.2.1 hd) rfl ((if0 _ _).trans ((flt k).1)) q) (hn (by rw [Int32.lt_iff_toInt_lt] at k; have q : (0 : Int32).toInt = 0 := (rfl : (0 : Int32).toInt = 0); omega))
theorem own_ifge (X : Stand p l e R s m args below meth c T locs cells slots) (C : OwnCx p s m meth c Z y bs maxL rt) {x' : Int32} {o : Int} (hd : decode bs pc = .ok (.ifCond .ge o, 3)) (pn pc' : Nat) (hpn : pc + 3 = pn) (ho : 0 ≤ (pc : Int) + o) (hp : ((pc : Int) + o).toNat = pc') {i : Int} (hi : x'.toInt = i) 
    (hy : 0 ≤ i → OwnEnds p e below G (T.setTop (mkF m pc' Ls st))) (hn : i < 0 → OwnEnds p e below G (T.setTop (mkF m pn Ls st))) : OwnEnds p e below G (T.setTop (mkF m pc Ls (.int x' :: st))) := by
  subst hpn
  by_cases k : x' < (0 : Int32)
  · exact own_st (fun _ q => XS.ifNo X.here C.1 rfl (hb C.2.2.2.1 hd) rfl ((if0 _ _).trans ((tlt k).2.1)) q) (hn (by rw [Int32.lt_iff_toInt_lt] at k; have q : (0 : Int32).toInt = 0 := (rfl : (0 : Int32).toInt = 0); omega))
  · exact own_st (fun _ q => XS.ifYes X.here C.1 rfl rfl (hb C.2.2.2.1 hd) rfl ((if0 _ _).trans ((flt k).2.1)) ho hp q) (hy (by rw [Int32.lt_iff_toInt_lt] at k; have q : (0 : Int32).toInt = 0 := (rfl : (0 : Int32).toInt = 0); omega))
theorem own_ifgt (X : Stand p l e R s m args below meth c T locs cells slots) (C : OwnCx p s m meth c Z y bs maxL rt) {x' : Int32} {o : Int} (hd : decode bs pc = .ok (.ifCond .gt o, 3)) (pn pc' : Nat) (hpn : pc + 3 = pn) (ho : 0 ≤ (pc : Int) + o) (hp : ((pc : Int) + o).toNat = pc') {i : Int} (hi : x'.toInt = i) 
    (hy : 0 < i → OwnEnds p e below G (T.setTop (mkF m pc' Ls st))) (hn : i ≤ 0 → OwnEnds p e below G (T.setTop (mkF m pn Ls st))) : OwnEnds p e below G (T.setTop (mkF m pc Ls (.int x' :: st))) := by
  subst hpn
  by_cases k : (0 : Int32) < x'
  · exact own_st (fun _ q => XS.ifYes X.here C.1 rfl rfl (hb C.2.2.2.1 hd) rfl ((if0 _ _).trans ((tlt k).2.2.1)) ho hp q) (hy (by rw [Int32.lt_iff_toInt_lt] at k; have q : (0 : Int32).toInt = 0 := (rfl : (0 : Int32).toInt = 0); omega))
  · exact own_st (fun _ q => XS.ifNo X.here C.1 rfl (hb C.2.2.2.1 hd) rfl ((if0 _ _).trans ((flt k).2.2.1)) q) (hn (by rw [Int32.lt_iff_toInt_lt] at k; have q : (0 : Int32).toInt = 0 := (rfl : (0 : Int32).toInt = 0); omega))
theorem own_ifle (X : Stand p l e R s m args below meth c T locs cells slots) (C : OwnCx p s m meth c Z y bs maxL rt) {x' : Int32} {o : Int} (hd : decode bs pc = .ok (.ifCond .le o, 3)) (pn pc' : Nat) (hpn : pc + 3 = pn) (ho : 0 ≤ (pc : Int) + o) (hp : ((pc : Int) + o).toNat = pc') {i : Int} (hi : x'.toInt = i) 
    (hy : i ≤ 0 → OwnEnds p e below G (T.setTop (mkF m pc' Ls st))) (hn : 0 < i → OwnEnds p e below G (T.setTop (mkF m pn Ls st))) : OwnEnds p e below G (T.setTop (mkF m pc Ls (.int x' :: st))) := by
  subst hpn
  by_cases k : (0 : Int32) < x'
  · exact own_st (fun _ q => XS.ifNo X.here C.1 rfl (hb C.2.2.2.1 hd) rfl ((if0 _ _).trans ((tlt k).2.2.2)) q) (hn (by rw [Int32.lt_iff_toInt_lt] at k; have q : (0 : Int32).toInt = 0 := (rfl : (0 : Int32).toInt = 0); omega))
  · exact own_st (fun _ q => XS.ifYes X.here C.1 rfl rfl (hb C.2.2.2.1 hd) rfl ((if0 _ _).trans ((flt k).2.2.2)) ho hp q) (hy (by rw [Int32.lt_iff_toInt_lt] at k; have q : (0 : Int32).toInt = 0 := (rfl : (0 : Int32).toInt = 0); omega))
theorem own_ifeq (X : Stand p l e R s m args below meth c T locs cells slots) (C : OwnCx p s m meth c Z y bs maxL rt) {x' : Int32} {o : Int} (hd : decode bs pc = .ok (.ifCond .eq o, 3)) (pn pc' : Nat) (hpn : pc + 3 = pn) (ho : 0 ≤ (pc : Int) + o) (hp : ((pc : Int) + o).toNat = pc') {i : Int} (hi : x'.toInt = i) 
    (hy : i = 0 → OwnEnds p e below G (T.setTop (mkF m pc' Ls st))) (hn : i ≠ 0 → OwnEnds p e below G (T.setTop (mkF m pn Ls st))) : OwnEnds p e below G (T.setTop (mkF m pc Ls (.int x' :: st))) := by
  subst hpn
  by_cases k : x' = (0 : Int32)
  · exact own_st (fun _ q => XS.ifYes X.here C.1 rfl rfl (hb C.2.2.2.1 hd) rfl ((if0 _ _).trans ((teq k).1)) ho hp q) (hy (by subst k; exact hi.symm.trans (rfl : (0 : Int32).toInt = 0)))
  · exact own_st (fun _ q => XS.ifNo X.here C.1 rfl (hb C.2.2.2.1 hd) rfl ((if0 _ _).trans ((feq k).1)) q) (hn (fun q => k (Int32.toInt_inj.mp (hi.trans (q.trans (rfl : (0 : Int32).toInt = 0).symm)))))
theorem own_ifne (X : Stand p l e R s m args below meth c T locs cells slots) (C : OwnCx p s m meth c Z y bs maxL rt) {x' : Int32} {o : Int} (hd : decode bs pc = .ok (.ifCond .ne o, 3)) (pn pc' : Nat) (hpn : pc + 3 = pn) (ho : 0 ≤ (pc : Int) + o) (hp : ((pc : Int) + o).toNat = pc') {i : Int} (hi : x'.toInt = i) 
    (hy : i ≠ 0 → OwnEnds p e below G (T.setTop (mkF m pc' Ls st))) (hn : i = 0 → OwnEnds p e below G (T.setTop (mkF m pn Ls st))) : OwnEnds p e below G (T.setTop (mkF m pc Ls (.int x' :: st))) := by
  subst hpn
  by_cases k : x' = (0 : Int32)
  · exact own_st (fun _ q => XS.ifNo X.here C.1 rfl (hb C.2.2.2.1 hd) rfl ((if0 _ _).trans ((teq k).2)) q) (hn (by subst k; exact hi.symm.trans (rfl : (0 : Int32).toInt = 0)))
  · exact own_st (fun _ q => XS.ifYes X.here C.1 rfl rfl (hb C.2.2.2.1 hd) rfl ((if0 _ _).trans ((feq k).2)) ho hp q) (hy (fun q => k (Int32.toInt_inj.mp (hi.trans (q.trans (rfl : (0 : Int32).toInt = 0).symm)))))
theorem own_ifnonnull_y (X : Stand p l e R s m args below meth c T locs cells slots) (C : OwnCx p s m meth c Z y bs maxL rt) {b : Addr} {o : Int} (hd : decode bs pc = .ok (.ifnonnull o, 3)) (pc' : Nat) (ho : 0 ≤ (pc : Int) + o) (hp : ((pc : Int) + o).toNat = pc')
    (hr : OwnEnds p e below G (T.setTop (mkF m pc' Ls st))) : OwnEnds p e below G (T.setTop (mkF m pc Ls (.ref b :: st))) :=
  own_st (fun _ q => XS.ifnonnullYes X.here C.1 rfl rfl (hb C.2.2.2.1 hd) rfl ho hp q) hr
theorem own_ifnull_n (X : Stand p l e R s m args below meth c T locs cells slots) (C : OwnCx p s m meth c Z y bs maxL rt) {b : Addr} {o : Int} (hd : decode bs pc = .ok (.ifnull o, 3)) (pn : Nat) (hp : pc + 3 = pn)
    (hr : OwnEnds p e below G (T.setTop (mkF m pn Ls st))) : OwnEnds p e below G (T.setTop (mkF m pc Ls (.ref b :: st))) := by
  subst hp; exact own_st (fun _ q => XS.ifnullNo X.here C.1 rfl (hb C.2.2.2.1 hd) rfl q) hr
theorem own_ifnull_y (X : Stand p l e R s m args below meth c T locs cells slots) (C : OwnCx p s m meth c Z y bs maxL rt) {o : Int} (hd : decode bs pc = .ok (.ifnull o, 3)) (pc' : Nat) (ho : 0 ≤ (pc : Int) + o) (hp : ((pc : Int) + o).toNat = pc')
    (hr : OwnEnds p e below G (T.setTop (mkF m pc' Ls st))) : OwnEnds p e below G (T.setTop (mkF m pc Ls (.null :: st))) :=
  own_st (fun _ q => XS.ifnullYes X.here C.1 rfl rfl (hb C.2.2.2.1 hd) rfl ho hp q) hr
theorem own_ifnonnull_n (X : Stand p l e R s m args below meth c T locs cells slots) (C : OwnCx p s m meth c Z y bs maxL rt) {o : Int} (hd : decode bs pc = .ok (.ifnonnull o, 3)) (pn : Nat) (hp : pc + 3 = pn)
    (hr : OwnEnds p e below G (T.setTop (mkF m pn Ls st))) : OwnEnds p e below G (T.setTop (mkF m pc Ls (.null :: st))) := by
  subst hp; exact own_st (fun _ q => XS.ifnonnullNo X.here C.1 rfl (hb C.2.2.2.1 hd) rfl q) hr
theorem own_acmpeq (X : Stand p l e R s m args below meth c T locs cells slots) (C : OwnCx p s m meth c Z y bs maxL rt) {a b : Addr} {o : Int} (hd : decode bs pc = .ok (.if_acmp .eq o, 3)) (pn pc' : Nat) (hpn : pc + 3 = pn) (ho : 0 ≤ (pc : Int) + o) (hp : ((pc : Int) + o).toNat = pc')
    (hy : a = b → OwnEnds p e below G (T.setTop (mkF m pc' Ls st))) (hn : a ≠ b → OwnEnds p e below G (T.setTop (mkF m pn Ls st))) : OwnEnds p e below G (T.setTop (mkF m pc Ls (.ref b :: .ref a :: st))) := by
  subst hpn
  by_cases k : a = b
  · exact own_st (fun _ q => XS.acmpYes X.here C.1 rfl rfl (hb C.2.2.2.1 hd) rfl (by simp [if_acmp.holds, k]) ho hp q) (hy k)
  · exact own_st (fun _ q => XS.acmpNo X.here C.1 rfl (hb C.2.2.2.1 hd) rfl (by simp [if_acmp.holds, k]) q) (hn k)
theorem own_acmpne (X : Stand p l e R s m args below meth c T locs cells slots) (C : OwnCx p s m meth c Z y bs maxL rt) {a b : Addr} {o : Int} (hd : decode bs pc = .ok (.if_acmp .ne o, 3)) (pn pc' : Nat) (hpn : pc + 3 = pn) (ho : 0 ≤ (pc : Int) + o) (hp : ((pc : Int) + o).toNat = pc')
    (hy : a ≠ b → OwnEnds p e below G (T.setTop (mkF m pc' Ls st))) (hn : a = b → OwnEnds p e below G (T.setTop (mkF m pn Ls st))) : OwnEnds p e below G (T.setTop (mkF m pc Ls (.ref b :: .ref a :: st))) := by
  subst hpn
  by_cases k : a = b
  · exact own_st (fun _ q => XS.acmpNo X.here C.1 rfl (hb C.2.2.2.1 hd) rfl (by simp [if_acmp.holds, k]) q) (hn k)
  · exact own_st (fun _ q => XS.acmpYes X.here C.1 rfl rfl (hb C.2.2.2.1 hd) rfl (by simp [if_acmp.holds, k]) ho hp q) (hy k)
theorem own_leave (X : Stand p l e R s m args below meth c T locs cells slots) (C : OwnCx p s m meth c Z y bs maxL rt) (v : Option Value) (hv : meth.sig.returnType = none → v = none) (hce : cells ≤ ce) (hsl : slots ≤ sl) (hQ : Q v T.heap locs) {S : State}
    (k : ∀ fs, (∀ (f : JFrame) (acts : List Action), f.method = m → f.locked = none → f.entered = [] → (doReturn e (T.setTop f) acts v).1 = T.setFrames fs) → Steps p.tables e below S (T.setFrames fs)) : OwnEnds p e below (OwnG s ce sl Q) S := by
  obtain ⟨fs, hr, hrun, hended, hW, hsame⟩ := X.leave (v := v) hv C.2.2.2.2.2.2.1
  exact ⟨_, _, k fs hr, hrun, hended, _, _, rfl, hQ, ⟨_, rfl⟩, hW, hsame.mono hce hsl⟩
theorem own_return (X : Stand p l e R s m args below meth c T locs cells slots) (C : OwnCx p s m meth c Z y bs maxL rt) (hrt : rt = none) (hd : decode bs pc = .ok (.return_, 1)) (hce : cells ≤ ce) (hsl : slots ≤ sl) (hQ : Q none T.heap locs) : OwnEnds p e below (OwnG s ce sl Q) (T.setTop (mkF m pc Ls [])) := by
  subst hrt
  exact own_leave X C none (fun _ => rfl) hce hsl hQ fun fs hr => X.returnOut C.1 C.2.2.2.2.2.1 (hb C.2.2.2.1 hd) hr
theorem own_iretN (X : Stand p l e R s m args below meth c T locs cells slots) (C : OwnCx p s m meth c Z y bs maxL rt) {z : Int32} (t : FieldType) (hrt : rt = some t) (ht : t = .boolean ∨ t = .byte ∨ t = .char ∨ t = .short) (hd : decode bs pc = .ok (.ireturn, 1)) (hce : cells ≤ ce) (hsl : slots ≤ sl) (w : Int32) (hw : nar t z = w) (hQ : Q (some (.int w)) T.heap locs) : OwnEnds p e below (OwnG s ce sl Q) (T.setTop (mkF m pc Ls (.int z :: st))) := by
  subst hrt hw
  exact own_leave X C (some (.int (nar t z))) (fun q => by rw [C.2.2.2.2.2.1] at q; cases q) hce hsl hQ fun fs hr => retN X C.1 C.2.2.2.2.2.1 ht (hb C.2.2.2.1 hd) hr
theorem own_ireturn (X : Stand p l e R s m args below meth c T locs cells slots) (C : OwnCx p s m meth c Z y bs maxL rt) {z : Int32} (hrt : rt = some .int) (hd : decode bs pc = .ok (.ireturn, 1)) (hce : cells ≤ ce) (hsl : slots ≤ sl) (hQ : Q (some (.int z)) T.heap locs) : OwnEnds p e below (OwnG s ce sl Q) (T.setTop (mkF m pc Ls (.int z :: st))) := by
  subst hrt
  exact own_leave X C (some (.int z)) (fun q => by rw [C.2.2.2.2.2.1] at q; cases q) hce hsl hQ fun fs hr => retOut X C.1 C.2.2.2.2.2.1 rfl (Or.inl ⟨rfl, Or.inl rfl, z, rfl⟩) (hb C.2.2.2.1 hd) hr
theorem own_lreturn (X : Stand p l e R s m args below meth c T locs cells slots) (C : OwnCx p s m meth c Z y bs maxL rt) {z : Int64} (hrt : rt = some .long) (hd : decode bs pc = .ok (.lreturn, 1)) (hce : cells ≤ ce) (hsl : slots ≤ sl) (hQ : Q (some (.long z)) T.heap locs) : OwnEnds p e below (OwnG s ce sl Q) (T.setTop (mkF m pc Ls (.long z :: st))) := by
  subst hrt
  exact own_leave X C (some (.long z)) (fun q => by rw [C.2.2.2.2.2.1] at q; cases q) hce hsl hQ fun fs hr => retOut X C.1 C.2.2.2.2.2.1 rfl (Or.inr (Or.inl ⟨rfl, rfl, z, rfl⟩)) (hb C.2.2.2.1 hd) hr
theorem own_areturn (X : Stand p l e R s m args below meth c T locs cells slots) (C : OwnCx p s m meth c Z y bs maxL rt) {z : Value} (t : FieldType) (hrt : rt = some t) (ht : t.isReference = true) (hz : z.isRef = true) (hn : narrow t z = z) (hd : decode bs pc = .ok (.areturn, 1)) (hce : cells ≤ ce) (hsl : slots ≤ sl) (hQ : Q (some z) T.heap locs) : OwnEnds p e below (OwnG s ce sl Q) (T.setTop (mkF m pc Ls (z :: st))) := by
  subst hrt
  exact own_leave X C (some z) (fun q => by rw [C.2.2.2.2.2.1] at q; cases q) hce hsl hQ fun fs hr => retOut X C.1 C.2.2.2.2.2.1 hn (Or.inr (Or.inr (Or.inr (Or.inr ⟨rfl, ht, hz⟩)))) (hb C.2.2.2.1 hd) hr
theorem own_callS (X : Stand p l e R s m args below meth c T locs cells slots) (C : OwnCx p s m meth c Z y bs maxL rt) {idx : Nat} {y' : MethodName} {bs' : ByteArray} {maxL' : Nat} {rt' : Option FieldType} {rm : Room} {as' : Array Value} {Q' : Option Value → Heap → List Loc → Prop}
    (w1 : (Jvm.Cond.methodLink y.cls idx y').before a0 Z = true) (w2 : (Jvm.Cond.static y').before a0 Z = true) (w3 : (Jvm.Cond.initialized y'.cls).before a0 Z = true) (w4 : (Jvm.Cond.code y' bs' maxL' rt').before a0 Z = true) (hy : y'.cls ≠ "java/lang/invoke/MethodHandle" ∧ y'.cls ≠ "java/lang/invoke/VarHandle")
    (hM : OwnMet l Z y' bs' maxL' rt' [] rm as' h Q') (eT : T.heap = h) {ps : List FieldType} {r : Option FieldType} (hpd : parseMethodDescriptor y'.desc = some ⟨ps, r⟩) (argsL : List Value) (has : argsL.toArray = as') (hlen : argsL.length = ps.length) (hst : st = argsL.reverse ++ rest) (hsz : Ls.size = maxL)
    (W : Nat) (hW : (rest.map fun v => v.category).sum = W) (hf : rm.frames + 1 ≤ R.frames) (hlo : W + (maxL' + 11) + rm.locals ≤ R.locals) (hce : cells + rm.cells ≤ R.cells) (hsl : slots + rm.slots ≤ R.slots) (hd : decode bs pc = .ok (.invokestatic idx, 3)) (pc' : Nat) (hp : pc + 3 = pc')
    (hr : ∀ T' L v, Stand p l e R s m args below meth c T' (locs ++ L) (cells + rm.cells) (slots + rm.slots) → Q' v T'.heap L → OwnEnds p e below G (T'.setTop (mkF m pc' Ls (v.toList ++ rest)))) : OwnEnds p e below G (T.setTop (mkF m pc Ls st)) := by
  subst hp has hW
  obtain ⟨v, _, ⟨T', L, k, n⟩, -, X', ⟨L', hQ, l1, l2, l3⟩, stp⟩ := Jvm.LawKit.callS X C.1 C.2.2.1 (mvT C.2.1 w1) (mvT C.2.1 w2) (mvT C.2.1 w3) (mvT C.2.1 w4) hy (backOf (len := 3) (W := (rest.map fun v => v.category).sum) hM C.2.1 w4 w3 hf hlo) (g := mkF m pc Ls st) rfl (by rw [C.2.2.2.2.1]; exact hsz) (argsL := argsL) (rest := rest) (lenOf hpd hlen) hst (by show 2 * 0 + _ ≤ _; omega) (hb C.2.2.2.1 hd) (fun _ _ => ⟨rfl, eT, hce, hsl⟩)
  dsimp only [Pt.U, Pt.locs, Pt.cells, Pt.slots] at X' l1 l2 l3 stp hQ
  subst l1 l2 l3
  exact own_st stp (hr T' L' v X' hQ)
/-- a callee that returns w and leaves the heap alone -/
def OwnPure (w : Value) (h : Heap) : Option Value → Heap → List Loc → Prop := fun v h' L => v = some w ∧ h' = h ∧ L = []
theorem own_conv {ws : List Jvm.Cond} {rm : Room} {as' : Array Value} {w w' : Value} (H : OwnMet l Z y bs maxL rt ws rm as' h (OwnPure w h)) (q : w = w') : OwnMet l Z y bs maxL rt ws rm as' h (OwnPure w' h) := q ▸ H
theorem own_callP (X : Stand p l e R s m args below meth c T locs cells slots) (C : OwnCx p s m meth c Z y bs maxL rt) {idx : Nat} {y' : MethodName} {bs' : ByteArray} {maxL' : Nat} {rt' : Option FieldType} {rm : Room} {as' : Array Value} {w : Value}
    (w1 : (Jvm.Cond.methodLink y.cls idx y').before a0 Z = true) (w2 : (Jvm.Cond.static y').before a0 Z = true) (w3 : (Jvm.Cond.initialized y'.cls).before a0 Z = true) (w4 : (Jvm.Cond.code y' bs' maxL' rt').before a0 Z = true) (hy : y'.cls ≠ "java/lang/invoke/MethodHandle" ∧ y'.cls ≠ "java/lang/invoke/VarHandle")
    (hM : OwnMet l Z y' bs' maxL' rt' [] rm as' h (OwnPure w h)) (eT : T.heap = h) {ps : List FieldType} {r : Option FieldType} (hpd : parseMethodDescriptor y'.desc = some ⟨ps, r⟩) (argsL : List Value) (has : argsL.toArray = as') (hlen : argsL.length = ps.length) (hst : st = argsL.reverse ++ rest) (hsz : Ls.size = maxL)
    (W : Nat) (hW : (rest.map fun v => v.category).sum = W) (hf : rm.frames + 1 ≤ R.frames) (hlo : W + (maxL' + 11) + rm.locals ≤ R.locals) (hce : rm.cells = 0) (hsl : rm.slots = 0) (hc0 : cells ≤ R.cells) (hs0 : slots ≤ R.slots) (hd : decode bs pc = .ok (.invokestatic idx, 3)) (pc' : Nat) (hp : pc + 3 = pc')
    (hr : ∀ T', Stand p l e R s m args below meth c T' locs cells slots → T'.heap = h → OwnEnds p e below G (T'.setTop (mkF m pc' Ls (w :: rest)))) : OwnEnds p e below G (T.setTop (mkF m pc Ls st)) := by
  refine own_callS X C w1 w2 w3 w4 hy hM eT hpd argsL has hlen hst hsz W hW hf hlo (by omega) (by omega) hd pc' hp ?_
  rintro T' L v X' ⟨rfl, e, rfl⟩
  rw [List.append_nil, hce, hsl] at X'
  exact hr T' X' e
/-- a callee that leaves the heap alone and returns a value of which Pw says something -/
def OwnSome (Pw : Value → Prop) (h : Heap) : Option Value → Heap → List Loc → Prop := fun v h' L => (∃ w, v = some w ∧ Pw w) ∧ h' = h ∧ L = []
theorem own_callE (X : Stand p l e R s m args below meth c T locs cells slots) (C : OwnCx p s m meth c Z y bs maxL rt) {idx : Nat} {y' : MethodName} {bs' : ByteArray} {maxL' : Nat} {rt' : Option FieldType} {rm : Room} {as' : Array Value} {Pw : Value → Prop}
    (w1 : (Jvm.Cond.methodLink y.cls idx y').before a0 Z = true) (w2 : (Jvm.Cond.static y').before a0 Z = true) (w3 : (Jvm.Cond.initialized y'.cls).before a0 Z = true) (w4 : (Jvm.Cond.code y' bs' maxL' rt').before a0 Z = true) (hy : y'.cls ≠ "java/lang/invoke/MethodHandle" ∧ y'.cls ≠ "java/lang/invoke/VarHandle")
    (hM : OwnMet l Z y' bs' maxL' rt' [] rm as' h (OwnSome Pw h)) (eT : T.heap = h) {ps : List FieldType} {r : Option FieldType} (hpd : parseMethodDescriptor y'.desc = some ⟨ps, r⟩) (argsL : List Value) (has : argsL.toArray = as') (hlen : argsL.length = ps.length) (hst : st = argsL.reverse ++ rest) (hsz : Ls.size = maxL)
    (W : Nat) (hW : (rest.map fun v => v.category).sum = W) (hf : rm.frames + 1 ≤ R.frames) (hlo : W + (maxL' + 11) + rm.locals ≤ R.locals) (hce : rm.cells = 0) (hsl : rm.slots = 0) (hc0 : cells ≤ R.cells) (hs0 : slots ≤ R.slots) (hd : decode bs pc = .ok (.invokestatic idx, 3)) (pc' : Nat) (hp : pc + 3 = pc')
    (hr : ∀ T' w, Pw w → Stand p l e R s m args below meth c T' locs cells slots → T'.heap = h → OwnEnds p e below G (T'.setTop (mkF m pc' Ls (w :: rest)))) : OwnEnds p e below G (T.setTop (mkF m pc Ls st)) := by
  refine own_callS X C w1 w2 w3 w4 hy hM eT hpd argsL has hlen hst hsz W hW hf hlo (by omega) (by omega) hd pc' hp ?_
  rintro T' L v X' ⟨⟨w, rfl, hw⟩, e, rfl⟩
  rw [List.append_nil, hce, hsl] at X'
  exact hr T' w hw X' e
end OwnLayer
section OwnHeap
variable {p : Program} {l : Launch} {e : Env} {R : Room} {s : State} {m : MethodId} {args : Array Value} {below : List Frame} {meth : Method} {c : Code} {T : State} {locs : List Loc} {cells slots : Nat} {Z : State} {y : MethodName} {bs : ByteArray} {maxL : Nat} {rt : Option FieldType} {ce sl : Nat} {Q : Option Value → Heap → List Loc → Prop} {G : Outcome → State → Prop} {pc : Nat} {Ls : Array Slot} {st rest : List Value} {h h' : Heap} {a0 : Array Value} {a : Addr}
/-- an array: its length and what lies at each place -/
def OwnAr (Z : State) (h : Heap) (a : Addr) (ty : FieldType) (n : Nat) (f : Nat → Value) : Prop := ∃ cl : Cell, Arr Z h a cl ty ∧ cl.slots.size = n ∧ ∀ i, i < n → cl.slots[i]? = some (f i)
theorem OwnAr.lt {ty : FieldType} {n : Nat} {f : Nat → Value} (F : OwnAr Z h a ty n f) : a < h.size := by obtain ⟨cl, A, -⟩ := F; exact A.lt
theorem OwnAr.ext {ty : FieldType} {n : Nat} {f : Nat → Value} (F : OwnAr Z h a ty n f) (E : Ext h h') : OwnAr Z h' a ty n f := by obtain ⟨cl, A, r⟩ := F; exact ⟨cl, A.ext E, r⟩
theorem OwnAr.other {ty : FieldType} {n : Nat} {f : Nat → Value} {b : Addr} {sl : Nat} {v : Value} (F : OwnAr Z h a ty n f) (W : Wr h h' b sl v) (q : a ≠ b) : OwnAr Z h' a ty n f := by obtain ⟨cl, A, r⟩ := F; exact ⟨cl, A.other W q, r⟩
theorem OwnAr.keep {ty : FieldType} {n : Nat} {f : Nat → Value} {ws : List Addr} (F : OwnAr Z h a ty n f) (K : Keep h h' ws) (q : a ∉ ws) : OwnAr Z h' a ty n f := by obtain ⟨cl, A, r⟩ := F; exact ⟨cl, ⟨K.2.1 a cl A.1 q, A.2⟩, r⟩
theorem OwnAr.eqv {ty : FieldType} {n : Nat} {f g : Nat → Value} (F : OwnAr Z h a ty n f) (q : ∀ i, i < n → f i = g i) : OwnAr Z h a ty n g := by obtain ⟨cl, A, S, r⟩ := F; exact ⟨cl, A, S, fun i hi => by rw [r i hi, q i hi]⟩
theorem OwnAr.set {ty : FieldType} {n : Nat} {f : Nat → Value} {k : Nat} {v : Value} (F : OwnAr Z h a ty n f) (W : Wr h h' a k v) : OwnAr Z h' a ty n (fun i => if i = k then v else f i) := by
  obtain ⟨cl, A, S, r⟩ := F
  obtain ⟨cl', w1, w2, w3, w4⟩ := id W
  cases A.1.symm.trans w1
  refine ⟨cl.setSlot k v, A.same W, by rw [sz_set]; exact S, fun i hi => ?_⟩
  by_cases q : i = k
  · subst q; simp [Cell.setSlot, w3]
  · simp [Cell.setSlot, q, Array.getElem?_setIfInBounds_ne (Ne.symm q), r i hi]
theorem OwnAr.new {ty : FieldType} {n : Int32} {cA : ClassId} (A : Arr Z h a (newA cA ty n) ty) : OwnAr Z h a ty n.toNatClampNeg (fun _ => defaultValue ty) := ⟨_, A, sz_new _ _ _, fun i hi => by simp [newA, hi]⟩
theorem own_fr1 {k : Nat} {L : List Loc} {a : Addr} {sl : Nat} (N : Fr k L) (q : k ≤ a) : Fr k (L ++ [⟨a, sl⟩]) := N.app fun y hy => by cases List.mem_singleton.mp hy; exact q
theorem own_stak {C n d : String} {v : Value} (F : Sta Z h C n d v) (K : Keep h h' []) : Sta Z h' C n d v := by
  obtain ⟨cf, i, k, f, st, cell, h1, h2, h3, h4, h5, r⟩ := F
  exact ⟨cf, i, k, f, st, cell, h1, h2, h3, h4, K.2.1 _ _ h5 nin0, r⟩
theorem own_arl {a : Nat} {ty : FieldType} {n : Nat} {f : Nat → Value} (F : OwnAr Z h a ty n f) : a < h.size := F.lt
theorem own_exl {a : Nat} {K : String} (F : Exa Z h a K) : a < h.size := F.lt
theorem own_iteI {q : Prop} [Decidable q] {a b : Int32} : (if q then Value.int a else Value.int b) = Value.int (if q then a else b) := by split <;> rfl
theorem own_iteL {q : Prop} [Decidable q] {a b : Int64} : (if q then Value.long a else Value.long b) = Value.long (if q then a else b) := by split <;> rfl
theorem own_ne {x y : Nat} (q : x ≠ y) : @Ne Addr x y := q
theorem own_in {j : Int32} {n : Nat} (h0 : 0 ≤ j.toInt) (h1 : j.toInt < n) : ¬ (j < 0 ∨ n ≤ j.toNatClampNeg) := by
  rintro (q | q)
  · rw [Int32.lt_iff_toInt_lt] at q; have : (0 : Int32).toInt = 0 := rfl; omega
  · have e : j.toNatClampNeg = j.toInt.toNat := rfl
    omega
theorem own_len {n : Nat} (h : n < 2147483648) : (n.toInt32).toInt = n := by
  show (Int32.ofNat n).toInt = _
  rw [Int32.toInt_ofNat_of_lt (by omega)]
theorem own_iastore (X : Stand p l e R s m args below meth c T locs cells slots) (C : OwnCx p s m meth c Z y bs maxL rt) {v : Int32} {j : Int32} {n : Nat} {f : Nat → Value} (eT : T.heap = h) (F : OwnAr Z h a .int n f) (h0 : 0 ≤ j.toInt) (h1 : j.toInt < n) (hd : decode bs pc = .ok (.iastore, 1)) (pc' : Nat) (hp : pc + 1 = pc')
    (hr : ∀ T' h', Stand p l e R s m args below meth c T' (locs ++ [⟨a, j.toInt.toNat⟩]) cells slots → T'.heap = h' → Wr h h' a j.toInt.toNat (.int v) → OwnEnds p e below G (T'.setTop (mkF m pc' Ls st))) : OwnEnds p e below G (T.setTop (mkF m pc Ls ((.int v) :: .int j :: .ref a :: st))) := by
  subst hp
  obtain ⟨cl, A, S, r⟩ := F
  obtain ⟨T', h', X', e', W, stp⟩ := stI X C.1 C.2.1 eT A (j := j) (x := v) (by rw [S]; exact own_in h0 h1) (g := mkF m pc Ls _) rfl rfl (hb C.2.2.2.1 hd)
  exact own_st stp (hr T' h' X' e' W)
theorem own_lastore (X : Stand p l e R s m args below meth c T locs cells slots) (C : OwnCx p s m meth c Z y bs maxL rt) {v : Int64} {j : Int32} {n : Nat} {f : Nat → Value} (eT : T.heap = h) (F : OwnAr Z h a .long n f) (h0 : 0 ≤ j.toInt) (h1 : j.toInt < n) (hd : decode bs pc = .ok (.lastore, 1)) (pc' : Nat) (hp : pc + 1 = pc')
    (hr : ∀ T' h', Stand p l e R s m args below meth c T' (locs ++ [⟨a, j.toInt.toNat⟩]) cells slots → T'.heap = h' → Wr h h' a j.toInt.toNat (.long v) → OwnEnds p e below G (T'.setTop (mkF m pc' Ls st))) : OwnEnds p e below G (T.setTop (mkF m pc Ls ((.long v) :: .int j :: .ref a :: st))) := by
  subst hp
  obtain ⟨cl, A, S, r⟩ := F
  obtain ⟨T', h', X', e', W, stp⟩ := stJ X C.1 C.2.1 eT A (j := j) (x := v) (by rw [S]; exact own_in h0 h1) (g := mkF m pc Ls _) rfl rfl (hb C.2.2.2.1 hd)
  exact own_st stp (hr T' h' X' e' W)
theorem own_bastoreB (X : Stand p l e R s m args below meth c T locs cells slots) (C : OwnCx p s m meth c Z y bs maxL rt) {v : Int32} {j : Int32} {n : Nat} {f : Nat → Value} (eT : T.heap = h) (F : OwnAr Z h a .byte n f) (h0 : 0 ≤ j.toInt) (h1 : j.toInt < n) (hd : decode bs pc = .ok (.bastore, 1)) (pc' : Nat) (hp : pc + 1 = pc') (w : Int32) (hw : v.toInt8.toInt32 = w)
    (hr : ∀ T' h', Stand p l e R s m args below meth c T' (locs ++ [⟨a, j.toInt.toNat⟩]) cells slots → T'.heap = h' → Wr h h' a j.toInt.toNat (.int w) → OwnEnds p e below G (T'.setTop (mkF m pc' Ls st))) : OwnEnds p e below G (T.setTop (mkF m pc Ls (.int v :: .int j :: .ref a :: st))) := by
  subst hp hw
  obtain ⟨cl, A, S, r⟩ := F
  obtain ⟨T', h', X', e', W, stp⟩ := stB X C.1 C.2.1 eT A (j := j) (x := v) (by rw [S]; exact own_in h0 h1) (g := mkF m pc Ls _) rfl rfl (hb C.2.2.2.1 hd)
  exact own_st stp (hr T' h' X' e' W)
theorem own_castore (X : Stand p l e R s m args below meth c T locs cells slots) (C : OwnCx p s m meth c Z y bs maxL rt) {v : Int32} {j : Int32} {n : Nat} {f : Nat → Value} (eT : T.heap = h) (F : OwnAr Z h a .char n f) (h0 : 0 ≤ j.toInt) (h1 : j.toInt < n) (hd : decode bs pc = .ok (.castore, 1)) (pc' : Nat) (hp : pc + 1 = pc') (w : Int32) (hw : nar .char v = w)
    (hr : ∀ T' h', Stand p l e R s m args below meth c T' (locs ++ [⟨a, j.toInt.toNat⟩]) cells slots → T'.heap = h' → Wr h h' a j.toInt.toNat (.int w) → OwnEnds p e below G (T'.setTop (mkF m pc' Ls st))) : OwnEnds p e below G (T.setTop (mkF m pc Ls (.int v :: .int j :: .ref a :: st))) := by
  subst hp hw
  obtain ⟨cl, A, S, r⟩ := F
  obtain ⟨T', h', X', e', W, stp⟩ := stC X C.1 C.2.1 eT A (j := j) (x := v) (by rw [S]; exact own_in h0 h1) (g := mkF m pc Ls _) rfl rfl (hb C.2.2.2.1 hd)
  exact own_st stp (hr T' h' X' e' W)
theorem own_bastoreZ (X : Stand p l e R s m args below meth c T locs cells slots) (C : OwnCx p s m meth c Z y bs maxL rt) {v : Int32} {j : Int32} {n : Nat} {f : Nat → Value} (eT : T.heap = h) (F : OwnAr Z h a .boolean n f) (h0 : 0 ≤ j.toInt) (h1 : j.toInt < n) (hd : decode bs pc = .ok (.bastore, 1)) (pc' : Nat) (hp : pc + 1 = pc') (w : Int32) (hw : nar .boolean v = w)
    (hr : ∀ T' h', Stand p l e R s m args below meth c T' (locs ++ [⟨a, j.toInt.toNat⟩]) cells slots → T'.heap = h' → Wr h h' a j.toInt.toNat (.int w) → OwnEnds p e below G (T'.setTop (mkF m pc' Ls st))) : OwnEnds p e below G (T.setTop (mkF m pc Ls (.int v :: .int j :: .ref a :: st))) := by
  subst hp hw
  obtain ⟨cl, A, S, r⟩ := F
  obtain ⟨T', h', X', e', W, stp⟩ := stZ X C.1 C.2.1 eT A (j := j) (x := v) (by rw [S]; exact own_in h0 h1) (g := mkF m pc Ls _) rfl rfl (hb C.2.2.2.1 hd)
  exact own_st stp (hr T' h' X' e' W)
theorem own_iaload (X : Stand p l e R s m args below meth c T locs cells slots) (C : OwnCx p s m meth c Z y bs maxL rt) {j : Int32} {n : Nat} {f : Nat → Value} (eT : T.heap = h) (F : OwnAr Z h a .int n f) (h0 : 0 ≤ j.toInt) (h1 : j.toInt < n) (hd : decode bs pc = .ok (.iaload, 1)) (pc' : Nat) (hp : pc + 1 = pc') (v : Value) (hv : f j.toInt.toNat = v)
    (hr : OwnEnds p e below G (T.setTop (mkF m pc' Ls (v :: st)))) : OwnEnds p e below G (T.setTop (mkF m pc Ls (.int j :: .ref a :: st))) := by
  subst hp hv
  obtain ⟨cl, A, S, r⟩ := F
  exact own_st (fun _ q => X.iaload C.1 (j := j) (v := f j.toInt.toNat) (by rw [eT]; exact A.1) (State.isArrayOf_alike C.2.1.alike A.2.1) A.2.2 (by rw [S]; exact own_in h0 h1) (show cl.slots[j.toNatClampNeg]? = _ from r j.toInt.toNat (by omega)) (g := mkF m pc Ls _) rfl rfl (hb C.2.2.2.1 hd) _ q) hr
theorem own_laload (X : Stand p l e R s m args below meth c T locs cells slots) (C : OwnCx p s m meth c Z y bs maxL rt) {j : Int32} {n : Nat} {f : Nat → Value} (eT : T.heap = h) (F : OwnAr Z h a .long n f) (h0 : 0 ≤ j.toInt) (h1 : j.toInt < n) (hd : decode bs pc = .ok (.laload, 1)) (pc' : Nat) (hp : pc + 1 = pc') (v : Value) (hv : f j.toInt.toNat = v)
    (hr : OwnEnds p e below G (T.setTop (mkF m pc' Ls (v :: st)))) : OwnEnds p e below G (T.setTop (mkF m pc Ls (.int j :: .ref a :: st))) := by
  subst hp hv
  obtain ⟨cl, A, S, r⟩ := F
  exact own_st (fun _ q => X.laload C.1 (j := j) (v := f j.toInt.toNat) (by rw [eT]; exact A.1) (State.isArrayOf_alike C.2.1.alike A.2.1) A.2.2 (by rw [S]; exact own_in h0 h1) (show cl.slots[j.toNatClampNeg]? = _ from r j.toInt.toNat (by omega)) (g := mkF m pc Ls _) rfl rfl (hb C.2.2.2.1 hd) _ q) hr
theorem own_caload (X : Stand p l e R s m args below meth c T locs cells slots) (C : OwnCx p s m meth c Z y bs maxL rt) {j : Int32} {n : Nat} {f : Nat → Value} (eT : T.heap = h) (F : OwnAr Z h a .char n f) (h0 : 0 ≤ j.toInt) (h1 : j.toInt < n) (hd : decode bs pc = .ok (.caload, 1)) (pc' : Nat) (hp : pc + 1 = pc') (v : Value) (hv : f j.toInt.toNat = v)
    (hr : OwnEnds p e below G (T.setTop (mkF m pc' Ls (v :: st)))) : OwnEnds p e below G (T.setTop (mkF m pc Ls (.int j :: .ref a :: st))) := by
  subst hp hv
  obtain ⟨cl, A, S, r⟩ := F
  exact own_st (fun _ q => X.caload C.1 (j := j) (v := f j.toInt.toNat) (by rw [eT]; exact A.1) (State.isArrayOf_alike C.2.1.alike A.2.1) A.2.2 (by rw [S]; exact own_in h0 h1) (show cl.slots[j.toNatClampNeg]? = _ from r j.toInt.toNat (by omega)) (g := mkF m pc Ls _) rfl rfl (hb C.2.2.2.1 hd) _ q) hr
theorem own_baloadB (X : Stand p l e R s m args below meth c T locs cells slots) (C : OwnCx p s m meth c Z y bs maxL rt) {j : Int32} {n : Nat} {f : Nat → Value} (eT : T.heap = h) (F : OwnAr Z h a .byte n f) (h0 : 0 ≤ j.toInt) (h1 : j.toInt < n) (hd : decode bs pc = .ok (.baload, 1)) (pc' : Nat) (hp : pc + 1 = pc') (v : Value) (hv : f j.toInt.toNat = v)
    (hr : OwnEnds p e below G (T.setTop (mkF m pc' Ls (v :: st)))) : OwnEnds p e below G (T.setTop (mkF m pc Ls (.int j :: .ref a :: st))) := by
  subst hp hv
  obtain ⟨cl, A, S, r⟩ := F
  exact own_st (fun _ q => X.baloadBytes C.1 (j := j) (v := f j.toInt.toNat) (by rw [eT]; exact A.1) (State.isArrayOf_alike C.2.1.alike A.2.1) A.2.2 (by rw [S]; exact own_in h0 h1) (show cl.slots[j.toNatClampNeg]? = _ from r j.toInt.toNat (by omega)) (g := mkF m pc Ls _) rfl rfl (hb C.2.2.2.1 hd) _ q) hr
theorem own_baloadZ (X : Stand p l e R s m args below meth c T locs cells slots) (C : OwnCx p s m meth c Z y bs maxL rt) {j : Int32} {n : Nat} {f : Nat → Value} (eT : T.heap = h) (F : OwnAr Z h a .boolean n f) (h0 : 0 ≤ j.toInt) (h1 : j.toInt < n) (hd : decode bs pc = .ok (.baload, 1)) (pc' : Nat) (hp : pc + 1 = pc') (v : Value) (hv : f j.toInt.toNat = v)
    (hr : OwnEnds p e below G (T.setTop (mkF m pc' Ls (v :: st)))) : OwnEnds p e below G (T.setTop (mkF m pc Ls (.int j :: .ref a :: st))) := by
  subst hp hv
  obtain ⟨cl, A, S, r⟩ := F
  exact own_st (fun _ q => X.baloadBooleans C.1 (j := j) (v := f j.toInt.toNat) (by rw [eT]; exact A.1) (State.isArrayOf_alike C.2.1.alike A.2.1) A.2.2 (by rw [S]; exact own_in h0 h1) (show cl.slots[j.toNatClampNeg]? = _ from r j.toInt.toNat (by omega)) (g := mkF m pc Ls _) rfl rfl (hb C.2.2.2.1 hd) _ q) hr
theorem own_arraylength (X : Stand p l e R s m args below meth c T locs cells slots) (C : OwnCx p s m meth c Z y bs maxL rt) {ty : FieldType} {n : Nat} {f : Nat → Value} (eT : T.heap = h) (F : OwnAr Z h a ty n f) (hd : decode bs pc = .ok (.arraylength, 1)) (pc' : Nat) (hp : pc + 1 = pc') (hn : n < 2147483648)
    (hr : ∀ z : Int32, z.toInt = n → z = n.toInt32 → OwnEnds p e below G (T.setTop (mkF m pc' Ls (.int z :: st)))) : OwnEnds p e below G (T.setTop (mkF m pc Ls (.ref a :: st))) := by
  subst hp
  obtain ⟨cl, A, S, r⟩ := F
  have k := hr n.toInt32 (own_len hn) rfl
  rw [← S] at k
  exact own_st (fun _ q => X.arraylength C.1 (by rw [eT]; exact A.1) (State.isArrayOf_alike C.2.1.alike A.2.1) (g := mkF m pc Ls _) rfl rfl (hb C.2.2.2.1 hd) _ q) k
theorem own_newarray (X : Stand p l e R s m args below meth c T locs cells slots) (C : OwnCx p s m meth c Z y bs maxL rt) {aty : ArrayType} {n : Int32} (w : (Jvm.Cond.arrayClass (newarray.typeOf aty)).before a0 Z = true) (eT : T.heap = h) (hd : decode bs pc = .ok (.newarray aty, 2)) (pc' : Nat) (hp : pc + 2 = pc') (h0 : 0 ≤ n.toInt) (cap : Nat) (hcap : n.toInt ≤ cap) (hbig : cap * 8 ≤ 536870912) (hc : cells + 1 ≤ R.cells) (hl : slots + cap ≤ R.slots)
    (hr : ∀ T' h' b, b = h.size → Stand p l e R s m args below meth c T' locs (cells + 1) (slots + cap) → T'.heap = h' → Ext h h' → OwnAr Z h' b (newarray.typeOf aty) n.toInt.toNat (fun _ => defaultValue (newarray.typeOf aty)) → OwnEnds p e below G (T'.setTop (mkF m pc' Ls (.ref b :: st)))) : OwnEnds p e below G (T.setTop (mkF m pc Ls (.int n :: st))) := by
  subst hp
  have hn0 : ¬ n < 0 := fun q => by rw [Int32.lt_iff_toInt_lt] at q; have : (0 : Int32).toInt = 0 := rfl; omega
  obtain ⟨T', h', cA, X', e', E', A, stp⟩ := newP X C.1 C.2.1 w eT (g := mkF m pc Ls (.int n :: st)) rfl (hb C.2.2.2.1 hd) rfl hn0 (cap := cap) (by show n.toInt.toNat ≤ cap; omega) hbig hc hl
  exact own_st stp (hr T' h' _ rfl X' e' E' (OwnAr.new A))
theorem own_new (X : Stand p l e R s m args below meth c T locs cells slots) (C : OwnCx p s m meth c Z y bs maxL rt) {idx n : Nat} {K : String} (w : (Jvm.Cond.classLink y.cls idx K).before a0 Z = true) (wi : (Jvm.Cond.instantiable K n).before a0 Z = true) (wz : (Jvm.Cond.initialized K).before a0 Z = true) (eT : T.heap = h) (hd : decode bs pc = .ok (.new idx, 3)) (pc' : Nat) (hp : pc + 3 = pc') (hc : cells + 1 ≤ R.cells) (hl : slots + n ≤ R.slots)
    (hr : ∀ T' h' b, b = h.size → Stand p l e R s m args below meth c T' locs (cells + 1) (slots + n) → T'.heap = h' → Ext h h' → Exa Z h' b K → (∀ {O nm d : String} {ty : FieldType}, Laid Z a0 K O nm d → parseFieldDescriptor d = some ty → Fld Z h' b O nm d (defaultValue ty)) → OwnEnds p e below G (T'.setTop (mkF m pc' Ls (.ref b :: st)))) : OwnEnds p e below G (T.setTop (mkF m pc Ls st)) := by
  subst hp
  obtain ⟨T', h', X', e', E', A, D, -, stp⟩ := newO X C.1 C.2.1 C.2.2.1 w wi wz eT (g := mkF m pc Ls st) rfl (hb C.2.2.2.1 hd) hc hl
  exact own_st stp (hr T' h' _ rfl X' e' E' A D)
theorem own_getfield (X : Stand p l e R s m args below meth c T locs cells slots) (C : OwnCx p s m meth c Z y bs maxL rt) {idx : Nat} {R0 O n d host : String} {v : Value} (w : (Jvm.Cond.fieldLink y.cls idx R0 n d).before a0 Z = true ∨ (Jvm.Cond.fieldLinkNest y.cls idx R0 n d host).before a0 Z = true) (via : Via Z R0 O n d) (eT : T.heap = h) (F : Fld Z h a O n d v) (hd : decode bs pc = .ok (.getfield idx, 3)) (pc' : Nat) (hp : pc + 3 = pc')
    (hr : ∀ T', Stand p l e R s m args below meth c T' locs cells slots → T'.heap = h → OwnEnds p e below G (T'.setTop (mkF m pc' Ls (v :: st)))) : OwnEnds p e below G (T.setTop (mkF m pc Ls (.ref a :: st))) := by
  subst hp
  obtain ⟨T', X', e', stp⟩ := getF X C.1 C.2.1 C.2.2.1 w via eT F (g := mkF m pc Ls _) rfl rfl (hb C.2.2.2.1 hd)
  exact own_st stp (hr T' X' e')
theorem own_getstatic (X : Stand p l e R s m args below meth c T locs cells slots) (C : OwnCx p s m meth c Z y bs maxL rt) {idx : Nat} {R0 O n d host : String} {v : Value} (w : (Jvm.Cond.fieldLink y.cls idx R0 n d).before a0 Z = true ∨ (Jvm.Cond.fieldLinkNest y.cls idx R0 n d host).before a0 Z = true) (via : Via Z R0 O n d) (eT : T.heap = h) (F : Sta Z h O n d v) (hd : decode bs pc = .ok (.getstatic idx, 3)) (pc' : Nat) (hp : pc + 3 = pc')
    (hr : ∀ T', Stand p l e R s m args below meth c T' locs cells slots → T'.heap = h → OwnEnds p e below G (T'.setTop (mkF m pc' Ls (v :: st)))) : OwnEnds p e below G (T.setTop (mkF m pc Ls st)) := by
  subst hp
  obtain ⟨T', X', e', stp⟩ := getS2 X C.1 C.2.1 C.2.2.1 w via eT F (g := mkF m pc Ls st) rfl (hb C.2.2.2.1 hd)
  exact own_st stp (hr T' X' e')
theorem own_putfield (X : Stand p l e R s m args below meth c T locs cells slots) (C : OwnCx p s m meth c Z y bs maxL rt) {idx kk : Nat} {R0 O n d host K : String} {ty : FieldType} {v old : Value} (w : (Jvm.Cond.fieldLink y.cls idx R0 n d).before a0 Z = true ∨ (Jvm.Cond.fieldLinkNest y.cls idx R0 n d host).before a0 Z = true) (via : Via Z R0 O n d) (eT : T.heap = h) (F : Fld Z h a O n d old) (E : Exa Z h a K) (L : (Jvm.Cond.lays K O n d).before a0 Z = true ∨ ((Jvm.Cond.laysFinal K O n d).before a0 Z = true ∧ y.cls = O ∧ y.name = "<init>")) (wi : (Jvm.Cond.instantiable K kk).before a0 Z = true)
    (hty : parseFieldDescriptor d = some ty) (hn : narrow ty v = v) (hf : fits ty v = true) (hd : decode bs pc = .ok (.putfield idx, 3)) (pc' : Nat) (hp : pc + 3 = pc')
    (hr : ∀ T' h', Stand p l e R s m args below meth c T' (locs ++ [⟨a, Jvm.RoadKit.slotOf Z O n d⟩]) cells slots → T'.heap = h' → Wr h h' a (Jvm.RoadKit.slotOf Z O n d) v → OwnEnds p e below G (T'.setTop (mkF m pc' Ls st))) : OwnEnds p e below G (T.setTop (mkF m pc Ls (v :: .ref a :: st))) := by
  subst hp
  obtain ⟨T', h', X', e', W, stp⟩ := putF X C.1 C.2.1 C.2.2.1 w via eT F E (L.imp id fun q => ⟨q.1, q.2.1, C.2.2.2.2.2.2.2.trans q.2.2⟩) wi hty hn hf (g := mkF m pc Ls _) rfl rfl (hb C.2.2.2.1 hd)
  exact own_st stp (hr T' h' X' e' W)
theorem own_putfieldN (X : Stand p l e R s m args below meth c T locs cells slots) (C : OwnCx p s m meth c Z y bs maxL rt) {idx kk : Nat} {R0 O n d K : String} {ty : FieldType} {v v' old : Value} (w : (Jvm.Cond.fieldLink y.cls idx R0 n d).before a0 Z = true) (via : Via Z R0 O n d) (eT : T.heap = h) (F : Fld Z h a O n d old) (E : Exa Z h a K) (L : (Jvm.Cond.lays K O n d).before a0 Z = true ∨ ((Jvm.Cond.laysFinal K O n d).before a0 Z = true ∧ y.cls = O ∧ y.name = "<init>")) (wi : (Jvm.Cond.instantiable K kk).before a0 Z = true)
    (hty : parseFieldDescriptor d = some ty) (hn : narrow ty v = v') (hf : fits ty v' = true) (hd : decode bs pc = .ok (.putfield idx, 3)) (pc' : Nat) (hp : pc + 3 = pc')
    (hr : ∀ T' h', Stand p l e R s m args below meth c T' (locs ++ [⟨a, Jvm.RoadKit.slotOf Z O n d⟩]) cells slots → T'.heap = h' → Wr h h' a (Jvm.RoadKit.slotOf Z O n d) v' → OwnEnds p e below G (T'.setTop (mkF m pc' Ls st))) : OwnEnds p e below G (T.setTop (mkF m pc Ls (v :: .ref a :: st))) := by
  subst hp
  obtain ⟨T', h', X', e', W, stp⟩ := putFN X C.1 C.2.1 C.2.2.1 w via eT F E (L.imp id fun q => ⟨q.1, q.2.1, C.2.2.2.2.2.2.2.trans q.2.2⟩) wi hty hn hf (g := mkF m pc Ls _) rfl rfl (hb C.2.2.2.1 hd)
  exact own_st stp (hr T' h' X' e' W)
theorem own_callI (X : Stand p l e R s m args below meth c T locs cells slots) (C : OwnCx p s m meth c Z y bs maxL rt) {idx : Nat} {y' : MethodName} {bs' : ByteArray} {maxL' : Nat} {rt' : Option FieldType} {rm : Room} {as' : Array Value} {Q' : Option Value → Heap → List Loc → Prop} (hrt' : rt' = none)
    (w1 : (Jvm.Cond.methodLink y.cls idx y').before a0 Z = true) (w2 : (Jvm.Cond.instanceMethod y').before a0 Z = true) (w3 : (Jvm.Cond.initialized y'.cls).before a0 Z = true) (w4 : (Jvm.Cond.code y' bs' maxL' rt').before a0 Z = true) (hy1 : y'.name = "<init>") (hy : y'.cls ≠ "java/lang/invoke/MethodHandle" ∧ y'.cls ≠ "java/lang/invoke/VarHandle")
    (hM : OwnMet l Z y' bs' maxL' rt' [] rm as' h Q') (eT : T.heap = h) {ps : List FieldType} {r : Option FieldType} (hpd : parseMethodDescriptor y'.desc = some ⟨ps, r⟩) (argsL : List Value) (has : (Value.ref a :: argsL).toArray = as') (hlen : argsL.length = ps.length) (hst : st = argsL.reverse ++ .ref a :: rest) (hsz : Ls.size = maxL)
    (W : Nat) (hW : (rest.map fun v => v.category).sum = W) (hf : rm.frames + 1 ≤ R.frames) (hlo : W + (maxL' + 11) + rm.locals ≤ R.locals) (hce : cells + rm.cells ≤ R.cells) (hsl : slots + rm.slots ≤ R.slots) (hd : decode bs pc = .ok (.invokespecial idx, 3)) (pc' : Nat) (hp : pc + 3 = pc')
    (hr : ∀ T' L v, Stand p l e R s m args below meth c T' (locs ++ L) (cells + rm.cells) (slots + rm.slots) → Q' v T'.heap L → OwnEnds p e below G (T'.setTop (mkF m pc' Ls (v.toList ++ rest)))) : OwnEnds p e below G (T.setTop (mkF m pc Ls st)) := by
  subst hp has hW hrt'
  obtain ⟨v, _, ⟨T', L, k, n⟩, -, X', ⟨L', hQ, l1, l2, l3⟩, stp⟩ := X.specialBack C.1 hy1 C.2.2.1 (mvT C.2.1 w1) (mvT C.2.1 w2) (mvT C.2.1 w4) hy (backOf (len := 3) (W := (rest.map fun v => v.category).sum) hM C.2.1 w4 w3 hf hlo) (g := mkF m pc Ls st) rfl (by rw [C.2.2.2.2.1]; exact hsz) (Steps.refl _) (a := a) (argsL := argsL) (rest := rest) (lenOf hpd hlen) hst (by show 2 * 0 + _ ≤ _; omega) (hb C.2.2.2.1 hd) (fun _ _ => ⟨rfl, eT, hce, hsl⟩)
  dsimp only [Pt.U, Pt.locs, Pt.cells, Pt.slots] at X' l1 l2 l3 stp hQ
  subst l1 l2 l3
  exact own_tr stp (hr T' L' v X' hQ)
theorem own_callV (X : Stand p l e R s m args below meth c T locs cells slots) (C : OwnCx p s m meth c Z y bs maxL rt) {idx : Nat} {K : String} {y' : MethodName} {bs' : ByteArray} {maxL' : Nat} {rt' : Option FieldType} {rm : Room} {as' : Array Value} {Q' : Option Value → Heap → List Loc → Prop}
    (w1 : (Jvm.Cond.methodLink y.cls idx y').before a0 Z = true) (wd : (Jvm.Cond.declares y').before a0 Z = true) (ws : (Jvm.Cond.selects K y' y').before a0 Z = true) (w2 : (Jvm.Cond.instanceMethod y').before a0 Z = true) (w3 : (Jvm.Cond.initialized y'.cls).before a0 Z = true) (w4 : (Jvm.Cond.code y' bs' maxL' rt').before a0 Z = true) (hy : y'.cls ≠ "java/lang/invoke/MethodHandle" ∧ y'.cls ≠ "java/lang/invoke/VarHandle") (E : Exa Z h a K)
    (hM : OwnMet l Z y' bs' maxL' rt' [] rm as' h Q') (eT : T.heap = h) {ps : List FieldType} {r : Option FieldType} (hpd : parseMethodDescriptor y'.desc = some ⟨ps, r⟩) (argsL : List Value) (has : (Value.ref a :: argsL).toArray = as') (hlen : argsL.length = ps.length) (hst : st = argsL.reverse ++ .ref a :: rest) (hsz : Ls.size = maxL)
    (W : Nat) (hW : (rest.map fun v => v.category).sum = W) (hf : rm.frames + 1 ≤ R.frames) (hlo : W + (maxL' + 11) + rm.locals ≤ R.locals) (hce : cells + rm.cells ≤ R.cells) (hsl : slots + rm.slots ≤ R.slots) (hd : decode bs pc = .ok (.invokevirtual idx, 3)) (pc' : Nat) (hp : pc + 3 = pc')
    (hr : ∀ T' L v, Stand p l e R s m args below meth c T' (locs ++ L) (cells + rm.cells) (slots + rm.slots) → Q' v T'.heap L → OwnEnds p e below G (T'.setTop (mkF m pc' Ls (v.toList ++ rest)))) : OwnEnds p e below G (T.setTop (mkF m pc Ls st)) := by
  subst hp has hW
  obtain ⟨cq, kq, qa, qb, qc⟩ := isOf C.2.1 eT E
  obtain ⟨v, _, ⟨T', L, k, n⟩, -, X', ⟨L', hQ, l1, l2, l3⟩, stp⟩ := X.virtualBack C.1 (y := y') (z := y') C.2.2.1 (mvT C.2.1 w1) (mvT C.2.1 wd) (notFace_of_selects (args := #[]) (mvT C.2.1 ws)) (mvT C.2.1 ws) (mvT C.2.1 w2) hy (backOf (len := 3) (W := (rest.map fun v => v.category).sum) hM C.2.1 w4 w3 hf hlo) qa qc (g := mkF m pc Ls st) rfl (by rw [C.2.2.2.2.1]; exact hsz) (Steps.refl _) (argsL := argsL) (rest := rest) (lenOf hpd hlen) hst (by show 2 * 0 + _ ≤ _; omega) (hb C.2.2.2.1 hd) (fun _ _ => ⟨rfl, eT, hce, hsl⟩)
  dsimp only [Pt.U, Pt.locs, Pt.cells, Pt.slots] at X' l1 l2 l3 stp hQ
  subst l1 l2 l3
  exact own_tr stp (hr T' L' v X' hQ)
theorem own_instY (X : Stand p l e R s m args below meth c T locs cells slots) (C : OwnCx p s m meth c Z y bs maxL rt) {idx : Nat} {K : String} (w : (Jvm.Cond.classLink y.cls idx K).before a0 Z = true) (eT : T.heap = h) (F : Ins Z h a K true) (hd : decode bs pc = .ok (.instanceof idx, 3)) (pc' : Nat) (hp : pc + 3 = pc')
    (hr : ∀ T', Stand p l e R s m args below meth c T' locs cells slots → T'.heap = h → OwnEnds p e below G (T'.setTop (mkF m pc' Ls (.int 1 :: st)))) : OwnEnds p e below G (T.setTop (mkF m pc Ls (.ref a :: st))) := by
  subst hp
  obtain ⟨T', X', e', stp⟩ := instY X C.1 C.2.1 C.2.2.1 w eT F (g := mkF m pc Ls _) rfl rfl (hb C.2.2.2.1 hd)
  exact own_st stp (hr T' X' e')
theorem own_castY (X : Stand p l e R s m args below meth c T locs cells slots) (C : OwnCx p s m meth c Z y bs maxL rt) {idx : Nat} {K : String} (w : (Jvm.Cond.classLink y.cls idx K).before a0 Z = true) (eT : T.heap = h) (F : Ins Z h a K true) (hd : decode bs pc = .ok (.checkcast idx, 3)) (pc' : Nat) (hp : pc + 3 = pc')
    (hr : ∀ T', Stand p l e R s m args below meth c T' locs cells slots → T'.heap = h → OwnEnds p e below G (T'.setTop (mkF m pc' Ls (.ref a :: st)))) : OwnEnds p e below G (T.setTop (mkF m pc Ls (.ref a :: st))) := by
  subst hp
  obtain ⟨T', X', e', stp⟩ := castY X C.1 C.2.1 C.2.2.1 w eT F (g := mkF m pc Ls (.ref a :: st)) rfl (rest := st) rfl (hb C.2.2.2.1 hd)
  exact own_st stp (hr T' X' e')
end OwnHeap
theorem own_w {Z : State} {a0 : Array Value} (hw : ∀ d ∈ tables_1, d.before a0 Z = true) (k : Nat) {d : Jvm.Cond} (q : tables_1[k]? = some d) : d.before a0 Z = true := hw _ (List.mem_of_getElem? q)
theorem own_eqI {args : Array Value} {s : State} {t : Term} {k : Int32} (q : (Jvm.Cond.eq t (.int k)).value args s none s [] = some true) : t.eval args s none [] s = some (.int k) := by
  simp only [Cond.value, Term.int_eval] at q
  cases e : t.eval args s none [] s with
  | none => simp [e] at q
  | some v => cases v <;> simp [e] at q ⊢; exact q
theorem own_lenI {args : Array Value} {s : State} {t : Term} {a : Addr} {cl : Cell} {ty : FieldType} {k : Int32} (ev : t.eval args s none [] s = some (.ref a)) (A : Arr s s.heap a cl ty) (q : (Jvm.Cond.eq (.length t) (.int k)).value args s none s [] = some true) : (cl.slots.size : Int) = k.toInt := by
  have q1 := own_eqI q
  have q2 := A.fin (Vm.Alike.refl _)
  simp only [Term.eval, ev] at q1
  simp [q2] at q1
  obtain ⟨q3, q4⟩ := q1
  rw [← q4, len_toInt (by omega)]
theorem own_elI {args : Array Value} {s : State} {t : Term} {a : Addr} {cl : Cell} {ty : FieldType} {k j : Int32} (ev : t.eval args s none [] s = some (.ref a)) (A : Arr s s.heap a cl ty) (q : (Jvm.Cond.eq (.elem t (.int j)) (.int k)).value args s none s [] = some true) : cl.slots[j.toNatClampNeg]? = some (.int k) :=
  (elem_in (own_eqI q) ev (Term.int_eval j) A.1).2
def own_step (i : Nat) : Int32 := Int32.ofInt (65536 / ((i : Int) + 2))
theorem own_steps : ∀ i : Fin 31, (own_step i).toInt = 65536 / (((i : Nat) : Int) + 2) ∧ 2048 ≤ (own_step i).toInt ∧ (own_step i).toInt ≤ 32768 := by decide +kernel
theorem own_stepI (i : Nat) (h : i < 31) : (own_step i).toInt = 65536 / ((i : Int) + 2) ∧ 2048 ≤ (own_step i).toInt ∧ (own_step i).toInt ≤ 32768 := own_steps ⟨i, h⟩
def own_N (t cc nn : Int) : Int := cc + (t - cc) * (65536 / (nn + 2)) / 65536
def own_C (nn : Int) : Int := if nn = 30 then 30 else nn + 1
def own_min (i j : Int32) : Int32 := if j.toInt < i.toInt then j else i
theorem own_pf_min_II_I : plainFor (⟨"java/lang/Math", "min", "(II)I"⟩ : MethodName) = true := by decide +kernel
theorem own_pd_II_R_I : parseMethodDescriptor "(II)I" = some ⟨[.int, .int], some .int⟩ := by decide +kernel
theorem own_d_jdk_29_method_69_code_0 : decode jdk_29_method_69_code 0 = .ok (.iload_n 0, 1) := by decide +kernel
theorem own_d_jdk_29_method_69_code_1 : decode jdk_29_method_69_code 1 = .ok (.iload_n 1, 1) := by decide +kernel
theorem own_d_jdk_29_method_69_code_2 : decode jdk_29_method_69_code 2 = .ok (.if_icmp .gt 7, 3) := by decide +kernel
theorem own_d_jdk_29_method_69_code_5 : decode jdk_29_method_69_code 5 = .ok (.iload_n 0, 1) := by decide +kernel
theorem own_d_jdk_29_method_69_code_6 : decode jdk_29_method_69_code 6 = .ok (.goto 4, 3) := by decide +kernel
theorem own_d_jdk_29_method_69_code_9 : decode jdk_29_method_69_code 9 = .ok (.iload_n 1, 1) := by decide +kernel
theorem own_d_jdk_29_method_69_code_10 : decode jdk_29_method_69_code 10 = .ok (.ireturn, 1) := by decide +kernel
set_option maxRecDepth 65536 in
set_option maxHeartbeats 4000000 in
theorem own_ef_own_rm_min (m : MethodId) (ia0 : Int32) (ia1 : Int32) : entryFrame m #[(.int ia0), (.int ia1)] 2 = (mkF m 0 #[.val (.int ia0), .val (.int ia1)] []) := by first | (simp [entryFrame, mkF, argsToLocals, Value.category]; done) | rfl
set_option maxRecDepth 65536 in
set_option maxHeartbeats 4000000 in
theorem own_rm_min (l : Launch) (Z : State) (a0 : Array Value) (hw : ∀ d ∈ tables_1, d.before a0 Z = true) (ia0 : Int32) (ia1 : Int32) (h : Heap)  :
    OwnMet l Z (⟨"java/lang/Math", "min", "(II)I"⟩ : MethodName) jdk_29_method_69_code 2 (some .int) [] ({ frames := 0, cells := 0, slots := 0, locals := 0 } : Room) #[(.int ia0), (.int ia1)] h (OwnPure (.int (own_min ia0 ia1)) h) := by
  refine own_enter (f0 := fun m => mkF m 0 #[.val (.int ia0), .val (.int ia1)] []) own_pf_min_II_I (fun m => own_ef_own_rm_min m ia0 ia1) ?_
  intro p e s m below meth c T0 X0 C e0
  refine own_iload_n X0 C own_d_jdk_29_method_69_code_0 1 rfl rfl ?_
  refine own_iload_n X0 C own_d_jdk_29_method_69_code_1 2 rfl rfl ?_
  refine own_icmpgt X0 C own_d_jdk_29_method_69_code_2 5 9 rfl (by decide) (by decide) (i := ia0.toInt) rfl (j := ia1.toInt) rfl (fun b1 => ?_) (fun b1 => ?_)
  · refine own_iload_n X0 C own_d_jdk_29_method_69_code_9 10 rfl rfl ?_
    refine own_ireturn X0 C rfl own_d_jdk_29_method_69_code_10 (by decide) (by decide) ?_
    exact ⟨by rw [own_min, if_pos (by omega)], e0, rfl⟩
  · refine own_iload_n X0 C own_d_jdk_29_method_69_code_5 6 rfl rfl ?_
    refine own_goto X0 C own_d_jdk_29_method_69_code_6 10 (by decide) (by decide) ?_
    refine own_ireturn X0 C rfl own_d_jdk_29_method_69_code_10 (by decide) (by decide) ?_
    exact ⟨by rw [own_min, if_neg (by omega)], e0, rfl⟩
theorem own_pn_RangeCoderLearnPinLaw : plainName "com/example/frugal_frame/frugalframe/RangeCoderLearnPinLaw" = true := by first | (simp [plainName, overriddenIn]; done) | decide +kernel
theorem own_pd_J_R_J : parseMethodDescriptor "(J)J" = some ⟨[.long], some .long⟩ := by decide +kernel
theorem own_d_method_2_code_0 : decode method_2_code 0 = .ok (.lload_n 0, 1) := by decide +kernel
theorem own_d_method_2_code_1 : decode method_2_code 1 = .ok (.ldc2_w 7, 3) := by decide +kernel
theorem own_d_method_2_code_4 : decode method_2_code 4 = .ok (.ldiv, 1) := by decide +kernel
theorem own_d_method_2_code_5 : decode method_2_code 5 = .ok (.lstore_n 2, 1) := by decide +kernel
theorem own_d_method_2_code_6 : decode method_2_code 6 = .ok (.lload_n 2, 1) := by decide +kernel
theorem own_d_method_2_code_7 : decode method_2_code 7 = .ok (.ldc2_w 7, 3) := by decide +kernel
theorem own_d_method_2_code_10 : decode method_2_code 10 = .ok (.lmul, 1) := by decide +kernel
theorem own_d_method_2_code_11 : decode method_2_code 11 = .ok (.lload_n 0, 1) := by decide +kernel
theorem own_d_method_2_code_12 : decode method_2_code 12 = .ok (.lcmp, 1) := by decide +kernel
theorem own_d_method_2_code_13 : decode method_2_code 13 = .ok (.ifCond .le 7, 3) := by decide +kernel
theorem own_d_method_2_code_16 : decode method_2_code 16 = .ok (.lload_n 2, 1) := by decide +kernel
theorem own_d_method_2_code_17 : decode method_2_code 17 = .ok (.lconst 1, 1) := by decide +kernel
theorem own_d_method_2_code_18 : decode method_2_code 18 = .ok (.lsub, 1) := by decide +kernel
theorem own_d_method_2_code_19 : decode method_2_code 19 = .ok (.lstore_n 2, 1) := by decide +kernel
theorem own_d_method_2_code_20 : decode method_2_code 20 = .ok (.lload_n 2, 1) := by decide +kernel
theorem own_d_method_2_code_21 : decode method_2_code 21 = .ok (.lreturn, 1) := by decide +kernel
set_option maxRecDepth 65536 in
set_option maxHeartbeats 4000000 in
theorem own_ef_own_rm_floorDiv65536 (m : MethodId) (ja0 : Int64) : entryFrame m #[(.long ja0)] 4 = (mkF m 0 #[.val (.long ja0), .second, .unset, .unset] []) := by first | (simp [entryFrame, mkF, argsToLocals, Value.category]; done) | rfl
set_option maxRecDepth 65536 in
set_option maxHeartbeats 4000000 in
theorem own_rm_floorDiv65536 (l : Launch) (Z : State) (a0 : Array Value) (hw : ∀ d ∈ tables_1, d.before a0 Z = true) (ja0 : Int64) (h : Heap)  :
    OwnMet l Z (⟨"com/example/frugal_frame/frugalframe/RangeCoderLearnPinLaw", "floorDiv65536", "(J)J"⟩ : MethodName) method_2_code 4 (some .long) [] ({ frames := 0, cells := 0, slots := 0, locals := 0 } : Room) #[(.long ja0)] h (OwnSome (fun v => ∃ z : Int64, v = .long z ∧ z.toInt = ja0.toInt / 65536) h) := by
  refine own_enter (f0 := fun m => mkF m 0 #[.val (.long ja0), .second, .unset, .unset] []) (plainFor_of_name own_pn_RangeCoderLearnPinLaw) (fun m => own_ef_own_rm_floorDiv65536 m ja0) ?_
  intro p e s m below meth c T0 X0 C e0
  refine own_lload_n X0 C own_d_method_2_code_0 1 rfl rfl ?_
  refine own_ldc2 X0 C (own_w hw 10 rfl) own_d_method_2_code_1 4 rfl ?_
  refine own_ldiv X0 C own_d_method_2_code_4 5 rfl (by decide) (fun v1 ev1 => ?_)
  have q1 := c_ldiv ja0 65536 65536 (by decide) (by decide)
  rw [← ev1] at q1
  have q2 := rng64 ja0
  have q3 := rng64 v1
  refine own_lstore_n X0 C own_d_method_2_code_5 6 rfl #[.val (.long ja0), .second, .val (.long v1), .second] rfl ?_
  refine own_lload_n X0 C own_d_method_2_code_6 7 rfl rfl ?_
  refine own_ldc2 X0 C (own_w hw 10 rfl) own_d_method_2_code_7 10 rfl ?_
  refine own_lmul X0 C own_d_method_2_code_10 11 rfl (fun v2 ev2 => ?_)
  have q4 := c_lmul v1 65536
  rw [← ev2] at q4
  have q5 : (65536 : Int64).toInt = 65536 := by decide
  have q6 := rng64 v2
  rw [q5] at q4
  refine own_lload_n X0 C own_d_method_2_code_11 12 rfl rfl ?_
  refine own_lcmp X0 C own_d_method_2_code_12 13 rfl (fun v3 ev3a ev3b ev3c => ?_)
  refine own_ifle X0 C own_d_method_2_code_13 16 20 rfl (by decide) (by decide) (i := v3.toInt) rfl (fun b1 => ?_) (fun b1 => ?_)
  · refine own_lload_n X0 C own_d_method_2_code_20 21 rfl rfl ?_
    refine own_lreturn X0 C rfl own_d_method_2_code_21 (by decide) (by decide) ?_
    exact ⟨⟨_, rfl, _, rfl, by omega⟩, e0, rfl⟩
  · refine own_lload_n X0 C own_d_method_2_code_16 17 rfl rfl ?_
    refine own_lconst X0 C own_d_method_2_code_17 18 rfl (1) rfl ?_
    refine own_lsub X0 C own_d_method_2_code_18 19 rfl (fun v4 ev4 => ?_)
    refine own_lstore_n X0 C own_d_method_2_code_19 20 rfl #[.val (.long ja0), .second, .val (.long v4), .second] rfl ?_
    refine own_lload_n X0 C own_d_method_2_code_20 21 rfl rfl ?_
    refine own_lreturn X0 C rfl own_d_method_2_code_21 (by decide) (by decide) ?_
    have q7 := c_lsub v1 1
    rw [← ev4] at q7
    have q8 : (1 : Int64).toInt = 1 := by decide
    have q9 := rng64 v4
    exact ⟨⟨_, rfl, _, rfl, by omega⟩, e0, rfl⟩
theorem own_pn_RangeCoder : plainName "com/example/frugal_frame/frugalframe/RangeCoder" = true := by first | (simp [plainName, overriddenIn]; done) | decide +kernel
theorem own_d_prog_38_method_7_code_0 : decode prog_38_method_7_code 0 = .ok (.iload_n 0, 1) := by decide +kernel
theorem own_d_prog_38_method_7_code_1 : decode prog_38_method_7_code 1 = .ok (.iconst 5, 1) := by decide +kernel
theorem own_d_prog_38_method_7_code_2 : decode prog_38_method_7_code 2 = .ok (.iushr, 1) := by decide +kernel
theorem own_d_prog_38_method_7_code_3 : decode prog_38_method_7_code 3 = .ok (.istore_n 2, 1) := by decide +kernel
theorem own_d_prog_38_method_7_code_4 : decode prog_38_method_7_code 4 = .ok (.iload_n 0, 1) := by decide +kernel
theorem own_d_prog_38_method_7_code_5 : decode prog_38_method_7_code 5 = .ok (.bipush 31, 2) := by decide +kernel
theorem own_d_prog_38_method_7_code_7 : decode prog_38_method_7_code 7 = .ok (.iand, 1) := by decide +kernel
theorem own_d_prog_38_method_7_code_8 : decode prog_38_method_7_code 8 = .ok (.istore_n 3, 1) := by decide +kernel
theorem own_d_prog_38_method_7_code_9 : decode prog_38_method_7_code 9 = .ok (.iload_n 1, 1) := by decide +kernel
theorem own_d_prog_38_method_7_code_10 : decode prog_38_method_7_code 10 = .ok (.ifCond .ne 8, 3) := by decide +kernel
theorem own_d_prog_38_method_7_code_13 : decode prog_38_method_7_code 13 = .ok (.ldc 13, 2) := by decide +kernel
theorem own_d_prog_38_method_7_code_15 : decode prog_38_method_7_code 15 = .ok (.goto 4, 3) := by decide +kernel
theorem own_d_prog_38_method_7_code_18 : decode prog_38_method_7_code 18 = .ok (.iconst 1, 1) := by decide +kernel
theorem own_d_prog_38_method_7_code_19 : decode prog_38_method_7_code 19 = .ok (.istore 4, 2) := by decide +kernel
theorem own_d_prog_38_method_7_code_21 : decode prog_38_method_7_code 21 = .ok (.iload_n 3, 1) := by decide +kernel
theorem own_d_prog_38_method_7_code_22 : decode prog_38_method_7_code 22 = .ok (.bipush 30, 2) := by decide +kernel
theorem own_d_prog_38_method_7_code_24 : decode prog_38_method_7_code 24 = .ok (.if_icmp .ne 21, 3) := by decide +kernel
theorem own_d_prog_38_method_7_code_27 : decode prog_38_method_7_code 27 = .ok (.iload_n 2, 1) := by decide +kernel
theorem own_d_prog_38_method_7_code_28 : decode prog_38_method_7_code 28 = .ok (.iload 4, 2) := by decide +kernel
theorem own_d_prog_38_method_7_code_30 : decode prog_38_method_7_code 30 = .ok (.iload_n 2, 1) := by decide +kernel
theorem own_d_prog_38_method_7_code_31 : decode prog_38_method_7_code 31 = .ok (.isub, 1) := by decide +kernel
theorem own_d_prog_38_method_7_code_32 : decode prog_38_method_7_code 32 = .ok (.iconst 5, 1) := by decide +kernel
theorem own_d_prog_38_method_7_code_33 : decode prog_38_method_7_code 33 = .ok (.ishr, 1) := by decide +kernel
theorem own_d_prog_38_method_7_code_34 : decode prog_38_method_7_code 34 = .ok (.iadd, 1) := by decide +kernel
theorem own_d_prog_38_method_7_code_35 : decode prog_38_method_7_code 35 = .ok (.iconst 5, 1) := by decide +kernel
theorem own_d_prog_38_method_7_code_36 : decode prog_38_method_7_code 36 = .ok (.ishl, 1) := by decide +kernel
theorem own_d_prog_38_method_7_code_37 : decode prog_38_method_7_code 37 = .ok (.bipush 30, 2) := by decide +kernel
theorem own_d_prog_38_method_7_code_39 : decode prog_38_method_7_code 39 = .ok (.ior, 1) := by decide +kernel
theorem own_d_prog_38_method_7_code_40 : decode prog_38_method_7_code 40 = .ok (.istore 5, 2) := by decide +kernel
theorem own_d_prog_38_method_7_code_42 : decode prog_38_method_7_code 42 = .ok (.goto 26, 3) := by decide +kernel
theorem own_d_prog_38_method_7_code_45 : decode prog_38_method_7_code 45 = .ok (.iload_n 2, 1) := by decide +kernel
theorem own_d_prog_38_method_7_code_46 : decode prog_38_method_7_code 46 = .ok (.iload 4, 2) := by decide +kernel
theorem own_d_prog_38_method_7_code_48 : decode prog_38_method_7_code 48 = .ok (.iload_n 2, 1) := by decide +kernel
theorem own_d_prog_38_method_7_code_49 : decode prog_38_method_7_code 49 = .ok (.isub, 1) := by decide +kernel
theorem own_d_prog_38_method_7_code_50 : decode prog_38_method_7_code 50 = .ok (.getstatic 14, 3) := by decide +kernel
theorem own_d_prog_38_method_7_code_53 : decode prog_38_method_7_code 53 = .ok (.iload_n 3, 1) := by decide +kernel
theorem own_d_prog_38_method_7_code_54 : decode prog_38_method_7_code 54 = .ok (.iaload, 1) := by decide +kernel
theorem own_d_prog_38_method_7_code_55 : decode prog_38_method_7_code 55 = .ok (.imul, 1) := by decide +kernel
theorem own_d_prog_38_method_7_code_56 : decode prog_38_method_7_code 56 = .ok (.bipush 16, 2) := by decide +kernel
theorem own_d_prog_38_method_7_code_58 : decode prog_38_method_7_code 58 = .ok (.ishr, 1) := by decide +kernel
theorem own_d_prog_38_method_7_code_59 : decode prog_38_method_7_code 59 = .ok (.iadd, 1) := by decide +kernel
theorem own_d_prog_38_method_7_code_60 : decode prog_38_method_7_code 60 = .ok (.iconst 5, 1) := by decide +kernel
theorem own_d_prog_38_method_7_code_61 : decode prog_38_method_7_code 61 = .ok (.ishl, 1) := by decide +kernel
theorem own_d_prog_38_method_7_code_62 : decode prog_38_method_7_code 62 = .ok (.iload_n 3, 1) := by decide +kernel
theorem own_d_prog_38_method_7_code_63 : decode prog_38_method_7_code 63 = .ok (.iconst 1, 1) := by decide +kernel
theorem own_d_prog_38_method_7_code_64 : decode prog_38_method_7_code 64 = .ok (.iadd, 1) := by decide +kernel
theorem own_d_prog_38_method_7_code_65 : decode prog_38_method_7_code 65 = .ok (.ior, 1) := by decide +kernel
theorem own_d_prog_38_method_7_code_66 : decode prog_38_method_7_code 66 = .ok (.istore 5, 2) := by decide +kernel
theorem own_d_prog_38_method_7_code_68 : decode prog_38_method_7_code 68 = .ok (.iload 5, 2) := by decide +kernel
theorem own_d_prog_38_method_7_code_70 : decode prog_38_method_7_code 70 = .ok (.ireturn, 1) := by decide +kernel
set_option maxRecDepth 65536 in
set_option maxHeartbeats 4000000 in
theorem own_ef_own_rm_learn (m : MethodId) (ia0 : Int32) (ia1 : Int32) : entryFrame m #[(.int ia0), (.int ia1)] 6 = (mkF m 0 #[.val (.int ia0), .val (.int ia1), .unset, .unset, .unset, .unset] []) := by first | (simp [entryFrame, mkF, argsToLocals, Value.category]; done) | rfl
set_option maxRecDepth 65536 in
set_option maxHeartbeats 4000000 in
theorem own_rm_learn (l : Launch) (Z : State) (a0 : Array Value) (hw : ∀ d ∈ tables_1, d.before a0 Z = true) (ia0 : Int32) (ia1 : Int32) (h : Heap) (aT : Addr) (S_T : Sta Z h "com/example/frugal_frame/frugalframe/RangeCoder" "STEPS" "[I" (.ref aT)) (AT : OwnAr Z h aT .int 31 (fun i => .int (own_step i))) (cc nn : Int) (hp : ia0.toInt = cc * 32 + nn) (hc : 1 ≤ cc ∧ cc ≤ 65535) (hn : 0 ≤ nn ∧ nn ≤ 30) :
    OwnMet l Z (⟨"com/example/frugal_frame/frugalframe/RangeCoder", "learn", "(II)I"⟩ : MethodName) prog_38_method_7_code 6 (some .int) [] ({ frames := 0, cells := 0, slots := 0, locals := 0 } : Room) #[(.int ia0), (.int ia1)] h (OwnSome (fun v => ∃ z : Int32, v = .int z ∧ (ia1.toInt = 0 → z.toInt = own_N 65535 cc nn * 32 + own_C nn) ∧ (ia1.toInt ≠ 0 → z.toInt = own_N 1 cc nn * 32 + own_C nn)) h) := by
  refine own_enter (f0 := fun m => mkF m 0 #[.val (.int ia0), .val (.int ia1), .unset, .unset, .unset, .unset] []) (plainFor_of_name own_pn_RangeCoder) (fun m => own_ef_own_rm_learn m ia0 ia1) ?_
  intro p e s m below meth c T0 X0 C e0
  refine own_iload_n X0 C own_d_prog_38_method_7_code_0 1 rfl rfl ?_
  refine own_iconst X0 C own_d_prog_38_method_7_code_1 2 rfl (5) rfl ?_
  refine own_iushr X0 C own_d_prog_38_method_7_code_2 3 rfl (fun v1 ev1 => ?_)
  have q1 := c_iushr ia0 5 5 (by decide) (by decide)
  rw [← ev1] at q1
  have q0 := rng32 ia0
  have cc1 : v1.toInt = cc := by omega
  refine own_istore_n X0 C own_d_prog_38_method_7_code_3 4 rfl #[.val (.int ia0), .val (.int ia1), .val (.int v1), .unset, .unset, .unset] rfl ?_
  refine own_iload_n X0 C own_d_prog_38_method_7_code_4 5 rfl rfl ?_
  refine own_bipush X0 C own_d_prog_38_method_7_code_5 7 rfl (31) rfl ?_
  refine own_iand X0 C own_d_prog_38_method_7_code_7 8 rfl (fun v2 ev2 => ?_)
  have q2 := c_mask ia0 31 5 (by decide) (by decide)
  rw [← ev2] at q2
  have nn1 : v2.toInt = nn := by omega
  refine own_istore_n X0 C own_d_prog_38_method_7_code_8 9 rfl #[.val (.int ia0), .val (.int ia1), .val (.int v1), .val (.int v2), .unset, .unset] rfl ?_
  refine own_iload_n X0 C own_d_prog_38_method_7_code_9 10 rfl rfl ?_
  refine own_ifne X0 C own_d_prog_38_method_7_code_10 13 18 rfl (by decide) (by decide) (i := ia1.toInt) rfl (fun b1 => ?_) (fun b1 => ?_)
  · refine own_iconst X0 C own_d_prog_38_method_7_code_18 19 rfl (1) rfl ?_
    refine own_istore X0 C own_d_prog_38_method_7_code_19 21 rfl #[.val (.int ia0), .val (.int ia1), .val (.int v1), .val (.int v2), .val (.int (1 : Int32)), .unset] rfl ?_
    refine own_iload_n X0 C own_d_prog_38_method_7_code_21 22 rfl rfl ?_
    refine own_bipush X0 C own_d_prog_38_method_7_code_22 24 rfl (30) rfl ?_
    refine own_icmpne X0 C own_d_prog_38_method_7_code_24 27 45 rfl (by decide) (by decide) (i := v2.toInt) rfl (j := 30) (by decide) (fun b2 => ?_) (fun b2 => ?_)
    · refine own_iload_n X0 C own_d_prog_38_method_7_code_45 46 rfl rfl ?_
      refine own_iload X0 C own_d_prog_38_method_7_code_46 48 rfl rfl ?_
      refine own_iload_n X0 C own_d_prog_38_method_7_code_48 49 rfl rfl ?_
      refine own_isub X0 C own_d_prog_38_method_7_code_49 50 rfl (fun v3 ev3 => ?_)
      have d1 := c_isub (1 : Int32) v1
      rw [← ev3] at d1
      have d2 : ((1 : Int32)).toInt = 1 := by decide
      have d3 := rng32 v3
      have d4 : v3.toInt = 1 - cc := by omega
      refine own_getstatic X0 C (host := "") (Or.inl (own_w hw 7 rfl)) Via.refl e0 S_T own_d_prog_38_method_7_code_50 53 rfl (fun T3 X3 e3 => ?_)
      refine own_iload_n X3 C own_d_prog_38_method_7_code_53 54 rfl rfl ?_
      refine own_iaload X3 C e3 AT (by omega) (by omega) own_d_prog_38_method_7_code_54 55 rfl (.int (own_step nn.toNat)) (by show Value.int (own_step _) = _; rw [show v2.toInt.toNat = nn.toNat by omega]) ?_
      refine own_imul X3 C own_d_prog_38_method_7_code_55 56 rfl (fun v4 ev4 => ?_)
      have g1 := own_stepI nn.toNat (by omega)
      have g2 : ((nn.toNat : Nat) : Int) = nn := by omega
      rw [g2] at g1
      have g3 := c_imul v3 (own_step nn.toNat)
      rw [← ev4, d4] at g3
      have g4 := rng32 v4
      have g5 := mc (a := 1 - cc) (b := (own_step nn.toNat).toInt) (l1 := -65534) (h1 := 65534) (l2 := 0) (h2 := 32768) (by omega) (by omega) (by omega) (by omega)
      generalize hP : (1 - cc) * (own_step nn.toNat).toInt = P at g3 g5
      have g6 : v4.toInt = P := by omega
      refine own_bipush X3 C own_d_prog_38_method_7_code_56 58 rfl (16) rfl ?_
      refine own_ishr X3 C own_d_prog_38_method_7_code_58 59 rfl (fun v5 ev5 => ?_)
      have f1 := c_ishr v4 16 16 (by decide)
      rw [← ev5, g6, show ((2 ^ 16 : Nat) : Int) = 65536 by decide] at f1
      refine own_iadd X3 C own_d_prog_38_method_7_code_59 60 rfl (fun v6 ev6 => ?_)
      have s1 := c_iadd v1 v5
      rw [← ev6] at s1
      have s2 := rng32 v6
      have s3 := rng32 v5
      refine own_iconst X3 C own_d_prog_38_method_7_code_60 61 rfl (5) rfl ?_
      refine own_ishl X3 C own_d_prog_38_method_7_code_61 62 rfl (fun v7 ev7 => ?_)
      have u1 := c_ishl v6 5 5 (by decide)
      rw [← ev7] at u1
      have u2 := rng32 v7
      refine own_iload_n X3 C own_d_prog_38_method_7_code_62 63 rfl rfl ?_
      refine own_iconst X3 C own_d_prog_38_method_7_code_63 64 rfl (1) rfl ?_
      refine own_iadd X3 C own_d_prog_38_method_7_code_64 65 rfl (fun v8 ev8 => ?_)
      have k1 := c_iadd v2 1
      rw [← ev8] at k1
      have k0 : (1 : Int32).toInt = 1 := by decide
      have k2 := rng32 v8
      refine own_ior X3 C own_d_prog_38_method_7_code_65 66 rfl (fun v9 ev9 => ?_)
      have w1 := c_or v7 v8 5 (by decide) 32 (by decide) (by omega) (by omega) (by omega)
      rw [← ev9] at w1
      have w2 := rng32 v9
      refine own_istore X3 C own_d_prog_38_method_7_code_66 68 rfl #[.val (.int ia0), .val (.int ia1), .val (.int v1), .val (.int v2), .val (.int (1 : Int32)), .val (.int v9)] rfl ?_
      refine own_iload X3 C own_d_prog_38_method_7_code_68 70 rfl rfl ?_
      refine own_ireturn X3 C rfl own_d_prog_38_method_7_code_70 (by decide) (by decide) ?_
      have hN : own_N 1 cc nn = cc + P / 65536 := by
        rw [own_N, ← g1.1, hP]
      exact ⟨⟨_, rfl, _, rfl, by rw [own_C, if_neg (by omega)]; constructor <;> intro hb0 <;> first | (exfalso; omega) | (rw [hN]; omega)⟩, e3, rfl⟩
    · refine own_iload_n X0 C own_d_prog_38_method_7_code_27 28 rfl rfl ?_
      refine own_iload X0 C own_d_prog_38_method_7_code_28 30 rfl rfl ?_
      refine own_iload_n X0 C own_d_prog_38_method_7_code_30 31 rfl rfl ?_
      refine own_isub X0 C own_d_prog_38_method_7_code_31 32 rfl (fun v10 ev10 => ?_)
      have d1 := c_isub (1 : Int32) v1
      rw [← ev10] at d1
      have d2 : ((1 : Int32)).toInt = 1 := by decide
      have d3 := rng32 v10
      have d4 : v10.toInt = 1 - cc := by omega
      refine own_iconst X0 C own_d_prog_38_method_7_code_32 33 rfl (5) rfl ?_
      refine own_ishr X0 C own_d_prog_38_method_7_code_33 34 rfl (fun v11 ev11 => ?_)
      have f1 := c_ishr v10 5 5 (by decide)
      rw [← ev11, d4, show ((2 ^ 5 : Nat) : Int) = 32 by decide] at f1
      refine own_iadd X0 C own_d_prog_38_method_7_code_34 35 rfl (fun v12 ev12 => ?_)
      have s1 := c_iadd v1 v11
      rw [← ev12] at s1
      have s2 := rng32 v12
      have s3 := rng32 v11
      refine own_iconst X0 C own_d_prog_38_method_7_code_35 36 rfl (5) rfl ?_
      refine own_ishl X0 C own_d_prog_38_method_7_code_36 37 rfl (fun v13 ev13 => ?_)
      have u1 := c_ishl v12 5 5 (by decide)
      rw [← ev13] at u1
      have u2 := rng32 v13
      refine own_bipush X0 C own_d_prog_38_method_7_code_37 39 rfl (30) rfl ?_
      refine own_ior X0 C own_d_prog_38_method_7_code_39 40 rfl (fun v14 ev14 => ?_)
      have w0 : (30 : Int32).toInt = 30 := by decide
      have w1 := c_or v13 30 5 (by decide) 32 (by decide) (by omega) (by omega) (by omega)
      rw [← ev14] at w1
      have w2 := rng32 v14
      refine own_istore X0 C own_d_prog_38_method_7_code_40 42 rfl #[.val (.int ia0), .val (.int ia1), .val (.int v1), .val (.int v2), .val (.int (1 : Int32)), .val (.int v14)] rfl ?_
      refine own_goto X0 C own_d_prog_38_method_7_code_42 68 (by decide) (by decide) ?_
      refine own_iload X0 C own_d_prog_38_method_7_code_68 70 rfl rfl ?_
      refine own_ireturn X0 C rfl own_d_prog_38_method_7_code_70 (by decide) (by decide) ?_
      have hN : own_N 1 cc nn = cc + (1 - cc) / 32 := by
        rw [own_N, show nn = 30 by omega]; omega
      exact ⟨⟨_, rfl, _, rfl, by rw [own_C, if_pos (by omega)]; constructor <;> intro hb0 <;> first | (exfalso; omega) | (rw [hN]; omega)⟩, e0, rfl⟩
  · refine own_ldc X0 C (own_w hw 6 rfl) own_d_prog_38_method_7_code_13 15 rfl ?_
    refine own_goto X0 C own_d_prog_38_method_7_code_15 19 (by decide) (by decide) ?_
    refine own_istore X0 C own_d_prog_38_method_7_code_19 21 rfl #[.val (.int ia0), .val (.int ia1), .val (.int v1), .val (.int v2), .val (.int (65535 : Int32)), .unset] rfl ?_
    refine own_iload_n X0 C own_d_prog_38_method_7_code_21 22 rfl rfl ?_
    refine own_bipush X0 C own_d_prog_38_method_7_code_22 24 rfl (30) rfl ?_
    refine own_icmpne X0 C own_d_prog_38_method_7_code_24 27 45 rfl (by decide) (by decide) (i := v2.toInt) rfl (j := 30) (by decide) (fun b4 => ?_) (fun b4 => ?_)
    · refine own_iload_n X0 C own_d_prog_38_method_7_code_45 46 rfl rfl ?_
      refine own_iload X0 C own_d_prog_38_method_7_code_46 48 rfl rfl ?_
      refine own_iload_n X0 C own_d_prog_38_method_7_code_48 49 rfl rfl ?_
      refine own_isub X0 C own_d_prog_38_method_7_code_49 50 rfl (fun v15 ev15 => ?_)
      have d1 := c_isub (65535 : Int32) v1
      rw [← ev15] at d1
      have d2 : ((65535 : Int32)).toInt = 65535 := by decide
      have d3 := rng32 v15
      have d4 : v15.toInt = 65535 - cc := by omega
      refine own_getstatic X0 C (host := "") (Or.inl (own_w hw 7 rfl)) Via.refl e0 S_T own_d_prog_38_method_7_code_50 53 rfl (fun T5 X5 e5 => ?_)
      refine own_iload_n X5 C own_d_prog_38_method_7_code_53 54 rfl rfl ?_
      refine own_iaload X5 C e5 AT (by omega) (by omega) own_d_prog_38_method_7_code_54 55 rfl (.int (own_step nn.toNat)) (by show Value.int (own_step _) = _; rw [show v2.toInt.toNat = nn.toNat by omega]) ?_
      refine own_imul X5 C own_d_prog_38_method_7_code_55 56 rfl (fun v16 ev16 => ?_)
      have g1 := own_stepI nn.toNat (by omega)
      have g2 : ((nn.toNat : Nat) : Int) = nn := by omega
      rw [g2] at g1
      have g3 := c_imul v15 (own_step nn.toNat)
      rw [← ev16, d4] at g3
      have g4 := rng32 v16
      have g5 := mc (a := 65535 - cc) (b := (own_step nn.toNat).toInt) (l1 := -65534) (h1 := 65534) (l2 := 0) (h2 := 32768) (by omega) (by omega) (by omega) (by omega)
      generalize hP : (65535 - cc) * (own_step nn.toNat).toInt = P at g3 g5
      have g6 : v16.toInt = P := by omega
      refine own_bipush X5 C own_d_prog_38_method_7_code_56 58 rfl (16) rfl ?_
      refine own_ishr X5 C own_d_prog_38_method_7_code_58 59 rfl (fun v17 ev17 => ?_)
      have f1 := c_ishr v16 16 16 (by decide)
      rw [← ev17, g6, show ((2 ^ 16 : Nat) : Int) = 65536 by decide] at f1
      refine own_iadd X5 C own_d_prog_38_method_7_code_59 60 rfl (fun v18 ev18 => ?_)
      have s1 := c_iadd v1 v17
      rw [← ev18] at s1
      have s2 := rng32 v18
      have s3 := rng32 v17
      refine own_iconst X5 C own_d_prog_38_method_7_code_60 61 rfl (5) rfl ?_
      refine own_ishl X5 C own_d_prog_38_method_7_code_61 62 rfl (fun v19 ev19 => ?_)
      have u1 := c_ishl v18 5 5 (by decide)
      rw [← ev19] at u1
      have u2 := rng32 v19
      refine own_iload_n X5 C own_d_prog_38_method_7_code_62 63 rfl rfl ?_
      refine own_iconst X5 C own_d_prog_38_method_7_code_63 64 rfl (1) rfl ?_
      refine own_iadd X5 C own_d_prog_38_method_7_code_64 65 rfl (fun v20 ev20 => ?_)
      have k1 := c_iadd v2 1
      rw [← ev20] at k1
      have k0 : (1 : Int32).toInt = 1 := by decide
      have k2 := rng32 v20
      refine own_ior X5 C own_d_prog_38_method_7_code_65 66 rfl (fun v21 ev21 => ?_)
      have w1 := c_or v19 v20 5 (by decide) 32 (by decide) (by omega) (by omega) (by omega)
      rw [← ev21] at w1
      have w2 := rng32 v21
      refine own_istore X5 C own_d_prog_38_method_7_code_66 68 rfl #[.val (.int ia0), .val (.int ia1), .val (.int v1), .val (.int v2), .val (.int (65535 : Int32)), .val (.int v21)] rfl ?_
      refine own_iload X5 C own_d_prog_38_method_7_code_68 70 rfl rfl ?_
      refine own_ireturn X5 C rfl own_d_prog_38_method_7_code_70 (by decide) (by decide) ?_
      have hN : own_N 65535 cc nn = cc + P / 65536 := by
        rw [own_N, ← g1.1, hP]
      exact ⟨⟨_, rfl, _, rfl, by rw [own_C, if_neg (by omega)]; constructor <;> intro hb0 <;> first | (exfalso; omega) | (rw [hN]; omega)⟩, e5, rfl⟩
    · refine own_iload_n X0 C own_d_prog_38_method_7_code_27 28 rfl rfl ?_
      refine own_iload X0 C own_d_prog_38_method_7_code_28 30 rfl rfl ?_
      refine own_iload_n X0 C own_d_prog_38_method_7_code_30 31 rfl rfl ?_
      refine own_isub X0 C own_d_prog_38_method_7_code_31 32 rfl (fun v22 ev22 => ?_)
      have d1 := c_isub (65535 : Int32) v1
      rw [← ev22] at d1
      have d2 : ((65535 : Int32)).toInt = 65535 := by decide
      have d3 := rng32 v22
      have d4 : v22.toInt = 65535 - cc := by omega
      refine own_iconst X0 C own_d_prog_38_method_7_code_32 33 rfl (5) rfl ?_
      refine own_ishr X0 C own_d_prog_38_method_7_code_33 34 rfl (fun v23 ev23 => ?_)
      have f1 := c_ishr v22 5 5 (by decide)
      rw [← ev23, d4, show ((2 ^ 5 : Nat) : Int) = 32 by decide] at f1
      refine own_iadd X0 C own_d_prog_38_method_7_code_34 35 rfl (fun v24 ev24 => ?_)
      have s1 := c_iadd v1 v23
      rw [← ev24] at s1
      have s2 := rng32 v24
      have s3 := rng32 v23
      refine own_iconst X0 C own_d_prog_38_method_7_code_35 36 rfl (5) rfl ?_
      refine own_ishl X0 C own_d_prog_38_method_7_code_36 37 rfl (fun v25 ev25 => ?_)
      have u1 := c_ishl v24 5 5 (by decide)
      rw [← ev25] at u1
      have u2 := rng32 v25
      refine own_bipush X0 C own_d_prog_38_method_7_code_37 39 rfl (30) rfl ?_
      refine own_ior X0 C own_d_prog_38_method_7_code_39 40 rfl (fun v26 ev26 => ?_)
      have w0 : (30 : Int32).toInt = 30 := by decide
      have w1 := c_or v25 30 5 (by decide) 32 (by decide) (by omega) (by omega) (by omega)
      rw [← ev26] at w1
      have w2 := rng32 v26
      refine own_istore X0 C own_d_prog_38_method_7_code_40 42 rfl #[.val (.int ia0), .val (.int ia1), .val (.int v1), .val (.int v2), .val (.int (65535 : Int32)), .val (.int v26)] rfl ?_
      refine own_goto X0 C own_d_prog_38_method_7_code_42 68 (by decide) (by decide) ?_
      refine own_iload X0 C own_d_prog_38_method_7_code_68 70 rfl rfl ?_
      refine own_ireturn X0 C rfl own_d_prog_38_method_7_code_70 (by decide) (by decide) ?_
      have hN : own_N 65535 cc nn = cc + (65535 - cc) / 32 := by
        rw [own_N, show nn = 30 by omega]; omega
      exact ⟨⟨_, rfl, _, rfl, by rw [own_C, if_pos (by omega)]; constructor <;> intro hb0 <;> first | (exfalso; omega) | (rw [hN]; omega)⟩, e0, rfl⟩
theorem own_NB (cc nn : Int) (hc : 1 ≤ cc ∧ cc ≤ 65535) (hn : 0 ≤ nn ∧ nn ≤ 30) : (cc ≤ own_N 65535 cc nn ∧ own_N 65535 cc nn ≤ 65535) ∧ (1 ≤ own_N 1 cc nn ∧ own_N 1 cc nn ≤ cc) := by
  have g1 := own_stepI nn.toNat (by omega)
  have g2 : ((nn.toNat : Nat) : Int) = nn := by omega
  rw [g2] at g1
  have a1 := mc (a := 65535 - cc) (b := 65536 / (nn + 2)) (l1 := 0) (h1 := 65534) (l2 := 0) (h2 := 32768) (by omega) (by omega) (by omega) (by omega)
  have a2 := mc (a := 1 - cc) (b := 65536 / (nn + 2)) (l1 := -65534) (h1 := 0) (l2 := 0) (h2 := 32768) (by omega) (by omega) (by omega) (by omega)
  unfold own_N
  generalize (65535 - cc) * (65536 / (nn + 2)) = P at *
  generalize (1 - cc) * (65536 / (nn + 2)) = P2 at *
  omega
theorem own_got {N C z g : Int} (hz : z = N * 32 + C) (hN : 1 ≤ N ∧ N ≤ 65535) (hC : 1 ≤ C ∧ C ≤ 30) (hg : g = (z % 4294967296) / ((2 ^ 5 : Nat) : Int)) : g = N := by
  rw [show ((2 ^ 5 : Nat) : Int) = 32 by decide] at hg
  omega
theorem own_pd_III_R_Z : parseMethodDescriptor "(III)Z" = some ⟨[.int, .int, .int], some .boolean⟩ := by decide +kernel
set_option maxRecDepth 65536 in
set_option maxHeartbeats 4000000 in
theorem own_ef_own_rm_law (m : MethodId) (ia0 : Int32) (ia1 : Int32) (ia2 : Int32) : entryFrame m #[(.int ia0), (.int ia1), (.int ia2)] maxLocals = (mkF m 0 #[.val (.int ia0), .val (.int ia1), .val (.int ia2), .unset, .unset, .unset, .unset, .unset, .unset, .unset, .unset, .unset, .unset, .unset, .unset, .unset, .unset, .unset, .unset, .unset, .unset] []) := by first | (simp [entryFrame, mkF, argsToLocals, Value.category, maxLocals]; done) | rfl
set_option maxRecDepth 65536 in
set_option maxHeartbeats 4000000 in
theorem own_rm_law (l : Launch) (Z : State) (a0 : Array Value) (hw : ∀ d ∈ tables_1, d.before a0 Z = true) (ia0 : Int32) (ia1 : Int32) (ia2 : Int32) (h : Heap) (n0 : Nat) (aT : Addr) (S_T : Sta Z h "com/example/frugal_frame/frugalframe/RangeCoder" "STEPS" "[I" (.ref aT)) (AT : OwnAr Z h aT .int 31 (fun i => .int (own_step i))) :
    OwnMet l Z x code maxLocals ret tables_1 room_1 #[(.int ia0), (.int ia1), (.int ia2)] h (fun v h' L => v = some (.int 1) ∧ Fr n0 L) := by
  refine own_enter (f0 := fun m => mkF m 0 #[.val (.int ia0), .val (.int ia1), .val (.int ia2), .unset, .unset, .unset, .unset, .unset, .unset, .unset, .unset, .unset, .unset, .unset, .unset, .unset, .unset, .unset, .unset, .unset, .unset] []) (plainFor_of_name own_pn_RangeCoderLearnPinLaw) (fun m => own_ef_own_rm_law m ia0 ia1 ia2) ?_
  intro p e s m below meth c T0 X0 C e0
  refine own_iconst X0 C at_0 1 rfl (1) rfl ?_
  refine own_iload_n X0 C at_1 2 rfl rfl ?_
  refine own_ldc X0 C (own_w hw 0 rfl) at_2 4 rfl ?_
  refine own_iand X0 C at_4 5 rfl (fun v1 ev1 => ?_)
  refine own_ldc X0 C (own_w hw 1 rfl) at_5 7 rfl ?_
  refine own_irem X0 C at_7 8 rfl (by decide) (fun v2 ev2 => ?_)
  refine own_iadd X0 C at_8 9 rfl (fun v3 ev3 => ?_)
  have r1 := c_and ia0 2147483647 (by decide)
  rw [← ev1] at r1
  have r2 := (c_irem v1 65535 65535 (by decide)).1 r1.1
  rw [← ev2] at r2
  have r3 := c_iadd 1 v2
  rw [← ev3] at r3
  have r4 : (1 : Int32).toInt = 1 := by decide
  have r5 := rng32 v3
  have hc : 1 ≤ v3.toInt ∧ v3.toInt ≤ 65535 := by omega
  refine own_istore_n X0 C at_9 10 rfl #[.val (.int ia0), .val (.int ia1), .val (.int ia2), .val (.int v3), .unset, .unset, .unset, .unset, .unset, .unset, .unset, .unset, .unset, .unset, .unset, .unset, .unset, .unset, .unset, .unset, .unset] rfl ?_
  refine own_iload_n X0 C at_10 11 rfl rfl ?_
  refine own_ldc X0 C (own_w hw 0 rfl) at_11 13 rfl ?_
  refine own_iand X0 C at_13 14 rfl (fun v4 ev4 => ?_)
  refine own_bipush X0 C at_14 16 rfl (31) rfl ?_
  refine own_irem X0 C at_16 17 rfl (by decide) (fun v5 ev5 => ?_)
  have r6 := c_and ia1 2147483647 (by decide)
  rw [← ev4] at r6
  have r7 := (c_irem v4 31 31 (by decide)).1 r6.1
  rw [← ev5] at r7
  have hn : 0 ≤ v5.toInt ∧ v5.toInt ≤ 30 := by omega
  have NB := own_NB v3.toInt v5.toInt hc hn
  refine own_istore X0 C at_17 19 rfl #[.val (.int ia0), .val (.int ia1), .val (.int ia2), .val (.int v3), .val (.int v5), .unset, .unset, .unset, .unset, .unset, .unset, .unset, .unset, .unset, .unset, .unset, .unset, .unset, .unset, .unset, .unset] rfl ?_
  refine own_iload_n X0 C at_19 20 rfl rfl ?_
  refine own_iconst X0 C at_20 21 rfl (1) rfl ?_
  refine own_iand X0 C at_21 22 rfl (fun v6 ev6 => ?_)
  have r8 := c_mask ia2 1 1 (by decide) (by decide)
  rw [← ev6] at r8
  have hb : v6.toInt = 0 ∨ v6.toInt = 1 := by omega
  refine own_istore X0 C at_22 24 rfl #[.val (.int ia0), .val (.int ia1), .val (.int ia2), .val (.int v3), .val (.int v5), .val (.int v6), .unset, .unset, .unset, .unset, .unset, .unset, .unset, .unset, .unset, .unset, .unset, .unset, .unset, .unset, .unset] rfl ?_
  refine own_iload_n X0 C at_24 25 rfl rfl ?_
  refine own_iconst X0 C at_25 26 rfl (5) rfl ?_
  refine own_ishl X0 C at_26 27 rfl (fun v7 ev7 => ?_)
  refine own_iload X0 C at_27 29 rfl rfl ?_
  refine own_ior X0 C at_29 30 rfl (fun v8 ev8 => ?_)
  have p1 := c_ishl v3 5 5 (by decide)
  rw [← ev7] at p1
  have p2 := rng32 v7
  have p3 := c_or v7 v5 5 (by decide) 32 (by decide) (by omega) (by omega) (by omega)
  rw [← ev8] at p3
  have p4 := rng32 v8
  have hp : v8.toInt = v3.toInt * 32 + v5.toInt := by omega
  refine own_istore X0 C at_30 32 rfl #[.val (.int ia0), .val (.int ia1), .val (.int ia2), .val (.int v3), .val (.int v5), .val (.int v6), .val (.int v8), .unset, .unset, .unset, .unset, .unset, .unset, .unset, .unset, .unset, .unset, .unset, .unset, .unset, .unset] rfl ?_
  refine own_iload X0 C at_32 34 rfl rfl ?_
  refine own_iload X0 C at_34 36 rfl rfl ?_
  refine own_callE X0 C (own_w hw 2 rfl) (own_w hw 3 rfl) (own_w hw 4 rfl) (own_w hw 5 rfl) (by decide) (own_rm_learn l Z a0 hw v8 v6 h aT S_T AT v3.toInt v5.toInt hp hc hn) e0 own_pd_II_R_I [(.int v8), (.int v6)] rfl rfl rfl rfl 0 rfl (by decide) (by decide) rfl rfl (by decide) (by decide) at_36 39 rfl (fun T1 w1 q1 X1 e1 => ?_)
  obtain ⟨z1, rfl, hr0, hr1⟩ := q1
  
  refine own_istore X1 C at_39 41 rfl #[.val (.int ia0), .val (.int ia1), .val (.int ia2), .val (.int v3), .val (.int v5), .val (.int v6), .val (.int v8), .val (.int z1), .unset, .unset, .unset, .unset, .unset, .unset, .unset, .unset, .unset, .unset, .unset, .unset, .unset] rfl ?_
  refine own_iload X1 C at_41 43 rfl rfl ?_
  refine own_ifne X1 C at_43 46 52 rfl (by decide) (by decide) (i := v6.toInt) rfl (fun b2 => ?_) (fun b2 => ?_)
  · refine own_lconst X1 C at_52 53 rfl (1) rfl ?_
    refine own_lstore X1 C at_53 55 rfl #[.val (.int ia0), .val (.int ia1), .val (.int ia2), .val (.int v3), .val (.int v5), .val (.int v6), .val (.int v8), .val (.int z1), .val (.long (1 : Int64)), .second, .unset, .unset, .unset, .unset, .unset, .unset, .unset, .unset, .unset, .unset, .unset] rfl ?_
    refine own_ldc2 X1 C (own_w hw 10 rfl) at_55 58 rfl ?_
    refine own_iload X1 C at_58 60 rfl rfl ?_
    refine own_iconst X1 C at_60 61 rfl (2) rfl ?_
    refine own_iadd X1 C at_61 62 rfl (fun v9 ev9 => ?_)
    have t1 := c_iadd v5 2
    rw [← ev9] at t1
    have t2 := rng32 v9
    have t3 : (2 : Int32).toInt = 2 := by decide
    have t4 : v9.toInt = v5.toInt + 2 := by omega
    refine own_i2l X1 C at_62 63 rfl (fun v10 ev10 => ?_)
    have t5 := c_i2l v9
    rw [← ev10] at t5
    refine own_ldiv X1 C at_63 64 rfl (own_nz64 (by omega)) (fun v11 ev11 => ?_)
    have t6 : v10 ≠ -1 := by
      intro q; rw [q] at t5
      have t7 : (-1 : Int64).toInt = -1 := by decide
      omega
    have st1 : v11.toInt = 65536 / (v5.toInt + 2) := by
      rw [ev11, (c_ldiv 65536 v10 (v5.toInt + 2) (by omega) t6).1 (by decide)]
      rfl
    have sb := own_stepI v5.toInt.toNat (by omega)
    have sb2 : ((v5.toInt.toNat : Nat) : Int) = v5.toInt := by omega
    rw [sb2] at sb
    refine own_lstore X1 C at_64 66 rfl #[.val (.int ia0), .val (.int ia1), .val (.int ia2), .val (.int v3), .val (.int v5), .val (.int v6), .val (.int v8), .val (.int z1), .val (.long (1 : Int64)), .second, .val (.long v11), .second, .unset, .unset, .unset, .unset, .unset, .unset, .unset, .unset, .unset] rfl ?_
    refine own_iload_n X1 C at_66 67 rfl rfl ?_
    refine own_i2l X1 C at_67 68 rfl (fun v12 ev12 => ?_)
    have c1 := c_i2l v3
    rw [← ev12] at c1
    refine own_lload X1 C at_68 70 rfl rfl ?_
    refine own_iload_n X1 C at_70 71 rfl rfl ?_
    refine own_i2l X1 C at_71 72 rfl (fun v13 ev13 => ?_)
    have c2 := c_i2l v3
    rw [← ev13] at c2
    refine own_lsub X1 C at_72 73 rfl (fun v14 ev14 => ?_)
    have d1 := c_lsub (1 : Int64) v13
    rw [← ev14] at d1
    have d2 : ((1 : Int64)).toInt = 1 := by decide
    have d3 := rng64 v14
    have d4 : v14.toInt = 1 - v3.toInt := by omega
    refine own_lload X1 C at_73 75 rfl rfl ?_
    refine own_lmul X1 C at_75 76 rfl (fun v15 ev15 => ?_)
    have m1 := c_lmul v14 v11
    rw [← ev15, d4, st1] at m1
    have m2 := rng64 v15
    have m3 := mc (a := 1 - v3.toInt) (b := 65536 / (v5.toInt + 2)) (l1 := -65534) (h1 := 65534) (l2 := 0) (h2 := 32768) (by omega) (by omega) (by omega) (by omega)
    have hN : own_N 1 v3.toInt v5.toInt = v3.toInt + (1 - v3.toInt) * (65536 / (v5.toInt + 2)) / 65536 := rfl
    generalize hP : (1 - v3.toInt) * (65536 / (v5.toInt + 2)) = P at m1 m3 hN
    have m4 : v15.toInt = P := by omega
    refine own_callE X1 C (own_w hw 11 rfl) (own_w hw 12 rfl) (own_w hw 13 rfl) (own_w hw 14 rfl) (by decide) (own_rm_floorDiv65536 l Z a0 hw v15 h) e1 own_pd_J_R_J [(.long v15)] rfl rfl rfl rfl 2 rfl (by decide) (by decide) rfl rfl (by decide) (by decide) at_76 79 rfl (fun T3 w3 q3 X3 e3 => ?_)
    obtain ⟨z3, rfl, hfl⟩ := q3
    refine own_ladd X3 C at_79 80 rfl (fun v16 ev16 => ?_)
    have n1 := c_ladd v12 z3
    rw [← ev16] at n1
    have n2 := rng64 v16
    have n3 : v16.toInt = own_N 1 v3.toInt v5.toInt := by omega
    refine own_lstore X3 C at_80 82 rfl #[.val (.int ia0), .val (.int ia1), .val (.int ia2), .val (.int v3), .val (.int v5), .val (.int v6), .val (.int v8), .val (.int z1), .val (.long (1 : Int64)), .second, .val (.long v11), .second, .val (.long v16), .second, .unset, .unset, .unset, .unset, .unset, .unset, .unset] rfl ?_
    refine own_iload X3 C at_82 84 rfl rfl ?_
    refine own_iconst X3 C at_84 85 rfl (1) rfl ?_
    refine own_iadd X3 C at_85 86 rfl (fun v17 ev17 => ?_)
    have o1 := c_iadd v5 1
    rw [← ev17] at o1
    have o2 := rng32 v17
    refine own_bipush X3 C at_86 88 rfl (30) rfl ?_
    refine own_callP X3 C (own_w hw 15 rfl) (own_w hw 16 rfl) (own_w hw 17 rfl) (own_w hw 18 rfl) (by decide) (own_rm_min l Z a0 hw v17 (30 : Int32) h) e3 own_pd_II_R_I [(.int v17), (.int (30 : Int32))] rfl rfl rfl rfl 0 rfl (by decide) (by decide) rfl rfl (by decide) (by decide) at_88 91 rfl (fun T4 X4 e4 => ?_)
    have o3 : (own_min v17 30).toInt = own_C v5.toInt := by
      have o4 : (30 : Int32).toInt = 30 := by decide
      unfold own_min own_C
      split <;> split <;> omega
    have oC : 1 ≤ own_C v5.toInt ∧ own_C v5.toInt ≤ 30 := by unfold own_C; split <;> omega
    refine own_istore X4 C at_91 93 rfl #[.val (.int ia0), .val (.int ia1), .val (.int ia2), .val (.int v3), .val (.int v5), .val (.int v6), .val (.int v8), .val (.int z1), .val (.long (1 : Int64)), .second, .val (.long v11), .second, .val (.long v16), .second, .val (.int (own_min v17 (30 : Int32))), .unset, .unset, .unset, .unset, .unset, .unset] rfl ?_
    refine own_lload X4 C at_93 95 rfl rfl ?_
    refine own_iconst X4 C at_95 96 rfl (5) rfl ?_
    refine own_lshl X4 C at_96 97 rfl (fun v18 ev18 => ?_)
    have q1 := c_lshl v16 5 5 (by decide)
    rw [← ev18] at q1
    have q2 := rng64 v18
    refine own_iload X4 C at_97 99 rfl rfl ?_
    refine own_i2l X4 C at_99 100 rfl (fun v19 ev19 => ?_)
    have q3 := c_i2l (own_min v17 (30 : Int32))
    rw [← ev19] at q3
    refine own_lor X4 C at_100 101 rfl (fun v20 ev20 => ?_)
    have q4 := c_orL v18 v19 5 (by decide) 32 (by decide) (by omega) (by omega) (by omega)
    rw [← ev20] at q4
    have q5 := rng64 v20
    refine own_lstore X4 C at_101 103 rfl #[.val (.int ia0), .val (.int ia1), .val (.int ia2), .val (.int v3), .val (.int v5), .val (.int v6), .val (.int v8), .val (.int z1), .val (.long (1 : Int64)), .second, .val (.long v11), .second, .val (.long v16), .second, .val (.int (own_min v17 (30 : Int32))), .val (.long v20), .second, .unset, .unset, .unset, .unset] rfl ?_
    refine own_iload X4 C at_103 105 rfl rfl ?_
    refine own_i2l X4 C at_105 106 rfl (fun v21 ev21 => ?_)
    have q6 := c_i2l z1
    rw [← ev21] at q6
    refine own_lload X4 C at_106 108 rfl rfl ?_
    refine own_lcmp X4 C at_108 109 rfl (fun v22 ev22a ev22b ev22c => ?_)
    refine own_ifne X4 C at_109 112 116 rfl (by decide) (by decide) (i := v22.toInt) rfl (fun b5 => ?_) (fun b5 => ?_)
    · exfalso
      omega
    · refine own_iconst X4 C at_112 113 rfl (1) rfl ?_
      refine own_goto X4 C at_113 117 (by decide) (by decide) ?_
      refine own_istore X4 C at_117 119 rfl #[.val (.int ia0), .val (.int ia1), .val (.int ia2), .val (.int v3), .val (.int v5), .val (.int v6), .val (.int v8), .val (.int z1), .val (.long (1 : Int64)), .second, .val (.long v11), .second, .val (.long v16), .second, .val (.int (own_min v17 (30 : Int32))), .val (.long v20), .second, .val (.int (1 : Int32)), .unset, .unset, .unset] rfl ?_
      refine own_iload X4 C at_119 121 rfl rfl ?_
      refine own_iconst X4 C at_121 122 rfl (5) rfl ?_
      refine own_iushr X4 C at_122 123 rfl (fun v23 ev23 => ?_)
      have q7 := c_iushr z1 5 5 (by decide) (by decide)
      rw [← ev23] at q7
      have hg := own_got (hr1 (by omega)) (by omega) oC q7
      clear q7 q6 q5 q4 q3 q2 q1 n3 n2 n1 m4 m3 m2 m1 hN o1 o2 o3 p1 p2 p3 p4
      refine own_istore X4 C at_123 125 rfl #[.val (.int ia0), .val (.int ia1), .val (.int ia2), .val (.int v3), .val (.int v5), .val (.int v6), .val (.int v8), .val (.int z1), .val (.long (1 : Int64)), .second, .val (.long v11), .second, .val (.long v16), .second, .val (.int (own_min v17 (30 : Int32))), .val (.long v20), .second, .val (.int (1 : Int32)), .val (.int v23), .unset, .unset] rfl ?_
      refine own_iload X4 C at_125 127 rfl rfl ?_
      refine own_iconst X4 C at_127 128 rfl (1) rfl ?_
      refine own_icmplt X4 C at_128 131 142 rfl (by decide) (by decide) (i := v23.toInt) rfl (j := 1) (by decide) (fun b6 => ?_) (fun b6 => ?_)
      · exfalso
        omega
      · refine own_iload X4 C at_131 133 rfl rfl ?_
        refine own_ldc X4 C (own_w hw 1 rfl) at_133 135 rfl ?_
        refine own_icmpgt X4 C at_135 138 142 rfl (by decide) (by decide) (i := v23.toInt) rfl (j := 65535) (by decide) (fun b7 => ?_) (fun b7 => ?_)
        · exfalso
          omega
        · refine own_iconst X4 C at_138 139 rfl (1) rfl ?_
          refine own_goto X4 C at_139 143 (by decide) (by decide) ?_
          refine own_istore X4 C at_143 145 rfl #[.val (.int ia0), .val (.int ia1), .val (.int ia2), .val (.int v3), .val (.int v5), .val (.int v6), .val (.int v8), .val (.int z1), .val (.long (1 : Int64)), .second, .val (.long v11), .second, .val (.long v16), .second, .val (.int (own_min v17 (30 : Int32))), .val (.long v20), .second, .val (.int (1 : Int32)), .val (.int v23), .val (.int (1 : Int32)), .unset] rfl ?_
          refine own_iload X4 C at_145 147 rfl rfl ?_
          refine own_ifne X4 C at_147 150 164 rfl (by decide) (by decide) (i := v6.toInt) rfl (fun b8 => ?_) (fun b8 => ?_)
          · refine own_iload X4 C at_164 166 rfl rfl ?_
            refine own_iload_n X4 C at_166 167 rfl rfl ?_
            refine own_icmpgt X4 C at_167 170 174 rfl (by decide) (by decide) (i := v23.toInt) rfl (j := v3.toInt) rfl (fun b9 => ?_) (fun b9 => ?_)
            · exfalso
              omega
            · refine own_iconst X4 C at_170 171 rfl (1) rfl ?_
              refine own_goto X4 C at_171 175 (by decide) (by decide) ?_
              refine own_istore X4 C at_175 177 rfl #[.val (.int ia0), .val (.int ia1), .val (.int ia2), .val (.int v3), .val (.int v5), .val (.int v6), .val (.int v8), .val (.int z1), .val (.long (1 : Int64)), .second, .val (.long v11), .second, .val (.long v16), .second, .val (.int (own_min v17 (30 : Int32))), .val (.long v20), .second, .val (.int (1 : Int32)), .val (.int v23), .val (.int (1 : Int32)), .val (.int (1 : Int32))] rfl ?_
              refine own_iload X4 C at_177 179 rfl rfl ?_
              refine own_ifeq X4 C at_179 182 196 rfl (by decide) (by decide) (i := 1) (by decide) (fun b10 => ?_) (fun b10 => ?_)
              · exfalso
                omega
              · refine own_iload X4 C at_182 184 rfl rfl ?_
                refine own_ifeq X4 C at_184 187 196 rfl (by decide) (by decide) (i := 1) (by decide) (fun b11 => ?_) (fun b11 => ?_)
                · exfalso
                  omega
                · refine own_iload X4 C at_187 189 rfl rfl ?_
                  refine own_ifeq X4 C at_189 192 196 rfl (by decide) (by decide) (i := 1) (by decide) (fun b12 => ?_) (fun b12 => ?_)
                  · exfalso
                    omega
                  · refine own_iconst X4 C at_192 193 rfl (1) rfl ?_
                    refine own_goto X4 C at_193 197 (by decide) (by decide) ?_
                    refine own_iretN X4 C .boolean rfl (by simp) at_197 (by decide) (by decide) (1) (by decide) ?_
                    exact ⟨rfl, Fr.nil _⟩
          · exfalso
            omega
  · refine own_ldc2 X1 C (own_w hw 9 rfl) at_46 49 rfl ?_
    refine own_goto X1 C at_49 53 (by decide) (by decide) ?_
    refine own_lstore X1 C at_53 55 rfl #[.val (.int ia0), .val (.int ia1), .val (.int ia2), .val (.int v3), .val (.int v5), .val (.int v6), .val (.int v8), .val (.int z1), .val (.long (65535 : Int64)), .second, .unset, .unset, .unset, .unset, .unset, .unset, .unset, .unset, .unset, .unset, .unset] rfl ?_
    refine own_ldc2 X1 C (own_w hw 10 rfl) at_55 58 rfl ?_
    refine own_iload X1 C at_58 60 rfl rfl ?_
    refine own_iconst X1 C at_60 61 rfl (2) rfl ?_
    refine own_iadd X1 C at_61 62 rfl (fun v24 ev24 => ?_)
    have t1 := c_iadd v5 2
    rw [← ev24] at t1
    have t2 := rng32 v24
    have t3 : (2 : Int32).toInt = 2 := by decide
    have t4 : v24.toInt = v5.toInt + 2 := by omega
    refine own_i2l X1 C at_62 63 rfl (fun v25 ev25 => ?_)
    have t5 := c_i2l v24
    rw [← ev25] at t5
    refine own_ldiv X1 C at_63 64 rfl (own_nz64 (by omega)) (fun v26 ev26 => ?_)
    have t6 : v25 ≠ -1 := by
      intro q; rw [q] at t5
      have t7 : (-1 : Int64).toInt = -1 := by decide
      omega
    have st1 : v26.toInt = 65536 / (v5.toInt + 2) := by
      rw [ev26, (c_ldiv 65536 v25 (v5.toInt + 2) (by omega) t6).1 (by decide)]
      rfl
    have sb := own_stepI v5.toInt.toNat (by omega)
    have sb2 : ((v5.toInt.toNat : Nat) : Int) = v5.toInt := by omega
    rw [sb2] at sb
    refine own_lstore X1 C at_64 66 rfl #[.val (.int ia0), .val (.int ia1), .val (.int ia2), .val (.int v3), .val (.int v5), .val (.int v6), .val (.int v8), .val (.int z1), .val (.long (65535 : Int64)), .second, .val (.long v26), .second, .unset, .unset, .unset, .unset, .unset, .unset, .unset, .unset, .unset] rfl ?_
    refine own_iload_n X1 C at_66 67 rfl rfl ?_
    refine own_i2l X1 C at_67 68 rfl (fun v27 ev27 => ?_)
    have c1 := c_i2l v3
    rw [← ev27] at c1
    refine own_lload X1 C at_68 70 rfl rfl ?_
    refine own_iload_n X1 C at_70 71 rfl rfl ?_
    refine own_i2l X1 C at_71 72 rfl (fun v28 ev28 => ?_)
    have c2 := c_i2l v3
    rw [← ev28] at c2
    refine own_lsub X1 C at_72 73 rfl (fun v29 ev29 => ?_)
    have d1 := c_lsub (65535 : Int64) v28
    rw [← ev29] at d1
    have d2 : ((65535 : Int64)).toInt = 65535 := by decide
    have d3 := rng64 v29
    have d4 : v29.toInt = 65535 - v3.toInt := by omega
    refine own_lload X1 C at_73 75 rfl rfl ?_
    refine own_lmul X1 C at_75 76 rfl (fun v30 ev30 => ?_)
    have m1 := c_lmul v29 v26
    rw [← ev30, d4, st1] at m1
    have m2 := rng64 v30
    have m3 := mc (a := 65535 - v3.toInt) (b := 65536 / (v5.toInt + 2)) (l1 := -65534) (h1 := 65534) (l2 := 0) (h2 := 32768) (by omega) (by omega) (by omega) (by omega)
    have hN : own_N 65535 v3.toInt v5.toInt = v3.toInt + (65535 - v3.toInt) * (65536 / (v5.toInt + 2)) / 65536 := rfl
    generalize hP : (65535 - v3.toInt) * (65536 / (v5.toInt + 2)) = P at m1 m3 hN
    have m4 : v30.toInt = P := by omega
    refine own_callE X1 C (own_w hw 11 rfl) (own_w hw 12 rfl) (own_w hw 13 rfl) (own_w hw 14 rfl) (by decide) (own_rm_floorDiv65536 l Z a0 hw v30 h) e1 own_pd_J_R_J [(.long v30)] rfl rfl rfl rfl 2 rfl (by decide) (by decide) rfl rfl (by decide) (by decide) at_76 79 rfl (fun T13 w13 q13 X13 e13 => ?_)
    obtain ⟨z13, rfl, hfl⟩ := q13
    refine own_ladd X13 C at_79 80 rfl (fun v31 ev31 => ?_)
    have n1 := c_ladd v27 z13
    rw [← ev31] at n1
    have n2 := rng64 v31
    have n3 : v31.toInt = own_N 65535 v3.toInt v5.toInt := by omega
    refine own_lstore X13 C at_80 82 rfl #[.val (.int ia0), .val (.int ia1), .val (.int ia2), .val (.int v3), .val (.int v5), .val (.int v6), .val (.int v8), .val (.int z1), .val (.long (65535 : Int64)), .second, .val (.long v26), .second, .val (.long v31), .second, .unset, .unset, .unset, .unset, .unset, .unset, .unset] rfl ?_
    refine own_iload X13 C at_82 84 rfl rfl ?_
    refine own_iconst X13 C at_84 85 rfl (1) rfl ?_
    refine own_iadd X13 C at_85 86 rfl (fun v32 ev32 => ?_)
    have o1 := c_iadd v5 1
    rw [← ev32] at o1
    have o2 := rng32 v32
    refine own_bipush X13 C at_86 88 rfl (30) rfl ?_
    refine own_callP X13 C (own_w hw 15 rfl) (own_w hw 16 rfl) (own_w hw 17 rfl) (own_w hw 18 rfl) (by decide) (own_rm_min l Z a0 hw v32 (30 : Int32) h) e13 own_pd_II_R_I [(.int v32), (.int (30 : Int32))] rfl rfl rfl rfl 0 rfl (by decide) (by decide) rfl rfl (by decide) (by decide) at_88 91 rfl (fun T14 X14 e14 => ?_)
    have o3 : (own_min v32 30).toInt = own_C v5.toInt := by
      have o4 : (30 : Int32).toInt = 30 := by decide
      unfold own_min own_C
      split <;> split <;> omega
    have oC : 1 ≤ own_C v5.toInt ∧ own_C v5.toInt ≤ 30 := by unfold own_C; split <;> omega
    refine own_istore X14 C at_91 93 rfl #[.val (.int ia0), .val (.int ia1), .val (.int ia2), .val (.int v3), .val (.int v5), .val (.int v6), .val (.int v8), .val (.int z1), .val (.long (65535 : Int64)), .second, .val (.long v26), .second, .val (.long v31), .second, .val (.int (own_min v32 (30 : Int32))), .unset, .unset, .unset, .unset, .unset, .unset] rfl ?_
    refine own_lload X14 C at_93 95 rfl rfl ?_
    refine own_iconst X14 C at_95 96 rfl (5) rfl ?_
    refine own_lshl X14 C at_96 97 rfl (fun v33 ev33 => ?_)
    have q1 := c_lshl v31 5 5 (by decide)
    rw [← ev33] at q1
    have q2 := rng64 v33
    refine own_iload X14 C at_97 99 rfl rfl ?_
    refine own_i2l X14 C at_99 100 rfl (fun v34 ev34 => ?_)
    have q3 := c_i2l (own_min v32 (30 : Int32))
    rw [← ev34] at q3
    refine own_lor X14 C at_100 101 rfl (fun v35 ev35 => ?_)
    have q4 := c_orL v33 v34 5 (by decide) 32 (by decide) (by omega) (by omega) (by omega)
    rw [← ev35] at q4
    have q5 := rng64 v35
    refine own_lstore X14 C at_101 103 rfl #[.val (.int ia0), .val (.int ia1), .val (.int ia2), .val (.int v3), .val (.int v5), .val (.int v6), .val (.int v8), .val (.int z1), .val (.long (65535 : Int64)), .second, .val (.long v26), .second, .val (.long v31), .second, .val (.int (own_min v32 (30 : Int32))), .val (.long v35), .second, .unset, .unset, .unset, .unset] rfl ?_
    refine own_iload X14 C at_103 105 rfl rfl ?_
    refine own_i2l X14 C at_105 106 rfl (fun v36 ev36 => ?_)
    have q6 := c_i2l z1
    rw [← ev36] at q6
    refine own_lload X14 C at_106 108 rfl rfl ?_
    refine own_lcmp X14 C at_108 109 rfl (fun v37 ev37a ev37b ev37c => ?_)
    refine own_ifne X14 C at_109 112 116 rfl (by decide) (by decide) (i := v37.toInt) rfl (fun b15 => ?_) (fun b15 => ?_)
    · exfalso
      omega
    · refine own_iconst X14 C at_112 113 rfl (1) rfl ?_
      refine own_goto X14 C at_113 117 (by decide) (by decide) ?_
      refine own_istore X14 C at_117 119 rfl #[.val (.int ia0), .val (.int ia1), .val (.int ia2), .val (.int v3), .val (.int v5), .val (.int v6), .val (.int v8), .val (.int z1), .val (.long (65535 : Int64)), .second, .val (.long v26), .second, .val (.long v31), .second, .val (.int (own_min v32 (30 : Int32))), .val (.long v35), .second, .val (.int (1 : Int32)), .unset, .unset, .unset] rfl ?_
      refine own_iload X14 C at_119 121 rfl rfl ?_
      refine own_iconst X14 C at_121 122 rfl (5) rfl ?_
      refine own_iushr X14 C at_122 123 rfl (fun v38 ev38 => ?_)
      have q7 := c_iushr z1 5 5 (by decide) (by decide)
      rw [← ev38] at q7
      have hg := own_got (hr0 (by omega)) (by omega) oC q7
      clear q7 q6 q5 q4 q3 q2 q1 n3 n2 n1 m4 m3 m2 m1 hN o1 o2 o3 p1 p2 p3 p4
      refine own_istore X14 C at_123 125 rfl #[.val (.int ia0), .val (.int ia1), .val (.int ia2), .val (.int v3), .val (.int v5), .val (.int v6), .val (.int v8), .val (.int z1), .val (.long (65535 : Int64)), .second, .val (.long v26), .second, .val (.long v31), .second, .val (.int (own_min v32 (30 : Int32))), .val (.long v35), .second, .val (.int (1 : Int32)), .val (.int v38), .unset, .unset] rfl ?_
      refine own_iload X14 C at_125 127 rfl rfl ?_
      refine own_iconst X14 C at_127 128 rfl (1) rfl ?_
      refine own_icmplt X14 C at_128 131 142 rfl (by decide) (by decide) (i := v38.toInt) rfl (j := 1) (by decide) (fun b16 => ?_) (fun b16 => ?_)
      · exfalso
        omega
      · refine own_iload X14 C at_131 133 rfl rfl ?_
        refine own_ldc X14 C (own_w hw 1 rfl) at_133 135 rfl ?_
        refine own_icmpgt X14 C at_135 138 142 rfl (by decide) (by decide) (i := v38.toInt) rfl (j := 65535) (by decide) (fun b17 => ?_) (fun b17 => ?_)
        · exfalso
          omega
        · refine own_iconst X14 C at_138 139 rfl (1) rfl ?_
          refine own_goto X14 C at_139 143 (by decide) (by decide) ?_
          refine own_istore X14 C at_143 145 rfl #[.val (.int ia0), .val (.int ia1), .val (.int ia2), .val (.int v3), .val (.int v5), .val (.int v6), .val (.int v8), .val (.int z1), .val (.long (65535 : Int64)), .second, .val (.long v26), .second, .val (.long v31), .second, .val (.int (own_min v32 (30 : Int32))), .val (.long v35), .second, .val (.int (1 : Int32)), .val (.int v38), .val (.int (1 : Int32)), .unset] rfl ?_
          refine own_iload X14 C at_145 147 rfl rfl ?_
          refine own_ifne X14 C at_147 150 164 rfl (by decide) (by decide) (i := v6.toInt) rfl (fun b18 => ?_) (fun b18 => ?_)
          · exfalso
            omega
          · refine own_iload X14 C at_150 152 rfl rfl ?_
            refine own_iload_n X14 C at_152 153 rfl rfl ?_
            refine own_icmplt X14 C at_153 156 160 rfl (by decide) (by decide) (i := v38.toInt) rfl (j := v3.toInt) rfl (fun b19 => ?_) (fun b19 => ?_)
            · exfalso
              omega
            · refine own_iconst X14 C at_156 157 rfl (1) rfl ?_
              refine own_goto X14 C at_157 175 (by decide) (by decide) ?_
              refine own_istore X14 C at_175 177 rfl #[.val (.int ia0), .val (.int ia1), .val (.int ia2), .val (.int v3), .val (.int v5), .val (.int v6), .val (.int v8), .val (.int z1), .val (.long (65535 : Int64)), .second, .val (.long v26), .second, .val (.long v31), .second, .val (.int (own_min v32 (30 : Int32))), .val (.long v35), .second, .val (.int (1 : Int32)), .val (.int v38), .val (.int (1 : Int32)), .val (.int (1 : Int32))] rfl ?_
              refine own_iload X14 C at_177 179 rfl rfl ?_
              refine own_ifeq X14 C at_179 182 196 rfl (by decide) (by decide) (i := 1) (by decide) (fun b20 => ?_) (fun b20 => ?_)
              · exfalso
                omega
              · refine own_iload X14 C at_182 184 rfl rfl ?_
                refine own_ifeq X14 C at_184 187 196 rfl (by decide) (by decide) (i := 1) (by decide) (fun b21 => ?_) (fun b21 => ?_)
                · exfalso
                  omega
                · refine own_iload X14 C at_187 189 rfl rfl ?_
                  refine own_ifeq X14 C at_189 192 196 rfl (by decide) (by decide) (i := 1) (by decide) (fun b22 => ?_) (fun b22 => ?_)
                  · exfalso
                    omega
                  · refine own_iconst X14 C at_192 193 rfl (1) rfl ?_
                    refine own_goto X14 C at_193 197 (by decide) (by decide) ?_
                    refine own_iretN X14 C .boolean rfl (by simp) at_197 (by decide) (by decide) (1) (by decide) ?_
                    exact ⟨rfl, Fr.nil _⟩
theorem own_len31 {n : Nat} (q : (n : Int) = (31 : Int32).toInt) : n = 31 := by
  have q1 : (31 : Int32).toInt = 31 := by decide
  omega
theorem own_el (cl : Cell) (e0 : cl.slots[(0 : Int32).toNatClampNeg]? = some (.int 32768)) (e1 : cl.slots[(1 : Int32).toNatClampNeg]? = some (.int 21845)) (e2 : cl.slots[(2 : Int32).toNatClampNeg]? = some (.int 16384)) (e3 : cl.slots[(3 : Int32).toNatClampNeg]? = some (.int 13107)) (e4 : cl.slots[(4 : Int32).toNatClampNeg]? = some (.int 10922)) (e5 : cl.slots[(5 : Int32).toNatClampNeg]? = some (.int 9362)) (e6 : cl.slots[(6 : Int32).toNatClampNeg]? = some (.int 8192)) (e7 : cl.slots[(7 : Int32).toNatClampNeg]? = some (.int 7281)) (e8 : cl.slots[(8 : Int32).toNatClampNeg]? = some (.int 6553)) (e9 : cl.slots[(9 : Int32).toNatClampNeg]? = some (.int 5957)) (e10 : cl.slots[(10 : Int32).toNatClampNeg]? = some (.int 5461)) (e11 : cl.slots[(11 : Int32).toNatClampNeg]? = some (.int 5041)) (e12 : cl.slots[(12 : Int32).toNatClampNeg]? = some (.int 4681)) (e13 : cl.slots[(13 : Int32).toNatClampNeg]? = some (.int 4369)) (e14 : cl.slots[(14 : Int32).toNatClampNeg]? = some (.int 4096)) (e15 : cl.slots[(15 : Int32).toNatClampNeg]? = some (.int 3855)) (e16 : cl.slots[(16 : Int32).toNatClampNeg]? = some (.int 3640)) (e17 : cl.slots[(17 : Int32).toNatClampNeg]? = some (.int 3449)) (e18 : cl.slots[(18 : Int32).toNatClampNeg]? = some (.int 3276)) (e19 : cl.slots[(19 : Int32).toNatClampNeg]? = some (.int 3120)) (e20 : cl.slots[(20 : Int32).toNatClampNeg]? = some (.int 2978)) (e21 : cl.slots[(21 : Int32).toNatClampNeg]? = some (.int 2849)) (e22 : cl.slots[(22 : Int32).toNatClampNeg]? = some (.int 2730)) (e23 : cl.slots[(23 : Int32).toNatClampNeg]? = some (.int 2621)) (e24 : cl.slots[(24 : Int32).toNatClampNeg]? = some (.int 2520)) (e25 : cl.slots[(25 : Int32).toNatClampNeg]? = some (.int 2427)) (e26 : cl.slots[(26 : Int32).toNatClampNeg]? = some (.int 2340)) (e27 : cl.slots[(27 : Int32).toNatClampNeg]? = some (.int 2259)) (e28 : cl.slots[(28 : Int32).toNatClampNeg]? = some (.int 2184)) (e29 : cl.slots[(29 : Int32).toNatClampNeg]? = some (.int 2114)) (e30 : cl.slots[(30 : Int32).toNatClampNeg]? = some (.int 2048)) (i : Nat) (hi : i < 31) : cl.slots[i]? = some (.int (own_step i)) := by
  rcases (show i = 0 ∨ i = 1 ∨ i = 2 ∨ i = 3 ∨ i = 4 ∨ i = 5 ∨ i = 6 ∨ i = 7 ∨ i = 8 ∨ i = 9 ∨ i = 10 ∨ i = 11 ∨ i = 12 ∨ i = 13 ∨ i = 14 ∨ i = 15 ∨ i = 16 ∨ i = 17 ∨ i = 18 ∨ i = 19 ∨ i = 20 ∨ i = 21 ∨ i = 22 ∨ i = 23 ∨ i = 24 ∨ i = 25 ∨ i = 26 ∨ i = 27 ∨ i = 28 ∨ i = 29 ∨ i = 30 by omega) with rfl | rfl | rfl | rfl | rfl | rfl | rfl | rfl | rfl | rfl | rfl | rfl | rfl | rfl | rfl | rfl | rfl | rfl | rfl | rfl | rfl | rfl | rfl | rfl | rfl | rfl | rfl | rfl | rfl | rfl | rfl
  all_goals assumption
set_option maxRecDepth 65536 in
set_option maxHeartbeats 4000000 in
theorem own_comes_1 {Post : Tables → Env → Array Value → State → Outcome → State → Prop} (hpost : ∀ tb e args s v u, (limb_1_1.after args s (.returned v) u = true ∧ limb_1_2.after args s (.returned v) u = true ∧ True) → FrameEnd s (.returned v) u (Jvm.fieldLocs frame_1_writes args s ++ Jvm.arrayLocs frame_1_arrays args s ++ Jvm.staticLocs frame_1_statics s) 0 0 → Post tb e args s (.returned v) u) :
    ArmFor flags0 classFile x code maxLocals ret World_1 tables_1 room_1 Calls_1 rest_1 Pre_1 Post := by
  intro l hfl _ _ p e ha hc hk s m args below hf hA hF happ hP
  obtain ⟨hcalls, hrest, hpre⟩ := hP
  obtain ⟨-, -, -, hnamed, -, -, -, hat⟩ := (Spec.applies_iff hf).mp happ
  obtain ⟨hg, hn⟩ := and_e (Cond.before_iff.mp (show (Jvm.Cond.and given_1 narrow_1).before args s = true from hpre))
  obtain ⟨g0, g0r⟩ := and_e hg
  obtain ⟨g1, g1r⟩ := and_e g0r
  obtain ⟨g2, g2r⟩ := and_e g1r
  obtain ⟨w0, w1, w2, rfl⟩ : ∃ w0 w1 w2 : Value, args = #[w0, w1, w2] := by
    have hs : args.size = 3 := by simpa [Cond.value, given_1] using g0
    obtain ⟨L⟩ := args
    match L, hs with
    | [w0, w1, w2], _ => exact ⟨w0, w1, w2, rfl⟩
  have hw := fun d (hd : d ∈ tables_1) => atoms_spec (ws := Jvm.Cond.code x code maxLocals ret :: tables_1) hat d (List.mem_cons_of_mem _ hd)
  have hfit : Fit s := fun {y c} hc i hi => by
    obtain ⟨ha, rfl⟩ := Array.getElem?_eq_some_iff.mp hc
    have q := List.all_eq_true.mp ((Array.all_eq_true_iff_forall_mem.mp hF) _ (Array.getElem_mem ha)) i (List.mem_range.mpr hi)
    simpa [Array.getElem?_eq_getElem hi] using q
  obtain ⟨i0, q0⟩ := is_v g1
  obtain rfl : w0 = (.int i0) := Option.some.inj q0
  obtain ⟨i1, q1⟩ := is_v g2
  obtain rfl : w1 = (.int i1) := Option.some.inj q1
  obtain ⟨i2, q2⟩ := is_v g2r
  obtain rfl : w2 = (.int i2) := Option.some.inj q2
  obtain ⟨n0, n0r⟩ := and_e hn
  obtain ⟨n1, n1r⟩ := and_e n0r
  obtain ⟨n2, n2r⟩ := and_e n1r
  obtain ⟨n3, n3r⟩ := and_e n2r
  obtain ⟨n4, n4r⟩ := and_e n3r
  obtain ⟨n5, n5r⟩ := and_e n4r
  obtain ⟨n6, n6r⟩ := and_e n5r
  obtain ⟨n7, n7r⟩ := and_e n6r
  obtain ⟨n8, n8r⟩ := and_e n7r
  obtain ⟨n9, n9r⟩ := and_e n8r
  obtain ⟨n10, n10r⟩ := and_e n9r
  obtain ⟨n11, n11r⟩ := and_e n10r
  obtain ⟨n12, n12r⟩ := and_e n11r
  obtain ⟨n13, n13r⟩ := and_e n12r
  obtain ⟨n14, n14r⟩ := and_e n13r
  obtain ⟨n15, n15r⟩ := and_e n14r
  obtain ⟨n16, n16r⟩ := and_e n15r
  obtain ⟨n17, n17r⟩ := and_e n16r
  obtain ⟨n18, n18r⟩ := and_e n17r
  obtain ⟨n19, n19r⟩ := and_e n18r
  obtain ⟨n20, n20r⟩ := and_e n19r
  obtain ⟨n21, n21r⟩ := and_e n20r
  obtain ⟨n22, n22r⟩ := and_e n21r
  obtain ⟨n23, n23r⟩ := and_e n22r
  obtain ⟨n24, n24r⟩ := and_e n23r
  obtain ⟨n25, n25r⟩ := and_e n24r
  obtain ⟨n26, n26r⟩ := and_e n25r
  obtain ⟨n27, n27r⟩ := and_e n26r
  obtain ⟨n28, n28r⟩ := and_e n27r
  obtain ⟨n29, n29r⟩ := and_e n28r
  obtain ⟨n30, n30r⟩ := and_e n29r
  obtain ⟨n31, n31r⟩ := and_e n30r
  obtain ⟨a_STEPS, ev_STEPS⟩ := arr_v n0
  have S_STEPS : Sta s s.heap "com/example/frugal_frame/frugalframe/RangeCoder" "STEPS" "[I" (.ref a_STEPS) := Sta.start ev_STEPS (Or.inr ⟨(own_w hw 4 rfl), (own_w hw 8 rfl)⟩)
  obtain ⟨cl_STEPS, Ar_STEPS⟩ := Arr.start ev_STEPS n0
  have len_STEPS := own_lenI ev_STEPS Ar_STEPS n1
  have el_STEPS_0 := own_elI ev_STEPS Ar_STEPS n2
  have el_STEPS_1 := own_elI ev_STEPS Ar_STEPS n3
  have el_STEPS_2 := own_elI ev_STEPS Ar_STEPS n4
  have el_STEPS_3 := own_elI ev_STEPS Ar_STEPS n5
  have el_STEPS_4 := own_elI ev_STEPS Ar_STEPS n6
  have el_STEPS_5 := own_elI ev_STEPS Ar_STEPS n7
  have el_STEPS_6 := own_elI ev_STEPS Ar_STEPS n8
  have el_STEPS_7 := own_elI ev_STEPS Ar_STEPS n9
  have el_STEPS_8 := own_elI ev_STEPS Ar_STEPS n10
  have el_STEPS_9 := own_elI ev_STEPS Ar_STEPS n11
  have el_STEPS_10 := own_elI ev_STEPS Ar_STEPS n12
  have el_STEPS_11 := own_elI ev_STEPS Ar_STEPS n13
  have el_STEPS_12 := own_elI ev_STEPS Ar_STEPS n14
  have el_STEPS_13 := own_elI ev_STEPS Ar_STEPS n15
  have el_STEPS_14 := own_elI ev_STEPS Ar_STEPS n16
  have el_STEPS_15 := own_elI ev_STEPS Ar_STEPS n17
  have el_STEPS_16 := own_elI ev_STEPS Ar_STEPS n18
  have el_STEPS_17 := own_elI ev_STEPS Ar_STEPS n19
  have el_STEPS_18 := own_elI ev_STEPS Ar_STEPS n20
  have el_STEPS_19 := own_elI ev_STEPS Ar_STEPS n21
  have el_STEPS_20 := own_elI ev_STEPS Ar_STEPS n22
  have el_STEPS_21 := own_elI ev_STEPS Ar_STEPS n23
  have el_STEPS_22 := own_elI ev_STEPS Ar_STEPS n24
  have el_STEPS_23 := own_elI ev_STEPS Ar_STEPS n25
  have el_STEPS_24 := own_elI ev_STEPS Ar_STEPS n26
  have el_STEPS_25 := own_elI ev_STEPS Ar_STEPS n27
  have el_STEPS_26 := own_elI ev_STEPS Ar_STEPS n28
  have el_STEPS_27 := own_elI ev_STEPS Ar_STEPS n29
  have el_STEPS_28 := own_elI ev_STEPS Ar_STEPS n30
  have el_STEPS_29 := own_elI ev_STEPS Ar_STEPS n31
  have el_STEPS_30 := own_elI ev_STEPS Ar_STEPS n31r
  have AT : OwnAr s s.heap a_STEPS .int 31 (fun i => .int (own_step i)) := ⟨cl_STEPS, Ar_STEPS, own_len31 len_STEPS, fun i hi => own_el cl_STEPS el_STEPS_0 el_STEPS_1 el_STEPS_2 el_STEPS_3 el_STEPS_4 el_STEPS_5 el_STEPS_6 el_STEPS_7 el_STEPS_8 el_STEPS_9 el_STEPS_10 el_STEPS_11 el_STEPS_12 el_STEPS_13 el_STEPS_14 el_STEPS_15 el_STEPS_16 el_STEPS_17 el_STEPS_18 el_STEPS_19 el_STEPS_20 el_STEPS_21 el_STEPS_22 el_STEPS_23 el_STEPS_24 el_STEPS_25 el_STEPS_26 el_STEPS_27 el_STEPS_28 el_STEPS_29 el_STEPS_30 i hi⟩
  obtain ⟨n, o, h1, h2, h3, _, L, rfl, ⟨rfl, N⟩, hq⟩ := own_rm_law l s _ hw i0 i1 i2 s.heap s.heap.size a_STEPS S_STEPS AT p e ha hc hk s m _ below hf ((Spec.applies_iff_loose hf).mp happ).1 ⟨rfl, State.Warmed39.refl s, rfl⟩ trivial
  refine ⟨n, _, h1, h2, h3, hpost _ _ _ _ _ _ ⟨Cond.after_iff.mpr rfl, Cond.after_iff.mpr (eq_i res_at (Term.int_eval (1)) rfl), trivial⟩ ⟨hq.1, hq.2.1, (hq.2.2.sift fun y hy => Or.inr (N y hy)).mono (by decide) (by decide)⟩⟩
theorem main_1_1 : Claimed_1_1 := own_comes_1 fun _ _ _ _ _ _ h hF => ⟨h.1, hF⟩
theorem main_1_2 : Claimed_1_2 := own_comes_1 fun _ _ _ _ _ _ h hF => ⟨h.2.1, hF⟩
end Jvm.Pilot.@@N@@
namespace Jvm.Pilot.@@N@@
open Jvm Jvm.ClassFile Sem Op Lib Jvm.Free Jvm.Stand Jvm.Pilot.@@N@@.Jvm.D
/-! MADE BY PROGRAM (witnessworld.py) out of the Statement's table words and the real class files: 10 classes; the members and pool entries that the words name. The judged class is class 1, her method 2. -/
namespace start1
open Jvm.ClassFile
def u (s : String) : CpInfo := .utf8 (stringToUtf16 s)
/-- a pool by its gaps: so many unusable entries, then the entry; so many at the end -/
def gap : Nat → List CpInfo → List CpInfo
  | 0, r => r
  | n + 1, r => .unusable :: gap n r
def poolList (es : List (Nat × CpInfo)) (last : Nat) : List CpInfo := es.foldr (fun e r => gap e.1 (e.2 :: r)) (gap last [])
def pool (es : List (Nat × CpInfo)) (last : Nat) : Array CpInfo := ⟨poolList es last⟩
def fileOf (pool : Array CpInfo) (this : Nat) (attrs : Array Attribute := #[]) (ms : Array MethodInfo := #[]) (fl : Nat := 33) (sup : Nat := 0) (ifs : Array Nat := #[]) (fds : Array FieldInfo := #[]) : ClassFile where
  minorVersion := 0
  majorVersion := 65
  constantPool := pool
  accessFlags := fl
  thisClass := this
  superClass := sup
  interfaces := ifs
  fields := fds
  methods := ms
  attributes := attrs
def plain (name : String) (sup : Option ClassId) : Class where
  name := name
  kind := .ordinary
  loader := none
  accessFlags := 33
  super := sup
  interfaces := #[]
  cf := none
  fields := #[]
  methods := #[]
  instanceTypes := #[]
  staticTypes := #[]
  resolved := #[]
  callSites := []
  init := .initialized
  statics := none
  mirror := none

def pool0 : Array CpInfo := pool [(5, u "<init>"), (0, u "()V"), (1, .class_ 10), (1, u "java/lang/Object")] 113

def k0m0 : Method := { name := "<init>", desc := "()V", sig := { parameters := [], returnType := none }, accessFlags := 1, code := none }
/-- java/lang/Object -/
def k0 : Class := { plain "java/lang/Object" none with
  accessFlags := 33
  interfaces := #[]
  cf := some (fileOf pool0 8 #[] #[{ accessFlags := 1, nameIndex := 5, descriptorIndex := 6, attributes := #[] }] 33 0 #[] #[])
  fields := #[]
  methods := #[k0m0]
  instanceTypes := #[]
  staticTypes := #[]
  resolved := Array.replicate 124 none
  statics := none }

def pool1 : Array CpInfo := pool [(2, .class_ 4), (1, u "java/lang/Object"), (0, u "<init>"), (0, u "()V"), (0, .long 65536), (1, .integer 2147483647), (0, .integer 65535), (0, .methodref 12 13), (0, .class_ 14), (0, .nameAndType 15 16), (0, u "com/example/frugal_frame/frugalframe/RangeCoder"), (0, u "learn"), (0, u "(II)I"), (0, .long 65535), (1, .methodref 20 21), (0, .class_ 22), (0, .nameAndType 23 24), (0, u "com/example/frugal_frame/frugalframe/RangeCoderLearnPinLaw"), (0, u "floorDiv65536"), (0, u "(J)J"), (0, .methodref 26 27), (0, .class_ 28), (0, .nameAndType 29 16), (0, u "java/lang/Math"), (0, u "min"), (3, u "law"), (0, u "(III)Z")] 2

def k1m0 : Method := { name := "<init>", desc := "()V", sig := { parameters := [], returnType := none }, accessFlags := 1, code := none }
def k1c1 : Code := { maxStack := 4, maxLocals := 4, code := method_2_code, exceptionTable := #[], attributes := #[] }
def k1m1 : Method := { name := "floorDiv65536", desc := "(J)J", sig := { parameters := [.long], returnType := some .long }, accessFlags := 10, code := some k1c1 }
def k1c2 : Code := { maxStack := 6, maxLocals := 21, code := code, exceptionTable := #[], attributes := #[] }
def k1m2 : Method := { name := "law", desc := "(III)Z", sig := { parameters := [.int, .int, .int], returnType := some .boolean }, accessFlags := 9, code := some k1c2 }
/-- com/example/frugal_frame/frugalframe/RangeCoderLearnPinLaw -/
def k1 : Class := { plain "com/example/frugal_frame/frugalframe/RangeCoderLearnPinLaw" (some 0) with
  accessFlags := 49
  interfaces := #[]
  cf := some (fileOf pool1 20 #[] #[{ accessFlags := 1, nameIndex := 5, descriptorIndex := 6, attributes := #[] }, { accessFlags := 10, nameIndex := 23, descriptorIndex := 24, attributes := #[] }, { accessFlags := 9, nameIndex := 33, descriptorIndex := 34, attributes := #[] }] 49 2 #[] #[])
  fields := #[]
  methods := #[k1m0, k1m1, k1m2]
  instanceTypes := #[]
  staticTypes := #[]
  resolved := Array.replicate 37 none
  statics := none }

def pool2 : Array CpInfo := pool [(1, .class_ 2), (0, u "com/example/frugal_frame/frugalframe/RangeCoder"), (1, .class_ 6), (1, u "java/lang/Object"), (0, u "<init>"), (0, u "()V"), (4, .integer 65535), (0, .fieldref 1 15), (0, .nameAndType 16 17), (0, u "STEPS"), (0, u "[I"), (5, u "COUNT_BITS"), (0, u "I"), (2, u "INITIAL"), (1, u "MAX_COUNT"), (1, u "SETTLED_SHIFT"), (0, u "COUNT_MASK"), (1, u "SURE_ZERO"), (0, u "SURE_ONE"), (4, u "(II)I"), (6, u "learn")] 4

def k2m0 : Method := { name := "<init>", desc := "()V", sig := { parameters := [], returnType := none }, accessFlags := 0, code := none }
def k2c1 : Code := { maxStack := 4, maxLocals := 6, code := prog_38_method_7_code, exceptionTable := #[], attributes := #[] }
def k2m1 : Method := { name := "learn", desc := "(II)I", sig := { parameters := [.int, .int], returnType := some .int }, accessFlags := 8, code := some k2c1 }
/-- com/example/frugal_frame/frugalframe/RangeCoder -/
def k2 : Class := { plain "com/example/frugal_frame/frugalframe/RangeCoder" (some 0) with
  accessFlags := 1056
  interfaces := #[]
  cf := some (fileOf pool2 1 #[] #[{ accessFlags := 0, nameIndex := 7, descriptorIndex := 8, attributes := #[] }, { accessFlags := 8, nameIndex := 47, descriptorIndex := 40, attributes := #[] }] 1056 4 #[] #[{ accessFlags := 26, nameIndex := 23, descriptorIndex := 24, attributes := #[] }, { accessFlags := 24, nameIndex := 27, descriptorIndex := 24, attributes := #[] }, { accessFlags := 26, nameIndex := 29, descriptorIndex := 24, attributes := #[] }, { accessFlags := 26, nameIndex := 31, descriptorIndex := 24, attributes := #[] }, { accessFlags := 26, nameIndex := 32, descriptorIndex := 24, attributes := #[] }, { accessFlags := 26, nameIndex := 34, descriptorIndex := 24, attributes := #[] }, { accessFlags := 26, nameIndex := 35, descriptorIndex := 24, attributes := #[] }, { accessFlags := 26, nameIndex := 16, descriptorIndex := 17, attributes := #[] }])
  fields := #[{ name := "COUNT_BITS", type := .int, accessFlags := 26, slot := 0, constantValue := 0 }, { name := "INITIAL", type := .int, accessFlags := 24, slot := 1, constantValue := 0 }, { name := "MAX_COUNT", type := .int, accessFlags := 26, slot := 2, constantValue := 0 }, { name := "SETTLED_SHIFT", type := .int, accessFlags := 26, slot := 3, constantValue := 0 }, { name := "COUNT_MASK", type := .int, accessFlags := 26, slot := 4, constantValue := 0 }, { name := "SURE_ZERO", type := .int, accessFlags := 26, slot := 5, constantValue := 0 }, { name := "SURE_ONE", type := .int, accessFlags := 26, slot := 6, constantValue := 0 }, { name := "STEPS", type := (.array .int), accessFlags := 26, slot := 7, constantValue := 0 }]
  methods := #[k2m0, k2m1]
  instanceTypes := #[]
  staticTypes := #[.int, .int, .int, .int, .int, .int, .int, (.array .int)]
  resolved := Array.replicate 52 none
  statics := some 0 }

def pool3 : Array CpInfo := pool [(1, .class_ 2), (0, u "java/lang/Math"), (1, .class_ 6), (1, u "java/lang/Object"), (0, u "<init>"), (0, u "()V"), (89, .class_ 100), (1, u "java/lang/Math$RandomNumberGeneratorHolder"), (71, u "negativeZeroFloatBits"), (0, u "J"), (2, u "negativeZeroDoubleBits"), (24, u "min"), (43, u "$assertionsDisabled"), (0, u "Z"), (88, u "(II)I"), (2, u "twoToTheDoubleScaleDown"), (0, u "D"), (4, u "twoToTheDoubleScaleUp"), (9, u "E"), (3, u "PI"), (2, u "TAU"), (2, u "DEGREES_TO_RADIANS"), (0, u "RADIANS_TO_DEGREES")] 94

def k3m0 : Method := { name := "<init>", desc := "()V", sig := { parameters := [], returnType := none }, accessFlags := 2, code := none }
def k3c1 : Code := { maxStack := 2, maxLocals := 2, code := jdk_29_method_69_code, exceptionTable := #[], attributes := #[] }
def k3m1 : Method := { name := "min", desc := "(II)I", sig := { parameters := [.int, .int], returnType := some .int }, accessFlags := 9, code := some k3c1 }
/-- java/lang/Math -/
def k3 : Class := { plain "java/lang/Math" (some 0) with
  accessFlags := 49
  interfaces := #[]
  cf := some (fileOf pool3 1 #[.nestMembers #[98]] #[{ accessFlags := 2, nameIndex := 7, descriptorIndex := 8, attributes := #[] }, { accessFlags := 9, nameIndex := 201, descriptorIndex := 335, attributes := #[] }] 49 4 #[] #[{ accessFlags := 25, nameIndex := 354, descriptorIndex := 339, attributes := #[] }, { accessFlags := 25, nameIndex := 358, descriptorIndex := 339, attributes := #[] }, { accessFlags := 25, nameIndex := 361, descriptorIndex := 339, attributes := #[] }, { accessFlags := 26, nameIndex := 364, descriptorIndex := 339, attributes := #[] }, { accessFlags := 26, nameIndex := 365, descriptorIndex := 339, attributes := #[] }, { accessFlags := 26, nameIndex := 172, descriptorIndex := 173, attributes := #[] }, { accessFlags := 26, nameIndex := 176, descriptorIndex := 173, attributes := #[] }, { accessFlags := 8, nameIndex := 344, descriptorIndex := 339, attributes := #[] }, { accessFlags := 8, nameIndex := 338, descriptorIndex := 339, attributes := #[] }, { accessFlags := 4120, nameIndex := 245, descriptorIndex := 246, attributes := #[] }])
  fields := #[{ name := "E", type := .double, accessFlags := 25, slot := 0, constantValue := 0 }, { name := "PI", type := .double, accessFlags := 25, slot := 1, constantValue := 0 }, { name := "TAU", type := .double, accessFlags := 25, slot := 2, constantValue := 0 }, { name := "DEGREES_TO_RADIANS", type := .double, accessFlags := 26, slot := 3, constantValue := 0 }, { name := "RADIANS_TO_DEGREES", type := .double, accessFlags := 26, slot := 4, constantValue := 0 }, { name := "negativeZeroFloatBits", type := .long, accessFlags := 26, slot := 5, constantValue := 0 }, { name := "negativeZeroDoubleBits", type := .long, accessFlags := 26, slot := 6, constantValue := 0 }, { name := "twoToTheDoubleScaleUp", type := .double, accessFlags := 8, slot := 7, constantValue := 0 }, { name := "twoToTheDoubleScaleDown", type := .double, accessFlags := 8, slot := 8, constantValue := 0 }, { name := "$assertionsDisabled", type := .boolean, accessFlags := 4120, slot := 9, constantValue := 0 }]
  methods := #[k3m0, k3m1]
  instanceTypes := #[]
  staticTypes := #[.double, .double, .double, .double, .double, .long, .long, .double, .double, .boolean]
  resolved := Array.replicate 460 none
  statics := none }

def pool4 : Array CpInfo := pool [(1, u "java/lang/Cloneable"), (0, .class_ 1), (0, u "java/lang/Object"), (0, .class_ 3)] 3

/-- java/lang/Cloneable -/
def k4 : Class := { plain "java/lang/Cloneable" (some 0) with
  accessFlags := 1537
  interfaces := #[]
  cf := some (fileOf pool4 2 #[] #[] 1537 4 #[] #[])
  fields := #[]
  methods := #[]
  instanceTypes := #[]
  staticTypes := #[]
  resolved := Array.replicate 8 none
  statics := none }

def pool5 : Array CpInfo := pool [(1, u "java/io/Serializable"), (0, .class_ 1), (0, u "java/lang/Object"), (0, .class_ 3)] 3

/-- java/io/Serializable -/
def k5 : Class := { plain "java/io/Serializable" (some 0) with
  accessFlags := 1537
  interfaces := #[]
  cf := some (fileOf pool5 2 #[] #[] 1537 4 #[] #[])
  fields := #[]
  methods := #[]
  instanceTypes := #[]
  staticTypes := #[]
  resolved := Array.replicate 8 none
  statics := none }

/-- the primitive byte -/
def k6 : Class := { plain "byte" none with kind := .primitive 'B', accessFlags := 0x411 }
/-- [B -/
def k7 : Class := { plain "[B" (some 0) with kind := .array 6 .byte, interfaces := #[4, 5], accessFlags := 1041 }

/-- the primitive int -/
def k8 : Class := { plain "int" none with kind := .primitive 'I', accessFlags := 0x411 }
/-- [I -/
def k9 : Class := { plain "[I" (some 0) with kind := .array 8 .int, interfaces := #[4, 5], accessFlags := 1041 }

def heap : Heap := #[{ cls := 2, slots := #[.int 0, .int 0, .int 0, .int 0, .int 0, .int 0, .int 0, .ref 1], vm := .statics 2 },
  { cls := 9, slots := #[.int 32768, .int 21845, .int 16384, .int 13107, .int 10922, .int 9362, .int 8192, .int 7281, .int 6553, .int 5957, .int 5461, .int 5041, .int 4681, .int 4369, .int 4096, .int 3855, .int 3640, .int 3449, .int 3276, .int 3120, .int 2978, .int 2849, .int 2730, .int 2621, .int 2520, .int 2427, .int 2340, .int 2259, .int 2184, .int 2114, .int 2048], vm := .none }]
def classes : Array Class := #[k0, k1, k2, k3, k4, k5, k6, k7, k8, k9]
def interned : List (Array UInt16 × Addr) := []
def slotsUsed : Nat := 39
def theMethod : MethodId := ⟨1, 2⟩
def args0 : Array Value := #[.int 5, .int 3, .int 1]
def aboutOver (below : List Frame) : State where
  vm := { classes := classes, interned := interned.toArray }
  heap := heap
  slotsUsed := slotsUsed
  threads := #[{ frames := .invoking theMethod args0 :: below }]
def below0 : List Frame := [.native { method := ⟨0, 0⟩, args := #[] }]
def about1 : State := aboutOver below0
def p0 : Program := .bare "" "" ""
def e0 : Env := launch0.env 0 0 0
theorem w_frames : about1.frames = Frame.invoking theMethod args0 :: below0 := rfl
set_option maxRecDepth 65536 in
theorem w_args : argsFit about1.vm theMethod args0 = true := by decide +kernel
set_option maxRecDepth 65536 in
theorem w_heap : heapFits about1 = true := by decide +kernel
set_option maxRecDepth 65536 in
theorem w_runnable : about1.curStatus? = some .runnable := by decide +kernel
set_option maxRecDepth 65536 in
theorem w_alone : about1.alone = true := by decide +kernel
set_option maxRecDepth 65536 in
theorem w_named : about1.methodNamed? x = some theMethod := by decide +kernel
set_option maxRecDepth 65536 in
theorem w_hears : about1.hears theMethod below0 = true := by decide +kernel
set_option maxRecDepth 65536 in
theorem w_ripe : about1.ripe theMethod args0 below0 = true := by decide +kernel
theorem w_running : about1.status = .running := rfl
set_option maxRecDepth 65536 in
theorem w_room : about1.hasRoom e0.platform room_1 = true :=
  launch0.hasRoom_least _ room_1 (by decide +kernel) (by decide +kernel) (by decide +kernel) (by decide +kernel) (by decide +kernel) (by decide +kernel)
theorem allAtoms_all (ts : List Jvm.Cond) (a : Array Jvm.Value) (st : Jvm.State) : (allAtoms ts).before a st = ts.all (fun c => c.before a st) := by
  induction ts with
  | nil => rfl
  | cons c t ih =>
    show (Jvm.Cond.and c (allAtoms t)).before a st = _
    rw [Jvm.Cond.before_and, ih, List.all_cons]
def words1 : List Jvm.Cond := Jvm.Cond.code x code maxLocals ret :: tables_1
/-- a 'code' word, met by the world's own term for the bytes: nothing is compared byte by byte -/
theorem code_word {y : MethodName} {bytes : ByteArray} {mx : Nat} {rt : Option FieldType} {a : Array Value} {s : State} {m : MethodId} {meth : Method} {c : Code} (h1 : s.methodNamed? y = some m) (h2 : s.vm.method? m = some meth) (h3 : meth.code = some c) (h4 : c.code = bytes)
    (h5 : (c.maxLocals == mx && c.exceptionTable.isEmpty && decide (c.maxStack ≤ mostOperands) && decide (meth.sig.returnType = rt) && !meth.locks && decide (parseMethodDescriptor y.desc = some meth.sig)) = true) : (Jvm.Cond.code y bytes mx rt).before a s = true := by
  simp only [Bool.and_eq_true, beq_iff_eq, Bool.not_eq_true', decide_eq_true_eq] at h5
  obtain ⟨⟨⟨⟨⟨g1, g2⟩, g3⟩, g4⟩, g5⟩, g6⟩ := h5
  simp [Cond.before, Cond.holds, Cond.value, h1, h2, h3, h4, g1, g2, g3, g4, g5, g6]
def isCode : Jvm.Cond → Bool
  | .code _ _ _ _ => true
  | _ => false
theorem all_split {L : List Jvm.Cond} {P : Jvm.Cond → Bool} (h1 : L.all (fun c => isCode c || P c) = true) (h2 : ∀ c ∈ L.filter isCode, P c = true) : L.all P = true := by
  refine List.all_eq_true.mpr fun c hc => ?_
  have h := List.all_eq_true.mp h1 c hc
  rcases Bool.eq_false_or_eq_true (isCode c) with hi | hi
  · exact h2 c (List.mem_filter.mpr ⟨hc, hi⟩)
  · simpa [hi] using h
set_option maxRecDepth 65536 in
theorem w_c0 : (Jvm.Cond.code x code maxLocals ret).before args0 about1 = true := code_word (m := ⟨1, 2⟩) (meth := k1m2) (c := k1c2) (by decide +kernel) rfl rfl rfl (by decide +kernel)
set_option maxRecDepth 65536 in
theorem w_c1 : (Jvm.Cond.code ({ cls := "com/example/frugal_frame/frugalframe/RangeCoder", name := "learn", desc := "(II)I" } : Jvm.MethodName) prog_38_method_7_code (6 : Nat) (Option.some Jvm.ClassFile.FieldType.int)).before args0 about1 = true := code_word (m := ⟨2, 1⟩) (meth := k2m1) (c := k2c1) (by decide +kernel) rfl rfl rfl (by decide +kernel)
set_option maxRecDepth 65536 in
theorem w_c2 : (Jvm.Cond.code ({ cls := "com/example/frugal_frame/frugalframe/RangeCoderLearnPinLaw", name := "floorDiv65536", desc := "(J)J" } : Jvm.MethodName) method_2_code (4 : Nat) (Option.some Jvm.ClassFile.FieldType.long)).before args0 about1 = true := code_word (m := ⟨1, 1⟩) (meth := k1m1) (c := k1c1) (by decide +kernel) rfl rfl rfl (by decide +kernel)
set_option maxRecDepth 65536 in
theorem w_c3 : (Jvm.Cond.code ({ cls := "java/lang/Math", name := "min", desc := "(II)I" } : Jvm.MethodName) jdk_29_method_69_code (2 : Nat) (Option.some Jvm.ClassFile.FieldType.int)).before args0 about1 = true := code_word (m := ⟨3, 1⟩) (meth := k3m1) (c := k3c1) (by decide +kernel) rfl rfl rfl (by decide +kernel)
def codes1 : List Jvm.Cond := [Jvm.Cond.code x code maxLocals ret, Jvm.Cond.code ({ cls := "com/example/frugal_frame/frugalframe/RangeCoder", name := "learn", desc := "(II)I" } : Jvm.MethodName) prog_38_method_7_code (6 : Nat) (Option.some Jvm.ClassFile.FieldType.int), Jvm.Cond.code ({ cls := "com/example/frugal_frame/frugalframe/RangeCoderLearnPinLaw", name := "floorDiv65536", desc := "(J)J" } : Jvm.MethodName) method_2_code (4 : Nat) (Option.some Jvm.ClassFile.FieldType.long), Jvm.Cond.code ({ cls := "java/lang/Math", name := "min", desc := "(II)I" } : Jvm.MethodName) jdk_29_method_69_code (2 : Nat) (Option.some Jvm.ClassFile.FieldType.int)]
set_option maxRecDepth 65536 in
theorem codes_eq : words1.filter isCode = codes1 := rfl
theorem w_codes : ∀ c ∈ words1.filter isCode, c.before args0 about1 = true := by
  rw [codes_eq]
  intro c hc
  simp only [codes1, List.mem_cons, List.not_mem_nil, or_false] at hc
  rcases hc with rfl | rfl | rfl | rfl
  · exact w_c0
  · exact w_c1
  · exact w_c2
  · exact w_c3
set_option maxRecDepth 65536 in
theorem w_t1 : words1.all (fun c => isCode c || c.before args0 about1) = true := by decide +kernel
theorem w_tables : (allAtoms (Jvm.Cond.code x code maxLocals ret :: tables_1)).before args0 about1 = true := by
  rw [allAtoms_all]
  show words1.all (fun c => c.before args0 about1) = true
  refine all_split ?_ w_codes
  rw [w_t1]
set_option maxRecDepth 65536 in
theorem w_case : (Jvm.Cond.and given_1 narrow_1).before args0 about1 = true := by decide +kernel
theorem w_applies : (headSpec (Jvm.Cond.code x code maxLocals ret :: tables_1) room_1).applies x e0.platform about1 = true :=
  (Spec.applies_iff w_frames).mpr ⟨w_running, w_runnable, w_alone, w_named, w_hears, w_ripe, w_room, w_tables⟩
theorem atStart : AtStart classFile x code maxLocals ret World_1 tables_1 room_1 Calls_1 rest_1 Pre_1 launch0 p0 e0 about1 theMethod args0 below0 :=
  ⟨lists_1, trivial, launch0.admits_env _ _ _, launch0.least_env, fairChoices_fair.cas, fairChoices_fair.clock, w_frames, w_args, w_heap, w_applies, trivial, trivial, w_case⟩
end start1
theorem witness_1 : WitnessClaimed_1 := ⟨start1.p0, start1.e0, start1.about1, start1.theMethod, start1.args0, start1.below0, start1.atStart⟩
end Jvm.Pilot.@@N@@
