import JvmDerived
import JvmDerived.Pilot.@@N@@Statement
import JvmDerived.Pilot.@@N@@Code
set_option linter.unusedVariables false
set_option linter.unusedSimpArgs false
namespace Jvm.Pilot.@@N@@
open Jvm Jvm.ClassFile Sem Op Lib Jvm.Free Jvm.Stand Jvm.LawKit Jvm.RoadKit Bundle Jvm.Pilot.@@N@@.Jvm.D
section OwnLayer
variable {p : Program} {l : Launch} {e : Env} {R : Room} {s : State} {m : MethodId} {args : Array Value} {below : List Frame} {meth : Method} {c : Code} {T : State} {locs : List Loc} {cells slots : Nat} {Z : State} {y : MethodName} {bs : ByteArray} {maxL : Nat} {rt : Option FieldType} {ce sl : Nat} {Q : Option Value → Heap → List Loc → Prop} {G : Outcome → State → Prop} {pc : Nat} {Ls : Array Slot} {st rest : List Value} {h : Heap} {a0 : Array Value}
/-- from S the body runs on, returns, and Q says what it leaves -/
def OwnEnds (p : Program) (e : Env) (below : List Frame) (G : Outcome → State → Prop) (S : State) : Prop :=
  ∃ s₂ o, Steps p.tables e below S s₂ ∧ s₂.status = .running ∧ Ended s₂ below o ∧ G o s₂
def OwnG (s : State) (ce sl : Nat) (Q : Option Value → Heap → List Loc → Prop) : Outcome → State → Prop := fun o s₂ => ∃ v L, o = .returned v ∧ Q v s₂.heap L ∧ FrameEnd s o s₂ L ce sl
/-- what stands throughout a body's walk -/
def OwnCx (p : Program) (s : State) (m : MethodId) (meth : Method) (c : Code) (Z : State) (y : MethodName) (bs : ByteArray) (maxL : Nat) (rt : Option FieldType) : Prop :=
  p.tables.exec = Jvm.exec ∧ Z.Warmed39 s.vm ∧ s.vm.findClass y.cls = some m.cls ∧ c.code = bs ∧ c.maxLocals = maxL ∧ meth.sig.returnType = rt ∧ meth.locks = false ∧ meth.name = y.name
/-- a body's contract over the heap h at these arguments -/
def OwnMet (l : Launch) (Z : State) (y : MethodName) (bs : ByteArray) (maxL : Nat) (rt : Option FieldType) (ws : List Jvm.Cond) (rm : Room) (as' : Array Value) (h : Heap) (Q : Option Value → Heap → List Loc → Prop) : Prop :=
  MetFree l y (head1 (Jvm.Cond.code y bs maxL rt :: ws) rm) (fun a U => a = as' ∧ Z.Warmed39 U.vm ∧ U.heap = h) (fun _ _ _ _ _ => True) (fun _ U o U' => ∃ v L, o = .returned v ∧ Q v U'.heap L ∧ FrameEnd U o U' L rm.cells rm.slots)
theorem own_nz32 {d : Int32} (q : d.toInt ≠ 0) : d ≠ 0 := fun r => q (by rw [r]; rfl)
theorem own_nz64 {d : Int64} (q : d.toInt ≠ 0) : d ≠ 0 := fun r => q (by rw [r]; rfl)
theorem own_st {S S' : State} (k : ∀ t, Steps p.tables e below S' t → Steps p.tables e below S t) (r : OwnEnds p e below G S') : OwnEnds p e below G S := by
  obtain ⟨s₂, o, h1, r⟩ := r
  exact ⟨s₂, o, k _ h1, r⟩
theorem own_tr {S S' : State} (k : Steps p.tables e below S S') (r : OwnEnds p e below G S') : OwnEnds p e below G S := own_st (fun _ q => k.trans q) r
theorem own_enter {ws : List Jvm.Cond} {rm : Room} {as' : Array Value} {f0 : MethodId → JFrame} (hp : plainFor y = true) (hf : ∀ m, entryFrame m as' maxL = f0 m)
    (H : ∀ p e s m below meth c T, Stand p l e rm s m as' below meth c T [] 0 0 → OwnCx p s m meth c Z y bs maxL rt → T.heap = h → OwnEnds p e below (OwnG s rm.cells rm.slots Q) (T.setTop (f0 m))) : OwnMet l Z y bs maxL rt ws rm as' h Q := by
  refine MetFree.of_bodySF hp hisR ?_
  intro p e s m args below meth c s₁ Bd hml0 hP hK
  obtain ⟨rfl, hZ, hh⟩ := hP
  have k := H p e s m below meth c s₁ (Stand.of_body Bd) ⟨Bd.exec, hZ, findClass_of_methodNamed Bd.named, Bd.bytes, hml0, Bd.returns, Bd.notSynchronized, (name_of_methodNamed Bd.named Bd.method).1⟩ (by rw [← hh, Bd.state]; rfl)
  rw [← hf m] at k
  exact k
theorem own_mono {ws : List Jvm.Cond} {rm : Room} {as' : Array Value} {Q' : Option Value → Heap → List Loc → Prop} (H : OwnMet l Z y bs maxL rt ws rm as' h Q) (q : ∀ v h' L, Q v h' L → Q' v h' L) : OwnMet l Z y bs maxL rt ws rm as' h Q' := by
  intro p e ha hc hk s m args below hf happ hP hK
  obtain ⟨n, o, h1, h2, h3, v, L, h4, h5, h6⟩ := H p e ha hc hk s m args below hf happ hP hK
  exact ⟨n, o, h1, h2, h3, v, L, h4, q _ _ _ h5, h6⟩
theorem own_iload (X : Stand p l e R s m args below meth c T locs cells slots) (C : OwnCx p s m meth c Z y bs maxL rt) {k : Nat} {v : Int32} (hd : decode bs pc = .ok (.iload k, 2)) (pc' : Nat) (hp : pc + 2 = pc') (hl : Ls[k]? = some (.val (.int v)))
    (hr : OwnEnds p e below G (T.setTop (mkF m pc' Ls (.int v :: st)))) : OwnEnds p e below G (T.setTop (mkF m pc Ls st)) := by
  subst hp; exact own_st (fun _ q => XS.iload X.here C.1 rfl (hb C.2.2.2.1 hd) hl q) hr
theorem own_lload (X : Stand p l e R s m args below meth c T locs cells slots) (C : OwnCx p s m meth c Z y bs maxL rt) {k : Nat} {v : Int64} (hd : decode bs pc = .ok (.lload k, 2)) (pc' : Nat) (hp : pc + 2 = pc') (hl : Ls[k]? = some (.val (.long v)))
    (hr : OwnEnds p e below G (T.setTop (mkF m pc' Ls (.long v :: st)))) : OwnEnds p e below G (T.setTop (mkF m pc Ls st)) := by
  subst hp; exact own_st (fun _ q => XS.lload X.here C.1 rfl (hb C.2.2.2.1 hd) hl q) hr
theorem own_iload_n (X : Stand p l e R s m args below meth c T locs cells slots) (C : OwnCx p s m meth c Z y bs maxL rt) {k : Fin 4} {v : Int32} (hd : decode bs pc = .ok (.iload_n k, 1)) (pc' : Nat) (hp : pc + 1 = pc') (hl : Ls[k.val]? = some (.val (.int v)))
    (hr : OwnEnds p e below G (T.setTop (mkF m pc' Ls (.int v :: st)))) : OwnEnds p e below G (T.setTop (mkF m pc Ls st)) := by
  subst hp; exact own_st (fun _ q => XS.iloadN X.here C.1 rfl (hb C.2.2.2.1 hd) hl q) hr
theorem own_lload_n (X : Stand p l e R s m args below meth c T locs cells slots) (C : OwnCx p s m meth c Z y bs maxL rt) {k : Fin 4} {v : Int64} (hd : decode bs pc = .ok (.lload_n k, 1)) (pc' : Nat) (hp : pc + 1 = pc') (hl : Ls[k.val]? = some (.val (.long v)))
    (hr : OwnEnds p e below G (T.setTop (mkF m pc' Ls (.long v :: st)))) : OwnEnds p e below G (T.setTop (mkF m pc Ls st)) := by
  subst hp; exact own_st (fun _ q => XS.lloadN X.here C.1 rfl (hb C.2.2.2.1 hd) hl q) hr
theorem own_aload (X : Stand p l e R s m args below meth c T locs cells slots) (C : OwnCx p s m meth c Z y bs maxL rt) {k : Nat} {v : Value} (hd : decode bs pc = .ok (.aload k, 2)) (pc' : Nat) (hp : pc + 2 = pc') (hl : Ls[k]? = some (.val v)) (hv : v.isRef = true)
    (hr : OwnEnds p e below G (T.setTop (mkF m pc' Ls (v :: st)))) : OwnEnds p e below G (T.setTop (mkF m pc Ls st)) := by
  subst hp; exact own_st (fun _ q => XS.aload X.here C.1 rfl (hb C.2.2.2.1 hd) hl hv q) hr
theorem own_aload_n (X : Stand p l e R s m args below meth c T locs cells slots) (C : OwnCx p s m meth c Z y bs maxL rt) {k : Fin 4} {v : Value} (hd : decode bs pc = .ok (.aload_n k, 1)) (pc' : Nat) (hp : pc + 1 = pc') (hl : Ls[k.val]? = some (.val v)) (hv : v.isRef = true)
    (hr : OwnEnds p e below G (T.setTop (mkF m pc' Ls (v :: st)))) : OwnEnds p e below G (T.setTop (mkF m pc Ls st)) := by
  subst hp; exact own_st (fun _ q => XS.aloadN X.here C.1 rfl (hb C.2.2.2.1 hd) hl hv q) hr
theorem own_istore (X : Stand p l e R s m args below meth c T locs cells slots) (C : OwnCx p s m meth c Z y bs maxL rt) {k : Nat} {v : Int32} (hd : decode bs pc = .ok (.istore k, 2)) (pc' : Nat) (hp : pc + 2 = pc') (L' : Array Slot) (hl : storeLocals Ls k (.int v) = some L')
    (hr : OwnEnds p e below G (T.setTop (mkF m pc' L' st))) : OwnEnds p e below G (T.setTop (mkF m pc Ls (.int v :: st))) := by
  subst hp; exact own_st (fun _ q => XS.istore X.here C.1 rfl (hb C.2.2.2.1 hd) rfl hl q) hr
theorem own_lstore (X : Stand p l e R s m args below meth c T locs cells slots) (C : OwnCx p s m meth c Z y bs maxL rt) {k : Nat} {v : Int64} (hd : decode bs pc = .ok (.lstore k, 2)) (pc' : Nat) (hp : pc + 2 = pc') (L' : Array Slot) (hl : storeLocals Ls k (.long v) = some L')
    (hr : OwnEnds p e below G (T.setTop (mkF m pc' L' st))) : OwnEnds p e below G (T.setTop (mkF m pc Ls (.long v :: st))) := by
  subst hp; exact own_st (fun _ q => XS.lstore X.here C.1 rfl (hb C.2.2.2.1 hd) rfl hl q) hr
theorem own_istore_n (X : Stand p l e R s m args below meth c T locs cells slots) (C : OwnCx p s m meth c Z y bs maxL rt) {k : Fin 4} {v : Int32} (hd : decode bs pc = .ok (.istore_n k, 1)) (pc' : Nat) (hp : pc + 1 = pc') (L' : Array Slot) (hl : storeLocals Ls k.val (.int v) = some L')
    (hr : OwnEnds p e below G (T.setTop (mkF m pc' L' st))) : OwnEnds p e below G (T.setTop (mkF m pc Ls (.int v :: st))) := by
  subst hp; exact own_st (fun _ q => XS.istoreN X.here C.1 rfl (hb C.2.2.2.1 hd) rfl hl q) hr
theorem own_lstore_n (X : Stand p l e R s m args below meth c T locs cells slots) (C : OwnCx p s m meth c Z y bs maxL rt) {k : Fin 4} {v : Int64} (hd : decode bs pc = .ok (.lstore_n k, 1)) (pc' : Nat) (hp : pc + 1 = pc') (L' : Array Slot) (hl : storeLocals Ls k.val (.long v) = some L')
    (hr : OwnEnds p e below G (T.setTop (mkF m pc' L' st))) : OwnEnds p e below G (T.setTop (mkF m pc Ls (.long v :: st))) := by
  subst hp; exact own_st (fun _ q => XS.lstoreN X.here C.1 rfl (hb C.2.2.2.1 hd) rfl hl q) hr
theorem own_astore (X : Stand p l e R s m args below meth c T locs cells slots) (C : OwnCx p s m meth c Z y bs maxL rt) {k : Nat} {v : Value} (hd : decode bs pc = .ok (.astore k, 2)) (pc' : Nat) (hp : pc + 2 = pc') (hv : v.isRef = true) (L' : Array Slot) (hl : storeLocals Ls k v = some L')
    (hr : OwnEnds p e below G (T.setTop (mkF m pc' L' st))) : OwnEnds p e below G (T.setTop (mkF m pc Ls (v :: st))) := by
  subst hp; exact own_st (fun _ q => XS.astore X.here C.1 rfl (hb C.2.2.2.1 hd) rfl hv hl q) hr
theorem own_astore_n (X : Stand p l e R s m args below meth c T locs cells slots) (C : OwnCx p s m meth c Z y bs maxL rt) {k : Fin 4} {v : Value} (hd : decode bs pc = .ok (.astore_n k, 1)) (pc' : Nat) (hp : pc + 1 = pc') (hv : v.isRef = true) (L' : Array Slot) (hl : storeLocals Ls k.val v = some L')
    (hr : OwnEnds p e below G (T.setTop (mkF m pc' L' st))) : OwnEnds p e below G (T.setTop (mkF m pc Ls (v :: st))) := by
  subst hp; exact own_st (fun _ q => XS.astoreN X.here C.1 rfl (hb C.2.2.2.1 hd) rfl hv hl q) hr
theorem own_iinc (X : Stand p l e R s m args below meth c T locs cells slots) (C : OwnCx p s m meth c Z y bs maxL rt) {k : Nat} {cst : Int} {v : Int32} (hd : decode bs pc = .ok (.iinc k cst, 3)) (pc' : Nat) (hp : pc + 3 = pc') (hl : Ls[k]? = some (.val (.int v))) (w : Int32) (hw : Int32.ofInt cst = w) (F : Int32 → Array Slot) (hl' : ∀ z, storeLocals Ls k (.int z) = some (F z))
    (hr : ∀ z, z = v + w → OwnEnds p e below G (T.setTop (mkF m pc' (F z) st))) : OwnEnds p e below G (T.setTop (mkF m pc Ls st)) := by
  subst hp hw; exact own_st (fun _ q => XS.iinc X.here C.1 rfl (hb C.2.2.2.1 hd) hl (hl' _) q) (hr _ rfl)
theorem own_iconst (X : Stand p l e R s m args below meth c T locs cells slots) (C : OwnCx p s m meth c Z y bs maxL rt) {i : Int} (hd : decode bs pc = .ok (.iconst i, 1)) (pc' : Nat) (hp : pc + 1 = pc') (k : Int32) (hk : Int32.ofInt i = k)
    (hr : OwnEnds p e below G (T.setTop (mkF m pc' Ls (.int k :: st)))) : OwnEnds p e below G (T.setTop (mkF m pc Ls st)) := by
  subst hp hk; exact own_st (fun _ q => XS.iconst X.here C.1 rfl (hb C.2.2.2.1 hd) q) hr
theorem own_bipush (X : Stand p l e R s m args below meth c T locs cells slots) (C : OwnCx p s m meth c Z y bs maxL rt) {i : Int} (hd : decode bs pc = .ok (.bipush i, 2)) (pc' : Nat) (hp : pc + 2 = pc') (k : Int32) (hk : (Int8.ofInt i).toInt32 = k)
    (hr : OwnEnds p e below G (T.setTop (mkF m pc' Ls (.int k :: st)))) : OwnEnds p e below G (T.setTop (mkF m pc Ls st)) := by
  subst hp hk; exact own_st (fun _ q => XS.bipush X.here C.1 rfl (hb C.2.2.2.1 hd) q) hr
theorem own_sipush (X : Stand p l e R s m args below meth c T locs cells slots) (C : OwnCx p s m meth c Z y bs maxL rt) {i : Int} (hd : decode bs pc = .ok (.sipush i, 3)) (pc' : Nat) (hp : pc + 3 = pc') (k : Int32) (hk : (Int16.ofInt i).toInt32 = k)
    (hr : OwnEnds p e below G (T.setTop (mkF m pc' Ls (.int k :: st)))) : OwnEnds p e below G (T.setTop (mkF m pc Ls st)) := by
  subst hp hk; exact own_st (fun _ q => XS.sipush X.here C.1 rfl (hb C.2.2.2.1 hd) q) hr
theorem own_lconst (X : Stand p l e R s m args below meth c T locs cells slots) (C : OwnCx p s m meth c Z y bs maxL rt) {i : Fin 2} (hd : decode bs pc = .ok (.lconst i, 1)) (pc' : Nat) (hp : pc + 1 = pc') (k : Int64) (hk : Int64.ofNat i = k)
    (hr : OwnEnds p e below G (T.setTop (mkF m pc' Ls (.long k :: st)))) : OwnEnds p e below G (T.setTop (mkF m pc Ls st)) := by
  subst hp hk; exact own_st (fun _ q => XS.lconst X.here C.1 rfl (hb C.2.2.2.1 hd) q) hr
theorem own_aconst_null (X : Stand p l e R s m args below meth c T locs cells slots) (C : OwnCx p s m meth c Z y bs maxL rt) (hd : decode bs pc = .ok (.aconst_null, 1)) (pc' : Nat) (hp : pc + 1 = pc')
    (hr : OwnEnds p e below G (T.setTop (mkF m pc' Ls (.null :: st)))) : OwnEnds p e below G (T.setTop (mkF m pc Ls st)) := by
  subst hp; exact own_st (fun _ q => XS.aconstNull X.here C.1 rfl (hb C.2.2.2.1 hd) q) hr
theorem own_ldc (X : Stand p l e R s m args below meth c T locs cells slots) (C : OwnCx p s m meth c Z y bs maxL rt) {i : Nat} {v : Int32} (w : (Jvm.Cond.constant y.cls i v).before a0 Z = true) (hd : decode bs pc = .ok (.ldc i, 2)) (pc' : Nat) (hp : pc + 2 = pc')
    (hr : OwnEnds p e below G (T.setTop (mkF m pc' Ls (.int v :: st)))) : OwnEnds p e below G (T.setTop (mkF m pc Ls st)) := by
  subst hp; exact own_st (X.ldcInt C.1 C.2.2.1 (mvT C.2.1 w) (g := mkF m pc Ls st) rfl (hb C.2.2.2.1 hd)) hr
theorem own_ldcw (X : Stand p l e R s m args below meth c T locs cells slots) (C : OwnCx p s m meth c Z y bs maxL rt) {i : Nat} {v : Int32} (w : (Jvm.Cond.constant y.cls i v).before a0 Z = true) (hd : decode bs pc = .ok (.ldc_w i, 3)) (pc' : Nat) (hp : pc + 3 = pc')
    (hr : OwnEnds p e below G (T.setTop (mkF m pc' Ls (.int v :: st)))) : OwnEnds p e below G (T.setTop (mkF m pc Ls st)) := by
  subst hp; exact own_st (X.ldcwInt C.1 C.2.2.1 (mvT C.2.1 w) (g := mkF m pc Ls st) rfl (hb C.2.2.2.1 hd)) hr
theorem own_ldc2 (X : Stand p l e R s m args below meth c T locs cells slots) (C : OwnCx p s m meth c Z y bs maxL rt) {i : Nat} {v : Int64} (w : (Jvm.Cond.constantLong y.cls i v).before a0 Z = true) (hd : decode bs pc = .ok (.ldc2_w i, 3)) (pc' : Nat) (hp : pc + 3 = pc')
    (hr : OwnEnds p e below G (T.setTop (mkF m pc' Ls (.long v :: st)))) : OwnEnds p e below G (T.setTop (mkF m pc Ls st)) := by
  subst hp; exact own_st (X.ldc2Long C.1 C.2.2.1 (mvT C.2.1 w) (g := mkF m pc Ls st) rfl (hb C.2.2.2.1 hd)) hr
theorem own_iadd (X : Stand p l e R s m args below meth c T locs cells slots) (C : OwnCx p s m meth c Z y bs maxL rt) {a b : Int32} (hd : decode bs pc = .ok (.iadd, 1)) (pc' : Nat) (hp : pc + 1 = pc')
    (hr : ∀ z, z = a + b → OwnEnds p e below G (T.setTop (mkF m pc' Ls (.int z :: st)))) : OwnEnds p e below G (T.setTop (mkF m pc Ls (.int b :: .int a :: st))) := by
  subst hp; exact own_st (fun _ q => XS.iadd X.here C.1 rfl (hb C.2.2.2.1 hd) rfl q) (hr _ rfl)
theorem own_isub (X : Stand p l e R s m args below meth c T locs cells slots) (C : OwnCx p s m meth c Z y bs maxL rt) {a b : Int32} (hd : decode bs pc = .ok (.isub, 1)) (pc' : Nat) (hp : pc + 1 = pc')
    (hr : ∀ z, z = a - b → OwnEnds p e below G (T.setTop (mkF m pc' Ls (.int z :: st)))) : OwnEnds p e below G (T.setTop (mkF m pc Ls (.int b :: .int a :: st))) := by
  subst hp; exact own_st (fun _ q => XS.isub X.here C.1 rfl (hb C.2.2.2.1 hd) rfl q) (hr _ rfl)
theorem own_imul (X : Stand p l e R s m args below meth c T locs cells slots) (C : OwnCx p s m meth c Z y bs maxL rt) {a b : Int32} (hd : decode bs pc = .ok (.imul, 1)) (pc' : Nat) (hp : pc + 1 = pc')
    (hr : ∀ z, z = a * b → OwnEnds p e below G (T.setTop (mkF m pc' Ls (.int z :: st)))) : OwnEnds p e below G (T.setTop (mkF m pc Ls (.int b :: .int a :: st))) := by
  subst hp; exact own_st (fun _ q => XS.imul X.here C.1 rfl (hb C.2.2.2.1 hd) rfl q) (hr _ rfl)
theorem own_iand (X : Stand p l e R s m args below meth c T locs cells slots) (C : OwnCx p s m meth c Z y bs maxL rt) {a b : Int32} (hd : decode bs pc = .ok (.iand, 1)) (pc' : Nat) (hp : pc + 1 = pc')
    (hr : ∀ z, z = a &&& b → OwnEnds p e below G (T.setTop (mkF m pc' Ls (.int z :: st)))) : OwnEnds p e below G (T.setTop (mkF m pc Ls (.int b :: .int a :: st))) := by
  subst hp; exact own_st (fun _ q => XS.iand X.here C.1 rfl (hb C.2.2.2.1 hd) rfl q) (hr _ rfl)
theorem own_ior (X : Stand p l e R s m args below meth c T locs cells slots) (C : OwnCx p s m meth c Z y bs maxL rt) {a b : Int32} (hd : decode bs pc = .ok (.ior, 1)) (pc' : Nat) (hp : pc + 1 = pc')
    (hr : ∀ z, z = a ||| b → OwnEnds p e below G (T.setTop (mkF m pc' Ls (.int z :: st)))) : OwnEnds p e below G (T.setTop (mkF m pc Ls (.int b :: .int a :: st))) := by
  subst hp; exact own_st (fun _ q => XS.ior X.here C.1 rfl (hb C.2.2.2.1 hd) rfl q) (hr _ rfl)
theorem own_ixor (X : Stand p l e R s m args below meth c T locs cells slots) (C : OwnCx p s m meth c Z y bs maxL rt) {a b : Int32} (hd : decode bs pc = .ok (.ixor, 1)) (pc' : Nat) (hp : pc + 1 = pc')
    (hr : ∀ z, z = a ^^^ b → OwnEnds p e below G (T.setTop (mkF m pc' Ls (.int z :: st)))) : OwnEnds p e below G (T.setTop (mkF m pc Ls (.int b :: .int a :: st))) := by
  subst hp; exact own_st (fun _ q => XS.ixor X.here C.1 rfl (hb C.2.2.2.1 hd) rfl q) (hr _ rfl)
theorem own_idiv (X : Stand p l e R s m args below meth c T locs cells slots) (C : OwnCx p s m meth c Z y bs maxL rt) {a b : Int32} (hd : decode bs pc = .ok (.idiv, 1)) (pc' : Nat) (hp : pc + 1 = pc') (hz : b ≠ 0)
    (hr : ∀ z, z = a / b → OwnEnds p e below G (T.setTop (mkF m pc' Ls (.int z :: st)))) : OwnEnds p e below G (T.setTop (mkF m pc Ls (.int b :: .int a :: st))) := by
  subst hp; exact own_st (fun _ q => XS.idiv X.here C.1 rfl (hb C.2.2.2.1 hd) rfl hz q) (hr _ rfl)
theorem own_ladd (X : Stand p l e R s m args below meth c T locs cells slots) (C : OwnCx p s m meth c Z y bs maxL rt) {a b : Int64} (hd : decode bs pc = .ok (.ladd, 1)) (pc' : Nat) (hp : pc + 1 = pc')
    (hr : ∀ z, z = a + b → OwnEnds p e below G (T.setTop (mkF m pc' Ls (.long z :: st)))) : OwnEnds p e below G (T.setTop (mkF m pc Ls (.long b :: .long a :: st))) := by
  subst hp; exact own_st (fun _ q => XS.ladd X.here C.1 rfl (hb C.2.2.2.1 hd) rfl q) (hr _ rfl)
theorem own_lsub (X : Stand p l e R s m args below meth c T locs cells slots) (C : OwnCx p s m meth c Z y bs maxL rt) {a b : Int64} (hd : decode bs pc = .ok (.lsub, 1)) (pc' : Nat) (hp : pc + 1 = pc')
    (hr : ∀ z, z = a - b → OwnEnds p e below G (T.setTop (mkF m pc' Ls (.long z :: st)))) : OwnEnds p e below G (T.setTop (mkF m pc Ls (.long b :: .long a :: st))) := by
  subst hp; exact own_st (fun _ q => XS.lsub X.here C.1 rfl (hb C.2.2.2.1 hd) rfl q) (hr _ rfl)
theorem own_lmul (X : Stand p l e R s m args below meth c T locs cells slots) (C : OwnCx p s m meth c Z y bs maxL rt) {a b : Int64} (hd : decode bs pc = .ok (.lmul, 1)) (pc' : Nat) (hp : pc + 1 = pc')
    (hr : ∀ z, z = a * b → OwnEnds p e below G (T.setTop (mkF m pc' Ls (.long z :: st)))) : OwnEnds p e below G (T.setTop (mkF m pc Ls (.long b :: .long a :: st))) := by
  subst hp; exact own_st (fun _ q => XS.lmul X.here C.1 rfl (hb C.2.2.2.1 hd) rfl q) (hr _ rfl)
theorem own_land (X : Stand p l e R s m args below meth c T locs cells slots) (C : OwnCx p s m meth c Z y bs maxL rt) {a b : Int64} (hd : decode bs pc = .ok (.land, 1)) (pc' : Nat) (hp : pc + 1 = pc')
    (hr : ∀ z, z = a &&& b → OwnEnds p e below G (T.setTop (mkF m pc' Ls (.long z :: st)))) : OwnEnds p e below G (T.setTop (mkF m pc Ls (.long b :: .long a :: st))) := by
  subst hp; exact own_st (fun _ q => XS.land X.here C.1 rfl (hb C.2.2.2.1 hd) rfl q) (hr _ rfl)
theorem own_lor (X : Stand p l e R s m args below meth c T locs cells slots) (C : OwnCx p s m meth c Z y bs maxL rt) {a b : Int64} (hd : decode bs pc = .ok (.lor, 1)) (pc' : Nat) (hp : pc + 1 = pc')
    (hr : ∀ z, z = a ||| b → OwnEnds p e below G (T.setTop (mkF m pc' Ls (.long z :: st)))) : OwnEnds p e below G (T.setTop (mkF m pc Ls (.long b :: .long a :: st))) := by
  subst hp; exact own_st (fun _ q => XS.lor X.here C.1 rfl (hb C.2.2.2.1 hd) rfl q) (hr _ rfl)
theorem own_lxor (X : Stand p l e R s m args below meth c T locs cells slots) (C : OwnCx p s m meth c Z y bs maxL rt) {a b : Int64} (hd : decode bs pc = .ok (.lxor, 1)) (pc' : Nat) (hp : pc + 1 = pc')
    (hr : ∀ z, z = a ^^^ b → OwnEnds p e below G (T.setTop (mkF m pc' Ls (.long z :: st)))) : OwnEnds p e below G (T.setTop (mkF m pc Ls (.long b :: .long a :: st))) := by
  subst hp; exact own_st (fun _ q => XS.lxor X.here C.1 rfl (hb C.2.2.2.1 hd) rfl q) (hr _ rfl)
theorem own_ldiv (X : Stand p l e R s m args below meth c T locs cells slots) (C : OwnCx p s m meth c Z y bs maxL rt) {a b : Int64} (hd : decode bs pc = .ok (.ldiv, 1)) (pc' : Nat) (hp : pc + 1 = pc') (hz : b ≠ 0)
    (hr : ∀ z, z = a / b → OwnEnds p e below G (T.setTop (mkF m pc' Ls (.long z :: st)))) : OwnEnds p e below G (T.setTop (mkF m pc Ls (.long b :: .long a :: st))) := by
  subst hp; exact own_st (fun _ q => XS.ldiv X.here C.1 rfl (hb C.2.2.2.1 hd) rfl hz q) (hr _ rfl)
theorem own_irem (X : Stand p l e R s m args below meth c T locs cells slots) (C : OwnCx p s m meth c Z y bs maxL rt) {a b : Int32} (hd : decode bs pc = .ok (.irem, 1)) (pc' : Nat) (hp : pc + 1 = pc') (hz : b ≠ 0)
    (hr : ∀ z, z = a % b → OwnEnds p e below G (T.setTop (mkF m pc' Ls (.int z :: st)))) : OwnEnds p e below G (T.setTop (mkF m pc Ls (.int b :: .int a :: st))) := by
  subst hp; exact own_st (fun _ q => iremM X C.1 rfl (hb C.2.2.2.1 hd) rfl hz q) (hr _ rfl)
theorem own_lrem (X : Stand p l e R s m args below meth c T locs cells slots) (C : OwnCx p s m meth c Z y bs maxL rt) {a b : Int64} (hd : decode bs pc = .ok (.lrem, 1)) (pc' : Nat) (hp : pc + 1 = pc') (hz : b ≠ 0)
    (hr : ∀ z, z = a % b → OwnEnds p e below G (T.setTop (mkF m pc' Ls (.long z :: st)))) : OwnEnds p e below G (T.setTop (mkF m pc Ls (.long b :: .long a :: st))) := by
  subst hp; exact own_st (fun _ q => XS.lrem X.here C.1 rfl (hb C.2.2.2.1 hd) rfl hz q) (hr _ (lrem_mod a b))
theorem own_ishl (X : Stand p l e R s m args below meth c T locs cells slots) (C : OwnCx p s m meth c Z y bs maxL rt) {a : Int32} {b : Int32} (hd : decode bs pc = .ok (.ishl, 1)) (pc' : Nat) (hp : pc + 1 = pc')
    (hr : ∀ z, z = (a <<< (b &&& 31)) → OwnEnds p e below G (T.setTop (mkF m pc' Ls (.int z :: st)))) : OwnEnds p e below G (T.setTop (mkF m pc Ls (.int b :: .int a :: st))) := by
  subst hp; exact own_st (fun _ q => XS.ishl X.here C.1 rfl (hb C.2.2.2.1 hd) rfl q) (hr _ rfl)
theorem own_ishr (X : Stand p l e R s m args below meth c T locs cells slots) (C : OwnCx p s m meth c Z y bs maxL rt) {a : Int32} {b : Int32} (hd : decode bs pc = .ok (.ishr, 1)) (pc' : Nat) (hp : pc + 1 = pc')
    (hr : ∀ z, z = (a >>> (b &&& 31)) → OwnEnds p e below G (T.setTop (mkF m pc' Ls (.int z :: st)))) : OwnEnds p e below G (T.setTop (mkF m pc Ls (.int b :: .int a :: st))) := by
  subst hp; exact own_st (fun _ q => XS.ishr X.here C.1 rfl (hb C.2.2.2.1 hd) rfl q) (hr _ rfl)
theorem own_iushr (X : Stand p l e R s m args below meth c T locs cells slots) (C : OwnCx p s m meth c Z y bs maxL rt) {a : Int32} {b : Int32} (hd : decode bs pc = .ok (.iushr, 1)) (pc' : Nat) (hp : pc + 1 = pc')
    (hr : ∀ z, z = ((a.toUInt32 >>> (b &&& 31).toUInt32).toInt32) → OwnEnds p e below G (T.setTop (mkF m pc' Ls (.int z :: st)))) : OwnEnds p e below G (T.setTop (mkF m pc Ls (.int b :: .int a :: st))) := by
  subst hp; exact own_st (fun _ q => XS.iushr X.here C.1 rfl (hb C.2.2.2.1 hd) rfl q) (hr _ rfl)
theorem own_lshl (X : Stand p l e R s m args below meth c T locs cells slots) (C : OwnCx p s m meth c Z y bs maxL rt) {a : Int64} {b : Int32} (hd : decode bs pc = .ok (.lshl, 1)) (pc' : Nat) (hp : pc + 1 = pc')
    (hr : ∀ z, z = (a <<< (b &&& 0x3f).toInt64) → OwnEnds p e below G (T.setTop (mkF m pc' Ls (.long z :: st)))) : OwnEnds p e below G (T.setTop (mkF m pc Ls (.int b :: .long a :: st))) := by
  subst hp; exact own_st (fun _ q => XS.lshl X.here C.1 rfl (hb C.2.2.2.1 hd) rfl q) (hr _ rfl)
theorem own_lshr (X : Stand p l e R s m args below meth c T locs cells slots) (C : OwnCx p s m meth c Z y bs maxL rt) {a : Int64} {b : Int32} (hd : decode bs pc = .ok (.lshr, 1)) (pc' : Nat) (hp : pc + 1 = pc')
    (hr : ∀ z, z = (a >>> (b &&& 0x3f).toInt64) → OwnEnds p e below G (T.setTop (mkF m pc' Ls (.long z :: st)))) : OwnEnds p e below G (T.setTop (mkF m pc Ls (.int b :: .long a :: st))) := by
  subst hp; exact own_st (fun _ q => XS.lshr X.here C.1 rfl (hb C.2.2.2.1 hd) rfl q) (hr _ rfl)
theorem own_lushr (X : Stand p l e R s m args below meth c T locs cells slots) (C : OwnCx p s m meth c Z y bs maxL rt) {a : Int64} {b : Int32} (hd : decode bs pc = .ok (.lushr, 1)) (pc' : Nat) (hp : pc + 1 = pc')
    (hr : ∀ z, z = ((a.toUInt64 >>> (b &&& 0x3f).toInt64.toUInt64).toInt64) → OwnEnds p e below G (T.setTop (mkF m pc' Ls (.long z :: st)))) : OwnEnds p e below G (T.setTop (mkF m pc Ls (.int b :: .long a :: st))) := by
  subst hp; exact own_st (fun _ q => XS.lushr X.here C.1 rfl (hb C.2.2.2.1 hd) rfl q) (hr _ rfl)
theorem own_ineg (X : Stand p l e R s m args below meth c T locs cells slots) (C : OwnCx p s m meth c Z y bs maxL rt) {a : Int32} (hd : decode bs pc = .ok (.ineg, 1)) (pc' : Nat) (hp : pc + 1 = pc')
    (hr : ∀ z, z = -a → OwnEnds p e below G (T.setTop (mkF m pc' Ls (.int z :: st)))) : OwnEnds p e below G (T.setTop (mkF m pc Ls (.int a :: st))) := by
  subst hp; exact own_st (fun _ q => XS.ineg X.here C.1 rfl (hb C.2.2.2.1 hd) rfl q) (hr _ rfl)
theorem own_lneg (X : Stand p l e R s m args below meth c T locs cells slots) (C : OwnCx p s m meth c Z y bs maxL rt) {a : Int64} (hd : decode bs pc = .ok (.lneg, 1)) (pc' : Nat) (hp : pc + 1 = pc')
    (hr : ∀ z, z = -a → OwnEnds p e below G (T.setTop (mkF m pc' Ls (.long z :: st)))) : OwnEnds p e below G (T.setTop (mkF m pc Ls (.long a :: st))) := by
  subst hp; exact own_st (fun _ q => XS.lneg X.here C.1 rfl (hb C.2.2.2.1 hd) rfl q) (hr _ rfl)
theorem own_i2l (X : Stand p l e R s m args below meth c T locs cells slots) (C : OwnCx p s m meth c Z y bs maxL rt) {a : Int32} (hd : decode bs pc = .ok (.i2l, 1)) (pc' : Nat) (hp : pc + 1 = pc')
    (hr : ∀ z, z = a.toInt64 → OwnEnds p e below G (T.setTop (mkF m pc' Ls (.long z :: st)))) : OwnEnds p e below G (T.setTop (mkF m pc Ls (.int a :: st))) := by
  subst hp; exact own_st (fun _ q => XS.i2l X.here C.1 rfl (hb C.2.2.2.1 hd) rfl q) (hr _ rfl)
theorem own_l2i (X : Stand p l e R s m args below meth c T locs cells slots) (C : OwnCx p s m meth c Z y bs maxL rt) {a : Int64} (hd : decode bs pc = .ok (.l2i, 1)) (pc' : Nat) (hp : pc + 1 = pc')
    (hr : ∀ z, z = a.toInt32 → OwnEnds p e below G (T.setTop (mkF m pc' Ls (.int z :: st)))) : OwnEnds p e below G (T.setTop (mkF m pc Ls (.long a :: st))) := by
  subst hp; exact own_st (fun _ q => XS.l2i X.here C.1 rfl (hb C.2.2.2.1 hd) rfl q) (hr _ rfl)
theorem own_i2b (X : Stand p l e R s m args below meth c T locs cells slots) (C : OwnCx p s m meth c Z y bs maxL rt) {a : Int32} (hd : decode bs pc = .ok (.i2b, 1)) (pc' : Nat) (hp : pc + 1 = pc')
    (hr : ∀ z, z = a.toInt8.toInt32 → OwnEnds p e below G (T.setTop (mkF m pc' Ls (.int z :: st)))) : OwnEnds p e below G (T.setTop (mkF m pc Ls (.int a :: st))) := by
  subst hp; exact own_st (fun _ q => XS.i2b X.here C.1 rfl (hb C.2.2.2.1 hd) rfl q) (hr _ rfl)
theorem own_i2s (X : Stand p l e R s m args below meth c T locs cells slots) (C : OwnCx p s m meth c Z y bs maxL rt) {a : Int32} (hd : decode bs pc = .ok (.i2s, 1)) (pc' : Nat) (hp : pc + 1 = pc')
    (hr : ∀ z, z = a.toInt16.toInt32 → OwnEnds p e below G (T.setTop (mkF m pc' Ls (.int z :: st)))) : OwnEnds p e below G (T.setTop (mkF m pc Ls (.int a :: st))) := by
  subst hp; exact own_st (fun _ q => XS.i2s X.here C.1 rfl (hb C.2.2.2.1 hd) rfl q) (hr _ rfl)
theorem own_i2c (X : Stand p l e R s m args below meth c T locs cells slots) (C : OwnCx p s m meth c Z y bs maxL rt) {a : Int32} (hd : decode bs pc = .ok (.i2c, 1)) (pc' : Nat) (hp : pc + 1 = pc')
    (hr : ∀ z, z = a.toUInt32.toUInt16.toUInt32.toInt32 → OwnEnds p e below G (T.setTop (mkF m pc' Ls (.int z :: st)))) : OwnEnds p e below G (T.setTop (mkF m pc Ls (.int a :: st))) := by
  subst hp; exact own_st (fun _ q => XS.i2c X.here C.1 rfl (hb C.2.2.2.1 hd) rfl q) (hr _ rfl)
theorem own_lcmp (X : Stand p l e R s m args below meth c T locs cells slots) (C : OwnCx p s m meth c Z y bs maxL rt) {a b : Int64} (hd : decode bs pc = .ok (.lcmp, 1)) (pc' : Nat) (hp : pc + 1 = pc')
    (hr : ∀ z : Int32, (a.toInt < b.toInt → z.toInt = -1) → (a.toInt = b.toInt → z.toInt = 0) → (b.toInt < a.toInt → z.toInt = 1) → OwnEnds p e below G (T.setTop (mkF m pc' Ls (.int z :: st)))) : OwnEnds p e below G (T.setTop (mkF m pc Ls (.long b :: .long a :: st))) := by
  subst hp; exact own_st (fun _ q => XS.lcmp X.here C.1 rfl (hb C.2.2.2.1 hd) rfl q) (hr _ (c_lcmp a b).1 (c_lcmp a b).2.1 (c_lcmp a b).2.2)
theorem own_dup (X : Stand p l e R s m args below meth c T locs cells slots) (C : OwnCx p s m meth c Z y bs maxL rt) {v : Value} (hd : decode bs pc = .ok (.dup, 1)) (pc' : Nat) (hp : pc + 1 = pc') (hc : v.category = 1)
    (hr : OwnEnds p e below G (T.setTop (mkF m pc' Ls (v :: v :: st)))) : OwnEnds p e below G (T.setTop (mkF m pc Ls (v :: st))) := by
  subst hp; exact own_st (fun _ q => XS.dup X.here C.1 rfl (hb C.2.2.2.1 hd) rfl hc q) hr
theorem own_dup_x1 (X : Stand p l e R s m args below meth c T locs cells slots) (C : OwnCx p s m meth c Z y bs maxL rt) {v w : Value} (hd : decode bs pc = .ok (.dup_x1, 1)) (pc' : Nat) (hp : pc + 1 = pc') (hc : v.category = 1) (hc' : w.category = 1)
    (hr : OwnEnds p e below G (T.setTop (mkF m pc' Ls (v :: w :: v :: st)))) : OwnEnds p e below G (T.setTop (mkF m pc Ls (v :: w :: st))) := by
  subst hp; exact own_st (fun _ q => XS.dupX1 X.here C.1 rfl (hb C.2.2.2.1 hd) rfl hc hc' q) hr
theorem own_pop (X : Stand p l e R s m args below meth c T locs cells slots) (C : OwnCx p s m meth c Z y bs maxL rt) {v : Value} (hd : decode bs pc = .ok (.pop, 1)) (pc' : Nat) (hp : pc + 1 = pc') (hc : v.category = 1)
    (hr : OwnEnds p e below G (T.setTop (mkF m pc' Ls st))) : OwnEnds p e below G (T.setTop (mkF m pc Ls (v :: st))) := by
  subst hp; exact own_st (fun _ q => XS.pop X.here C.1 rfl (hb C.2.2.2.1 hd) rfl hc q) hr
theorem own_dup2 (X : Stand p l e R s m args below meth c T locs cells slots) (C : OwnCx p s m meth c Z y bs maxL rt) {v w : Value} (hd : decode bs pc = .ok (.dup2, 1)) (pc' : Nat) (hp : pc + 1 = pc') (hc : v.category = 1) (hc' : w.category = 1)
    (hr : OwnEnds p e below G (T.setTop (mkF m pc' Ls (v :: w :: v :: w :: st)))) : OwnEnds p e below G (T.setTop (mkF m pc Ls (v :: w :: st))) := by
  subst hp; exact own_st (fun _ q => XT.dup2 X.here C.1 rfl (hb C.2.2.2.1 hd) rfl hc hc' q) hr
theorem own_goto (X : Stand p l e R s m args below meth c T locs cells slots) (C : OwnCx p s m meth c Z y bs maxL rt) {o : Int} (hd : decode bs pc = .ok (.goto o, 3)) (pc' : Nat) (ho : 0 ≤ (pc : Int) + o) (hp : ((pc : Int) + o).toNat = pc')
    (hr : OwnEnds p e below G (T.setTop (mkF m pc' Ls st))) : OwnEnds p e below G (T.setTop (mkF m pc Ls st)) :=
  own_st (fun _ q => XS.goto X.here C.1 rfl rfl (hb C.2.2.2.1 hd) ho hp q) hr
theorem own_icmplt (X : Stand p l e R s m args below meth c T locs cells slots) (C : OwnCx p s m meth c Z y bs maxL rt) {x' y' : Int32} {o : Int} (hd : decode bs pc = .ok (.if_icmp .lt o, 3)) (pn pc' : Nat) (hpn : pc + 3 = pn) (ho : 0 ≤ (pc : Int) + o) (hp : ((pc : Int) + o).toNat = pc') {i : Int} (hi : x'.toInt = i) {j : Int} (hj : y'.toInt = j) 
    (hy : i < j → OwnEnds p e below G (T.setTop (mkF m pc' Ls st))) (hn : j ≤ i → OwnEnds p e below G (T.setTop (mkF m pn Ls st))) : OwnEnds p e below G (T.setTop (mkF m pc Ls (.int y' :: .int x' :: st))) := by
  subst hpn
  by_cases k : x' < y'
  · exact own_st (fun _ q => XS.icmpYes X.here C.1 rfl rfl (hb C.2.2.2.1 hd) rfl (((tlt k).1)) ho hp q) (hy (by rw [Int32.lt_iff_toInt_lt] at k; have q : y'.toInt = j := hj; omega))
  · exact own_st (fun _ q => XS.icmpNo X.here C.1 rfl (hb C.2.2.2.1 hd) rfl (((flt k).1)) q) (hn (by rw [Int32.lt_iff_toInt_lt] at k; have q : y'.toInt = j := hj; omega))
theorem own_icmpge (X : Stand p l e R s m args below meth c T locs cells slots) (C : OwnCx p s m meth c Z y bs maxL rt) {x' y' : Int32} {o : Int} (hd : decode bs pc = .ok (.if_icmp .ge o, 3)) (pn pc' : Nat) (hpn : pc + 3 = pn) (ho : 0 ≤ (pc : Int) + o) (hp : ((pc : Int) + o).toNat = pc') {i : Int} (hi : x'.toInt = i) {j : Int} (hj : y'.toInt = j) 
    (hy : j ≤ i → OwnEnds p e below G (T.setTop (mkF m pc' Ls st))) (hn : i < j → OwnEnds p e below G (T.setTop (mkF m pn Ls st))) : OwnEnds p e below G (T.setTop (mkF m pc Ls (.int y' :: .int x' :: st))) := by
  subst hpn
  by_cases k : x' < y'
  · exact own_st (fun _ q => XS.icmpNo X.here C.1 rfl (hb C.2.2.2.1 hd) rfl (((tlt k).2.1)) q) (hn (by rw [Int32.lt_iff_toInt_lt] at k; have q : y'.toInt = j := hj; omega))
  · exact own_st (fun _ q => XS.icmpYes X.here C.1 rfl rfl (hb C.2.2.2.1 hd) rfl (((flt k).2.1)) ho hp q) (hy (by rw [Int32.lt_iff_toInt_lt] at k; have q : y'.toInt = j := hj; omega))
theorem own_icmpgt (X : Stand p l e R s m args below meth c T locs cells slots) (C : OwnCx p s m meth c Z y bs maxL rt) {x' y' : Int32} {o : Int} (hd : decode bs pc = .ok (.if_icmp .gt o, 3)) (pn pc' : Nat) (hpn : pc + 3 = pn) (ho : 0 ≤ (pc : Int) + o) (hp : ((pc : Int) + o).toNat = pc') {i : Int} (hi : x'.toInt = i) {j : Int} (hj : y'.toInt = j) 
    (hy : j < i → OwnEnds p e below G (T.setTop (mkF m pc' Ls st))) (hn : i ≤ j → OwnEnds p e below G (T.setTop (mkF m pn Ls st))) : OwnEnds p e below G (T.setTop (mkF m pc Ls (.int y' :: .int x' :: st))) := by
  subst hpn
  by_cases k : y' < x'
  · exact own_st (fun _ q => XS.icmpYes X.here C.1 rfl rfl (hb C.2.2.2.1 hd) rfl (((tlt k).2.2.1)) ho hp q) (hy (by rw [Int32.lt_iff_toInt_lt] at k; have q : y'.toInt = j := hj; omega))
  · exact own_st (fun _ q => XS.icmpNo X.here C.1 rfl (hb C.2.2.2.1 hd) rfl (((flt k).2.2.1)) q) (hn (by rw [Int32.lt_iff_toInt_lt] at k; have q : y'.toInt = j := hj; omega))
theorem own_icmple (X : Stand p l e R s m args below meth c T locs cells slots) (C : OwnCx p s m meth c Z y bs maxL rt) {x' y' : Int32} {o : Int} (hd : decode bs pc = .ok (.if_icmp .le o, 3)) (pn pc' : Nat) (hpn : pc + 3 = pn) (ho : 0 ≤ (pc : Int) + o) (hp : ((pc : Int) + o).toNat = pc') {i : Int} (hi : x'.toInt = i) {j : Int} (hj : y'.toInt = j) 
    (hy : i ≤ j → OwnEnds p e below G (T.setTop (mkF m pc' Ls st))) (hn : j < i → OwnEnds p e below G (T.setTop (mkF m pn Ls st))) : OwnEnds p e below G (T.setTop (mkF m pc Ls (.int y' :: .int x' :: st))) := by
  subst hpn
  by_cases k : y' < x'
  · exact own_st (fun _ q => XS.icmpNo X.here C.1 rfl (hb C.2.2.2.1 hd) rfl (((tlt k).2.2.2)) q) (hn (by rw [Int32.lt_iff_toInt_lt] at k; have q : y'.toInt = j := hj; omega))
  · exact own_st (fun _ q => XS.icmpYes X.here C.1 rfl rfl (hb C.2.2.2.1 hd) rfl (((flt k).2.2.2)) ho hp q) (hy (by rw [Int32.lt_iff_toInt_lt] at k; have q : y'.toInt = j := hj; omega))
theorem own_icmpeq (X : Stand p l e R s m args below meth c T locs cells slots) (C : OwnCx p s m meth c Z y bs maxL rt) {x' y' : Int32} {o : Int} (hd : decode bs pc = .ok (.if_icmp .eq o, 3)) (pn pc' : Nat) (hpn : pc + 3 = pn) (ho : 0 ≤ (pc : Int) + o) (hp : ((pc : Int) + o).toNat = pc') {i : Int} (hi : x'.toInt = i) {j : Int} (hj : y'.toInt = j) 
    (hy : i = j → OwnEnds p e below G (T.setTop (mkF m pc' Ls st))) (hn : i ≠ j → OwnEnds p e below G (T.setTop (mkF m pn Ls st))) : OwnEnds p e below G (T.setTop (mkF m pc Ls (.int y' :: .int x' :: st))) := by
  subst hpn
  by_cases k : x' = y'
  · exact own_st (fun _ q => XS.icmpYes X.here C.1 rfl rfl (hb C.2.2.2.1 hd) rfl (((teq k).1)) ho hp q) (hy (by subst k; exact hi.symm.trans hj))
  · exact own_st (fun _ q => XS.icmpNo X.here C.1 rfl (hb C.2.2.2.1 hd) rfl (((feq k).1)) q) (hn (fun q => k (Int32.toInt_inj.mp (hi.trans (q.trans hj.symm)))))
theorem own_icmpne (X : Stand p l e R s m args below meth c T locs cells slots) (C : OwnCx p s m meth c Z y bs maxL rt) {x' y' : Int32} {o : Int} (hd : decode bs pc = .ok (.if_icmp .ne o, 3)) (pn pc' : Nat) (hpn : pc + 3 = pn) (ho : 0 ≤ (pc : Int) + o) (hp : ((pc : Int) + o).toNat = pc') {i : Int} (hi : x'.toInt = i) {j : Int} (hj : y'.toInt = j) 
    (hy : i ≠ j → OwnEnds p e below G (T.setTop (mkF m pc' Ls st))) (hn : i = j → OwnEnds p e below G (T.setTop (mkF m pn Ls st))) : OwnEnds p e below G (T.setTop (mkF m pc Ls (.int y' :: .int x' :: st))) := by
  subst hpn
  by_cases k : x' = y'
  · exact own_st (fun _ q => XS.icmpNo X.here C.1 rfl (hb C.2.2.2.1 hd) rfl (((teq k).2)) q) (hn (by subst k; exact hi.symm.trans hj))
  · exact own_st (fun _ q => XS.icmpYes X.here C.1 rfl rfl (hb C.2.2.2.1 hd) rfl (((feq k).2)) ho hp q) (hy (fun q => k (Int32.toInt_inj.mp (hi.trans (q.trans hj.symm)))))
theorem own_iflt (X : Stand p l e R s m args below meth c T locs cells slots) (C : OwnCx p s m meth c Z y bs maxL rt) {x' : Int32} {o : Int} (hd : decode bs pc = .ok (.ifCond .lt o, 3)) (pn pc' : Nat) (hpn : pc + 3 = pn) (ho : 0 ≤ (pc : Int) + o) (hp : ((pc : Int) + o).toNat = pc') {i : Int} (hi : x'.toInt = i) 
    (hy : i < 0 → OwnEnds p e below G (T.setTop (mkF m pc' Ls st))) (hn : 0 ≤ i → OwnEnds p e below G (T.setTop (mkF m pn Ls st))) : OwnEnds p e below G (T.setTop (mkF m pc Ls (.int x' :: st))) := by
  subst hpn
  by_cases k : x' < (0 : Int32)
  · exact own_st (fun _ q => XS.ifYes X.here C.1 rfl rfl (hb C.2.2.2.1 hd) rfl ((if0 _ _).trans ((tlt k).1)) ho hp q) (hy (by rw [Int32.lt_iff_toInt_lt] at k; have q : (0 : Int32).toInt = 0 := (rfl : (0 : Int32).toInt = 0); omega))
  · exact own_st (fun _ q => XS.ifNo X.here C.1 rfl (hb C.2.2.2.1 hd) rfl ((if0 _ _).trans ((flt k).1)) q) (hn (by rw [Int32.lt_iff_toInt_lt] at k; have q : (0 : Int32).toInt = 0 := (rfl : (0 : Int32).toInt = 0); omega))
theorem own_ifge (X : Stand p l e R s m args below meth c T locs cells slots) (C : OwnCx p s m meth c Z y bs maxL rt) {x' : Int32} {o : Int} (hd : decode bs pc = .ok (.ifCond .ge o, 3)) (pn pc' : Nat) (hpn : pc + 3 = pn) (ho : 0 ≤ (pc : Int) + o) (hp : ((pc : Int) + o).toNat = pc') {i : Int} (hi : x'.toInt = i) 
    (hy : 0 ≤ i → OwnEnds p e below G (T.setTop (mkF m pc' Ls st))) (hn : i < 0 → OwnEnds p e below G (T.setTop (mkF m pn Ls st))) : OwnEnds p e below G (T.setTop (mkF m pc Ls (.int x' :: st))) := by
  subst hpn
  by_cases k : x' < (0 : Int32)
  · exact own_st (fun _ q => XS.ifNo X.here C.1 rfl (hb C.2.2.2.1 hd) rfl ((if0 _ _).trans ((tlt k).2.1)) q) (hn (by rw [Int32.lt_iff_toInt_lt] at k; have q : (0 : Int32).toInt = 0 := (rfl : (0 : Int32).toInt = 0); omega))
  · exact own_st (fun _ q => XS.ifYes X.here C.1 rfl rfl (hb C.2.2.2.1 hd) rfl ((if0 _ _).trans ((flt k).2.1)) ho hp q) (hy (by rw [Int32.lt_iff_toInt_lt] at k; have q : (0 : Int32).toInt = 0 := (rfl : (0 : Int32).toInt = 0); omega))
theorem own_ifgt (X : Stand p l e R s m args below meth c T locs cells slots) (C : OwnCx p s m meth c Z y bs maxL rt) {x' : Int32} {o : Int} (hd : decode bs pc = .ok (.ifCond .gt o, 3)) (pn pc' : Nat) (hpn : pc + 3 = pn) (ho : 0 ≤ (pc : Int) + o) (hp : ((pc : Int) + o).toNat = pc') {i : Int} (hi : x'.toInt = i) 
    (hy : 0 < i → OwnEnds p e below G (T.setTop (mkF m pc' Ls st))) (hn : i ≤ 0 → OwnEnds p e below G (T.setTop (mkF m pn Ls st))) : OwnEnds p e below G (T.setTop (mkF m pc Ls (.int x' :: st))) := by
  subst hpn
  by_cases k : (0 : Int32) < x'
  · exact own_st (fun _ q => XS.ifYes X.here C.1 rfl rfl (hb C.2.2.2.1 hd) rfl ((if0 _ _).trans ((tlt k).2.2.1)) ho hp q) (hy (by rw [Int32.lt_iff_toInt_lt] at k; have q : (0 : Int32).toInt = 0 := (rfl : (0 : Int32).toInt = 0); omega))
  · exact own_st (fun _ q => XS.ifNo X.here C.1 rfl (hb C.2.2.2.1 hd) rfl ((if0 _ _).trans ((flt k).2.2.1)) q) (hn (by rw [Int32.lt_iff_toInt_lt] at k; have q : (0 : Int32).toInt = 0 := (rfl : (0 : Int32).toInt = 0); omega))
theorem own_ifle (X : Stand p l e R s m args below meth c T locs cells slots) (C : OwnCx p s m meth c Z y bs maxL rt) {x' : Int32} {o : Int} (hd : decode bs pc = .ok (.ifCond .le o, 3)) (pn pc' : Nat) (hpn : pc + 3 = pn) (ho : 0 ≤ (pc : Int) + o) (hp : ((pc : Int) + o).toNat = pc') {i : Int} (hi : x'.toInt = i) 
    (hy : i ≤ 0 → OwnEnds p e below G (T.setTop (mkF m pc' Ls st))) (hn : 0 < i → OwnEnds p e below G (T.setTop (mkF m pn Ls st))) : OwnEnds p e below G (T.setTop (mkF m pc Ls (.int x' :: st))) := by
  subst hpn
  by_cases k : (0 : Int32) < x'
  · exact own_st (fun _ q => XS.ifNo X.here C.1 rfl (hb C.2.2.2.1 hd) rfl ((if0 _ _).trans ((tlt k).2.2.2)) q) (hn (by rw [Int32.lt_iff_toInt_lt] at k; have q : (0 : Int32).toInt = 0 := (rfl : (0 : Int32).toInt = 0); omega))
  · exact own_st (fun _ q => XS.ifYes X.here C.1 rfl rfl (hb C.2.2.2.1 hd) rfl ((if0 _ _).trans ((flt k).2.2.2)) ho hp q) (hy (by rw [Int32.lt_iff_toInt_lt] at k; have q : (0 : Int32).toInt = 0 := (rfl : (0 : Int32).toInt = 0); omega))
theorem own_ifeq (X : Stand p l e R s m args below meth c T locs cells slots) (C : OwnCx p s m meth c Z y bs maxL rt) {x' : Int32} {o : Int} (hd : decode bs pc = .ok (.ifCond .eq o, 3)) (pn pc' : Nat) (hpn : pc + 3 = pn) (ho : 0 ≤ (pc : Int) + o) (hp : ((pc : Int) + o).toNat = pc') {i : Int} (hi : x'.toInt = i) 
    (hy : i = 0 → OwnEnds p e below G (T.setTop (mkF m pc' Ls st))) (hn : i ≠ 0 → OwnEnds p e below G (T.setTop (mkF m pn Ls st))) : OwnEnds p e below G (T.setTop (mkF m pc Ls (.int x' :: st))) := by
  subst hpn
  by_cases k : x' = (0 : Int32)
  · exact own_st (fun _ q => XS.ifYes X.here C.1 rfl rfl (hb C.2.2.2.1 hd) rfl ((if0 _ _).trans ((teq k).1)) ho hp q) (hy (by subst k; exact hi.symm.trans (rfl : (0 : Int32).toInt = 0)))
  · exact own_st (fun _ q => XS.ifNo X.here C.1 rfl (hb C.2.2.2.1 hd) rfl ((if0 _ _).trans ((feq k).1)) q) (hn (fun q => k (Int32.toInt_inj.mp (hi.trans (q.trans (rfl : (0 : Int32).toInt = 0).symm)))))
theorem own_ifne (X : Stand p l e R s m args below meth c T locs cells slots) (C : OwnCx p s m meth c Z y bs maxL rt) {x' : Int32} {o : Int} (hd : decode bs pc = .ok (.ifCond .ne o, 3)) (pn pc' : Nat) (hpn : pc + 3 = pn) (ho : 0 ≤ (pc : Int) + o) (hp : ((pc : Int) + o).toNat = pc') {i : Int} (hi : x'.toInt = i) 
    (hy : i ≠ 0 → OwnEnds p e below G (T.setTop (mkF m pc' Ls st))) (hn : i = 0 → OwnEnds p e below G (T.setTop (mkF m pn Ls st))) : OwnEnds p e below G (T.setTop (mkF m pc Ls (.int x' :: st))) := by
  subst hpn
  by_cases k : x' = (0 : Int32)
  · exact own_st (fun _ q => XS.ifNo X.here C.1 rfl (hb C.2.2.2.1 hd) rfl ((if0 _ _).trans ((teq k).2)) q) (hn (by subst k; exact hi.symm.trans (rfl : (0 : Int32).toInt = 0)))
  · exact own_st (fun _ q => XS.ifYes X.here C.1 rfl rfl (hb C.2.2.2.1 hd) rfl ((if0 _ _).trans ((feq k).2)) ho hp q) (hy (fun q => k (Int32.toInt_inj.mp (hi.trans (q.trans (rfl : (0 : Int32).toInt = 0).symm)))))
theorem own_ifnonnull_y (X : Stand p l e R s m args below meth c T locs cells slots) (C : OwnCx p s m meth c Z y bs maxL rt) {b : Addr} {o : Int} (hd : decode bs pc = .ok (.ifnonnull o, 3)) (pc' : Nat) (ho : 0 ≤ (pc : Int) + o) (hp : ((pc : Int) + o).toNat = pc')
    (hr : OwnEnds p e below G (T.setTop (mkF m pc' Ls st))) : OwnEnds p e below G (T.setTop (mkF m pc Ls (.ref b :: st))) :=
  own_st (fun _ q => XS.ifnonnullYes X.here C.1 rfl rfl (hb C.2.2.2.1 hd) rfl ho hp q) hr
theorem own_ifnull_n (X : Stand p l e R s m args below meth c T locs cells slots) (C : OwnCx p s m meth c Z y bs maxL rt) {b : Addr} {o : Int} (hd : decode bs pc = .ok (.ifnull o, 3)) (pn : Nat) (hp : pc + 3 = pn)
    (hr : OwnEnds p e below G (T.setTop (mkF m pn Ls st))) : OwnEnds p e below G (T.setTop (mkF m pc Ls (.ref b :: st))) := by
  subst hp; exact own_st (fun _ q => XS.ifnullNo X.here C.1 rfl (hb C.2.2.2.1 hd) rfl q) hr
theorem own_ifnull_y (X : Stand p l e R s m args below meth c T locs cells slots) (C : OwnCx p s m meth c Z y bs maxL rt) {o : Int} (hd : decode bs pc = .ok (.ifnull o, 3)) (pc' : Nat) (ho : 0 ≤ (pc : Int) + o) (hp : ((pc : Int) + o).toNat = pc')
    (hr : OwnEnds p e below G (T.setTop (mkF m pc' Ls st))) : OwnEnds p e below G (T.setTop (mkF m pc Ls (.null :: st))) :=
  own_st (fun _ q => XS.ifnullYes X.here C.1 rfl rfl (hb C.2.2.2.1 hd) rfl ho hp q) hr
theorem own_ifnonnull_n (X : Stand p l e R s m args below meth c T locs cells slots) (C : OwnCx p s m meth c Z y bs maxL rt) {o : Int} (hd : decode bs pc = .ok (.ifnonnull o, 3)) (pn : Nat) (hp : pc + 3 = pn)
    (hr : OwnEnds p e below G (T.setTop (mkF m pn Ls st))) : OwnEnds p e below G (T.setTop (mkF m pc Ls (.null :: st))) := by
  subst hp; exact own_st (fun _ q => XS.ifnonnullNo X.here C.1 rfl (hb C.2.2.2.1 hd) rfl q) hr
theorem own_acmpeq (X : Stand p l e R s m args below meth c T locs cells slots) (C : OwnCx p s m meth c Z y bs maxL rt) {a b : Addr} {o : Int} (hd : decode bs pc = .ok (.if_acmp .eq o, 3)) (pn pc' : Nat) (hpn : pc + 3 = pn) (ho : 0 ≤ (pc : Int) + o) (hp : ((pc : Int) + o).toNat = pc')
    (hy : a = b → OwnEnds p e below G (T.setTop (mkF m pc' Ls st))) (hn : a ≠ b → OwnEnds p e below G (T.setTop (mkF m pn Ls st))) : OwnEnds p e below G (T.setTop (mkF m pc Ls (.ref b :: .ref a :: st))) := by
  subst hpn
  by_cases k : a = b
  · exact own_st (fun _ q => XS.acmpYes X.here C.1 rfl rfl (hb C.2.2.2.1 hd) rfl (by simp [if_acmp.holds, k]) ho hp q) (hy k)
  · exact own_st (fun _ q => XS.acmpNo X.here C.1 rfl (hb C.2.2.2.1 hd) rfl (by simp [if_acmp.holds, k]) q) (hn k)
theorem own_acmpne (X : Stand p l e R s m args below meth c T locs cells slots) (C : OwnCx p s m meth c Z y bs maxL rt) {a b : Addr} {o : Int} (hd : decode bs pc = .ok (.if_acmp .ne o, 3)) (pn pc' : Nat) (hpn : pc + 3 = pn) (ho : 0 ≤ (pc : Int) + o) (hp : ((pc : Int) + o).toNat = pc')
    (hy : a ≠ b → OwnEnds p e below G (T.setTop (mkF m pc' Ls st))) (hn : a = b → OwnEnds p e below G (T.setTop (mkF m pn Ls st))) : OwnEnds p e below G (T.setTop (mkF m pc Ls (.ref b :: .ref a :: st))) := by
  subst hpn
  by_cases k : a = b
  · exact own_st (fun _ q => XS.acmpNo X.here C.1 rfl (hb C.2.2.2.1 hd) rfl (by simp [if_acmp.holds, k]) q) (hn k)
  · exact own_st (fun _ q => XS.acmpYes X.here C.1 rfl rfl (hb C.2.2.2.1 hd) rfl (by simp [if_acmp.holds, k]) ho hp q) (hy k)
theorem own_leave (X : Stand p l e R s m args below meth c T locs cells slots) (C : OwnCx p s m meth c Z y bs maxL rt) (v : Option Value) (hv : meth.sig.returnType = none → v = none) (hce : cells ≤ ce) (hsl : slots ≤ sl) (hQ : Q v T.heap locs) {S : State}
    (k : ∀ fs, (∀ (f : JFrame) (acts : List Action), f.method = m → f.locked = none → f.entered = [] → (doReturn e (T.setTop f) acts v).1 = T.setFrames fs) → Steps p.tables e below S (T.setFrames fs)) : OwnEnds p e below (OwnG s ce sl Q) S := by
  obtain ⟨fs, hr, hrun, hended, hW, hsame⟩ := X.leave (v := v) hv C.2.2.2.2.2.2.1
  exact ⟨_, _, k fs hr, hrun, hended, _, _, rfl, hQ, ⟨_, rfl⟩, hW, hsame.mono hce hsl⟩
theorem own_return (X : Stand p l e R s m args below meth c T locs cells slots) (C : OwnCx p s m meth c Z y bs maxL rt) (hrt : rt = none) (hd : decode bs pc = .ok (.return_, 1)) (hce : cells ≤ ce) (hsl : slots ≤ sl) (hQ : Q none T.heap locs) : OwnEnds p e below (OwnG s ce sl Q) (T.setTop (mkF m pc Ls [])) := by
  subst hrt
  exact own_leave X C none (fun _ => rfl) hce hsl hQ fun fs hr => X.returnOut C.1 C.2.2.2.2.2.1 (hb C.2.2.2.1 hd) hr
theorem own_iretN (X : Stand p l e R s m args below meth c T locs cells slots) (C : OwnCx p s m meth c Z y bs maxL rt) {z : Int32} (t : FieldType) (hrt : rt = some t) (ht : t = .boolean ∨ t = .byte ∨ t = .char ∨ t = .short) (hd : decode bs pc = .ok (.ireturn, 1)) (hce : cells ≤ ce) (hsl : slots ≤ sl) (w : Int32) (hw : nar t z = w) (hQ : Q (some (.int w)) T.heap locs) : OwnEnds p e below (OwnG s ce sl Q) (T.setTop (mkF m pc Ls (.int z :: st))) := by
  subst hrt hw
  exact own_leave X C (some (.int (nar t z))) (fun q => by rw [C.2.2.2.2.2.1] at q; cases q) hce hsl hQ fun fs hr => retN X C.1 C.2.2.2.2.2.1 ht (hb C.2.2.2.1 hd) hr
theorem own_ireturn (X : Stand p l e R s m args below meth c T locs cells slots) (C : OwnCx p s m meth c Z y bs maxL rt) {z : Int32} (hrt : rt = some .int) (hd : decode bs pc = .ok (.ireturn, 1)) (hce : cells ≤ ce) (hsl : slots ≤ sl) (hQ : Q (some (.int z)) T.heap locs) : OwnEnds p e below (OwnG s ce sl Q) (T.setTop (mkF m pc Ls (.int z :: st))) := by
  subst hrt
  exact own_leave X C (some (.int z)) (fun q => by rw [C.2.2.2.2.2.1] at q; cases q) hce hsl hQ fun fs hr => retOut X C.1 C.2.2.2.2.2.1 rfl (Or.inl ⟨rfl, Or.inl rfl, z, rfl⟩) (hb C.2.2.2.1 hd) hr
theorem own_lreturn (X : Stand p l e R s m args below meth c T locs cells slots) (C : OwnCx p s m meth c Z y bs maxL rt) {z : Int64} (hrt : rt = some .long) (hd : decode bs pc = .ok (.lreturn, 1)) (hce : cells ≤ ce) (hsl : slots ≤ sl) (hQ : Q (some (.long z)) T.heap locs) : OwnEnds p e below (OwnG s ce sl Q) (T.setTop (mkF m pc Ls (.long z :: st))) := by
  subst hrt
  exact own_leave X C (some (.long z)) (fun q => by rw [C.2.2.2.2.2.1] at q; cases q) hce hsl hQ fun fs hr => retOut X C.1 C.2.2.2.2.2.1 rfl (Or.inr (Or.inl ⟨rfl, rfl, z, rfl⟩)) (hb C.2.2.2.1 hd) hr
theorem own_areturn (X : Stand p l e R s m args below meth c T locs cells slots) (C : OwnCx p s m meth c Z y bs maxL rt) {z : Value} (t : FieldType) (hrt : rt = some t) (ht : t.isReference = true) (hz : z.isRef = true) (hn : narrow t z = z) (hd : decode bs pc = .ok (.areturn, 1)) (hce : cells ≤ ce) (hsl : slots ≤ sl) (hQ : Q (some z) T.heap locs) : OwnEnds p e below (OwnG s ce sl Q) (T.setTop (mkF m pc Ls (z :: st))) := by
  subst hrt
  exact own_leave X C (some z) (fun q => by rw [C.2.2.2.2.2.1] at q; cases q) hce hsl hQ fun fs hr => retOut X C.1 C.2.2.2.2.2.1 hn (Or.inr (Or.inr (Or.inr (Or.inr ⟨rfl, ht, hz⟩)))) (hb C.2.2.2.1 hd) hr
theorem own_callS (X : Stand p l e R s m args below meth c T locs cells slots) (C : OwnCx p s m meth c Z y bs maxL rt) {idx : Nat} {y' : MethodName} {bs' : ByteArray} {maxL' : Nat} {rt' : Option FieldType} {rm : Room} {as' : Array Value} {Q' : Option Value → Heap → List Loc → Prop}
    (w1 : (Jvm.Cond.methodLink y.cls idx y').before a0 Z = true) (w2 : (Jvm.Cond.static y').before a0 Z = true) (w3 : (Jvm.Cond.initialized y'.cls).before a0 Z = true) (w4 : (Jvm.Cond.code y' bs' maxL' rt').before a0 Z = true) (hy : y'.cls ≠ "java/lang/invoke/MethodHandle" ∧ y'.cls ≠ "java/lang/invoke/VarHandle")
    (hM : OwnMet l Z y' bs' maxL' rt' [] rm as' h Q') (eT : T.heap = h) {ps : List FieldType} {r : Option FieldType} (hpd : parseMethodDescriptor y'.desc = some ⟨ps, r⟩) (argsL : List Value) (has : argsL.toArray = as') (hlen : argsL.length = ps.length) (hst : st = argsL.reverse ++ rest) (hsz : Ls.size = maxL)
    (W : Nat) (hW : (rest.map fun v => v.category).sum = W) (hf : rm.frames + 1 ≤ R.frames) (hlo : W + (maxL' + 11) + rm.locals ≤ R.locals) (hce : cells + rm.cells ≤ R.cells) (hsl : slots + rm.slots ≤ R.slots) (hd : decode bs pc = .ok (.invokestatic idx, 3)) (pc' : Nat) (hp : pc + 3 = pc')
    (hr : ∀ T' L v, Stand p l e R s m args below meth c T' (locs ++ L) (cells + rm.cells) (slots + rm.slots) → Q' v T'.heap L → OwnEnds p e below G (T'.setTop (mkF m pc' Ls (v.toList ++ rest)))) : OwnEnds p e below G (T.setTop (mkF m pc Ls st)) := by
  subst hp has hW
  obtain ⟨v, _, ⟨T', L, k, n⟩, -, X', ⟨L', hQ, l1, l2, l3⟩, stp⟩ := Jvm.LawKit.callS X C.1 C.2.2.1 (mvT C.2.1 w1) (mvT C.2.1 w2) (mvT C.2.1 w3) (mvT C.2.1 w4) hy (backOf (len := 3) (W := (rest.map fun v => v.category).sum) hM C.2.1 w4 w3 hf hlo) (g := mkF m pc Ls st) rfl (by rw [C.2.2.2.2.1]; exact hsz) (argsL := argsL) (rest := rest) (lenOf hpd hlen) hst (by show 2 * 0 + _ ≤ _; omega) (hb C.2.2.2.1 hd) (fun _ _ => ⟨rfl, eT, hce, hsl⟩)
  dsimp only [Pt.U, Pt.locs, Pt.cells, Pt.slots] at X' l1 l2 l3 stp hQ
  subst l1 l2 l3
  exact own_st stp (hr T' L' v X' hQ)
/-- a callee that returns w and leaves the heap alone -/
def OwnPure (w : Value) (h : Heap) : Option Value → Heap → List Loc → Prop := fun v h' L => v = some w ∧ h' = h ∧ L = []
theorem own_conv {ws : List Jvm.Cond} {rm : Room} {as' : Array Value} {w w' : Value} (H : OwnMet l Z y bs maxL rt ws rm as' h (OwnPure w h)) (q : w = w') : OwnMet l Z y bs maxL rt ws rm as' h (OwnPure w' h) := q ▸ H
theorem own_callP (X : Stand p l e R s m args below meth c T locs cells slots) (C : OwnCx p s m meth c Z y bs maxL rt) {idx : Nat} {y' : MethodName} {bs' : ByteArray} {maxL' : Nat} {rt' : Option FieldType} {rm : Room} {as' : Array Value} {w : Value}
    (w1 : (Jvm.Cond.methodLink y.cls idx y').before a0 Z = true) (w2 : (Jvm.Cond.static y').before a0 Z = true) (w3 : (Jvm.Cond.initialized y'.cls).before a0 Z = true) (w4 : (Jvm.Cond.code y' bs' maxL' rt').before a0 Z = true) (hy : y'.cls ≠ "java/lang/invoke/MethodHandle" ∧ y'.cls ≠ "java/lang/invoke/VarHandle")
    (hM : OwnMet l Z y' bs' maxL' rt' [] rm as' h (OwnPure w h)) (eT : T.heap = h) {ps : List FieldType} {r : Option FieldType} (hpd : parseMethodDescriptor y'.desc = some ⟨ps, r⟩) (argsL : List Value) (has : argsL.toArray = as') (hlen : argsL.length = ps.length) (hst : st = argsL.reverse ++ rest) (hsz : Ls.size = maxL)
    (W : Nat) (hW : (rest.map fun v => v.category).sum = W) (hf : rm.frames + 1 ≤ R.frames) (hlo : W + (maxL' + 11) + rm.locals ≤ R.locals) (hce : rm.cells = 0) (hsl : rm.slots = 0) (hc0 : cells ≤ R.cells) (hs0 : slots ≤ R.slots) (hd : decode bs pc = .ok (.invokestatic idx, 3)) (pc' : Nat) (hp : pc + 3 = pc')
    (hr : ∀ T', Stand p l e R s m args below meth c T' locs cells slots → T'.heap = h → OwnEnds p e below G (T'.setTop (mkF m pc' Ls (w :: rest)))) : OwnEnds p e below G (T.setTop (mkF m pc Ls st)) := by
  refine own_callS X C w1 w2 w3 w4 hy hM eT hpd argsL has hlen hst hsz W hW hf hlo (by omega) (by omega) hd pc' hp ?_
  rintro T' L v X' ⟨rfl, e, rfl⟩
  rw [List.append_nil, hce, hsl] at X'
  exact hr T' X' e
/-- a callee that leaves the heap alone and returns a value of which Pw says something -/
def OwnSome (Pw : Value → Prop) (h : Heap) : Option Value → Heap → List Loc → Prop := fun v h' L => (∃ w, v = some w ∧ Pw w) ∧ h' = h ∧ L = []
theorem own_callE (X : Stand p l e R s m args below meth c T locs cells slots) (C : OwnCx p s m meth c Z y bs maxL rt) {idx : Nat} {y' : MethodName} {bs' : ByteArray} {maxL' : Nat} {rt' : Option FieldType} {rm : Room} {as' : Array Value} {Pw : Value → Prop}
    (w1 : (Jvm.Cond.methodLink y.cls idx y').before a0 Z = true) (w2 : (Jvm.Cond.static y').before a0 Z = true) (w3 : (Jvm.Cond.initialized y'.cls).before a0 Z = true) (w4 : (Jvm.Cond.code y' bs' maxL' rt').before a0 Z = true) (hy : y'.cls ≠ "java/lang/invoke/MethodHandle" ∧ y'.cls ≠ "java/lang/invoke/VarHandle")
    (hM : OwnMet l Z y' bs' maxL' rt' [] rm as' h (OwnSome Pw h)) (eT : T.heap = h) {ps : List FieldType} {r : Option FieldType} (hpd : parseMethodDescriptor y'.desc = some ⟨ps, r⟩) (argsL : List Value) (has : argsL.toArray = as') (hlen : argsL.length = ps.length) (hst : st = argsL.reverse ++ rest) (hsz : Ls.size = maxL)
    (W : Nat) (hW : (rest.map fun v => v.category).sum = W) (hf : rm.frames + 1 ≤ R.frames) (hlo : W + (maxL' + 11) + rm.locals ≤ R.locals) (hce : rm.cells = 0) (hsl : rm.slots = 0) (hc0 : cells ≤ R.cells) (hs0 : slots ≤ R.slots) (hd : decode bs pc = .ok (.invokestatic idx, 3)) (pc' : Nat) (hp : pc + 3 = pc')
    (hr : ∀ T' w, Pw w → Stand p l e R s m args below meth c T' locs cells slots → T'.heap = h → OwnEnds p e below G (T'.setTop (mkF m pc' Ls (w :: rest)))) : OwnEnds p e below G (T.setTop (mkF m pc Ls st)) := by
  refine own_callS X C w1 w2 w3 w4 hy hM eT hpd argsL has hlen hst hsz W hW hf hlo (by omega) (by omega) hd pc' hp ?_
  rintro T' L v X' ⟨⟨w, rfl, hw⟩, e, rfl⟩
  rw [List.append_nil, hce, hsl] at X'
  exact hr T' w hw X' e
end OwnLayer
theorem own_w {Z : State} {a0 : Array Value} (hw : ∀ d ∈ tables_1, d.before a0 Z = true) (k : Nat) {d : Jvm.Cond} (q : tables_1[k]? = some d) : d.before a0 Z = true := hw _ (List.mem_of_getElem? q)
def own_ushr (a b : Int32) : Int32 := (a.toUInt32 >>> (b &&& 31).toUInt32).toInt32
def own_cut (lim : Int) (d k : Int32) (q : Int32 × Int32) : Int32 × Int32 := if q.2.toInt < lim then q else (q.1 + d, own_ushr q.2 k)
def own_q (i : Int32) : Int32 × Int32 := own_cut 4 (-2) 2 (own_cut 16 (-4) 4 (own_cut 256 (-8) 8 (own_cut 65536 (-16) 16 (31, i))))
def own_nlz (i : Int32) : Int32 := if 0 < i.toInt then (own_q i).1 - own_ushr (own_q i).2 1 else if i.toInt ≠ 0 then 0 else 32
def own_first (i : Int32) : Int32 := if 4 ≤ i.toInt then ((2 ||| (i &&& 1)) <<< ((own_ushr i 1 - 1) &&& 31)) + 1 else i + 1
def own_slot (i : Int32) : Int32 := if 4 ≤ (i - 1).toInt then 2 * (31 - own_nlz (i - 1)) + (own_ushr (i - 1) (31 - own_nlz (i - 1) - 1) &&& 1) else i - 1
theorem own_all : ∀ k : Fin 33, 1 ≤ (own_first (Int32.ofNat k)).toInt ∧ own_slot (own_first (Int32.ofNat k)) = Int32.ofNat k ∧ (k.val = 0 → own_first (Int32.ofNat k) = 1) ∧ (k.val ≠ 0 → own_slot (own_first (Int32.ofNat k) - 1) = Int32.ofNat k - 1) := by decide +kernel
theorem own_at (i : Int32) (h0 : 0 ≤ i.toInt) (h1 : i.toInt < 33) : 1 ≤ (own_first i).toInt ∧ own_slot (own_first i) = i ∧ (i.toInt = 0 → own_first i = 1) ∧ (i.toInt ≠ 0 → own_slot (own_first i - 1) = i - 1) := by
  have e : i = Int32.ofNat i.toInt.toNat := by
    apply Int32.toInt_inj.mp
    rw [Int32.toInt_ofNat_of_lt (by omega)]; omega
  have k := own_all ⟨i.toInt.toNat, by omega⟩
  rw [← e] at k
  exact ⟨k.1, k.2.1, fun q => k.2.2.1 (by show i.toInt.toNat = 0; omega), fun q => k.2.2.2 (by show i.toInt.toNat ≠ 0; omega)⟩
theorem own_pn_Integer : plainName "java/lang/Integer" = true := by first | (simp [plainName, overriddenIn]; done) | decide +kernel
theorem own_pd_I_R_I : parseMethodDescriptor "(I)I" = some ⟨[.int], some .int⟩ := by decide +kernel
theorem own_d_jdk_33_method_47_code_0 : decode jdk_33_method_47_code 0 = .ok (.iload_n 0, 1) := by decide +kernel
theorem own_d_jdk_33_method_47_code_1 : decode jdk_33_method_47_code 1 = .ok (.ifCond .gt 14, 3) := by decide +kernel
theorem own_d_jdk_33_method_47_code_4 : decode jdk_33_method_47_code 4 = .ok (.iload_n 0, 1) := by decide +kernel
theorem own_d_jdk_33_method_47_code_5 : decode jdk_33_method_47_code 5 = .ok (.ifCond .ne 8, 3) := by decide +kernel
theorem own_d_jdk_33_method_47_code_8 : decode jdk_33_method_47_code 8 = .ok (.bipush 32, 2) := by decide +kernel
theorem own_d_jdk_33_method_47_code_10 : decode jdk_33_method_47_code 10 = .ok (.goto 4, 3) := by decide +kernel
theorem own_d_jdk_33_method_47_code_13 : decode jdk_33_method_47_code 13 = .ok (.iconst 0, 1) := by decide +kernel
theorem own_d_jdk_33_method_47_code_14 : decode jdk_33_method_47_code 14 = .ok (.ireturn, 1) := by decide +kernel
theorem own_d_jdk_33_method_47_code_15 : decode jdk_33_method_47_code 15 = .ok (.bipush 31, 2) := by decide +kernel
theorem own_d_jdk_33_method_47_code_17 : decode jdk_33_method_47_code 17 = .ok (.istore_n 1, 1) := by decide +kernel
theorem own_d_jdk_33_method_47_code_18 : decode jdk_33_method_47_code 18 = .ok (.iload_n 0, 1) := by decide +kernel
theorem own_d_jdk_33_method_47_code_19 : decode jdk_33_method_47_code 19 = .ok (.ldc_w 264, 3) := by decide +kernel
theorem own_d_jdk_33_method_47_code_22 : decode jdk_33_method_47_code 22 = .ok (.if_icmp .lt 11, 3) := by decide +kernel
theorem own_d_jdk_33_method_47_code_25 : decode jdk_33_method_47_code 25 = .ok (.iinc 1 (-16), 3) := by decide +kernel
theorem own_d_jdk_33_method_47_code_28 : decode jdk_33_method_47_code 28 = .ok (.iload_n 0, 1) := by decide +kernel
theorem own_d_jdk_33_method_47_code_29 : decode jdk_33_method_47_code 29 = .ok (.bipush 16, 2) := by decide +kernel
theorem own_d_jdk_33_method_47_code_31 : decode jdk_33_method_47_code 31 = .ok (.iushr, 1) := by decide +kernel
theorem own_d_jdk_33_method_47_code_32 : decode jdk_33_method_47_code 32 = .ok (.istore_n 0, 1) := by decide +kernel
theorem own_d_jdk_33_method_47_code_33 : decode jdk_33_method_47_code 33 = .ok (.iload_n 0, 1) := by decide +kernel
theorem own_d_jdk_33_method_47_code_34 : decode jdk_33_method_47_code 34 = .ok (.sipush 256, 3) := by decide +kernel
theorem own_d_jdk_33_method_47_code_37 : decode jdk_33_method_47_code 37 = .ok (.if_icmp .lt 11, 3) := by decide +kernel
theorem own_d_jdk_33_method_47_code_40 : decode jdk_33_method_47_code 40 = .ok (.iinc 1 (-8), 3) := by decide +kernel
theorem own_d_jdk_33_method_47_code_43 : decode jdk_33_method_47_code 43 = .ok (.iload_n 0, 1) := by decide +kernel
theorem own_d_jdk_33_method_47_code_44 : decode jdk_33_method_47_code 44 = .ok (.bipush 8, 2) := by decide +kernel
theorem own_d_jdk_33_method_47_code_46 : decode jdk_33_method_47_code 46 = .ok (.iushr, 1) := by decide +kernel
theorem own_d_jdk_33_method_47_code_47 : decode jdk_33_method_47_code 47 = .ok (.istore_n 0, 1) := by decide +kernel
theorem own_d_jdk_33_method_47_code_48 : decode jdk_33_method_47_code 48 = .ok (.iload_n 0, 1) := by decide +kernel
theorem own_d_jdk_33_method_47_code_49 : decode jdk_33_method_47_code 49 = .ok (.bipush 16, 2) := by decide +kernel
theorem own_d_jdk_33_method_47_code_51 : decode jdk_33_method_47_code 51 = .ok (.if_icmp .lt 10, 3) := by decide +kernel
theorem own_d_jdk_33_method_47_code_54 : decode jdk_33_method_47_code 54 = .ok (.iinc 1 (-4), 3) := by decide +kernel
theorem own_d_jdk_33_method_47_code_57 : decode jdk_33_method_47_code 57 = .ok (.iload_n 0, 1) := by decide +kernel
theorem own_d_jdk_33_method_47_code_58 : decode jdk_33_method_47_code 58 = .ok (.iconst 4, 1) := by decide +kernel
theorem own_d_jdk_33_method_47_code_59 : decode jdk_33_method_47_code 59 = .ok (.iushr, 1) := by decide +kernel
theorem own_d_jdk_33_method_47_code_60 : decode jdk_33_method_47_code 60 = .ok (.istore_n 0, 1) := by decide +kernel
theorem own_d_jdk_33_method_47_code_61 : decode jdk_33_method_47_code 61 = .ok (.iload_n 0, 1) := by decide +kernel
theorem own_d_jdk_33_method_47_code_62 : decode jdk_33_method_47_code 62 = .ok (.iconst 4, 1) := by decide +kernel
theorem own_d_jdk_33_method_47_code_63 : decode jdk_33_method_47_code 63 = .ok (.if_icmp .lt 10, 3) := by decide +kernel
theorem own_d_jdk_33_method_47_code_66 : decode jdk_33_method_47_code 66 = .ok (.iinc 1 (-2), 3) := by decide +kernel
theorem own_d_jdk_33_method_47_code_69 : decode jdk_33_method_47_code 69 = .ok (.iload_n 0, 1) := by decide +kernel
theorem own_d_jdk_33_method_47_code_70 : decode jdk_33_method_47_code 70 = .ok (.iconst 2, 1) := by decide +kernel
theorem own_d_jdk_33_method_47_code_71 : decode jdk_33_method_47_code 71 = .ok (.iushr, 1) := by decide +kernel
theorem own_d_jdk_33_method_47_code_72 : decode jdk_33_method_47_code 72 = .ok (.istore_n 0, 1) := by decide +kernel
theorem own_d_jdk_33_method_47_code_73 : decode jdk_33_method_47_code 73 = .ok (.iload_n 1, 1) := by decide +kernel
theorem own_d_jdk_33_method_47_code_74 : decode jdk_33_method_47_code 74 = .ok (.iload_n 0, 1) := by decide +kernel
theorem own_d_jdk_33_method_47_code_75 : decode jdk_33_method_47_code 75 = .ok (.iconst 1, 1) := by decide +kernel
theorem own_d_jdk_33_method_47_code_76 : decode jdk_33_method_47_code 76 = .ok (.iushr, 1) := by decide +kernel
theorem own_d_jdk_33_method_47_code_77 : decode jdk_33_method_47_code 77 = .ok (.isub, 1) := by decide +kernel
theorem own_d_jdk_33_method_47_code_78 : decode jdk_33_method_47_code 78 = .ok (.ireturn, 1) := by decide +kernel
set_option maxRecDepth 65536 in
set_option maxHeartbeats 4000000 in
theorem own_ef_own_rm_numberOfLeadingZeros (m : MethodId) (ia0 : Int32) : entryFrame m #[(.int ia0)] 2 = (mkF m 0 #[.val (.int ia0), .unset] []) := by first | (simp [entryFrame, mkF, argsToLocals, Value.category]; done) | rfl
set_option maxRecDepth 65536 in
set_option maxHeartbeats 4000000 in
theorem own_rm_numberOfLeadingZeros (l : Launch) (Z : State) (a0 : Array Value) (hw : ∀ d ∈ tables_1, d.before a0 Z = true) (ia0 : Int32) (h : Heap)  :
    OwnMet l Z (⟨"java/lang/Integer", "numberOfLeadingZeros", "(I)I"⟩ : MethodName) jdk_33_method_47_code 2 (some .int) [] ({ frames := 0, cells := 0, slots := 0, locals := 0 } : Room) #[(.int ia0)] h (OwnPure (.int (own_nlz ia0)) h) := by
  refine own_enter (f0 := fun m => mkF m 0 #[.val (.int ia0), .unset] []) (plainFor_of_name own_pn_Integer) (fun m => own_ef_own_rm_numberOfLeadingZeros m ia0) ?_
  intro p e s m below meth c T0 X0 C e0
  refine own_iload_n X0 C own_d_jdk_33_method_47_code_0 1 rfl rfl ?_
  refine own_ifgt X0 C own_d_jdk_33_method_47_code_1 4 15 rfl (by decide) (by decide) (i := ia0.toInt) rfl (fun b1 => ?_) (fun b1 => ?_)
  · refine own_bipush X0 C own_d_jdk_33_method_47_code_15 17 rfl (31) rfl ?_
    refine own_istore_n X0 C own_d_jdk_33_method_47_code_17 18 rfl #[.val (.int ia0), .val (.int (31 : Int32))] rfl ?_
    refine own_iload_n X0 C own_d_jdk_33_method_47_code_18 19 rfl rfl ?_
    refine own_ldcw X0 C (own_w hw 12 rfl) own_d_jdk_33_method_47_code_19 22 rfl ?_
    refine own_icmplt X0 C own_d_jdk_33_method_47_code_22 25 33 rfl (by decide) (by decide) (i := ia0.toInt) rfl (j := 65536) (by decide) (fun b2 => ?_) (fun b2 => ?_)
    · have s33 : own_cut 65536 (-16) 16 ((31, ia0) : Int32 × Int32) = ((31 : Int32), ia0) := by exact if_pos b2
      refine own_iload_n X0 C own_d_jdk_33_method_47_code_33 34 rfl rfl ?_
      refine own_sipush X0 C own_d_jdk_33_method_47_code_34 37 rfl (256) rfl ?_
      refine own_icmplt X0 C own_d_jdk_33_method_47_code_37 40 48 rfl (by decide) (by decide) (i := ia0.toInt) rfl (j := 256) (by decide) (fun b3 => ?_) (fun b3 => ?_)
      · have s48 : own_cut 256 (-8) 8 (own_cut 65536 (-16) 16 ((31, ia0) : Int32 × Int32)) = ((31 : Int32), ia0) := by rw [s33]; exact if_pos b3
        refine own_iload_n X0 C own_d_jdk_33_method_47_code_48 49 rfl rfl ?_
        refine own_bipush X0 C own_d_jdk_33_method_47_code_49 51 rfl (16) rfl ?_
        refine own_icmplt X0 C own_d_jdk_33_method_47_code_51 54 61 rfl (by decide) (by decide) (i := ia0.toInt) rfl (j := 16) (by decide) (fun b4 => ?_) (fun b4 => ?_)
        · have s61 : own_cut 16 (-4) 4 (own_cut 256 (-8) 8 (own_cut 65536 (-16) 16 ((31, ia0) : Int32 × Int32))) = ((31 : Int32), ia0) := by rw [s48]; exact if_pos b4
          refine own_iload_n X0 C own_d_jdk_33_method_47_code_61 62 rfl rfl ?_
          refine own_iconst X0 C own_d_jdk_33_method_47_code_62 63 rfl (4) rfl ?_
          refine own_icmplt X0 C own_d_jdk_33_method_47_code_63 66 73 rfl (by decide) (by decide) (i := ia0.toInt) rfl (j := 4) (by decide) (fun b5 => ?_) (fun b5 => ?_)
          · have s73 : own_cut 4 (-2) 2 (own_cut 16 (-4) 4 (own_cut 256 (-8) 8 (own_cut 65536 (-16) 16 ((31, ia0) : Int32 × Int32)))) = ((31 : Int32), ia0) := by rw [s61]; exact if_pos b5
            refine own_iload_n X0 C own_d_jdk_33_method_47_code_73 74 rfl rfl ?_
            refine own_iload_n X0 C own_d_jdk_33_method_47_code_74 75 rfl rfl ?_
            refine own_iconst X0 C own_d_jdk_33_method_47_code_75 76 rfl (1) rfl ?_
            refine own_iushr X0 C own_d_jdk_33_method_47_code_76 77 rfl (fun v1 ev1 => ?_)
            refine own_isub X0 C own_d_jdk_33_method_47_code_77 78 rfl (fun v2 ev2 => ?_)
            refine own_ireturn X0 C rfl own_d_jdk_33_method_47_code_78 (by decide) (by decide) ?_
            refine ⟨?_, e0, rfl⟩
            have sq : own_q ia0 = ((31 : Int32), ia0) := s73
            rw [own_nlz, if_pos (by omega), sq, ev2]
            simp only [own_ushr]
            rw [ev1]
          · refine own_iinc X0 C own_d_jdk_33_method_47_code_66 69 rfl rfl (-2) rfl (fun z => #[.val (.int ia0), .val (.int z)]) (fun z => rfl) (fun v3 ev3 => ?_)
            refine own_iload_n X0 C own_d_jdk_33_method_47_code_69 70 rfl rfl ?_
            refine own_iconst X0 C own_d_jdk_33_method_47_code_70 71 rfl (2) rfl ?_
            refine own_iushr X0 C own_d_jdk_33_method_47_code_71 72 rfl (fun v4 ev4 => ?_)
            refine own_istore_n X0 C own_d_jdk_33_method_47_code_72 73 rfl #[.val (.int v4), .val (.int v3)] rfl ?_
            have s73 : own_cut 4 (-2) 2 (own_cut 16 (-4) 4 (own_cut 256 (-8) 8 (own_cut 65536 (-16) 16 ((31, ia0) : Int32 × Int32)))) = (v3, v4) := by rw [s61]; exact (if_neg (show ¬ (ia0.toInt < 4) by omega)).trans (by rw [ev3, ev4]; rfl)
            refine own_iload_n X0 C own_d_jdk_33_method_47_code_73 74 rfl rfl ?_
            refine own_iload_n X0 C own_d_jdk_33_method_47_code_74 75 rfl rfl ?_
            refine own_iconst X0 C own_d_jdk_33_method_47_code_75 76 rfl (1) rfl ?_
            refine own_iushr X0 C own_d_jdk_33_method_47_code_76 77 rfl (fun v5 ev5 => ?_)
            refine own_isub X0 C own_d_jdk_33_method_47_code_77 78 rfl (fun v6 ev6 => ?_)
            refine own_ireturn X0 C rfl own_d_jdk_33_method_47_code_78 (by decide) (by decide) ?_
            refine ⟨?_, e0, rfl⟩
            have sq : own_q ia0 = (v3, v4) := s73
            rw [own_nlz, if_pos (by omega), sq, ev6]
            simp only [own_ushr]
            rw [ev5]
        · refine own_iinc X0 C own_d_jdk_33_method_47_code_54 57 rfl rfl (-4) rfl (fun z => #[.val (.int ia0), .val (.int z)]) (fun z => rfl) (fun v7 ev7 => ?_)
          refine own_iload_n X0 C own_d_jdk_33_method_47_code_57 58 rfl rfl ?_
          refine own_iconst X0 C own_d_jdk_33_method_47_code_58 59 rfl (4) rfl ?_
          refine own_iushr X0 C own_d_jdk_33_method_47_code_59 60 rfl (fun v8 ev8 => ?_)
          refine own_istore_n X0 C own_d_jdk_33_method_47_code_60 61 rfl #[.val (.int v8), .val (.int v7)] rfl ?_
          have s61 : own_cut 16 (-4) 4 (own_cut 256 (-8) 8 (own_cut 65536 (-16) 16 ((31, ia0) : Int32 × Int32))) = (v7, v8) := by rw [s48]; exact (if_neg (show ¬ (ia0.toInt < 16) by omega)).trans (by rw [ev7, ev8]; rfl)
          refine own_iload_n X0 C own_d_jdk_33_method_47_code_61 62 rfl rfl ?_
          refine own_iconst X0 C own_d_jdk_33_method_47_code_62 63 rfl (4) rfl ?_
          refine own_icmplt X0 C own_d_jdk_33_method_47_code_63 66 73 rfl (by decide) (by decide) (i := v8.toInt) rfl (j := 4) (by decide) (fun b6 => ?_) (fun b6 => ?_)
          · have s73 : own_cut 4 (-2) 2 (own_cut 16 (-4) 4 (own_cut 256 (-8) 8 (own_cut 65536 (-16) 16 ((31, ia0) : Int32 × Int32)))) = (v7, v8) := by rw [s61]; exact if_pos b6
            refine own_iload_n X0 C own_d_jdk_33_method_47_code_73 74 rfl rfl ?_
            refine own_iload_n X0 C own_d_jdk_33_method_47_code_74 75 rfl rfl ?_
            refine own_iconst X0 C own_d_jdk_33_method_47_code_75 76 rfl (1) rfl ?_
            refine own_iushr X0 C own_d_jdk_33_method_47_code_76 77 rfl (fun v9 ev9 => ?_)
            refine own_isub X0 C own_d_jdk_33_method_47_code_77 78 rfl (fun v10 ev10 => ?_)
            refine own_ireturn X0 C rfl own_d_jdk_33_method_47_code_78 (by decide) (by decide) ?_
            refine ⟨?_, e0, rfl⟩
            have sq : own_q ia0 = (v7, v8) := s73
            rw [own_nlz, if_pos (by omega), sq, ev10]
            simp only [own_ushr]
            rw [ev9]
          · refine own_iinc X0 C own_d_jdk_33_method_47_code_66 69 rfl rfl (-2) rfl (fun z => #[.val (.int v8), .val (.int z)]) (fun z => rfl) (fun v11 ev11 => ?_)
            refine own_iload_n X0 C own_d_jdk_33_method_47_code_69 70 rfl rfl ?_
            refine own_iconst X0 C own_d_jdk_33_method_47_code_70 71 rfl (2) rfl ?_
            refine own_iushr X0 C own_d_jdk_33_method_47_code_71 72 rfl (fun v12 ev12 => ?_)
            refine own_istore_n X0 C own_d_jdk_33_method_47_code_72 73 rfl #[.val (.int v12), .val (.int v11)] rfl ?_
            have s73 : own_cut 4 (-2) 2 (own_cut 16 (-4) 4 (own_cut 256 (-8) 8 (own_cut 65536 (-16) 16 ((31, ia0) : Int32 × Int32)))) = (v11, v12) := by rw [s61]; exact (if_neg (show ¬ (v8.toInt < 4) by omega)).trans (by rw [ev11, ev12]; rfl)
            refine own_iload_n X0 C own_d_jdk_33_method_47_code_73 74 rfl rfl ?_
            refine own_iload_n X0 C own_d_jdk_33_method_47_code_74 75 rfl rfl ?_
            refine own_iconst X0 C own_d_jdk_33_method_47_code_75 76 rfl (1) rfl ?_
            refine own_iushr X0 C own_d_jdk_33_method_47_code_76 77 rfl (fun v13 ev13 => ?_)
            refine own_isub X0 C own_d_jdk_33_method_47_code_77 78 rfl (fun v14 ev14 => ?_)
            refine own_ireturn X0 C rfl own_d_jdk_33_method_47_code_78 (by decide) (by decide) ?_
            refine ⟨?_, e0, rfl⟩
            have sq : own_q ia0 = (v11, v12) := s73
            rw [own_nlz, if_pos (by omega), sq, ev14]
            simp only [own_ushr]
            rw [ev13]
      · refine own_iinc X0 C own_d_jdk_33_method_47_code_40 43 rfl rfl (-8) rfl (fun z => #[.val (.int ia0), .val (.int z)]) (fun z => rfl) (fun v15 ev15 => ?_)
        refine own_iload_n X0 C own_d_jdk_33_method_47_code_43 44 rfl rfl ?_
        refine own_bipush X0 C own_d_jdk_33_method_47_code_44 46 rfl (8) rfl ?_
        refine own_iushr X0 C own_d_jdk_33_method_47_code_46 47 rfl (fun v16 ev16 => ?_)
        refine own_istore_n X0 C own_d_jdk_33_method_47_code_47 48 rfl #[.val (.int v16), .val (.int v15)] rfl ?_
        have s48 : own_cut 256 (-8) 8 (own_cut 65536 (-16) 16 ((31, ia0) : Int32 × Int32)) = (v15, v16) := by rw [s33]; exact (if_neg (show ¬ (ia0.toInt < 256) by omega)).trans (by rw [ev15, ev16]; rfl)
        refine own_iload_n X0 C own_d_jdk_33_method_47_code_48 49 rfl rfl ?_
        refine own_bipush X0 C own_d_jdk_33_method_47_code_49 51 rfl (16) rfl ?_
        refine own_icmplt X0 C own_d_jdk_33_method_47_code_51 54 61 rfl (by decide) (by decide) (i := v16.toInt) rfl (j := 16) (by decide) (fun b7 => ?_) (fun b7 => ?_)
        · have s61 : own_cut 16 (-4) 4 (own_cut 256 (-8) 8 (own_cut 65536 (-16) 16 ((31, ia0) : Int32 × Int32))) = (v15, v16) := by rw [s48]; exact if_pos b7
          refine own_iload_n X0 C own_d_jdk_33_method_47_code_61 62 rfl rfl ?_
          refine own_iconst X0 C own_d_jdk_33_method_47_code_62 63 rfl (4) rfl ?_
          refine own_icmplt X0 C own_d_jdk_33_method_47_code_63 66 73 rfl (by decide) (by decide) (i := v16.toInt) rfl (j := 4) (by decide) (fun b8 => ?_) (fun b8 => ?_)
          · have s73 : own_cut 4 (-2) 2 (own_cut 16 (-4) 4 (own_cut 256 (-8) 8 (own_cut 65536 (-16) 16 ((31, ia0) : Int32 × Int32)))) = (v15, v16) := by rw [s61]; exact if_pos b8
            refine own_iload_n X0 C own_d_jdk_33_method_47_code_73 74 rfl rfl ?_
            refine own_iload_n X0 C own_d_jdk_33_method_47_code_74 75 rfl rfl ?_
            refine own_iconst X0 C own_d_jdk_33_method_47_code_75 76 rfl (1) rfl ?_
            refine own_iushr X0 C own_d_jdk_33_method_47_code_76 77 rfl (fun v17 ev17 => ?_)
            refine own_isub X0 C own_d_jdk_33_method_47_code_77 78 rfl (fun v18 ev18 => ?_)
            refine own_ireturn X0 C rfl own_d_jdk_33_method_47_code_78 (by decide) (by decide) ?_
            refine ⟨?_, e0, rfl⟩
            have sq : own_q ia0 = (v15, v16) := s73
            rw [own_nlz, if_pos (by omega), sq, ev18]
            simp only [own_ushr]
            rw [ev17]
          · refine own_iinc X0 C own_d_jdk_33_method_47_code_66 69 rfl rfl (-2) rfl (fun z => #[.val (.int v16), .val (.int z)]) (fun z => rfl) (fun v19 ev19 => ?_)
            refine own_iload_n X0 C own_d_jdk_33_method_47_code_69 70 rfl rfl ?_
            refine own_iconst X0 C own_d_jdk_33_method_47_code_70 71 rfl (2) rfl ?_
            refine own_iushr X0 C own_d_jdk_33_method_47_code_71 72 rfl (fun v20 ev20 => ?_)
            refine own_istore_n X0 C own_d_jdk_33_method_47_code_72 73 rfl #[.val (.int v20), .val (.int v19)] rfl ?_
            have s73 : own_cut 4 (-2) 2 (own_cut 16 (-4) 4 (own_cut 256 (-8) 8 (own_cut 65536 (-16) 16 ((31, ia0) : Int32 × Int32)))) = (v19, v20) := by rw [s61]; exact (if_neg (show ¬ (v16.toInt < 4) by omega)).trans (by rw [ev19, ev20]; rfl)
            refine own_iload_n X0 C own_d_jdk_33_method_47_code_73 74 rfl rfl ?_
            refine own_iload_n X0 C own_d_jdk_33_method_47_code_74 75 rfl rfl ?_
            refine own_iconst X0 C own_d_jdk_33_method_47_code_75 76 rfl (1) rfl ?_
            refine own_iushr X0 C own_d_jdk_33_method_47_code_76 77 rfl (fun v21 ev21 => ?_)
            refine own_isub X0 C own_d_jdk_33_method_47_code_77 78 rfl (fun v22 ev22 => ?_)
            refine own_ireturn X0 C rfl own_d_jdk_33_method_47_code_78 (by decide) (by decide) ?_
            refine ⟨?_, e0, rfl⟩
            have sq : own_q ia0 = (v19, v20) := s73
            rw [own_nlz, if_pos (by omega), sq, ev22]
            simp only [own_ushr]
            rw [ev21]
        · refine own_iinc X0 C own_d_jdk_33_method_47_code_54 57 rfl rfl (-4) rfl (fun z => #[.val (.int v16), .val (.int z)]) (fun z => rfl) (fun v23 ev23 => ?_)
          refine own_iload_n X0 C own_d_jdk_33_method_47_code_57 58 rfl rfl ?_
          refine own_iconst X0 C own_d_jdk_33_method_47_code_58 59 rfl (4) rfl ?_
          refine own_iushr X0 C own_d_jdk_33_method_47_code_59 60 rfl (fun v24 ev24 => ?_)
          refine own_istore_n X0 C own_d_jdk_33_method_47_code_60 61 rfl #[.val (.int v24), .val (.int v23)] rfl ?_
          have s61 : own_cut 16 (-4) 4 (own_cut 256 (-8) 8 (own_cut 65536 (-16) 16 ((31, ia0) : Int32 × Int32))) = (v23, v24) := by rw [s48]; exact (if_neg (show ¬ (v16.toInt < 16) by omega)).trans (by rw [ev23, ev24]; rfl)
          refine own_iload_n X0 C own_d_jdk_33_method_47_code_61 62 rfl rfl ?_
          refine own_iconst X0 C own_d_jdk_33_method_47_code_62 63 rfl (4) rfl ?_
          refine own_icmplt X0 C own_d_jdk_33_method_47_code_63 66 73 rfl (by decide) (by decide) (i := v24.toInt) rfl (j := 4) (by decide) (fun b9 => ?_) (fun b9 => ?_)
          · have s73 : own_cut 4 (-2) 2 (own_cut 16 (-4) 4 (own_cut 256 (-8) 8 (own_cut 65536 (-16) 16 ((31, ia0) : Int32 × Int32)))) = (v23, v24) := by rw [s61]; exact if_pos b9
            refine own_iload_n X0 C own_d_jdk_33_method_47_code_73 74 rfl rfl ?_
            refine own_iload_n X0 C own_d_jdk_33_method_47_code_74 75 rfl rfl ?_
            refine own_iconst X0 C own_d_jdk_33_method_47_code_75 76 rfl (1) rfl ?_
            refine own_iushr X0 C own_d_jdk_33_method_47_code_76 77 rfl (fun v25 ev25 => ?_)
            refine own_isub X0 C own_d_jdk_33_method_47_code_77 78 rfl (fun v26 ev26 => ?_)
            refine own_ireturn X0 C rfl own_d_jdk_33_method_47_code_78 (by decide) (by decide) ?_
            refine ⟨?_, e0, rfl⟩
            have sq : own_q ia0 = (v23, v24) := s73
            rw [own_nlz, if_pos (by omega), sq, ev26]
            simp only [own_ushr]
            rw [ev25]
          · refine own_iinc X0 C own_d_jdk_33_method_47_code_66 69 rfl rfl (-2) rfl (fun z => #[.val (.int v24), .val (.int z)]) (fun z => rfl) (fun v27 ev27 => ?_)
            refine own_iload_n X0 C own_d_jdk_33_method_47_code_69 70 rfl rfl ?_
            refine own_iconst X0 C own_d_jdk_33_method_47_code_70 71 rfl (2) rfl ?_
            refine own_iushr X0 C own_d_jdk_33_method_47_code_71 72 rfl (fun v28 ev28 => ?_)
            refine own_istore_n X0 C own_d_jdk_33_method_47_code_72 73 rfl #[.val (.int v28), .val (.int v27)] rfl ?_
            have s73 : own_cut 4 (-2) 2 (own_cut 16 (-4) 4 (own_cut 256 (-8) 8 (own_cut 65536 (-16) 16 ((31, ia0) : Int32 × Int32)))) = (v27, v28) := by rw [s61]; exact (if_neg (show ¬ (v24.toInt < 4) by omega)).trans (by rw [ev27, ev28]; rfl)
            refine own_iload_n X0 C own_d_jdk_33_method_47_code_73 74 rfl rfl ?_
            refine own_iload_n X0 C own_d_jdk_33_method_47_code_74 75 rfl rfl ?_
            refine own_iconst X0 C own_d_jdk_33_method_47_code_75 76 rfl (1) rfl ?_
            refine own_iushr X0 C own_d_jdk_33_method_47_code_76 77 rfl (fun v29 ev29 => ?_)
            refine own_isub X0 C own_d_jdk_33_method_47_code_77 78 rfl (fun v30 ev30 => ?_)
            refine own_ireturn X0 C rfl own_d_jdk_33_method_47_code_78 (by decide) (by decide) ?_
            refine ⟨?_, e0, rfl⟩
            have sq : own_q ia0 = (v27, v28) := s73
            rw [own_nlz, if_pos (by omega), sq, ev30]
            simp only [own_ushr]
            rw [ev29]
    · refine own_iinc X0 C own_d_jdk_33_method_47_code_25 28 rfl rfl (-16) rfl (fun z => #[.val (.int ia0), .val (.int z)]) (fun z => rfl) (fun v31 ev31 => ?_)
      refine own_iload_n X0 C own_d_jdk_33_method_47_code_28 29 rfl rfl ?_
      refine own_bipush X0 C own_d_jdk_33_method_47_code_29 31 rfl (16) rfl ?_
      refine own_iushr X0 C own_d_jdk_33_method_47_code_31 32 rfl (fun v32 ev32 => ?_)
      refine own_istore_n X0 C own_d_jdk_33_method_47_code_32 33 rfl #[.val (.int v32), .val (.int v31)] rfl ?_
      have s33 : own_cut 65536 (-16) 16 ((31, ia0) : Int32 × Int32) = (v31, v32) := by exact (if_neg (show ¬ (ia0.toInt < 65536) by omega)).trans (by rw [ev31, ev32]; rfl)
      refine own_iload_n X0 C own_d_jdk_33_method_47_code_33 34 rfl rfl ?_
      refine own_sipush X0 C own_d_jdk_33_method_47_code_34 37 rfl (256) rfl ?_
      refine own_icmplt X0 C own_d_jdk_33_method_47_code_37 40 48 rfl (by decide) (by decide) (i := v32.toInt) rfl (j := 256) (by decide) (fun b10 => ?_) (fun b10 => ?_)
      · have s48 : own_cut 256 (-8) 8 (own_cut 65536 (-16) 16 ((31, ia0) : Int32 × Int32)) = (v31, v32) := by rw [s33]; exact if_pos b10
        refine own_iload_n X0 C own_d_jdk_33_method_47_code_48 49 rfl rfl ?_
        refine own_bipush X0 C own_d_jdk_33_method_47_code_49 51 rfl (16) rfl ?_
        refine own_icmplt X0 C own_d_jdk_33_method_47_code_51 54 61 rfl (by decide) (by decide) (i := v32.toInt) rfl (j := 16) (by decide) (fun b11 => ?_) (fun b11 => ?_)
        · have s61 : own_cut 16 (-4) 4 (own_cut 256 (-8) 8 (own_cut 65536 (-16) 16 ((31, ia0) : Int32 × Int32))) = (v31, v32) := by rw [s48]; exact if_pos b11
          refine own_iload_n X0 C own_d_jdk_33_method_47_code_61 62 rfl rfl ?_
          refine own_iconst X0 C own_d_jdk_33_method_47_code_62 63 rfl (4) rfl ?_
          refine own_icmplt X0 C own_d_jdk_33_method_47_code_63 66 73 rfl (by decide) (by decide) (i := v32.toInt) rfl (j := 4) (by decide) (fun b12 => ?_) (fun b12 => ?_)
          · have s73 : own_cut 4 (-2) 2 (own_cut 16 (-4) 4 (own_cut 256 (-8) 8 (own_cut 65536 (-16) 16 ((31, ia0) : Int32 × Int32)))) = (v31, v32) := by rw [s61]; exact if_pos b12
            refine own_iload_n X0 C own_d_jdk_33_method_47_code_73 74 rfl rfl ?_
            refine own_iload_n X0 C own_d_jdk_33_method_47_code_74 75 rfl rfl ?_
            refine own_iconst X0 C own_d_jdk_33_method_47_code_75 76 rfl (1) rfl ?_
            refine own_iushr X0 C own_d_jdk_33_method_47_code_76 77 rfl (fun v33 ev33 => ?_)
            refine own_isub X0 C own_d_jdk_33_method_47_code_77 78 rfl (fun v34 ev34 => ?_)
            refine own_ireturn X0 C rfl own_d_jdk_33_method_47_code_78 (by decide) (by decide) ?_
            refine ⟨?_, e0, rfl⟩
            have sq : own_q ia0 = (v31, v32) := s73
            rw [own_nlz, if_pos (by omega), sq, ev34]
            simp only [own_ushr]
            rw [ev33]
          · refine own_iinc X0 C own_d_jdk_33_method_47_code_66 69 rfl rfl (-2) rfl (fun z => #[.val (.int v32), .val (.int z)]) (fun z => rfl) (fun v35 ev35 => ?_)
            refine own_iload_n X0 C own_d_jdk_33_method_47_code_69 70 rfl rfl ?_
            refine own_iconst X0 C own_d_jdk_33_method_47_code_70 71 rfl (2) rfl ?_
            refine own_iushr X0 C own_d_jdk_33_method_47_code_71 72 rfl (fun v36 ev36 => ?_)
            refine own_istore_n X0 C own_d_jdk_33_method_47_code_72 73 rfl #[.val (.int v36), .val (.int v35)] rfl ?_
            have s73 : own_cut 4 (-2) 2 (own_cut 16 (-4) 4 (own_cut 256 (-8) 8 (own_cut 65536 (-16) 16 ((31, ia0) : Int32 × Int32)))) = (v35, v36) := by rw [s61]; exact (if_neg (show ¬ (v32.toInt < 4) by omega)).trans (by rw [ev35, ev36]; rfl)
            refine own_iload_n X0 C own_d_jdk_33_method_47_code_73 74 rfl rfl ?_
            refine own_iload_n X0 C own_d_jdk_33_method_47_code_74 75 rfl rfl ?_
            refine own_iconst X0 C own_d_jdk_33_method_47_code_75 76 rfl (1) rfl ?_
            refine own_iushr X0 C own_d_jdk_33_method_47_code_76 77 rfl (fun v37 ev37 => ?_)
            refine own_isub X0 C own_d_jdk_33_method_47_code_77 78 rfl (fun v38 ev38 => ?_)
            refine own_ireturn X0 C rfl own_d_jdk_33_method_47_code_78 (by decide) (by decide) ?_
            refine ⟨?_, e0, rfl⟩
            have sq : own_q ia0 = (v35, v36) := s73
            rw [own_nlz, if_pos (by omega), sq, ev38]
            simp only [own_ushr]
            rw [ev37]
        · refine own_iinc X0 C own_d_jdk_33_method_47_code_54 57 rfl rfl (-4) rfl (fun z => #[.val (.int v32), .val (.int z)]) (fun z => rfl) (fun v39 ev39 => ?_)
          refine own_iload_n X0 C own_d_jdk_33_method_47_code_57 58 rfl rfl ?_
          refine own_iconst X0 C own_d_jdk_33_method_47_code_58 59 rfl (4) rfl ?_
          refine own_iushr X0 C own_d_jdk_33_method_47_code_59 60 rfl (fun v40 ev40 => ?_)
          refine own_istore_n X0 C own_d_jdk_33_method_47_code_60 61 rfl #[.val (.int v40), .val (.int v39)] rfl ?_
          have s61 : own_cut 16 (-4) 4 (own_cut 256 (-8) 8 (own_cut 65536 (-16) 16 ((31, ia0) : Int32 × Int32))) = (v39, v40) := by rw [s48]; exact (if_neg (show ¬ (v32.toInt < 16) by omega)).trans (by rw [ev39, ev40]; rfl)
          refine own_iload_n X0 C own_d_jdk_33_method_47_code_61 62 rfl rfl ?_
          refine own_iconst X0 C own_d_jdk_33_method_47_code_62 63 rfl (4) rfl ?_
          refine own_icmplt X0 C own_d_jdk_33_method_47_code_63 66 73 rfl (by decide) (by decide) (i := v40.toInt) rfl (j := 4) (by decide) (fun b13 => ?_) (fun b13 => ?_)
          · have s73 : own_cut 4 (-2) 2 (own_cut 16 (-4) 4 (own_cut 256 (-8) 8 (own_cut 65536 (-16) 16 ((31, ia0) : Int32 × Int32)))) = (v39, v40) := by rw [s61]; exact if_pos b13
            refine own_iload_n X0 C own_d_jdk_33_method_47_code_73 74 rfl rfl ?_
            refine own_iload_n X0 C own_d_jdk_33_method_47_code_74 75 rfl rfl ?_
            refine own_iconst X0 C own_d_jdk_33_method_47_code_75 76 rfl (1) rfl ?_
            refine own_iushr X0 C own_d_jdk_33_method_47_code_76 77 rfl (fun v41 ev41 => ?_)
            refine own_isub X0 C own_d_jdk_33_method_47_code_77 78 rfl (fun v42 ev42 => ?_)
            refine own_ireturn X0 C rfl own_d_jdk_33_method_47_code_78 (by decide) (by decide) ?_
            refine ⟨?_, e0, rfl⟩
            have sq : own_q ia0 = (v39, v40) := s73
            rw [own_nlz, if_pos (by omega), sq, ev42]
            simp only [own_ushr]
            rw [ev41]
          · refine own_iinc X0 C own_d_jdk_33_method_47_code_66 69 rfl rfl (-2) rfl (fun z => #[.val (.int v40), .val (.int z)]) (fun z => rfl) (fun v43 ev43 => ?_)
            refine own_iload_n X0 C own_d_jdk_33_method_47_code_69 70 rfl rfl ?_
            refine own_iconst X0 C own_d_jdk_33_method_47_code_70 71 rfl (2) rfl ?_
            refine own_iushr X0 C own_d_jdk_33_method_47_code_71 72 rfl (fun v44 ev44 => ?_)
            refine own_istore_n X0 C own_d_jdk_33_method_47_code_72 73 rfl #[.val (.int v44), .val (.int v43)] rfl ?_
            have s73 : own_cut 4 (-2) 2 (own_cut 16 (-4) 4 (own_cut 256 (-8) 8 (own_cut 65536 (-16) 16 ((31, ia0) : Int32 × Int32)))) = (v43, v44) := by rw [s61]; exact (if_neg (show ¬ (v40.toInt < 4) by omega)).trans (by rw [ev43, ev44]; rfl)
            refine own_iload_n X0 C own_d_jdk_33_method_47_code_73 74 rfl rfl ?_
            refine own_iload_n X0 C own_d_jdk_33_method_47_code_74 75 rfl rfl ?_
            refine own_iconst X0 C own_d_jdk_33_method_47_code_75 76 rfl (1) rfl ?_
            refine own_iushr X0 C own_d_jdk_33_method_47_code_76 77 rfl (fun v45 ev45 => ?_)
            refine own_isub X0 C own_d_jdk_33_method_47_code_77 78 rfl (fun v46 ev46 => ?_)
            refine own_ireturn X0 C rfl own_d_jdk_33_method_47_code_78 (by decide) (by decide) ?_
            refine ⟨?_, e0, rfl⟩
            have sq : own_q ia0 = (v43, v44) := s73
            rw [own_nlz, if_pos (by omega), sq, ev46]
            simp only [own_ushr]
            rw [ev45]
      · refine own_iinc X0 C own_d_jdk_33_method_47_code_40 43 rfl rfl (-8) rfl (fun z => #[.val (.int v32), .val (.int z)]) (fun z => rfl) (fun v47 ev47 => ?_)
        refine own_iload_n X0 C own_d_jdk_33_method_47_code_43 44 rfl rfl ?_
        refine own_bipush X0 C own_d_jdk_33_method_47_code_44 46 rfl (8) rfl ?_
        refine own_iushr X0 C own_d_jdk_33_method_47_code_46 47 rfl (fun v48 ev48 => ?_)
        refine own_istore_n X0 C own_d_jdk_33_method_47_code_47 48 rfl #[.val (.int v48), .val (.int v47)] rfl ?_
        have s48 : own_cut 256 (-8) 8 (own_cut 65536 (-16) 16 ((31, ia0) : Int32 × Int32)) = (v47, v48) := by rw [s33]; exact (if_neg (show ¬ (v32.toInt < 256) by omega)).trans (by rw [ev47, ev48]; rfl)
        refine own_iload_n X0 C own_d_jdk_33_method_47_code_48 49 rfl rfl ?_
        refine own_bipush X0 C own_d_jdk_33_method_47_code_49 51 rfl (16) rfl ?_
        refine own_icmplt X0 C own_d_jdk_33_method_47_code_51 54 61 rfl (by decide) (by decide) (i := v48.toInt) rfl (j := 16) (by decide) (fun b14 => ?_) (fun b14 => ?_)
        · have s61 : own_cut 16 (-4) 4 (own_cut 256 (-8) 8 (own_cut 65536 (-16) 16 ((31, ia0) : Int32 × Int32))) = (v47, v48) := by rw [s48]; exact if_pos b14
          refine own_iload_n X0 C own_d_jdk_33_method_47_code_61 62 rfl rfl ?_
          refine own_iconst X0 C own_d_jdk_33_method_47_code_62 63 rfl (4) rfl ?_
          refine own_icmplt X0 C own_d_jdk_33_method_47_code_63 66 73 rfl (by decide) (by decide) (i := v48.toInt) rfl (j := 4) (by decide) (fun b15 => ?_) (fun b15 => ?_)
          · have s73 : own_cut 4 (-2) 2 (own_cut 16 (-4) 4 (own_cut 256 (-8) 8 (own_cut 65536 (-16) 16 ((31, ia0) : Int32 × Int32)))) = (v47, v48) := by rw [s61]; exact if_pos b15
            refine own_iload_n X0 C own_d_jdk_33_method_47_code_73 74 rfl rfl ?_
            refine own_iload_n X0 C own_d_jdk_33_method_47_code_74 75 rfl rfl ?_
            refine own_iconst X0 C own_d_jdk_33_method_47_code_75 76 rfl (1) rfl ?_
            refine own_iushr X0 C own_d_jdk_33_method_47_code_76 77 rfl (fun v49 ev49 => ?_)
            refine own_isub X0 C own_d_jdk_33_method_47_code_77 78 rfl (fun v50 ev50 => ?_)
            refine own_ireturn X0 C rfl own_d_jdk_33_method_47_code_78 (by decide) (by decide) ?_
            refine ⟨?_, e0, rfl⟩
            have sq : own_q ia0 = (v47, v48) := s73
            rw [own_nlz, if_pos (by omega), sq, ev50]
            simp only [own_ushr]
            rw [ev49]
          · refine own_iinc X0 C own_d_jdk_33_method_47_code_66 69 rfl rfl (-2) rfl (fun z => #[.val (.int v48), .val (.int z)]) (fun z => rfl) (fun v51 ev51 => ?_)
            refine own_iload_n X0 C own_d_jdk_33_method_47_code_69 70 rfl rfl ?_
            refine own_iconst X0 C own_d_jdk_33_method_47_code_70 71 rfl (2) rfl ?_
            refine own_iushr X0 C own_d_jdk_33_method_47_code_71 72 rfl (fun v52 ev52 => ?_)
            refine own_istore_n X0 C own_d_jdk_33_method_47_code_72 73 rfl #[.val (.int v52), .val (.int v51)] rfl ?_
            have s73 : own_cut 4 (-2) 2 (own_cut 16 (-4) 4 (own_cut 256 (-8) 8 (own_cut 65536 (-16) 16 ((31, ia0) : Int32 × Int32)))) = (v51, v52) := by rw [s61]; exact (if_neg (show ¬ (v48.toInt < 4) by omega)).trans (by rw [ev51, ev52]; rfl)
            refine own_iload_n X0 C own_d_jdk_33_method_47_code_73 74 rfl rfl ?_
            refine own_iload_n X0 C own_d_jdk_33_method_47_code_74 75 rfl rfl ?_
            refine own_iconst X0 C own_d_jdk_33_method_47_code_75 76 rfl (1) rfl ?_
            refine own_iushr X0 C own_d_jdk_33_method_47_code_76 77 rfl (fun v53 ev53 => ?_)
            refine own_isub X0 C own_d_jdk_33_method_47_code_77 78 rfl (fun v54 ev54 => ?_)
            refine own_ireturn X0 C rfl own_d_jdk_33_method_47_code_78 (by decide) (by decide) ?_
            refine ⟨?_, e0, rfl⟩
            have sq : own_q ia0 = (v51, v52) := s73
            rw [own_nlz, if_pos (by omega), sq, ev54]
            simp only [own_ushr]
            rw [ev53]
        · refine own_iinc X0 C own_d_jdk_33_method_47_code_54 57 rfl rfl (-4) rfl (fun z => #[.val (.int v48), .val (.int z)]) (fun z => rfl) (fun v55 ev55 => ?_)
          refine own_iload_n X0 C own_d_jdk_33_method_47_code_57 58 rfl rfl ?_
          refine own_iconst X0 C own_d_jdk_33_method_47_code_58 59 rfl (4) rfl ?_
          refine own_iushr X0 C own_d_jdk_33_method_47_code_59 60 rfl (fun v56 ev56 => ?_)
          refine own_istore_n X0 C own_d_jdk_33_method_47_code_60 61 rfl #[.val (.int v56), .val (.int v55)] rfl ?_
          have s61 : own_cut 16 (-4) 4 (own_cut 256 (-8) 8 (own_cut 65536 (-16) 16 ((31, ia0) : Int32 × Int32))) = (v55, v56) := by rw [s48]; exact (if_neg (show ¬ (v48.toInt < 16) by omega)).trans (by rw [ev55, ev56]; rfl)
          refine own_iload_n X0 C own_d_jdk_33_method_47_code_61 62 rfl rfl ?_
          refine own_iconst X0 C own_d_jdk_33_method_47_code_62 63 rfl (4) rfl ?_
          refine own_icmplt X0 C own_d_jdk_33_method_47_code_63 66 73 rfl (by decide) (by decide) (i := v56.toInt) rfl (j := 4) (by decide) (fun b16 => ?_) (fun b16 => ?_)
          · have s73 : own_cut 4 (-2) 2 (own_cut 16 (-4) 4 (own_cut 256 (-8) 8 (own_cut 65536 (-16) 16 ((31, ia0) : Int32 × Int32)))) = (v55, v56) := by rw [s61]; exact if_pos b16
            refine own_iload_n X0 C own_d_jdk_33_method_47_code_73 74 rfl rfl ?_
            refine own_iload_n X0 C own_d_jdk_33_method_47_code_74 75 rfl rfl ?_
            refine own_iconst X0 C own_d_jdk_33_method_47_code_75 76 rfl (1) rfl ?_
            refine own_iushr X0 C own_d_jdk_33_method_47_code_76 77 rfl (fun v57 ev57 => ?_)
            refine own_isub X0 C own_d_jdk_33_method_47_code_77 78 rfl (fun v58 ev58 => ?_)
            refine own_ireturn X0 C rfl own_d_jdk_33_method_47_code_78 (by decide) (by decide) ?_
            refine ⟨?_, e0, rfl⟩
            have sq : own_q ia0 = (v55, v56) := s73
            rw [own_nlz, if_pos (by omega), sq, ev58]
            simp only [own_ushr]
            rw [ev57]
          · refine own_iinc X0 C own_d_jdk_33_method_47_code_66 69 rfl rfl (-2) rfl (fun z => #[.val (.int v56), .val (.int z)]) (fun z => rfl) (fun v59 ev59 => ?_)
            refine own_iload_n X0 C own_d_jdk_33_method_47_code_69 70 rfl rfl ?_
            refine own_iconst X0 C own_d_jdk_33_method_47_code_70 71 rfl (2) rfl ?_
            refine own_iushr X0 C own_d_jdk_33_method_47_code_71 72 rfl (fun v60 ev60 => ?_)
            refine own_istore_n X0 C own_d_jdk_33_method_47_code_72 73 rfl #[.val (.int v60), .val (.int v59)] rfl ?_
            have s73 : own_cut 4 (-2) 2 (own_cut 16 (-4) 4 (own_cut 256 (-8) 8 (own_cut 65536 (-16) 16 ((31, ia0) : Int32 × Int32)))) = (v59, v60) := by rw [s61]; exact (if_neg (show ¬ (v56.toInt < 4) by omega)).trans (by rw [ev59, ev60]; rfl)
            refine own_iload_n X0 C own_d_jdk_33_method_47_code_73 74 rfl rfl ?_
            refine own_iload_n X0 C own_d_jdk_33_method_47_code_74 75 rfl rfl ?_
            refine own_iconst X0 C own_d_jdk_33_method_47_code_75 76 rfl (1) rfl ?_
            refine own_iushr X0 C own_d_jdk_33_method_47_code_76 77 rfl (fun v61 ev61 => ?_)
            refine own_isub X0 C own_d_jdk_33_method_47_code_77 78 rfl (fun v62 ev62 => ?_)
            refine own_ireturn X0 C rfl own_d_jdk_33_method_47_code_78 (by decide) (by decide) ?_
            refine ⟨?_, e0, rfl⟩
            have sq : own_q ia0 = (v59, v60) := s73
            rw [own_nlz, if_pos (by omega), sq, ev62]
            simp only [own_ushr]
            rw [ev61]
  · refine own_iload_n X0 C own_d_jdk_33_method_47_code_4 5 rfl rfl ?_
    refine own_ifne X0 C own_d_jdk_33_method_47_code_5 8 13 rfl (by decide) (by decide) (i := ia0.toInt) rfl (fun b17 => ?_) (fun b17 => ?_)
    · refine own_iconst X0 C own_d_jdk_33_method_47_code_13 14 rfl (0) rfl ?_
      refine own_ireturn X0 C rfl own_d_jdk_33_method_47_code_14 (by decide) (by decide) ?_
      exact ⟨by rw [own_nlz, if_neg (by omega), if_pos (by omega)], e0, rfl⟩
    · refine own_bipush X0 C own_d_jdk_33_method_47_code_8 10 rfl (32) rfl ?_
      refine own_goto X0 C own_d_jdk_33_method_47_code_10 14 (by decide) (by decide) ?_
      refine own_ireturn X0 C rfl own_d_jdk_33_method_47_code_14 (by decide) (by decide) ?_
      exact ⟨by rw [own_nlz, if_neg (by omega), if_neg (by omega)], e0, rfl⟩
theorem own_pn_TokenModel : plainName "com/example/frugal_frame/frugalframe/TokenModel" = true := by first | (simp [plainName, overriddenIn]; done) | decide +kernel
theorem own_d_prog_44_method_16_code_0 : decode prog_44_method_16_code 0 = .ok (.iload_n 0, 1) := by decide +kernel
theorem own_d_prog_44_method_16_code_1 : decode prog_44_method_16_code 1 = .ok (.iconst 4, 1) := by decide +kernel
theorem own_d_prog_44_method_16_code_2 : decode prog_44_method_16_code 2 = .ok (.if_icmp .ge 10, 3) := by decide +kernel
theorem own_d_prog_44_method_16_code_5 : decode prog_44_method_16_code 5 = .ok (.iload_n 0, 1) := by decide +kernel
theorem own_d_prog_44_method_16_code_6 : decode prog_44_method_16_code 6 = .ok (.iconst 1, 1) := by decide +kernel
theorem own_d_prog_44_method_16_code_7 : decode prog_44_method_16_code 7 = .ok (.iadd, 1) := by decide +kernel
theorem own_d_prog_44_method_16_code_8 : decode prog_44_method_16_code 8 = .ok (.istore_n 1, 1) := by decide +kernel
theorem own_d_prog_44_method_16_code_9 : decode prog_44_method_16_code 9 = .ok (.goto 17, 3) := by decide +kernel
theorem own_d_prog_44_method_16_code_12 : decode prog_44_method_16_code 12 = .ok (.iconst 2, 1) := by decide +kernel
theorem own_d_prog_44_method_16_code_13 : decode prog_44_method_16_code 13 = .ok (.iload_n 0, 1) := by decide +kernel
theorem own_d_prog_44_method_16_code_14 : decode prog_44_method_16_code 14 = .ok (.iconst 1, 1) := by decide +kernel
theorem own_d_prog_44_method_16_code_15 : decode prog_44_method_16_code 15 = .ok (.iand, 1) := by decide +kernel
theorem own_d_prog_44_method_16_code_16 : decode prog_44_method_16_code 16 = .ok (.ior, 1) := by decide +kernel
theorem own_d_prog_44_method_16_code_17 : decode prog_44_method_16_code 17 = .ok (.iload_n 0, 1) := by decide +kernel
theorem own_d_prog_44_method_16_code_18 : decode prog_44_method_16_code 18 = .ok (.iconst 1, 1) := by decide +kernel
theorem own_d_prog_44_method_16_code_19 : decode prog_44_method_16_code 19 = .ok (.iushr, 1) := by decide +kernel
theorem own_d_prog_44_method_16_code_20 : decode prog_44_method_16_code 20 = .ok (.iconst 1, 1) := by decide +kernel
theorem own_d_prog_44_method_16_code_21 : decode prog_44_method_16_code 21 = .ok (.isub, 1) := by decide +kernel
theorem own_d_prog_44_method_16_code_22 : decode prog_44_method_16_code 22 = .ok (.ishl, 1) := by decide +kernel
theorem own_d_prog_44_method_16_code_23 : decode prog_44_method_16_code 23 = .ok (.iconst 1, 1) := by decide +kernel
theorem own_d_prog_44_method_16_code_24 : decode prog_44_method_16_code 24 = .ok (.iadd, 1) := by decide +kernel
theorem own_d_prog_44_method_16_code_25 : decode prog_44_method_16_code 25 = .ok (.istore_n 1, 1) := by decide +kernel
theorem own_d_prog_44_method_16_code_26 : decode prog_44_method_16_code 26 = .ok (.iload_n 1, 1) := by decide +kernel
theorem own_d_prog_44_method_16_code_27 : decode prog_44_method_16_code 27 = .ok (.ireturn, 1) := by decide +kernel
set_option maxRecDepth 65536 in
set_option maxHeartbeats 4000000 in
theorem own_ef_own_rm_firstOfSlot (m : MethodId) (ia0 : Int32) : entryFrame m #[(.int ia0)] 2 = (mkF m 0 #[.val (.int ia0), .unset] []) := by first | (simp [entryFrame, mkF, argsToLocals, Value.category]; done) | rfl
set_option maxRecDepth 65536 in
set_option maxHeartbeats 4000000 in
theorem own_rm_firstOfSlot (l : Launch) (Z : State) (a0 : Array Value) (hw : ∀ d ∈ tables_1, d.before a0 Z = true) (ia0 : Int32) (h : Heap)  :
    OwnMet l Z (⟨"com/example/frugal_frame/frugalframe/TokenModel", "firstOfSlot", "(I)I"⟩ : MethodName) prog_44_method_16_code 2 (some .int) [] ({ frames := 0, cells := 0, slots := 0, locals := 0 } : Room) #[(.int ia0)] h (OwnPure (.int (own_first ia0)) h) := by
  refine own_enter (f0 := fun m => mkF m 0 #[.val (.int ia0), .unset] []) (plainFor_of_name own_pn_TokenModel) (fun m => own_ef_own_rm_firstOfSlot m ia0) ?_
  intro p e s m below meth c T0 X0 C e0
  refine own_iload_n X0 C own_d_prog_44_method_16_code_0 1 rfl rfl ?_
  refine own_iconst X0 C own_d_prog_44_method_16_code_1 2 rfl (4) rfl ?_
  refine own_icmpge X0 C own_d_prog_44_method_16_code_2 5 12 rfl (by decide) (by decide) (i := ia0.toInt) rfl (j := 4) (by decide) (fun b1 => ?_) (fun b1 => ?_)
  · refine own_iconst X0 C own_d_prog_44_method_16_code_12 13 rfl (2) rfl ?_
    refine own_iload_n X0 C own_d_prog_44_method_16_code_13 14 rfl rfl ?_
    refine own_iconst X0 C own_d_prog_44_method_16_code_14 15 rfl (1) rfl ?_
    refine own_iand X0 C own_d_prog_44_method_16_code_15 16 rfl (fun v1 ev1 => ?_)
    refine own_ior X0 C own_d_prog_44_method_16_code_16 17 rfl (fun v2 ev2 => ?_)
    refine own_iload_n X0 C own_d_prog_44_method_16_code_17 18 rfl rfl ?_
    refine own_iconst X0 C own_d_prog_44_method_16_code_18 19 rfl (1) rfl ?_
    refine own_iushr X0 C own_d_prog_44_method_16_code_19 20 rfl (fun v3 ev3 => ?_)
    refine own_iconst X0 C own_d_prog_44_method_16_code_20 21 rfl (1) rfl ?_
    refine own_isub X0 C own_d_prog_44_method_16_code_21 22 rfl (fun v4 ev4 => ?_)
    refine own_ishl X0 C own_d_prog_44_method_16_code_22 23 rfl (fun v5 ev5 => ?_)
    refine own_iconst X0 C own_d_prog_44_method_16_code_23 24 rfl (1) rfl ?_
    refine own_iadd X0 C own_d_prog_44_method_16_code_24 25 rfl (fun v6 ev6 => ?_)
    refine own_istore_n X0 C own_d_prog_44_method_16_code_25 26 rfl #[.val (.int ia0), .val (.int v6)] rfl ?_
    refine own_iload_n X0 C own_d_prog_44_method_16_code_26 27 rfl rfl ?_
    refine own_ireturn X0 C rfl own_d_prog_44_method_16_code_27 (by decide) (by decide) ?_
    exact ⟨by rw [own_first, if_pos (by omega)]; subst_vars; rfl, e0, rfl⟩
  · refine own_iload_n X0 C own_d_prog_44_method_16_code_5 6 rfl rfl ?_
    refine own_iconst X0 C own_d_prog_44_method_16_code_6 7 rfl (1) rfl ?_
    refine own_iadd X0 C own_d_prog_44_method_16_code_7 8 rfl (fun v7 ev7 => ?_)
    refine own_istore_n X0 C own_d_prog_44_method_16_code_8 9 rfl #[.val (.int ia0), .val (.int v7)] rfl ?_
    refine own_goto X0 C own_d_prog_44_method_16_code_9 26 (by decide) (by decide) ?_
    refine own_iload_n X0 C own_d_prog_44_method_16_code_26 27 rfl rfl ?_
    refine own_ireturn X0 C rfl own_d_prog_44_method_16_code_27 (by decide) (by decide) ?_
    exact ⟨by rw [own_first, if_neg (by omega), ev7], e0, rfl⟩
theorem own_d_prog_44_method_17_code_0 : decode prog_44_method_17_code 0 = .ok (.iload_n 0, 1) := by decide +kernel
theorem own_d_prog_44_method_17_code_1 : decode prog_44_method_17_code 1 = .ok (.iconst 1, 1) := by decide +kernel
theorem own_d_prog_44_method_17_code_2 : decode prog_44_method_17_code 2 = .ok (.isub, 1) := by decide +kernel
theorem own_d_prog_44_method_17_code_3 : decode prog_44_method_17_code 3 = .ok (.istore_n 1, 1) := by decide +kernel
theorem own_d_prog_44_method_17_code_4 : decode prog_44_method_17_code 4 = .ok (.iload_n 1, 1) := by decide +kernel
theorem own_d_prog_44_method_17_code_5 : decode prog_44_method_17_code 5 = .ok (.iconst 4, 1) := by decide +kernel
theorem own_d_prog_44_method_17_code_6 : decode prog_44_method_17_code 6 = .ok (.if_icmp .ge 8, 3) := by decide +kernel
theorem own_d_prog_44_method_17_code_9 : decode prog_44_method_17_code 9 = .ok (.iload_n 1, 1) := by decide +kernel
theorem own_d_prog_44_method_17_code_10 : decode prog_44_method_17_code 10 = .ok (.istore_n 2, 1) := by decide +kernel
theorem own_d_prog_44_method_17_code_11 : decode prog_44_method_17_code 11 = .ok (.goto 23, 3) := by decide +kernel
theorem own_d_prog_44_method_17_code_14 : decode prog_44_method_17_code 14 = .ok (.bipush 31, 2) := by decide +kernel
theorem own_d_prog_44_method_17_code_16 : decode prog_44_method_17_code 16 = .ok (.iload_n 1, 1) := by decide +kernel
theorem own_d_prog_44_method_17_code_17 : decode prog_44_method_17_code 17 = .ok (.invokestatic 95, 3) := by decide +kernel
theorem own_d_prog_44_method_17_code_20 : decode prog_44_method_17_code 20 = .ok (.isub, 1) := by decide +kernel
theorem own_d_prog_44_method_17_code_21 : decode prog_44_method_17_code 21 = .ok (.istore_n 3, 1) := by decide +kernel
theorem own_d_prog_44_method_17_code_22 : decode prog_44_method_17_code 22 = .ok (.iconst 2, 1) := by decide +kernel
theorem own_d_prog_44_method_17_code_23 : decode prog_44_method_17_code 23 = .ok (.iload_n 3, 1) := by decide +kernel
theorem own_d_prog_44_method_17_code_24 : decode prog_44_method_17_code 24 = .ok (.imul, 1) := by decide +kernel
theorem own_d_prog_44_method_17_code_25 : decode prog_44_method_17_code 25 = .ok (.iload_n 1, 1) := by decide +kernel
theorem own_d_prog_44_method_17_code_26 : decode prog_44_method_17_code 26 = .ok (.iload_n 3, 1) := by decide +kernel
theorem own_d_prog_44_method_17_code_27 : decode prog_44_method_17_code 27 = .ok (.iconst 1, 1) := by decide +kernel
theorem own_d_prog_44_method_17_code_28 : decode prog_44_method_17_code 28 = .ok (.isub, 1) := by decide +kernel
theorem own_d_prog_44_method_17_code_29 : decode prog_44_method_17_code 29 = .ok (.iushr, 1) := by decide +kernel
theorem own_d_prog_44_method_17_code_30 : decode prog_44_method_17_code 30 = .ok (.iconst 1, 1) := by decide +kernel
theorem own_d_prog_44_method_17_code_31 : decode prog_44_method_17_code 31 = .ok (.iand, 1) := by decide +kernel
theorem own_d_prog_44_method_17_code_32 : decode prog_44_method_17_code 32 = .ok (.iadd, 1) := by decide +kernel
theorem own_d_prog_44_method_17_code_33 : decode prog_44_method_17_code 33 = .ok (.istore_n 2, 1) := by decide +kernel
theorem own_d_prog_44_method_17_code_34 : decode prog_44_method_17_code 34 = .ok (.iload_n 2, 1) := by decide +kernel
theorem own_d_prog_44_method_17_code_35 : decode prog_44_method_17_code 35 = .ok (.ireturn, 1) := by decide +kernel
set_option maxRecDepth 65536 in
set_option maxHeartbeats 4000000 in
theorem own_ef_own_rm_slotOf (m : MethodId) (ia0 : Int32) : entryFrame m #[(.int ia0)] 4 = (mkF m 0 #[.val (.int ia0), .unset, .unset, .unset] []) := by first | (simp [entryFrame, mkF, argsToLocals, Value.category]; done) | rfl
set_option maxRecDepth 65536 in
set_option maxHeartbeats 4000000 in
theorem own_rm_slotOf (l : Launch) (Z : State) (a0 : Array Value) (hw : ∀ d ∈ tables_1, d.before a0 Z = true) (ia0 : Int32) (h : Heap)  :
    OwnMet l Z (⟨"com/example/frugal_frame/frugalframe/TokenModel", "slotOf", "(I)I"⟩ : MethodName) prog_44_method_17_code 4 (some .int) [] ({ frames := 1, cells := 0, slots := 0, locals := 40 } : Room) #[(.int ia0)] h (OwnPure (.int (own_slot ia0)) h) := by
  refine own_enter (f0 := fun m => mkF m 0 #[.val (.int ia0), .unset, .unset, .unset] []) (plainFor_of_name own_pn_TokenModel) (fun m => own_ef_own_rm_slotOf m ia0) ?_
  intro p e s m below meth c T0 X0 C e0
  refine own_iload_n X0 C own_d_prog_44_method_17_code_0 1 rfl rfl ?_
  refine own_iconst X0 C own_d_prog_44_method_17_code_1 2 rfl (1) rfl ?_
  refine own_isub X0 C own_d_prog_44_method_17_code_2 3 rfl (fun v1 ev1 => ?_)
  refine own_istore_n X0 C own_d_prog_44_method_17_code_3 4 rfl #[.val (.int ia0), .val (.int v1), .unset, .unset] rfl ?_
  refine own_iload_n X0 C own_d_prog_44_method_17_code_4 5 rfl rfl ?_
  refine own_iconst X0 C own_d_prog_44_method_17_code_5 6 rfl (4) rfl ?_
  refine own_icmpge X0 C own_d_prog_44_method_17_code_6 9 14 rfl (by decide) (by decide) (i := v1.toInt) rfl (j := 4) (by decide) (fun b1 => ?_) (fun b1 => ?_)
  · refine own_bipush X0 C own_d_prog_44_method_17_code_14 16 rfl (31) rfl ?_
    refine own_iload_n X0 C own_d_prog_44_method_17_code_16 17 rfl rfl ?_
    refine own_callP X0 C (own_w hw 8 rfl) (own_w hw 9 rfl) (own_w hw 10 rfl) (own_w hw 11 rfl) (by decide) (own_rm_numberOfLeadingZeros l Z a0 hw v1 h) e0 own_pd_I_R_I [(.int v1)] rfl rfl rfl rfl 1 rfl (by decide) (by decide) rfl rfl (by decide) (by decide) own_d_prog_44_method_17_code_17 20 rfl (fun T2 X2 e2 => ?_)
    refine own_isub X2 C own_d_prog_44_method_17_code_20 21 rfl (fun v2 ev2 => ?_)
    refine own_istore_n X2 C own_d_prog_44_method_17_code_21 22 rfl #[.val (.int ia0), .val (.int v1), .unset, .val (.int v2)] rfl ?_
    refine own_iconst X2 C own_d_prog_44_method_17_code_22 23 rfl (2) rfl ?_
    refine own_iload_n X2 C own_d_prog_44_method_17_code_23 24 rfl rfl ?_
    refine own_imul X2 C own_d_prog_44_method_17_code_24 25 rfl (fun v3 ev3 => ?_)
    refine own_iload_n X2 C own_d_prog_44_method_17_code_25 26 rfl rfl ?_
    refine own_iload_n X2 C own_d_prog_44_method_17_code_26 27 rfl rfl ?_
    refine own_iconst X2 C own_d_prog_44_method_17_code_27 28 rfl (1) rfl ?_
    refine own_isub X2 C own_d_prog_44_method_17_code_28 29 rfl (fun v4 ev4 => ?_)
    refine own_iushr X2 C own_d_prog_44_method_17_code_29 30 rfl (fun v5 ev5 => ?_)
    refine own_iconst X2 C own_d_prog_44_method_17_code_30 31 rfl (1) rfl ?_
    refine own_iand X2 C own_d_prog_44_method_17_code_31 32 rfl (fun v6 ev6 => ?_)
    refine own_iadd X2 C own_d_prog_44_method_17_code_32 33 rfl (fun v7 ev7 => ?_)
    refine own_istore_n X2 C own_d_prog_44_method_17_code_33 34 rfl #[.val (.int ia0), .val (.int v1), .val (.int v7), .val (.int v2)] rfl ?_
    refine own_iload_n X2 C own_d_prog_44_method_17_code_34 35 rfl rfl ?_
    refine own_ireturn X2 C rfl own_d_prog_44_method_17_code_35 (by decide) (by decide) ?_
    subst ev1; exact ⟨by rw [own_slot, if_pos (by omega)]; subst_vars; rfl, e2, rfl⟩
  · refine own_iload_n X0 C own_d_prog_44_method_17_code_9 10 rfl rfl ?_
    refine own_istore_n X0 C own_d_prog_44_method_17_code_10 11 rfl #[.val (.int ia0), .val (.int v1), .val (.int v1), .unset] rfl ?_
    refine own_goto X0 C own_d_prog_44_method_17_code_11 34 (by decide) (by decide) ?_
    refine own_iload_n X0 C own_d_prog_44_method_17_code_34 35 rfl rfl ?_
    refine own_ireturn X0 C rfl own_d_prog_44_method_17_code_35 (by decide) (by decide) ?_
    subst ev1; exact ⟨by rw [own_slot, if_neg (by omega)], e0, rfl⟩
theorem own_pn_TokenModelFirstOfSlotPinLaw : plainName "com/example/frugal_frame/frugalframe/TokenModelFirstOfSlotPinLaw" = true := by first | (simp [plainName, overriddenIn]; done) | decide +kernel
theorem own_pd_I_R_Z : parseMethodDescriptor "(I)Z" = some ⟨[.int], some .boolean⟩ := by decide +kernel
set_option maxRecDepth 65536 in
set_option maxHeartbeats 4000000 in
theorem own_ef_own_rm_law (m : MethodId) (ia0 : Int32) : entryFrame m #[(.int ia0)] maxLocals = (mkF m 0 #[.val (.int ia0), .unset, .unset] []) := by first | (simp [entryFrame, mkF, argsToLocals, Value.category, maxLocals]; done) | rfl
set_option maxRecDepth 65536 in
set_option maxHeartbeats 4000000 in
theorem own_rm_law (l : Launch) (Z : State) (a0 : Array Value) (hw : ∀ d ∈ tables_1, d.before a0 Z = true) (ia0 : Int32) (h : Heap) (n0 : Nat) :
    OwnMet l Z x code maxLocals ret tables_1 room_1 #[(.int ia0)] h (fun v h' L => v = some (.int 1) ∧ Fr n0 L) := by
  refine own_enter (f0 := fun m => mkF m 0 #[.val (.int ia0), .unset, .unset] []) (plainFor_of_name own_pn_TokenModelFirstOfSlotPinLaw) (fun m => own_ef_own_rm_law m ia0) ?_
  intro p e s m below meth c T0 X0 C e0
  refine own_iload_n X0 C at_0 1 rfl rfl ?_
  refine own_ldc X0 C (own_w hw 0 rfl) at_1 3 rfl ?_
  refine own_iand X0 C at_3 4 rfl (fun v1 ev1 => ?_)
  refine own_bipush X0 C at_4 6 rfl (33) rfl ?_
  refine own_irem X0 C at_6 7 rfl (by decide) (fun v2 ev2 => ?_)
  have r1 := c_and ia0 2147483647 (by decide)
  rw [← ev1] at r1
  have r2 := (c_irem v1 33 33 (by decide)).1 r1.1
  rw [← ev2] at r2
  have r0 : 0 ≤ v2.toInt := by omega
  have r3 : v2.toInt < 33 := by omega
  obtain ⟨A1, A2, A3, A4⟩ := own_at v2 r0 r3
  refine own_istore_n X0 C at_7 8 rfl #[.val (.int ia0), .val (.int v2), .unset] rfl ?_
  refine own_iload_n X0 C at_8 9 rfl rfl ?_
  refine own_callP X0 C (own_w hw 1 rfl) (own_w hw 2 rfl) (own_w hw 3 rfl) (own_w hw 4 rfl) (by decide) (own_rm_firstOfSlot l Z a0 hw v2 h) e0 own_pd_I_R_I [(.int v2)] rfl rfl rfl rfl 0 rfl (by decide) (by decide) rfl rfl (by decide) (by decide) at_9 12 rfl (fun T1 X1 e1 => ?_)
  refine own_istore_n X1 C at_12 13 rfl #[.val (.int ia0), .val (.int v2), .val (.int (own_first v2))] rfl ?_
  refine own_iload_n X1 C at_13 14 rfl rfl ?_
  refine own_iconst X1 C at_14 15 rfl (1) rfl ?_
  refine own_icmpge X1 C at_15 18 20 rfl (by decide) (by decide) (i := (own_first v2).toInt) rfl (j := 1) (by decide) (fun b2 => ?_) (fun b2 => ?_)
  · refine own_iload_n X1 C at_20 21 rfl rfl ?_
    refine own_callP X1 C (own_w hw 5 rfl) (own_w hw 6 rfl) (own_w hw 3 rfl) (own_w hw 7 rfl) (by decide) (own_rm_slotOf l Z a0 hw (own_first v2) h) e1 own_pd_I_R_I [(.int (own_first v2))] rfl rfl rfl rfl 0 rfl (by decide) (by decide) rfl rfl (by decide) (by decide) at_21 24 rfl (fun T3 X3 e3 => ?_)
    refine own_iload_n X3 C at_24 25 rfl rfl ?_
    refine own_icmpeq X3 C at_25 28 30 rfl (by decide) (by decide) (i := (own_slot (own_first v2)).toInt) rfl (j := v2.toInt) rfl (fun b4 => ?_) (fun b4 => ?_)
    · refine own_iload_n X3 C at_30 31 rfl rfl ?_
      refine own_ifne X3 C at_31 34 45 rfl (by decide) (by decide) (i := v2.toInt) rfl (fun b5 => ?_) (fun b5 => ?_)
      · refine own_iload_n X3 C at_45 46 rfl rfl ?_
        refine own_iconst X3 C at_46 47 rfl (1) rfl ?_
        refine own_isub X3 C at_47 48 rfl (fun v3 ev3 => ?_)
        refine own_callP X3 C (own_w hw 5 rfl) (own_w hw 6 rfl) (own_w hw 3 rfl) (own_w hw 7 rfl) (by decide) (own_rm_slotOf l Z a0 hw v3 h) e3 own_pd_I_R_I [(.int v3)] rfl rfl rfl rfl 0 rfl (by decide) (by decide) rfl rfl (by decide) (by decide) at_48 51 rfl (fun T6 X6 e6 => ?_)
        refine own_iload_n X6 C at_51 52 rfl rfl ?_
        refine own_iconst X6 C at_52 53 rfl (1) rfl ?_
        refine own_isub X6 C at_53 54 rfl (fun v4 ev4 => ?_)
        refine own_icmpne X6 C at_54 57 61 rfl (by decide) (by decide) (i := (own_slot v3).toInt) rfl (j := v4.toInt) rfl (fun b7 => ?_) (fun b7 => ?_)
        · exfalso
          subst_vars; rw [A4 (by omega)] at b7; exact b7 rfl
        · refine own_iconst X6 C at_57 58 rfl (1) rfl ?_
          refine own_goto X6 C at_58 62 (by decide) (by decide) ?_
          refine own_iretN X6 C .boolean rfl (by simp) at_62 (by decide) (by decide) (1) (by decide) ?_
          exact ⟨rfl, Fr.nil _⟩
      · refine own_iload_n X3 C at_34 35 rfl rfl ?_
        refine own_iconst X3 C at_35 36 rfl (1) rfl ?_
        refine own_icmpne X3 C at_36 39 43 rfl (by decide) (by decide) (i := (own_first v2).toInt) rfl (j := 1) (by decide) (fun b8 => ?_) (fun b8 => ?_)
        · exfalso
          rw [A3 (by omega)] at b8; exact b8 (by decide)
        · refine own_iconst X3 C at_39 40 rfl (1) rfl ?_
          refine own_goto X3 C at_40 44 (by decide) (by decide) ?_
          refine own_iretN X3 C .boolean rfl (by simp) at_44 (by decide) (by decide) (1) (by decide) ?_
          exact ⟨rfl, Fr.nil _⟩
    · exfalso
      rw [A2] at b4; exact b4 rfl
  · exfalso
    omega
set_option maxRecDepth 65536 in
set_option maxHeartbeats 4000000 in
theorem own_comes_1 {Post : Tables → Env → Array Value → State → Outcome → State → Prop} (hpost : ∀ tb e args s v u, (limb_1_1.after args s (.returned v) u = true ∧ limb_1_2.after args s (.returned v) u = true ∧ True) → FrameEnd s (.returned v) u (Jvm.fieldLocs frame_1_writes args s ++ Jvm.arrayLocs frame_1_arrays args s ++ Jvm.staticLocs frame_1_statics s) 0 0 → Post tb e args s (.returned v) u) :
    ArmFor flags0 classFile x code maxLocals ret World_1 tables_1 room_1 Calls_1 rest_1 Pre_1 Post := by
  intro l hfl _ _ p e ha hc hk s m args below hf hA hF happ hP
  obtain ⟨hcalls, hrest, hpre⟩ := hP
  obtain ⟨-, -, -, hnamed, -, -, -, hat⟩ := (Spec.applies_iff hf).mp happ
  obtain ⟨hg, hn⟩ := and_e (Cond.before_iff.mp (show (Jvm.Cond.and given_1 narrow_1).before args s = true from hpre))
  obtain ⟨g0, g0r⟩ := and_e hg
  obtain ⟨w0, rfl⟩ : ∃ w0 : Value, args = #[w0] := by
    have hs : args.size = 1 := by simpa [Cond.value, given_1] using g0
    obtain ⟨L⟩ := args
    match L, hs with
    | [w0], _ => exact ⟨w0, rfl⟩
  have hw := fun d (hd : d ∈ tables_1) => atoms_spec (ws := Jvm.Cond.code x code maxLocals ret :: tables_1) hat d (List.mem_cons_of_mem _ hd)
  have hfit : Fit s := fun {y c} hc i hi => by
    obtain ⟨ha, rfl⟩ := Array.getElem?_eq_some_iff.mp hc
    have q := List.all_eq_true.mp ((Array.all_eq_true_iff_forall_mem.mp hF) _ (Array.getElem_mem ha)) i (List.mem_range.mpr hi)
    simpa [Array.getElem?_eq_getElem hi] using q
  obtain ⟨i0, q0⟩ := is_v g0r
  obtain rfl : w0 = (.int i0) := Option.some.inj q0
  obtain ⟨n, o, h1, h2, h3, _, L, rfl, ⟨rfl, N⟩, hq⟩ := own_rm_law l s _ hw i0 s.heap s.heap.size p e ha hc hk s m _ below hf ((Spec.applies_iff_loose hf).mp happ).1 ⟨rfl, State.Warmed39.refl s, rfl⟩ trivial
  refine ⟨n, _, h1, h2, h3, hpost _ _ _ _ _ _ ⟨Cond.after_iff.mpr rfl, Cond.after_iff.mpr (eq_i res_at (Term.int_eval (1)) rfl), trivial⟩ ⟨hq.1, hq.2.1, (hq.2.2.sift fun y hy => Or.inr (N y hy)).mono (by decide) (by decide)⟩⟩
theorem main_1_1 : Claimed_1_1 := own_comes_1 fun _ _ _ _ _ _ h hF => ⟨h.1, hF⟩
theorem main_1_2 : Claimed_1_2 := own_comes_1 fun _ _ _ _ _ _ h hF => ⟨h.2.1, hF⟩
end Jvm.Pilot.@@N@@
namespace Jvm.Pilot.@@N@@
open Jvm Jvm.ClassFile Sem Op Lib Jvm.Free Jvm.Stand Jvm.Pilot.@@N@@.Jvm.D
/-! MADE BY PROGRAM (witnessworld.py) out of the Statement's table words and the real class files: 14 classes; the members and pool entries that the words name. The judged class is class 1, her method 1. -/
namespace start1
open Jvm.ClassFile
def u (s : String) : CpInfo := .utf8 (stringToUtf16 s)
/-- a pool by its gaps: so many unusable entries, then the entry; so many at the end -/
def gap : Nat → List CpInfo → List CpInfo
  | 0, r => r
  | n + 1, r => .unusable :: gap n r
def poolList (es : List (Nat × CpInfo)) (last : Nat) : List CpInfo := es.foldr (fun e r => gap e.1 (e.2 :: r)) (gap last [])
def pool (es : List (Nat × CpInfo)) (last : Nat) : Array CpInfo := ⟨poolList es last⟩
def fileOf (pool : Array CpInfo) (this : Nat) (attrs : Array Attribute := #[]) (ms : Array MethodInfo := #[]) (fl : Nat := 33) (sup : Nat := 0) (ifs : Array Nat := #[]) (fds : Array FieldInfo := #[]) : ClassFile where
  minorVersion := 0
  majorVersion := 65
  constantPool := pool
  accessFlags := fl
  thisClass := this
  superClass := sup
  interfaces := ifs
  fields := fds
  methods := ms
  attributes := attrs
def plain (name : String) (sup : Option ClassId) : Class where
  name := name
  kind := .ordinary
  loader := none
  accessFlags := 33
  super := sup
  interfaces := #[]
  cf := none
  fields := #[]
  methods := #[]
  instanceTypes := #[]
  staticTypes := #[]
  resolved := #[]
  callSites := []
  init := .initialized
  statics := none
  mirror := none

def pool0 : Array CpInfo := pool [(5, u "<init>"), (0, u "()V"), (1, .class_ 10), (1, u "java/lang/Object")] 113

def k0m0 : Method := { name := "<init>", desc := "()V", sig := { parameters := [], returnType := none }, accessFlags := 1, code := none }
/-- java/lang/Object -/
def k0 : Class := { plain "java/lang/Object" none with
  accessFlags := 33
  interfaces := #[]
  cf := some (fileOf pool0 8 #[] #[{ accessFlags := 1, nameIndex := 5, descriptorIndex := 6, attributes := #[] }] 33 0 #[] #[])
  fields := #[]
  methods := #[k0m0]
  instanceTypes := #[]
  staticTypes := #[]
  resolved := Array.replicate 124 none
  statics := none }

def pool1 : Array CpInfo := pool [(2, .class_ 4), (1, u "java/lang/Object"), (0, u "<init>"), (0, u "()V"), (0, .integer 2147483647), (0, .class_ 9), (0, u "com/example/frugal_frame/frugalframe/TokenModel"), (0, .methodref 8 11), (0, .nameAndType 12 13), (0, u "firstOfSlot"), (0, u "(I)I"), (0, .methodref 8 15), (0, .nameAndType 16 13), (0, u "slotOf"), (0, .class_ 18), (0, u "com/example/frugal_frame/frugalframe/TokenModelFirstOfSlotPinLaw"), (2, u "law"), (0, u "(I)Z")] 3

def k1m0 : Method := { name := "<init>", desc := "()V", sig := { parameters := [], returnType := none }, accessFlags := 1, code := none }
def k1c1 : Code := { maxStack := 3, maxLocals := 3, code := code, exceptionTable := #[], attributes := #[] }
def k1m1 : Method := { name := "law", desc := "(I)Z", sig := { parameters := [.int], returnType := some .boolean }, accessFlags := 9, code := some k1c1 }
/-- com/example/frugal_frame/frugalframe/TokenModelFirstOfSlotPinLaw -/
def k1 : Class := { plain "com/example/frugal_frame/frugalframe/TokenModelFirstOfSlotPinLaw" (some 0) with
  accessFlags := 49
  interfaces := #[]
  cf := some (fileOf pool1 17 #[] #[{ accessFlags := 1, nameIndex := 5, descriptorIndex := 6, attributes := #[] }, { accessFlags := 9, nameIndex := 21, descriptorIndex := 22, attributes := #[] }] 49 2 #[] #[])
  fields := #[]
  methods := #[k1m0, k1m1]
  instanceTypes := #[]
  staticTypes := #[]
  resolved := Array.replicate 26 none
  statics := none }

def pool2 : Array CpInfo := pool [(1, .class_ 2), (0, u "com/example/frugal_frame/frugalframe/TokenModel"), (1, .class_ 6), (1, u "java/lang/Object"), (0, u "<init>"), (0, u "()V"), (2, u "probabilities"), (0, u "[I"), (11, u "distances"), (7, u "state"), (0, u "I"), (5, u "literalsToCopy"), (2, u "literalSource"), (0, u "Lcom/example/frugal_frame/frugalframe/TokenModel;"), (49, .class_ 94), (0, u "java/lang/Integer"), (0, .methodref 93 96), (0, .nameAndType 97 98), (0, u "numberOfLeadingZeros"), (0, u "(I)I"), (13, u "slotOf"), (14, u "NOTHING_BEFORE"), (0, u "[B"), (0, u "LITERAL"), (2, u "MATCH"), (1, u "SHORT_REPEAT"), (1, u "REPEAT"), (1, u "TYPES"), (1, u "MIN_LENGTH"), (0, u "MAX_LENGTH"), (1, u "DISTANCES"), (1, u "STATES"), (1, u "MAX_SLOT"), (1, u "NO_DISTANCE"), (0, u "SIZE_BITS"), (1, u "LITERAL_CONTEXT_BITS"), (0, u "LATEST_KIND"), (0, u "LENGTH_CONTEXTS"), (0, u "LITERAL_SIZE"), (1, u "LITERAL_CONTEXTS"), (1, u "LENGTH_CHOICES"), (0, u "SHORT_LENGTHS"), (0, u "LENGTH_SIZE"), (1, u "SLOT_BITS"), (1, u "FIRST_TREE_SLOT"), (0, u "FIRST_ALIGNED_SLOT"), (1, u "ALIGN_BITS"), (0, u "IS_MATCH"), (0, u "IS_REPEAT"), (0, u "IS_FIRST"), (0, u "IS_LONG"), (1, u "IS_SECOND"), (1, u "IS_THIRD"), (1, u "LITERALS"), (1, u "MATCH_LENGTHS"), (1, u "REPEAT_LENGTHS"), (1, u "SLOTS"), (1, u "SLOT_TREES"), (1, u "SLOT_TREE_SIZE"), (0, u "ALIGN"), (1, u "PROBABILITIES"), (14, u "firstOfSlot")] 3

def k2m0 : Method := { name := "<init>", desc := "()V", sig := { parameters := [], returnType := none }, accessFlags := 0, code := none }
def k2c1 : Code := { maxStack := 3, maxLocals := 2, code := prog_44_method_16_code, exceptionTable := #[], attributes := #[] }
def k2m1 : Method := { name := "firstOfSlot", desc := "(I)I", sig := { parameters := [.int], returnType := some .int }, accessFlags := 8, code := some k2c1 }
def k2c2 : Code := { maxStack := 4, maxLocals := 4, code := prog_44_method_17_code, exceptionTable := #[], attributes := #[] }
def k2m2 : Method := { name := "slotOf", desc := "(I)I", sig := { parameters := [.int], returnType := some .int }, accessFlags := 8, code := some k2c2 }
/-- com/example/frugal_frame/frugalframe/TokenModel -/
def k2 : Class := { plain "com/example/frugal_frame/frugalframe/TokenModel" (some 0) with
  accessFlags := 48
  interfaces := #[]
  cf := some (fileOf pool2 1 #[] #[{ accessFlags := 0, nameIndex := 7, descriptorIndex := 8, attributes := #[] }, { accessFlags := 8, nameIndex := 206, descriptorIndex := 98, attributes := #[] }, { accessFlags := 8, nameIndex := 112, descriptorIndex := 98, attributes := #[] }] 48 4 #[] #[{ accessFlags := 24, nameIndex := 129, descriptorIndex := 33, attributes := #[] }, { accessFlags := 24, nameIndex := 132, descriptorIndex := 33, attributes := #[] }, { accessFlags := 24, nameIndex := 134, descriptorIndex := 33, attributes := #[] }, { accessFlags := 24, nameIndex := 136, descriptorIndex := 33, attributes := #[] }, { accessFlags := 24, nameIndex := 138, descriptorIndex := 33, attributes := #[] }, { accessFlags := 24, nameIndex := 140, descriptorIndex := 33, attributes := #[] }, { accessFlags := 24, nameIndex := 141, descriptorIndex := 33, attributes := #[] }, { accessFlags := 24, nameIndex := 143, descriptorIndex := 33, attributes := #[] }, { accessFlags := 24, nameIndex := 145, descriptorIndex := 33, attributes := #[] }, { accessFlags := 24, nameIndex := 147, descriptorIndex := 33, attributes := #[] }, { accessFlags := 24, nameIndex := 149, descriptorIndex := 33, attributes := #[] }, { accessFlags := 24, nameIndex := 127, descriptorIndex := 128, attributes := #[] }, { accessFlags := 26, nameIndex := 150, descriptorIndex := 33, attributes := #[] }, { accessFlags := 24, nameIndex := 152, descriptorIndex := 33, attributes := #[] }, { accessFlags := 24, nameIndex := 153, descriptorIndex := 33, attributes := #[] }, { accessFlags := 24, nameIndex := 154, descriptorIndex := 33, attributes := #[] }, { accessFlags := 26, nameIndex := 155, descriptorIndex := 33, attributes := #[] }, { accessFlags := 26, nameIndex := 157, descriptorIndex := 33, attributes := #[] }, { accessFlags := 26, nameIndex := 159, descriptorIndex := 33, attributes := #[] }, { accessFlags := 26, nameIndex := 160, descriptorIndex := 33, attributes := #[] }, { accessFlags := 26, nameIndex := 161, descriptorIndex := 33, attributes := #[] }, { accessFlags := 26, nameIndex := 163, descriptorIndex := 33, attributes := #[] }, { accessFlags := 26, nameIndex := 165, descriptorIndex := 33, attributes := #[] }, { accessFlags := 26, nameIndex := 166, descriptorIndex := 33, attributes := #[] }, { accessFlags := 26, nameIndex := 168, descriptorIndex := 33, attributes := #[] }, { accessFlags := 26, nameIndex := 169, descriptorIndex := 33, attributes := #[] }, { accessFlags := 26, nameIndex := 170, descriptorIndex := 33, attributes := #[] }, { accessFlags := 26, nameIndex := 171, descriptorIndex := 33, attributes := #[] }, { accessFlags := 26, nameIndex := 172, descriptorIndex := 33, attributes := #[] }, { accessFlags := 26, nameIndex := 174, descriptorIndex := 33, attributes := #[] }, { accessFlags := 26, nameIndex := 176, descriptorIndex := 33, attributes := #[] }, { accessFlags := 26, nameIndex := 178, descriptorIndex := 33, attributes := #[] }, { accessFlags := 26, nameIndex := 180, descriptorIndex := 33, attributes := #[] }, { accessFlags := 26, nameIndex := 182, descriptorIndex := 33, attributes := #[] }, { accessFlags := 26, nameIndex := 184, descriptorIndex := 33, attributes := #[] }, { accessFlags := 26, nameIndex := 186, descriptorIndex := 33, attributes := #[] }, { accessFlags := 26, nameIndex := 188, descriptorIndex := 33, attributes := #[] }, { accessFlags := 26, nameIndex := 189, descriptorIndex := 33, attributes := #[] }, { accessFlags := 26, nameIndex := 191, descriptorIndex := 33, attributes := #[] }, { accessFlags := 18, nameIndex := 11, descriptorIndex := 12, attributes := #[] }, { accessFlags := 18, nameIndex := 24, descriptorIndex := 12, attributes := #[] }, { accessFlags := 2, nameIndex := 32, descriptorIndex := 33, attributes := #[] }, { accessFlags := 2, nameIndex := 42, descriptorIndex := 43, attributes := #[] }, { accessFlags := 2, nameIndex := 39, descriptorIndex := 33, attributes := #[] }])
  fields := #[{ name := "LITERAL", type := .int, accessFlags := 24, slot := 0, constantValue := 0 }, { name := "MATCH", type := .int, accessFlags := 24, slot := 1, constantValue := 0 }, { name := "SHORT_REPEAT", type := .int, accessFlags := 24, slot := 2, constantValue := 0 }, { name := "REPEAT", type := .int, accessFlags := 24, slot := 3, constantValue := 0 }, { name := "TYPES", type := .int, accessFlags := 24, slot := 4, constantValue := 0 }, { name := "MIN_LENGTH", type := .int, accessFlags := 24, slot := 5, constantValue := 0 }, { name := "MAX_LENGTH", type := .int, accessFlags := 24, slot := 6, constantValue := 0 }, { name := "DISTANCES", type := .int, accessFlags := 24, slot := 7, constantValue := 0 }, { name := "STATES", type := .int, accessFlags := 24, slot := 8, constantValue := 0 }, { name := "MAX_SLOT", type := .int, accessFlags := 24, slot := 9, constantValue := 0 }, { name := "NO_DISTANCE", type := .int, accessFlags := 24, slot := 10, constantValue := 0 }, { name := "NOTHING_BEFORE", type := (.array .byte), accessFlags := 24, slot := 11, constantValue := 0 }, { name := "SIZE_BITS", type := .int, accessFlags := 26, slot := 12, constantValue := 0 }, { name := "LITERAL_CONTEXT_BITS", type := .int, accessFlags := 24, slot := 13, constantValue := 0 }, { name := "LATEST_KIND", type := .int, accessFlags := 24, slot := 14, constantValue := 0 }, { name := "LENGTH_CONTEXTS", type := .int, accessFlags := 24, slot := 15, constantValue := 0 }, { name := "LITERAL_SIZE", type := .int, accessFlags := 26, slot := 16, constantValue := 0 }, { name := "LITERAL_CONTEXTS", type := .int, accessFlags := 26, slot := 17, constantValue := 0 }, { name := "LENGTH_CHOICES", type := .int, accessFlags := 26, slot := 18, constantValue := 0 }, { name := "SHORT_LENGTHS", type := .int, accessFlags := 26, slot := 19, constantValue := 0 }, { name := "LENGTH_SIZE", type := .int, accessFlags := 26, slot := 20, constantValue := 0 }, { name := "SLOT_BITS", type := .int, accessFlags := 26, slot := 21, constantValue := 0 }, { name := "FIRST_TREE_SLOT", type := .int, accessFlags := 26, slot := 22, constantValue := 0 }, { name := "FIRST_ALIGNED_SLOT", type := .int, accessFlags := 26, slot := 23, constantValue := 0 }, { name := "ALIGN_BITS", type := .int, accessFlags := 26, slot := 24, constantValue := 0 }, { name := "IS_MATCH", type := .int, accessFlags := 26, slot := 25, constantValue := 0 }, { name := "IS_REPEAT", type := .int, accessFlags := 26, slot := 26, constantValue := 0 }, { name := "IS_FIRST", type := .int, accessFlags := 26, slot := 27, constantValue := 0 }, { name := "IS_LONG", type := .int, accessFlags := 26, slot := 28, constantValue := 0 }, { name := "IS_SECOND", type := .int, accessFlags := 26, slot := 29, constantValue := 0 }, { name := "IS_THIRD", type := .int, accessFlags := 26, slot := 30, constantValue := 0 }, { name := "LITERALS", type := .int, accessFlags := 26, slot := 31, constantValue := 0 }, { name := "MATCH_LENGTHS", type := .int, accessFlags := 26, slot := 32, constantValue := 0 }, { name := "REPEAT_LENGTHS", type := .int, accessFlags := 26, slot := 33, constantValue := 0 }, { name := "SLOTS", type := .int, accessFlags := 26, slot := 34, constantValue := 0 }, { name := "SLOT_TREES", type := .int, accessFlags := 26, slot := 35, constantValue := 0 }, { name := "SLOT_TREE_SIZE", type := .int, accessFlags := 26, slot := 36, constantValue := 0 }, { name := "ALIGN", type := .int, accessFlags := 26, slot := 37, constantValue := 0 }, { name := "PROBABILITIES", type := .int, accessFlags := 26, slot := 38, constantValue := 0 }, { name := "probabilities", type := (.array .int), accessFlags := 18, slot := 0, constantValue := 0 }, { name := "distances", type := (.array .int), accessFlags := 18, slot := 1, constantValue := 0 }, { name := "state", type := .int, accessFlags := 2, slot := 2, constantValue := 0 }, { name := "literalSource", type := (.object "com/example/frugal_frame/frugalframe/TokenModel"), accessFlags := 2, slot := 3, constantValue := 0 }, { name := "literalsToCopy", type := .int, accessFlags := 2, slot := 4, constantValue := 0 }]
  methods := #[k2m0, k2m1, k2m2]
  instanceTypes := #[(.array .int), (.array .int), .int, (.object "com/example/frugal_frame/frugalframe/TokenModel"), .int]
  staticTypes := #[.int, .int, .int, .int, .int, .int, .int, .int, .int, .int, .int, (.array .byte), .int, .int, .int, .int, .int, .int, .int, .int, .int, .int, .int, .int, .int, .int, .int, .int, .int, .int, .int, .int, .int, .int, .int, .int, .int, .int, .int]
  resolved := Array.replicate 210 none
  statics := none }

def pool3 : Array CpInfo := pool [(1, .class_ 2), (0, u "java/io/Serializable"), (0, .class_ 4), (0, u "java/lang/Object")] 2

/-- java/io/Serializable -/
def k3 : Class := { plain "java/io/Serializable" (some 0) with
  accessFlags := 1537
  interfaces := #[]
  cf := some (fileOf pool3 1 #[] #[] 1537 3 #[] #[])
  fields := #[]
  methods := #[]
  instanceTypes := #[]
  staticTypes := #[]
  resolved := Array.replicate 7 none
  statics := none }

def pool4 : Array CpInfo := pool [(2, .class_ 4), (1, u "java/lang/Object"), (0, u "<init>"), (0, u "()V"), (1, .class_ 10), (1, u "java/lang/Number"), (2, .class_ 14), (0, u "java/io/Serializable"), (0, u "serialVersionUID"), (0, u "J")] 20

def k4m0 : Method := { name := "<init>", desc := "()V", sig := { parameters := [], returnType := none }, accessFlags := 1, code := none }
/-- java/lang/Number -/
def k4 : Class := { plain "java/lang/Number" (some 0) with
  accessFlags := 1057
  interfaces := #[3]
  cf := some (fileOf pool4 8 #[] #[{ accessFlags := 1, nameIndex := 5, descriptorIndex := 6, attributes := #[] }] 1057 2 #[13] #[{ accessFlags := 26, nameIndex := 15, descriptorIndex := 16, attributes := #[] }])
  fields := #[{ name := "serialVersionUID", type := .long, accessFlags := 26, slot := 0, constantValue := 0 }]
  methods := #[k4m0]
  instanceTypes := #[]
  staticTypes := #[.long]
  resolved := Array.replicate 37 none
  statics := none }

def pool5 : Array CpInfo := pool [(1, .class_ 2), (0, u "java/lang/Comparable"), (0, .class_ 4), (0, u "java/lang/Object")] 7

/-- java/lang/Comparable -/
def k5 : Class := { plain "java/lang/Comparable" (some 0) with
  accessFlags := 1537
  interfaces := #[]
  cf := some (fileOf pool5 1 #[] #[] 1537 3 #[] #[])
  fields := #[]
  methods := #[]
  instanceTypes := #[]
  staticTypes := #[]
  resolved := Array.replicate 12 none
  statics := none }

def pool6 : Array CpInfo := pool [(1, .class_ 2), (0, u "java/lang/constant/Constable"), (0, .class_ 4), (0, u "java/lang/Object")] 6

/-- java/lang/constant/Constable -/
def k6 : Class := { plain "java/lang/constant/Constable" (some 0) with
  accessFlags := 1537
  interfaces := #[]
  cf := some (fileOf pool6 1 #[] #[] 1537 3 #[] #[])
  fields := #[]
  methods := #[]
  instanceTypes := #[]
  staticTypes := #[]
  resolved := Array.replicate 11 none
  statics := none }

def pool7 : Array CpInfo := pool [(1, .class_ 2), (0, u "java/lang/constant/ConstantDesc"), (0, .class_ 4), (0, u "java/lang/Object")] 32

/-- java/lang/constant/ConstantDesc -/
def k7 : Class := { plain "java/lang/constant/ConstantDesc" (some 0) with
  accessFlags := 1537
  interfaces := #[]
  cf := some (fileOf pool7 1 #[] #[] 1537 3 #[] #[])
  fields := #[]
  methods := #[]
  instanceTypes := #[]
  staticTypes := #[]
  resolved := Array.replicate 37 none
  statics := none }

def pool8 : Array CpInfo := pool [(1, .class_ 2), (0, u "java/lang/Integer"), (16, u "digits"), (0, u "[C"), (32, u "numberOfLeadingZeros"), (0, u "(I)I"), (30, u "DigitOnes"), (0, u "[B"), (2, u "DigitTens"), (99, .class_ 190), (0, u "java/lang/Integer$IntegerCache"), (3, u "I"), (8, .class_ 204), (0, u "java/lang/Number"), (2, u "value"), (56, .integer 65536), (37, u "TYPE"), (0, u "Ljava/lang/Class;"), (0, .class_ 305), (0, u "java/lang/Comparable"), (0, .class_ 307), (0, u "java/lang/constant/Constable"), (0, .class_ 309), (0, u "java/lang/constant/ConstantDesc"), (0, u "MIN_VALUE"), (1, u "MAX_VALUE"), (3, u "SIZE"), (1, u "BYTES"), (1, u "serialVersionUID"), (0, u "J")] 131

def k8c0 : Code := { maxStack := 3, maxLocals := 2, code := jdk_33_method_47_code, exceptionTable := #[], attributes := #[] }
def k8m0 : Method := { name := "numberOfLeadingZeros", desc := "(I)I", sig := { parameters := [.int], returnType := some .int }, accessFlags := 9, code := some k8c0 }
/-- java/lang/Integer -/
def k8 : Class := { plain "java/lang/Integer" (some 4) with
  accessFlags := 49
  interfaces := #[5, 6, 7]
  cf := some (fileOf pool8 1 #[.nestMembers #[189]] #[{ accessFlags := 9, nameIndex := 53, descriptorIndex := 54, attributes := #[] }] 49 203 #[304, 306, 308] #[{ accessFlags := 25, nameIndex := 310, descriptorIndex := 194, attributes := #[] }, { accessFlags := 25, nameIndex := 312, descriptorIndex := 194, attributes := #[] }, { accessFlags := 25, nameIndex := 302, descriptorIndex := 303, attributes := #[] }, { accessFlags := 24, nameIndex := 19, descriptorIndex := 20, attributes := #[] }, { accessFlags := 24, nameIndex := 89, descriptorIndex := 86, attributes := #[] }, { accessFlags := 24, nameIndex := 85, descriptorIndex := 86, attributes := #[] }, { accessFlags := 18, nameIndex := 207, descriptorIndex := 194, attributes := #[] }, { accessFlags := 25, nameIndex := 316, descriptorIndex := 194, attributes := #[] }, { accessFlags := 25, nameIndex := 318, descriptorIndex := 194, attributes := #[] }, { accessFlags := 26, nameIndex := 320, descriptorIndex := 321, attributes := #[] }])
  fields := #[{ name := "MIN_VALUE", type := .int, accessFlags := 25, slot := 0, constantValue := 0 }, { name := "MAX_VALUE", type := .int, accessFlags := 25, slot := 1, constantValue := 0 }, { name := "TYPE", type := (.object "java/lang/Class"), accessFlags := 25, slot := 2, constantValue := 0 }, { name := "digits", type := (.array .char), accessFlags := 24, slot := 3, constantValue := 0 }, { name := "DigitTens", type := (.array .byte), accessFlags := 24, slot := 4, constantValue := 0 }, { name := "DigitOnes", type := (.array .byte), accessFlags := 24, slot := 5, constantValue := 0 }, { name := "value", type := .int, accessFlags := 18, slot := 0, constantValue := 0 }, { name := "SIZE", type := .int, accessFlags := 25, slot := 6, constantValue := 0 }, { name := "BYTES", type := .int, accessFlags := 25, slot := 7, constantValue := 0 }, { name := "serialVersionUID", type := .long, accessFlags := 26, slot := 8, constantValue := 0 }]
  methods := #[k8m0]
  instanceTypes := #[.int]
  staticTypes := #[.int, .int, (.object "java/lang/Class"), (.array .char), (.array .byte), (.array .byte), .int, .int, .long]
  resolved := Array.replicate 453 none
  statics := none }

def pool9 : Array CpInfo := pool [(1, u "java/lang/Cloneable"), (0, .class_ 1), (0, u "java/lang/Object"), (0, .class_ 3)] 3

/-- java/lang/Cloneable -/
def k9 : Class := { plain "java/lang/Cloneable" (some 0) with
  accessFlags := 1537
  interfaces := #[]
  cf := some (fileOf pool9 2 #[] #[] 1537 4 #[] #[])
  fields := #[]
  methods := #[]
  instanceTypes := #[]
  staticTypes := #[]
  resolved := Array.replicate 8 none
  statics := none }

/-- the primitive byte -/
def k10 : Class := { plain "byte" none with kind := .primitive 'B', accessFlags := 0x411 }
/-- [B -/
def k11 : Class := { plain "[B" (some 0) with kind := .array 10 .byte, interfaces := #[9, 3], accessFlags := 1041 }

/-- the primitive int -/
def k12 : Class := { plain "int" none with kind := .primitive 'I', accessFlags := 0x411 }
/-- [I -/
def k13 : Class := { plain "[I" (some 0) with kind := .array 12 .int, interfaces := #[9, 3], accessFlags := 1041 }

def heap : Heap := #[]
def classes : Array Class := #[k0, k1, k2, k3, k4, k5, k6, k7, k8, k9, k10, k11, k12, k13]
def interned : List (Array UInt16 × Addr) := []
def slotsUsed : Nat := 0
def theMethod : MethodId := ⟨1, 1⟩
def args0 : Array Value := #[.int 9]
def aboutOver (below : List Frame) : State where
  vm := { classes := classes, interned := interned.toArray }
  heap := heap
  slotsUsed := slotsUsed
  threads := #[{ frames := .invoking theMethod args0 :: below }]
def below0 : List Frame := [.native { method := ⟨0, 0⟩, args := #[] }]
def about1 : State := aboutOver below0
def p0 : Program := .bare "" "" ""
def e0 : Env := launch0.env 0 0 0
theorem w_frames : about1.frames = Frame.invoking theMethod args0 :: below0 := rfl
set_option maxRecDepth 65536 in
theorem w_args : argsFit about1.vm theMethod args0 = true := by decide +kernel
set_option maxRecDepth 65536 in
theorem w_heap : heapFits about1 = true := by decide +kernel
set_option maxRecDepth 65536 in
theorem w_runnable : about1.curStatus? = some .runnable := by decide +kernel
set_option maxRecDepth 65536 in
theorem w_alone : about1.alone = true := by decide +kernel
set_option maxRecDepth 65536 in
theorem w_named : about1.methodNamed? x = some theMethod := by decide +kernel
set_option maxRecDepth 65536 in
theorem w_hears : about1.hears theMethod below0 = true := by decide +kernel
set_option maxRecDepth 65536 in
theorem w_ripe : about1.ripe theMethod args0 below0 = true := by decide +kernel
theorem w_running : about1.status = .running := rfl
set_option maxRecDepth 65536 in
theorem w_room : about1.hasRoom e0.platform room_1 = true :=
  launch0.hasRoom_least _ room_1 (by decide +kernel) (by decide +kernel) (by decide +kernel) (by decide +kernel) (by decide +kernel) (by decide +kernel)
theorem allAtoms_all (ts : List Jvm.Cond) (a : Array Jvm.Value) (st : Jvm.State) : (allAtoms ts).before a st = ts.all (fun c => c.before a st) := by
  induction ts with
  | nil => rfl
  | cons c t ih =>
    show (Jvm.Cond.and c (allAtoms t)).before a st = _
    rw [Jvm.Cond.before_and, ih, List.all_cons]
def words1 : List Jvm.Cond := Jvm.Cond.code x code maxLocals ret :: tables_1
/-- a 'code' word, met by the world's own term for the bytes: nothing is compared byte by byte -/
theorem code_word {y : MethodName} {bytes : ByteArray} {mx : Nat} {rt : Option FieldType} {a : Array Value} {s : State} {m : MethodId} {meth : Method} {c : Code} (h1 : s.methodNamed? y = some m) (h2 : s.vm.method? m = some meth) (h3 : meth.code = some c) (h4 : c.code = bytes)
    (h5 : (c.maxLocals == mx && c.exceptionTable.isEmpty && decide (c.maxStack ≤ mostOperands) && decide (meth.sig.returnType = rt) && !meth.locks && decide (parseMethodDescriptor y.desc = some meth.sig)) = true) : (Jvm.Cond.code y bytes mx rt).before a s = true := by
  simp only [Bool.and_eq_true, beq_iff_eq, Bool.not_eq_true', decide_eq_true_eq] at h5
  obtain ⟨⟨⟨⟨⟨g1, g2⟩, g3⟩, g4⟩, g5⟩, g6⟩ := h5
  simp [Cond.before, Cond.holds, Cond.value, h1, h2, h3, h4, g1, g2, g3, g4, g5, g6]
def isCode : Jvm.Cond → Bool
  | .code _ _ _ _ => true
  | _ => false
theorem all_split {L : List Jvm.Cond} {P : Jvm.Cond → Bool} (h1 : L.all (fun c => isCode c || P c) = true) (h2 : ∀ c ∈ L.filter isCode, P c = true) : L.all P = true := by
  refine List.all_eq_true.mpr fun c hc => ?_
  have h := List.all_eq_true.mp h1 c hc
  rcases Bool.eq_false_or_eq_true (isCode c) with hi | hi
  · exact h2 c (List.mem_filter.mpr ⟨hc, hi⟩)
  · simpa [hi] using h
set_option maxRecDepth 65536 in
theorem w_c0 : (Jvm.Cond.code x code maxLocals ret).before args0 about1 = true := code_word (m := ⟨1, 1⟩) (meth := k1m1) (c := k1c1) (by decide +kernel) rfl rfl rfl (by decide +kernel)
set_option maxRecDepth 65536 in
theorem w_c1 : (Jvm.Cond.code ({ cls := "com/example/frugal_frame/frugalframe/TokenModel", name := "firstOfSlot", desc := "(I)I" } : Jvm.MethodName) prog_44_method_16_code (2 : Nat) (Option.some Jvm.ClassFile.FieldType.int)).before args0 about1 = true := code_word (m := ⟨2, 1⟩) (meth := k2m1) (c := k2c1) (by decide +kernel) rfl rfl rfl (by decide +kernel)
set_option maxRecDepth 65536 in
theorem w_c2 : (Jvm.Cond.code ({ cls := "com/example/frugal_frame/frugalframe/TokenModel", name := "slotOf", desc := "(I)I" } : Jvm.MethodName) prog_44_method_17_code (4 : Nat) (Option.some Jvm.ClassFile.FieldType.int)).before args0 about1 = true := code_word (m := ⟨2, 2⟩) (meth := k2m2) (c := k2c2) (by decide +kernel) rfl rfl rfl (by decide +kernel)
set_option maxRecDepth 65536 in
theorem w_c3 : (Jvm.Cond.code ({ cls := "java/lang/Integer", name := "numberOfLeadingZeros", desc := "(I)I" } : Jvm.MethodName) jdk_33_method_47_code (2 : Nat) (Option.some Jvm.ClassFile.FieldType.int)).before args0 about1 = true := code_word (m := ⟨8, 0⟩) (meth := k8m0) (c := k8c0) (by decide +kernel) rfl rfl rfl (by decide +kernel)
def codes1 : List Jvm.Cond := [Jvm.Cond.code x code maxLocals ret, Jvm.Cond.code ({ cls := "com/example/frugal_frame/frugalframe/TokenModel", name := "firstOfSlot", desc := "(I)I" } : Jvm.MethodName) prog_44_method_16_code (2 : Nat) (Option.some Jvm.ClassFile.FieldType.int), Jvm.Cond.code ({ cls := "com/example/frugal_frame/frugalframe/TokenModel", name := "slotOf", desc := "(I)I" } : Jvm.MethodName) prog_44_method_17_code (4 : Nat) (Option.some Jvm.ClassFile.FieldType.int), Jvm.Cond.code ({ cls := "java/lang/Integer", name := "numberOfLeadingZeros", desc := "(I)I" } : Jvm.MethodName) jdk_33_method_47_code (2 : Nat) (Option.some Jvm.ClassFile.FieldType.int)]
set_option maxRecDepth 65536 in
theorem codes_eq : words1.filter isCode = codes1 := rfl
theorem w_codes : ∀ c ∈ words1.filter isCode, c.before args0 about1 = true := by
  rw [codes_eq]
  intro c hc
  simp only [codes1, List.mem_cons, List.not_mem_nil, or_false] at hc
  rcases hc with rfl | rfl | rfl | rfl
  · exact w_c0
  · exact w_c1
  · exact w_c2
  · exact w_c3
set_option maxRecDepth 65536 in
theorem w_t1 : words1.all (fun c => isCode c || c.before args0 about1) = true := by decide +kernel
theorem w_tables : (allAtoms (Jvm.Cond.code x code maxLocals ret :: tables_1)).before args0 about1 = true := by
  rw [allAtoms_all]
  show words1.all (fun c => c.before args0 about1) = true
  refine all_split ?_ w_codes
  rw [w_t1]
set_option maxRecDepth 65536 in
theorem w_case : (Jvm.Cond.and given_1 narrow_1).before args0 about1 = true := by decide +kernel
theorem w_applies : (headSpec (Jvm.Cond.code x code maxLocals ret :: tables_1) room_1).applies x e0.platform about1 = true :=
  (Spec.applies_iff w_frames).mpr ⟨w_running, w_runnable, w_alone, w_named, w_hears, w_ripe, w_room, w_tables⟩
theorem atStart : AtStart classFile x code maxLocals ret World_1 tables_1 room_1 Calls_1 rest_1 Pre_1 launch0 p0 e0 about1 theMethod args0 below0 :=
  ⟨lists_1, trivial, launch0.admits_env _ _ _, launch0.least_env, fairChoices_fair.cas, fairChoices_fair.clock, w_frames, w_args, w_heap, w_applies, trivial, trivial, w_case⟩
end start1
theorem witness_1 : WitnessClaimed_1 := ⟨start1.p0, start1.e0, start1.about1, start1.theMethod, start1.args0, start1.below0, start1.atStart⟩
end Jvm.Pilot.@@N@@
